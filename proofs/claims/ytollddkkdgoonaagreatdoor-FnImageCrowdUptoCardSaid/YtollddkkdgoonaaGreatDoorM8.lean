/- A part of a proof over images that are written and read. No condition; a step. -/
import Derived.Test.YtollddkkdgoonaaGreatDoorM7
namespace Go.Proofs.YtollddkkdgoonaaGreatDoor
open Go
set_option linter.unusedVariables false
set_option linter.unusedSimpArgs false
section
variable {h:H} {k:Value→Prop} {kt Q:Kt} {x y r:Res}
theorem On {v:Value}{bs:Bs}{n:Nat}(b:BufV v bs r)(w:AN (r+x) h)(hl:bs.length+2≤140737488355328)(K:∀ v r h,BufV v (bs++Aq n) r→AN (r+x) h→Q v h):AD8 v (.int .u16 n) h Q:=by
 unfold AD8
 simp only[go_sem]
 refine CZ (l:=Aq n) w (by decide) ?_ rfl fun b1 h w=>?_
 ·simp only[MZ];rfl
 ·rw[Res.left_comm] at w
  exact BU b w (Px w rfl) (by simpa[Aq] using hl) fun v r h b w=>K v r h b (by rw[Res.left_comm] at w;exact w.right)
theorem BI (n:Nat):(Aq n).length=2:=rfl
theorem Av (n:Nat):(Ac n).length=4:=rfl
def K4 (magic entries most depth gen:Nat):Bs:=Aq magic++Aq entries++Aq most++Aq depth++Ac gen
theorem AHL {a b c d e:Nat}(w:AN x h)(K:∀ v r h,BufV v (K4 a b c d e) r→AN (r+x) h→Q v h):AC3 (.agg ⟨[.int .u16 a,.int .u16 b,.int .u16 c,.int .u16 d,.int .u32 e]⟩) h Q:=by
 unfold AC3
 refine BJ w fun pb h w=>?_
 simp only[go_sem,AF w]
 refine Ek _ _ _ _ (On (bs:=[]) .nil (w.cast (Res.zero_add _).symm) (by simp) fun v r h bv w=>?_)
 rw[AF w]
 simp only[go_sem]
 refine Ek _ _ _ _ (On bv w (by simp[BI]) fun v r h bv w=>?_)
 rw[AF w]
 simp only[go_sem]
 refine Ek _ _ _ _ (On bv w (by simp[BI]) fun v r h bv w=>?_)
 rw[AF w]
 simp only[go_sem]
 refine Ek _ _ _ _ (On bv w (by simp[BI]) fun v r h bv w=>?_)
 rw[AF w]
 simp only[go_sem]
 refine Eo _ _ _ _ (OU bv w (by simp[BI]) fun v r h bv w=>?_)
 exact K v r h bv (AN.right (x:=pts pb _) (w.cast (Res.left_comm _ _ _)))
def Do (block len hi lo:Nat):Bs:=Ac block++Aq len++Aq hi++Ac lo
theorem AHN {a b c d:Nat}(w:AN x h)(K:∀ v r h,BufV v (Do a b c d) r→AN (r+x) h→Q v h):ADT (.agg ⟨[.int .u32 a,.int .u16 b,.int .u16 c,.int .u32 d]⟩) h Q:=by
 unfold ADT
 refine BJ w fun pb h w=>?_
 simp only[go_sem,AF w]
 refine Eo _ _ _ _ (OU (bs:=[]) .nil (w.cast (Res.zero_add _).symm) (by simp) fun v r h bv w=>?_)
 rw[AF w]
 simp only[go_sem]
 refine Ek _ _ _ _ (On bv w (by simp[Av]) fun v r h bv w=>?_)
 rw[AF w]
 simp only[go_sem]
 refine Ek _ _ _ _ (On bv w (by simp[BI,Av]) fun v r h bv w=>?_)
 rw[AF w]
 simp only[go_sem]
 refine Eo _ _ _ _ (OU bv w (by simp[BI,Av]) fun v r h bv w=>?_)
 exact K v r h bv (AN.right (x:=pts pb _) (w.cast (Res.left_comm _ _ _)))
end
section
variable {h:H} {k:Value→Prop} {kt Q:Kt} {x y r:Res}
theorem Zs:AG TP 325=some (.agg ⟨[.int .u16 0,.int .u16 0,.int .u16 0,.int .u16 0,.int .u32 0]⟩):=by kernel_rfl
theorem SB:AG TP 327=some (.agg ⟨[.int .u32 0,.int .u16 0,.int .u16 0,.int .u32 0]⟩):=by kernel_rfl
@[go_sem] theorem AId {a:Option Addr}{n c:Nat}:Sp (.slice a n c) k=k (.int .i64 c):=propext ⟨fun⟨_,_,_,h,hk⟩=>by cases h;exact hk,fun hk=>⟨_,_,_,rfl,hk⟩⟩
theorem RK {b o n c i sz:Nat}{kk:IntKind}(hi:i<n):AI (.slice sz) (.slice (some ⟨b,o,none⟩) n c) (.int kk (i:Int)) k=k (.pointer (some ⟨b,o+i*sz,none⟩)):=by
 unfold AI
 refine propext ⟨fun⟨kk',m,h1,a,l,c',h2,h3,h4,h5⟩=>?_,fun hk=>⟨kk,i,rfl,_,n,c,rfl,by omega,by omega,?_⟩⟩
 ·cases h1;cases h2
  rw[A77,Bm] at h5
  exact h5
 ·rw[A77,Bm];exact hk
abbrev exC (e m blocks start:Nat):Array Value:=⟨[.int .u16 62218,.int .u16 e,.int .u16 m,.int .u16 0,.int .u32 0,.int .u32 0,.int .u16 blocks,.int .u16 0,.int .u32 start,.int .u32 0,.int .u16 0,.int .u16 0,.int .u32 0,.int .u32 0,.int .u16 0,.int .u16 0,.int .u32 0,.int .u32 0,.int .u16 0,.int .u16 0,.int .u32 0]⟩
abbrev Zr (a b c d:Int):Array Value:=⟨[.int .u16 a,.int .u16 b,.int .u16 c,.int .u16 d,.int .u32 0,.int .u32 0,.int .u16 0,.int .u16 0,.int .u32 0,.int .u32 0,.int .u16 0,.int .u16 0,.int .u32 0,.int .u32 0,.int .u16 0,.int .u16 0,.int .u32 0,.int .u32 0,.int .u16 0,.int .u16 0,.int .u32 0]⟩
theorem AIT {eb blocks start:Nat}{T:TypeId}(w:AN (pts eb (.cells (Zr 0 0 0 0) T (0,0))+x) h)(h1:1≤blocks)(h2:blocks≤32768)(h3:start+32768<4294967296)
  (K:∀ h,AN (pts eb (.cells (exC 1 4 blocks start) T (0,0))+x) h→Q (.tuple #[]) h):AC1 (Pt eb) (.slice (some ⟨eb,5,none⟩) 1 4) (.int .u32 start) (.int .u32 0) (.int .u32 blocks) h Q:=by
 unfold AC1
 simp (disch:=omega) only[go_sem]
 refine Au (rs:=[.int .u16 62218,.int .u16 ((1:Nat):Int),.int .u16 ((4:Nat):Int),.int .u16 0,.int .u32 0]) Zs rfl rfl ?_
 refine AL w (Zr 62218 1 4 0) ((A2 _ _ _).trans rfl) rfl (by exact Nat.le_add_left 5 16) rfl fun h w=>?_
 unfold U7
 refine Ba (fun m v h'=>(m=1∧v=.int .i64 0∧AN (pts eb (.cells (Zr 62218 1 4 0) T (0,0))+x) h')∨(m=0∧v=.int .i64 1∧AN (pts eb (.cells (exC 1 4 blocks start) T (0,0))+x) h')) 1 (.inl ⟨rfl,rfl,w⟩) ?_
 rintro rec m v h' (⟨rfl,rfl,w⟩|⟨rfl,rfl,w⟩) hrec
 ·unfold Nn
  have e0:(Value.int .i64 0)=.int .i64 ((0:Nat):Int):=rfl
  have e1:(Value.int .u32 0)=.int .u32 ((0:Nat):Int):=rfl
  rw[e0,e1]
  simp (disch:=omega) only[go_sem,A04,A08,A92,A58,B35]
  unfold NE
  simp (disch:=omega) only[go_sem,A58]
  refine Au SB rfl rfl ?_
  rw[RK (by omega)]
  refine AL w (exC 1 4 blocks start) ((A2 _ _ _).trans rfl) rfl (by exact Nat.le_add_left 9 12) rfl fun h w=>?_
  exact hrec 0 _ _ (.inr ⟨rfl,rfl,w⟩) (by omega)
 ·unfold Nn
  simp (disch:=omega) only[go_sem,A08]
  exact K _ w
end
section
variable {h:H} {k:Value→Prop} {kt Q:Kt} {x y r:Res}
theorem AEH {s:WS}{n:Nd}{nb used:Nat}{dv:Value}{a:Option Addr}{m c:Nat}(hdv:dv=.slice a m c)(w:AN (s.res+(pts nb (.cells n.cells 197 (0,0))+x)) h)(hfl:n.flags<4294967296)(hb:n.bcnt+used<4294967296)
  (K:∀ h,AN (s.res+(pts nb (.cells (Nd.cells {n with data:=dv,flags:=n.flags ||| 524288,bcnt:=n.bcnt+used}) 197 (0,0))+x)) h→Q .nilIface h):Hd Q (Pt s.wb) (Pt nb) (.int .u32 used) dv h:=by
 subst hdv
 unfold Hd
 simp (disch:=omega) only[go_sem]
 refine AL w (Nd.cells {n with data:=.slice a m c}) rfl rfl (by simp) rfl fun h w=>?_
 simp (disch:=omega) only[go_sem,AF w]
 refine AL w (Nd.cells {n with data:=.slice a m c,flags:=n.flags ||| 524288}) rfl rfl (by simp) rfl fun h w=>?_
 simp (disch:=omega) only[go_sem,AF w]
 refine AL w (Nd.cells {n with data:=.slice a m c,flags:=n.flags ||| 524288,bcnt:=n.bcnt+used}) rfl rfl (by simp) rfl fun h w=>?_
 simp (disch:=omega) only[go_sem,AF w]
 exact K _ w
end
section
variable {h:H} {k:Value→Prop} {kt Q:Kt} {x y r:Res}
abbrev lfC (a b c d:Nat):List Value:=[.int .u32 a,.int .u16 b,.int .u16 c,.int .u32 d]
abbrev lfs (blocks start:Nat):List Value:=lfC 0 blocks 0 start++lfC 0 0 0 0++lfC 0 0 0 0++lfC 0 0 0 0
def N5 (blocks start i:Nat):Bs:=if i=0 then Do 0 blocks 0 start else Do 0 0 0 0
def By (blocks start:Nat):Nat→Bs
 | 0=>[]
 | i+1=>By blocks start i++N5 blocks start i
theorem Kc (b s:Nat):∀ i,(By b s i).length=12*i
 | 0=>rfl
 | i+1=>by
  rw[By,A01,Kc b s i]
  have:(N5 b s i).length=12:=by unfold N5;split<;>rfl
  omega
theorem ABq (blocks start:Nat):∀ i,i<4→∃ a b c d,(⟨lfs blocks start⟩:Array Value).extract (i*4) (i*4+4)=⟨lfC a b c d⟩∧N5 blocks start i=Do a b c d:=by
 intro i hi
 have:i=0∨i=1∨i=2∨i=3:=by omega
 rcases this with rfl|rfl|rfl|rfl
 ·exact⟨0,blocks,0,start,rfl,rfl⟩
 ·exact⟨0,0,0,0,rfl,rfl⟩
 ·exact⟨0,0,0,0,rfl,rfl⟩
 ·exact⟨0,0,0,0,rfl,rfl⟩
set_option maxRecDepth 20000 in
theorem ADG {v0 v1 v8 v10:Value}{bs:Bs}{blocks start:Nat}(b:BufV v10 bs r)(w:AN (r+x) h)(hl:bs.length≤100)(K:∀ v r h,BufV v (bs++By blocks start 4) r→AN (r+x) h→Hd Q v0 v1 v8 v h) :
  Q9 Q v0 v1 v8 (.agg ⟨lfs blocks start⟩) v10 (.int .i64 ((0:Nat):Int)) h:=by
 unfold Q9
 refine DE (fun m v10 v72 h'=>∃ i r,m=4-i∧i≤4∧BufV v10 (bs++By blocks start i) r∧v72=.int .i64 (i:Nat)∧AN (r+x) h') 4 ⟨0,r,rfl,by omega,by rw[By,A22];exact b,rfl,w⟩ ?_
 rintro rec m v10 v72 h' ⟨i,r,rfl,hi,b,rfl,w⟩ hrec
 unfold P3
 simp (disch:=omega) only[go_sem]
 refine AX (fun hc=>?_) (fun hc=>?_)
 ·obtain⟨a1,a2,a3,a4,e1,e2⟩:=ABq blocks start i (by omega)
  rw[Sw (by omega),e1]
  refine Ah w SB rfl fun pb h w=>?_
  refine AL w ⟨lfC a1 a2 a3 a4⟩ ((A2 _ _ _).trans rfl) rfl (by simp) rfl fun h w=>?_
  rw[Am (w.find (b:=pb)) (by simp)]
  refine ZT _ _ _ (AHN w fun sv sr h sb w=>?_)
  refine BU (x:=sr+(pts pb (.cells ⟨lfC a1 a2 a3 a4⟩ 327 (0,0))+x)) b (w.cast (by ac_rfl)) (sb.rd w) (by rw[A01,Kc];simp[Do,BI,Av];omega) fun v r h b w=>?_
  refine hrec (4-(i+1)) _ _ _ ⟨i+1,r,rfl,by omega,?_,rfl,AN.left (y:=sr+pts pb (.cells ⟨lfC a1 a2 a3 a4⟩ 327 (0,0))) (w.cast (by ac_rfl))⟩ (by omega)
  rw[By,e2,←A12]
  exact b
 ·have:i=4:=by omega
  subst this
  exact K _ _ _ b w
end
section
variable {h:H} {k:Value→Prop} {kt Q:Kt} {x y r:Res}
theorem Zg:AG TP 329=some (.agg ⟨(Zr 0 0 0 0).toList⟩):=by kernel_rfl
def extRoot (blocks start:Nat):Bs:=K4 62218 1 4 0 0++By blocks start 4
theorem JN {b o n sz j:Nat}{kk:IntKind}(hj:j≤n)(hn:0<n):AZ (.arr n sz) (.pointer (some ⟨b,o,none⟩)) none (some (.int kk (j:Int))) k=k (.slice (some ⟨b,o,none⟩) j n):=by
 have hv:A6 (.arr n sz) (.pointer (some ⟨b,o,none⟩)) none (some (.int kk (j:Int)))=some (.slice (some ⟨b,o,none⟩) j n):=by
  simp only[A6,Dp]
  simp only[Ay]
  rw[A03 ⟨A39 _,hj⟩,A05 (by omega),A92]
  rfl
 exact propext ⟨fun⟨v,a,b⟩=>by rw[hv] at a;cases a;exact b,fun a=>⟨_,hv,a⟩⟩
set_option maxRecDepth 20000 in
theorem AHE {s:WS}{n:Nd}{nb:Nat}(ok:s.OK)(w:AN (s.res+(pts nb (.cells n.cells 197 (0,0))+x)) h)(hdw:s.dw≤s.pos)(hal:(s.pos-s.dw)%4096=0)(hpos:s.dpos=s.pos)(hB:s.B.length≤s.pos)(h1:1≤s.dw)(h2:s.dw≤134000000)(hm:s.pos+4096≤s.max)
  (hfl:n.flags<4294967296) (hbc:n.bcnt<1000000)
  (K:∀ dv r ev er h p,p=s.pos+(4096-s.pos%4096)%4096→WS.OK {s with dv:=dv,dr:=r,B:=if p=s.pos then s.B else BG s.B s.pos (List.replicate (p-s.pos) 0),dpos:=p,pos:=p} →
   BufV ev (extRoot ((p-(s.pos-s.dw))/4096) ((s.pos-s.dw)/4096)) er →
   AN (WS.res {s with dv:=dv,dr:=r,B:=if p=s.pos then s.B else BG s.B s.pos (List.replicate (p-s.pos) 0),dpos:=p,pos:=p}+(pts nb (.cells (Nd.cells {n with data:=ev,flags:=n.flags ||| 524288,bcnt:=n.bcnt+(p-(s.pos-s.dw))/4096}) 197 (0,0))+(er+x))) h→Q .nilIface h) :
  ADX (Pt s.wb) (Pt nb) h Q:=by
 have hmax:=ok.max
 unfold ADX
 simp (disch:=omega) only[go_sem,AF w,A08]
 refine Y7 _ _ _ (AHO ok w hm hpos hB fun dv r h q hq ok w=>?_)
 obtain⟨p,hp⟩:∃ p,p=s.pos+q:=⟨_,rfl⟩
 obtain⟨bl,hbl⟩:∃ bl,bl=(p-(s.pos-s.dw))/4096:=⟨_,rfl⟩
 obtain⟨st,hst⟩:∃ st,st=(s.pos-s.dw)/4096:=⟨_,rfl⟩
 have hpm:p%4096=0:=by omega
 have hbl1:1≤bl∧bl≤32768:=by omega
 have hps:p/4096=st+bl:=by omega
 refine Ny _ _ _ (s100 (s:={s with dv:=dv,dr:=r,B:=if q=0 then s.B else BG s.B s.pos (List.replicate q 0),dpos:=s.pos+q,pos:=s.pos+q}) ok (by show s.pos+q≤s.max;omega) w ?_)
 show (fun _=>_) _
 rw[←hp,←hst,hps]
 simp (disch:=omega) only[go_sem,A62]
 have he:(bl+32768-1)/32768=1:=by omega
 rw[he]
 have eB:(if q=0 then s.B else BG s.B s.pos (List.replicate q 0))=if p=s.pos then s.B else BG s.B s.pos (List.replicate (p-s.pos) 0):=by
  rw[hp,A62]
  by_cases hq0:q=0
  ·rw[A03 hq0,A03 (by omega)]
  ·rw[A05 hq0,A05 (by omega)]
 rw[eB,←hp] at ok w
 rw[show decide (((1:Nat):Int)=0)=false from rfl,show decide (((1:Nat):Int)≤4)=true from rfl]
 simp only[go_sem]
 refine Ah w Zg rfl fun xb h w=>?_
 simp only[go_sem,A58,A29]
 rw[JN (by omega) (by omega)]
 refine Zp _ _ _ _ _ _ _ (AIT w (by omega) (by omega) (by omega) fun h w=>?_)
 rw[Am (w.find (b:=xb)) (by exact Nat.le_add_left 5 16)]
 refine ZB _ _ _ (AHL w fun v r' h bv w=>?_)
 refine BU (bs:=[]) (r:=0) .nil (w.cast (Res.zero_add _).symm) (bv.rd w) (by simp[K4,BI,Av]) fun v' r2 h bv' w=>?_
 have e5:(exC 1 4 bl st).extract 5 (5+16)=⟨lfs bl st⟩:=rfl
 rw[Am (w.find (b:=xb)) (by exact A07 21),e5]
 refine ADG (x:=WS.res {s with dv:=dv,B:=if p=s.pos then s.B else BG s.B s.pos (List.replicate (p-s.pos) 0),dr:=r,dpos:=p,pos:=p}+(pts nb (.cells n.cells 197 (0,0))+x)) bv' (AN.left (y:=r'+pts xb (.cells (exC 1 4 bl st) 329 (0,0))) (w.cast (by ac_rfl))) (by simp[K4,BI,Av]) fun v r2 h bv w=>?_
 obtain⟨a,m,c,rfl⟩:∃ a m c,v=.slice a m c:=let ⟨a,c,e⟩:=bv.len;⟨a,_,c,e⟩
 refine AEH (x:=r2+x) (s:={s with dv:=dv,B:=if p=s.pos then s.B else BG s.B s.pos (List.replicate (p-s.pos) 0),dr:=r,dpos:=p,pos:=p}) rfl (AN.cast w (by ac_rfl)) hfl (by omega) fun h w=>?_
 rw[hbl] at w
 rw[A34,hbl,hst] at bv
 exact K _ _ _ _ _ p (by omega) ok bv w
end
section
set_option maxRecDepth 100000
def MP (Q:Kt)(x0 x1 x2 a3:Value)(h:H):Prop:=
 AE a3 fun o4=>AC 6 o4 fun o5=>AB false 1 o5 h fun o6=>AD .and o6 (.int .u16 61440) fun o7=>AD .eql o7 (.int .u16 32768) fun o8=>AK o8
 (AE x2 fun p3=>AC 1 p3 fun p4=>AB false 1 p4 h fun p5=>Call TP 96 [x0,x1,a3,p5] h fun p6 h=>Q .nilIface h)
 (Q .nilIface h)
def O1 (Q:Kt)(x0 x1 x2 x8 a0 a3:Value)(h:H):Prop:=
 AE x8 fun m2=>AC 17 m2 fun m3=>AB false 1 m3 h fun m4=>Gp (some .string) m4 a0 a3 h fun h=>AE a3 fun m8=>AC 9 m8 fun m9=>AB false 1 m9 h fun n0=>AD .add n0 (.int .u32 1) fun n1=>AE a3 fun n2=>AC 9 n2 fun n3=>AJ 1 n3 n1 h fun h=>Call TP 93 [a3] h fun n5 h=>AK n5
 (AE x8 fun n7=>AC 9 n7 fun n8=>AB false 1 n8 h fun n9=>AD .add n9 (.int .u32 1) fun o0=>AE x8 fun o1=>AC 9 o1 fun o2=>AJ 1 o2 o0 h fun h=>MP Q x0 x1 x2 a3 h)
 (MP Q x0 x1 x2 a3 h)
def IL (Q:Kt)(x0 x1 x2 x8 x9 a0 a2:Value)(h:H):Prop:=
 Call TP 95 [x0,x2,a2] h fun j3 h=>AO j3 0 fun j4=>AO j3 1 fun j5=>Bq .iface true true h j5 .nilIface fun j7=>AK j7
 (Q j5 h)
 (Bq .ptr false true h x9 j4 fun k1=>AK k1
 (Bq .ptr true true h x9 (.pointer none) fun k3=>AK k3
 (AE x9 fun k5=>AC 9 k5 fun k6=>AB false 1 k6 h fun k7=>AD .sub k7 (.int .u32 1) fun k8=>AE x9 fun k9=>AC 9 k9 fun m0=>AJ 1 m0 k8 h fun h=>O1 Q x0 x1 x2 x8 a0 j4 h)
 (O1 Q x0 x1 x2 x8 a0 j4 h))
 (MP Q x0 x1 x2 j4 h))
def f55 (x0 x1 x2:Value)(h:H)(Q:Kt):Prop:=
 Call TP 91 [x0] h fun a5 h=>Bq .iface true true h a5 .nilIface fun a7=>AK a7
 (Q a5 h)
 (Call TP 92 [x0,x1,(.bool false)] h fun b2 h=>AO b2 0 fun b3=>AO b2 1 fun b4=>AO b2 2 fun b5=>AO b2 3 fun b6=>Bq .iface true true h b6 .nilIface fun b8=>AK b8
 (Q b6 h)
 (Bq .ptr true true h b4 (.pointer none) fun c1=>AK c1
 (Call TP 93 [b4] h fun c3 h=>AK c3
 (AE x2 fun c5=>AC 2 c5 fun c6=>AB false 1 c6 h fun c7=>AD .and c7 (.int .u16 61440) fun c8=>AD .neq c8 (.int .u16 16384) fun c9=>AK c9
 (Call TP 94 [(.string ⟨#[99,97,110,110,111,116,32,114,101,112,108,97,99,101,32,97,32,100,105,114,101,99,116,111,114,121,32,119,105,116,104,32,97,32,102,105,108,101]⟩)] h fun d0 h=>Q d0 h)
 (IL Q x0 x1 x2 b3 b4 b5 b4 h))
 (AE x2 fun d3=>AC 2 d3 fun d4=>AB false 1 d4 h fun d5=>AD .and d5 (.int .u16 61440) fun d6=>AD .eql d6 (.int .u16 16384) fun d7=>AK d7
 (Call TP 94 [(.string ⟨#[99,97,110,110,111,116,32,114,101,112,108,97,99,101,32,97,32,102,105,108,101,32,119,105,116,104,32,97,32,100,105,114,101,99,116,111,114,121]⟩)] h fun d8 h=>Q d8 h)
 (AE b4 fun g0=>AC 9 g0 fun g1=>AB false 1 g1 h fun g2=>AD .lss g2 (.int .u32 2) fun g3=>AK g3
 (IL Q x0 x1 x2 b3 b4 b5 b4 h)
 (IL Q x0 x1 x2 b3 b4 b5 (.pointer none) h))))
 (AE x2 fun g6=>AC 2 g6 fun g7=>AB false 1 g7 h fun g8=>AD .and g8 (.int .u16 61440) fun g9=>AD .eql g9 (.int .u16 16384) fun i0=>Az i0 true (AE b3 fun i3=>AC 9 i3 fun i4=>AB false 1 i4 h fun i5=>AD .geq i5 (.int .u32 65000) fun i6=>AK i6
 (Call TP 94 [(.string ⟨#[101,120,99,101,101,100,101,100,32,112,97,114,101,110,116,32,100,105,114,101,99,116,111,114,121,32,109,97,120,105,109,117,109,32,108,105,110,107,32,99,111,117,110,116]⟩)] h fun i8 h=>Q i8 h)
 (IL Q x0 x1 x2 b3 b4 b5 (.pointer none) h)) (IL Q x0 x1 x2 b3 b4 b5 (.pointer none) h))))
def AHR (Q:Kt)(r:RS):Nat→DJ:=tab [(2046,.jn fun e h=>MP Q (e 0) (e 1) (e 2) (e 13) h),
 (16362,.jn fun e h=>O1 Q (e 0) (e 1) (e 2) (e 8) (e 10) (e 13) h),
 (254,.jn fun e h=>IL Q (e 0) (e 1) (e 2) (e 8) (e 9) (e 10) (e 12) h)]
theorem Xm (x0 x1 x2:Value)(h:H)(Q:Kt)(x:f55 x0 x1 x2 h Q):Call TP 55 [x0,x1,x2] h Q:=Bb (AHR Q) Tryz.func55 (by kernel_rfl) x
def ADb (x0:Value)(h:H)(Q:Kt):Prop:=
 AY (AG TP 182) 1 8 182 (.int .i64 1) (.int .i64 32) h fun x9 h=>AE x0 fun a0=>AC 1 a0 fun a1=>AJ 1 a1 x9 h fun h=>Ae (.struct [(0,1),(1,1),(2,1),(3,1),(4,1),(5,3),(8,3),(11,3),(14,3),(17,1),(18,1),(19,1)]) (AG TP 191) [(2,(.int .u16 16877))] fun a4=>BB 191 (a4:Value).cells h fun a5 h=>Call TP 95 [x0,a5,(.pointer none)] h fun a6 h=>AO a6 0 fun a7=>AO a6 1 fun a8=>AE a7 fun b0=>AC 9 b0 fun b1=>AB false 1 b1 h fun b2=>AD .add b2 (.int .u32 1) fun b3=>AE a7 fun b4=>AC 9 b4 fun b5=>AJ 1 b5 b3 h fun h=>AE x0 fun b8=>AC 1 b8 fun b9=>AB false 1 b9 h fun c0=>AE x0 fun c2=>AC 1 c2 fun c3=>AB false 1 c3 h fun c4=>Ab c4 fun c5=>AD .sub (.int .i64 11) c5 fun c6=>AD .sub c6 (.int .i64 1) fun c7=>CI 182 (AG TP 182) 1 8 c0 c7 h fun c8 h=>AE x0 fun c9=>AC 1 c9 fun d0=>AJ 1 d0 c8 h fun h=>AE x0 fun d2=>AC 10 d2 fun d3=>AB false 1 d3 h fun d4=>AD .sub d4 (.int .i64 1) fun d5=>AD .quo d5 (.int .i64 4096) fun d6=>AD .add d6 (.int .i64 1) fun d7=>AD .sub d7 (.int .i64 1) fun d9=>AD .quo d9 (.int .i64 32768) fun g0=>AD .add g0 (.int .i64 1) fun g1=>AD .sub g1 (.int .i64 1) fun g4=>AD .quo g4 (.int .i64 128) fun g5=>AD .add g5 (.int .i64 1) fun g6=>AV .u32 g6 fun g7=>AE x0 fun g8=>AC 11 g8 fun g9=>AJ 1 g9 g7 h fun h=>AE x0 fun i2=>AC 11 i2 fun i3=>AB false 1 i3 h fun i4=>AD .add (.int .u32 1) i4 fun i5=>Call TP 101 [x0,i5] h fun i6 h=>AE x0 fun i8=>AC 8 i8 fun i9=>AJ 1 i9 (.bool true) h fun h=>Ae (.struct [(0,1),(1,1),(2,1),(3,1),(4,1),(5,3),(8,3),(11,3),(14,3),(17,1),(18,1),(19,1)]) (AG TP 191) [(2,(.int .u16 16832))] fun j1=>BB 191 (j1:Value).cells h fun j2 h=>Call TP 55 [x0,(.string ⟨#[108,111,115,116,43,102,111,117,110,100]⟩),j2] h fun j3 h=>Bq .iface true true h j3 .nilIface fun j5=>AK j5
 (Q j3 h)
 (AE x0 fun j8=>AC 7 j8 fun j9=>AB false 1 j9 h fun k0=>Q k0 h)
theorem Z1 (x0:Value)(h:H)(Q:Kt)(x:ADb x0 h Q):Call TP 150 [x0] h Q:=Bb nT Tryz.func150 (by kernel_rfl) x
def f52 (x0:Value)(h:H)(Q:Kt):Prop:=
 BB 2 (x0:Value).cells h fun x1 h=>Q (.func (.func 90) #[] #[x1]) h
theorem ADP (x0:Value)(h:H)(Q:Kt)(x:f52 x0 h Q):Call TP 52 [x0] h Q:=Bb nT Tryz.func52 (by kernel_rfl) x
def f53 (x0:Value)(h:H)(Q:Kt):Prop:=
 AE x0 fun x3=>AC 9 x3 fun x4=>AJ 1 x4 (.bool true) h fun h=>Q (.tuple #[]) h
theorem ADk (x0:Value)(h:H)(Q:Kt)(x:f53 x0 h Q):Call TP 53 [x0] h Q:=Bb nT Tryz.func53 (by kernel_rfl) x
def Wc (Q:Kt)(r1:R1)(x5 a1 a2 a3:Value)(h:H):Prop:=
 AD .lss a3 a2 fun a4=>AK a4
 (AI (.slice 1) a1 a3 fun a5=>AB false 1 a5 h fun a6=>Bj TP a6 [x5] h fun a9 h=>AD .add a3 (.int .i64 1) fun b0=>r1 b0 h)
 (Q x5 h)
def ABL (Q:Kt)(x5 a1 a2 a3:Value)(h:H):Prop:=A1 (fun r1 a3 h=>Wc Q r1 x5 a1 a2 a3 h) a3 h
def f54 (x0 x1:Value)(h:H)(Q:Kt):Prop:=
 Ae (.struct [(0,1),(1,1),(2,1),(3,1),(4,1),(5,1),(6,1),(7,1),(8,1),(9,1),(10,1),(11,1)]) (AG TP 184) [(0,x0),(10,(.int .i64 17179869184))] fun x9=>BB 184 (x9:Value).cells h fun a0 h=>Ab x1 fun a2=>ABL Q a0 x1 a2 (.int .i64 0) h
def AIU (Q:Kt)(r:RS):Nat→DJ:=tab [(117,.lp [5,11,12] [13] fun s e l h=>Wc Q (u1 s) (e 5) (e 11) (e 12) (gl l 0) h)]
theorem ACy (x0 x1:Value)(h:H)(Q:Kt)(x:f54 x0 x1 h Q):Call TP 54 [x0,x1] h Q:=Bb (AIU Q) Tryz.func54 (by kernel_rfl) x
def Tw (Q:Kt)(x0 x1 x8:Value)(h:H):Prop:=
 AK x8
 (AE x0 fun a0=>AC 10 a0 fun a1=>AJ 1 a1 (.int .i64 17592186044416) h fun h=>Q (.tuple #[]) h)
 (AB false 1 x1 h fun a2=>AD .eql a2 (.int .i64 0) fun a3=>AK a3
 (AE x0 fun a5=>AC 10 a5 fun a6=>AJ 1 a6 (.int .i64 17179869184) h fun h=>Q (.tuple #[]) h)
 (AB false 1 x1 h fun a8=>AD .add a8 (.int .i64 4096) fun a9=>AD .sub a9 (.int .i64 1) fun b0=>AD .andNot b0 (.int .i64 4095) fun b1=>AE x0 fun b2=>AC 10 b2 fun b3=>AJ 1 b3 b1 h fun h=>Q (.tuple #[]) h))
def f90 (x0 x1:Value)(h:H)(Q:Kt):Prop:=
 AB false 1 x1 h fun x3=>AD .lss x3 (.int .i64 0) fun x4=>Az x4 false (AB false 1 x1 h fun x6=>AD .gtr x6 (.int .i64 17592186044416) fun x7=>Tw Q x0 x1 x7 h) (Tw Q x0 x1 (.bool true) h)
def AH6 (Q:Kt)(r:RS):Nat→DJ:=tab [(6,.jn fun e h=>Tw Q (e 0) (e 1) (e 8) h)]
theorem ABy (x0 x1:Value)(h:H)(Q:Kt)(x:f90 x0 x1 h Q):Call TP 90 [x0,x1] h Q:=Bb (AH6 Q) Tryz.func90 (by kernel_rfl) x
end
section
variable {h:H} {k:Value→Prop} {kt Q:Kt} {x y r:Res}
@[go_sem] theorem AIh {c:Bool}{p:Addr}:Bq .ptr c true h (.pointer none) (.pointer (some p)) k=k (.bool true):=by simp[Bq,GG]
def AGH (L:List (Option Nd))(n:Nd):Prop:=
 (BufV n.data n.dbs n.dr∧BufV n.xin n.xbs n.xr∧n.mode<65536∧n.links<100000∧n.flags<4294967296)∧∀ mb es,n.dir=some (mb,es)→∀ e∈es,1≤e.2∧∃ c,L[e.2-1]? = some (some c)
theorem FOK.ndOK {s:WS}{ad:Nat→Nat}{L:List (Option Nd)}{tr:Res}{c:Nat}{n:Nd}(ok:FOK s ad L tr)(hn:L[c]? = some (some n)):AGH L n:=
 ⟨ok.nd _ _ hn,fun mb es=>ok.kid _ _ mb es hn⟩
theorem Hv {L:List (Option Nd)}{c:Nat}{n':Nd}{i:Nat}(h:∃ m,L[i]? = some (some m)):∃ m,(L.set c (some n'))[i]? = some (some m):=by
 obtain⟨m,hm⟩:=h
 have hl:=(A02.1 hm).1
 rw[A54]
 by_cases hc:c=i
 ·subst hc;rw[A03 rfl,A03 hl];exact⟨_,rfl⟩
 ·rw[A05 hc];exact⟨m,hm⟩
theorem F7 {s s':WS}{ad:Nat→Nat}{L:List (Option Nd)}{tr:Res}{c:Nat}{n n':Nd}(ok:FOK s ad L tr)(hs:s'.OK)(hi:s'.inv=s.inv)(hn:L[c]? = some (some n))(h1:n'.num=n.num)(h2:AGH L n'):FOK s' ad (L.set c (some n')) tr:=by
 have hl:=(A02.1 hn).1
 have hmap:(L.set c (some n')).map (ptrO ad)=L.map (ptrO ad):=by
  apply A60
  intro i
  rw[A21,A21,A54]
  by_cases hc:c=i
  ·subst hc;rw[A03 rfl,A03 hl,hn];simp[ptrO,h1]
  ·rw[A05 hc]
 have hcase:∀ i m,(L.set c (some n'))[i]? = some (some m)→(i=c∧m=n')∨L[i]? = some (some m):=by
  intro i m hm
  rw[A54] at hm
  by_cases hc:c=i
  ·subst hc;rw[A03 rfl,A03 hl] at hm;cases hm;exact .inl ⟨rfl,rfl⟩
  ·rw[A05 hc] at hm;exact .inr hm
 refine⟨hs,?_,?_,?_,?_,by simpa using ok.len⟩
 ·rw[hmap,A89,hi];exact ok.vec
 ·intro i m hm
  rcases hcase i m hm with⟨rfl,rfl⟩|hm
  ·rw[h1];exact ok.num _ _ hn
  ·exact ok.num _ _ hm
 ·intro i m hm
  rcases hcase i m hm with⟨rfl,rfl⟩|hm
  ·exact h2.1
  ·exact ok.nd _ _ hm
 ·intro i m mb es hm hd e he
  rcases hcase i m hm with⟨rfl,rfl⟩|hm
  ·exact⟨(h2.2 mb es hd e he).1,Hv (h2.2 mb es hd e he).2⟩
  ·have:=ok.kid i m mb es hm hd e he
   exact⟨this.1,Hv this.2⟩
theorem FOK.ws' {s s':WS}{ad:Nat→Nat}{L:List (Option Nd)}{tr:Res}(ok:FOK s ad L tr)(hs:s'.OK)(hi:s'.inv=s.inv):FOK s' ad L tr:=
 ⟨hs,by rw[hi];exact ok.vec,ok.num,ok.nd,ok.kid,ok.len⟩
theorem GN {ad:Nat→Nat}{L:List (Option Nd)}{c:Nat}{n:Nd}(hl:c<L.length):sumR ad (L.set c (some n))=n.res ad+sumR ad (L.set c none):=Kj ad (some n) L c hl
abbrev WS.idle (s:WS):WS:={s with cur:=.pointer none,dw:=0,dm:=0}
theorem AIX {s:WS}(w:AN (s.res+x) h)(hini:s.ini=true)(hc:s.cur=.pointer none)(K:Q .nilIface h):UX (Pt s.wb) h Q:=by
 unfold UX
 simp (disch:=omega) only[go_sem,AF w,hini,A91]
 unfold Kp
 simp (disch:=omega) only[go_sem,AF w,hc]
 exact K
theorem ACD {s:WS}(w:AN (s.res+x) h)(K:∀ h,AN (s.idle.res+x) h→Q .nilIface h):AJ 1 (.pointer (some ⟨s.wb,5,none⟩)) (.int .i64 0) h fun h=>AJ 1 (.pointer (some ⟨s.wb,6,none⟩)) (.int .i64 0) h fun h=>AJ 1 (.pointer (some ⟨s.wb,3,none⟩)) (.pointer none) h fun h=>AB false 1 (.pointer (some ⟨s.wb,7,none⟩)) h fun x67=>Q x67 h:=by
 refine AL w (WS.cells {s with dw:=0}) rfl rfl (by simp) rfl fun h w=>?_
 refine AL w (WS.cells {s with dw:=0,dm:=0}) rfl rfl (by simp) rfl fun h w=>?_
 refine AL w (WS.cells s.idle) rfl rfl (by simp) rfl fun h w=>?_
 simp (disch:=omega) only[go_sem,AF w]
 exact K _ w
theorem AHU {s:WS}{ad:Nat→Nat}{L:List (Option Nd)}{tr:Res}{c:Nat}{n:Nd}(ok:FOK s ad L tr)(w:AN (FR s ad L tr+x) h)(hini:s.ini=true)(hc:s.cur=Pt (ad c))(h1:1≤c)(hn:L[c-1]? = some (some n))(hdw:s.dw=s.dm)
  (hfl:s.dm=0∨n.flags=268697600) (K:∀ h,FOK s.idle ad L tr→AN (FR s.idle ad L tr+x) h→Q .nilIface h):UX (Pt s.wb) h Q:=by
 have K':∀ h,AN (s.idle.res+(tr+sumR ad L+x)) h→Q .nilIface h:=fun h w=>K h (ok.ws' ⟨ok.ws.buf,ok.ws.len,ok.ws.max⟩ rfl) (w.cast (by unfold FR;ac_rfl))
 unfold UX
 simp (disch:=omega) only[go_sem,AF w,hini,A91]
 unfold Kp
 have he:decide ((s.dm:Int)≠(s.dm:Int))=false:=by simp
 simp (disch:=omega) only[go_sem,AF w,hc,hdw,he]
 refine C3 (fun hz=>?_) (fun hz=>?_)
 ·have hfl:n.flags=268697600:=by omega
  obtain⟨w',hnum⟩:=CG ok h1 hn w
  have hand:n.flags &&& 268435456=268435456:=by rw[hfl];rfl
  have hlt:n.flags<4294967296:=by omega
  have h0:decide (((268435456:Nat):Int)=0)=false:=by simp
  rw[←hnum]
  simp (disch:=omega) only[go_sem,AF w',hand,h0]
  unfold Mj
  simp only[go_sem]
  exact ACD (x:=tr+sumR ad L+x) (w.cast (by unfold FR;ac_rfl)) K'
 ·unfold Mj
  simp only[go_sem]
  exact ACD (x:=tr+sumR ad L+x) (w.cast (by unfold FR;ac_rfl)) K'
def Eu (p:Nat):Nat:=(p+4095)/4096*4096
def I1 (B:Bs)(p:Nat):Bs:=if Eu p=p then B else BG B p (List.replicate (Eu p-p) 0)
abbrev WS.shut (s:WS)(dv:Value)(r:Res):WS:={s with dv:=dv,dr:=r,B:=I1 s.B s.pos,dpos:=Eu s.pos,pos:=Eu s.pos,cur:=.pointer none,dw:=0,dm:=0}
abbrev Nd.ext (n:Nd)(s:WS)(ev:Value)(er:Res):Nd:={n with data:=ev,dbs:=extRoot ((Eu s.pos-(s.pos-s.dw))/4096) ((s.pos-s.dw)/4096),dr:=er,flags:=n.flags ||| 524288,bcnt:=n.bcnt+(Eu s.pos-(s.pos-s.dw))/4096}
theorem AHk {s:WS}{ad:Nat→Nat}{L:List (Option Nd)}{tr:Res}{c:Nat}{n:Nd}(ok:FOK s ad L tr)(w:AN (FR s ad L tr+x) h)(hini:s.ini=true)(hc:s.cur=Pt (ad c))(h1:1≤c)(hn:L[c-1]? = some (some n))(hdw:s.dw=s.dm)(hd1:1≤s.dm)
  (hfl:n.flags=262144) (hle:s.dw≤s.pos) (hal:(s.pos-s.dw)%4096=0) (hpos:s.dpos=s.pos) (hB:s.B.length≤s.pos) (h2:s.dw≤134000000) (hm:s.pos+4096≤s.max) (hbc:n.bcnt<1000000)
  (K:∀ dv r ev er h,FOK (s.shut dv r) ad (L.set (c-1) (some (n.ext s ev er))) tr→AN (FR (s.shut dv r) ad (L.set (c-1) (some (n.ext s ev er))) tr+x) h→Q .nilIface h):UX (Pt s.wb) h Q:=by
 unfold UX
 simp (disch:=omega) only[go_sem,AF w,hini,A91]
 unfold Kp
 have he:decide ((s.dm:Int)≠(s.dm:Int))=false:=by simp
 have hz:decide ((s.dm:Int)≠0)=true:=by simp;omega
 simp (disch:=omega) only[go_sem,AF w,hc,hdw,he,hz]
 obtain⟨w',hnum⟩:=CG ok h1 hn w
 have hand:n.flags &&& 268435456=0:=by rw[hfl];rfl
 have h0:decide (((0:Nat):Int)=0)=true:=by simp
 rw[←hnum]
 simp (disch:=omega) only[go_sem,AF w',hand,h0]
 unfold Mj
 simp only[go_sem,AF w',hc]
 rw[←hnum]
 refine Zw _ _ _ _ (AHE (n:=n) (x:=n.dr+(n.xr+n.kr ad)+(tr+sumR ad (L.set (c-1) none)+x)) ok.ws (w'.cast (by unfold Nd.res;ac_rfl)) hle hal hpos hB (by omega) h2 hm (by omega) hbc fun dv r ev er h p hp okw be w=>?_)
 have hpu:p=Eu s.pos:=by unfold Eu;omega
 subst hpu
 simp only[go_sem]
 have hl:=(A02.1 hn).1
 have hnd:=ok.ndOK hn
 refine ACD (s:={s with dv:=dv,dr:=r,B:=if Eu s.pos=s.pos then s.B else BG s.B s.pos (List.replicate (Eu s.pos-s.pos) 0),dpos:=Eu s.pos,pos:=Eu s.pos}) w fun h w=>?_
 refine K dv r ev er h ?_ ?_
 ·refine F7 ok ⟨okw.buf,okw.len,okw.max⟩ rfl hn rfl ⟨⟨be,hnd.1.2.1,hnd.1.2.2.1,hnd.1.2.2.2.1,?_⟩,hnd.2⟩
  show n.flags ||| 524288<4294967296
  rw[hfl];decide
 ·refine AN.left (y:=n.dr) (w.cast ?_)
  unfold FR
  rw[GN hl]
  unfold Nd.res WS.res Nd.kr
  dsimp only
  ac_rfl
end
section
variable {h:H} {k:Value→Prop} {kt Q:Kt} {x y r:Res}
theorem QW (f:Nat→Value)(es:List (Bs×Nat))(nm:Bs)(c:Nat):(DP f es).push ⟨str nm,f c,es.length⟩=DP f (es++[(nm,c)]):=by
 unfold DP
 rw[List.zipIdx_append]
 simp
theorem AAP {ad:Nat→Nat}{mb c:Nat}{es:List (Bs×Nat)}{nm:Bs}{kh:H→Prop}(w:AN (pts mb (CP ad es)+x) h)(hf:lookE es nm=none)(K:∀ h,AN (pts mb (CP ad (es++[(nm,c)]))+x) h→kh h) :
  Gp (some .string) (.map (some mb)) (str nm) (Pt (ad c)) h kh:=by
 obtain⟨q,h1,h2,_⟩:=Fm (fun c=>Pt (ad c)) nm es 0 0
 rw[hf] at h2
 simp only[Option.map_none,Option.map_eq_none_iff] at h2
 subst h2
 refine⟨rfl,mb,_,_,.map ((DP (fun c=>Pt (ad c)) es).push ⟨str nm,Pt (ad c),es.length⟩) (es.length+1),rfl,w.left.one,?_,?_⟩
 ·have:(DP (fun c=>Pt (ad c)) es).toList=es.zipIdx.map fun p=>(⟨str p.1.1,Pt (ad p.1.2),p.2⟩:MapEntry):=rfl
  have h1':Cd (str nm) (DP (fun c=>Pt (ad c)) es).toList 0=some none:=by rw[this];exact h1
  rw[h1'];rfl
 ·refine K _ ?_
  have e:CP ad (es++[(nm,c)])=.map ((DP (fun c=>Pt (ad c)) es).push ⟨str nm,Pt (ad c),es.length⟩) (es.length+1):=by
   rw[QW (fun c=>Pt (ad c))];simp[CP]
  rw[e]
  exact w.set
def WS.opened (s:WS)(kd:Nat)(p:Value)(nm:Bs)(sz:Nat):WS:=if kd=32768 then {s with nm:=str nm,cur:=p,dw:=0,dm:=sz} else s
theorem AA4 {s:WS}{n:Nd}{nb fb:Nat}{fc:List Value}{nm:Bs}{sz:Nat}(w:AN (s.res+(pts nb (.cells n.cells 197 (0,0))+(pts fb (.cells ⟨fc⟩ 191 (0,0))+x))) h)(hfc:fc[1]? = some (.int .i64 sz))(hcur:s.cur=.pointer none)(hm:n.mode<65536)
  (K:∀ h,AN ((s.opened (kindB n.mode) (Pt nb) nm sz).res+(pts nb (.cells n.cells 197 (0,0))+x)) h→Q .nilIface h):MP Q (Pt s.wb) (str nm) (Pt fb) (Pt nb) h:=by
 unfold MP
 simp (disch:=omega) only[go_sem,AF w]
 have hkk:(n.mode &&& 61440)=kindB n.mode:=rfl
 rw[hkk]
 refine AX (fun hk=>?_) (fun hk=>?_)
 ·have hk':kindB n.mode=32768:=by omega
  have:(⟨fc⟩:Array Value)[1]? = some (.int .i64 sz):=by simpa using hfc
  rw[this]
  simp only[go_sem]
  refine Vx _ _ _ _ _ _ (s96 w hcur ⟨_,rfl⟩ fun h w=>K h (AN.left (y:=pts fb (.cells ⟨fc⟩ 191 (0,0))) (w.cast ?_)))
  unfold WS.opened
  rw[A03 hk']
  ac_rfl
 ·have hk':kindB n.mode≠32768:=by omega
  refine K h (AN.left (y:=pts fb (.cells ⟨fc⟩ 191 (0,0))) (w.cast ?_))
  unfold WS.opened
  rw[A05 hk']
  ac_rfl
abbrev Nd.more (n:Nd)(mb:Nat)(es:List (Bs×Nat))(nm:Bs)(c kd:Nat):Nd:={n with dir:=some (mb,es++[(nm,c)]),links:=n.links+(if kd=16384 then 1 else 0)}
theorem AFE {s:WS}{ad:Nat→Nat}{n dn:Nd}{mb fb c:Nat}{es:List (Bs×Nat)}{fc:List Value}{nm e:Bs}{sz:Nat}
  (w:AN (s.res+(pts (ad c) (.cells n.cells 197 (0,0))+(pts (ad dn.num) (.cells dn.cells 197 (0,0))+(pts mb (CP ad es)+(pts fb (.cells ⟨fc⟩ 191 (0,0))+x))))) h) (hfc:fc[1]? = some (.int .i64 sz)) (hcur:s.cur=.pointer none) (hm:n.mode<65536)
  (hdd:dn.dir=some (mb,es)) (hf:lookE es e=none) (hl1:n.links<100000) (hl2:dn.links<100000)
  (K:∀ h,AN ((s.opened (kindB n.mode) (Pt (ad c)) nm sz).res+(pts (ad c) (.cells (Nd.cells {n with links:=n.links+1}) 197 (0,0))+(pts (ad dn.num) (.cells (dn.more mb es e c (kindB n.mode)).cells 197 (0,0))+(pts mb (CP ad (es++[(e,c)]))+x)))) h→Q .nilIface h) :
  O1 Q (Pt s.wb) (str nm) (Pt fb) (Pt (ad dn.num)) (str e) (Pt (ad c)) h:=by
 unfold O1
 have hkv:dn.kids=.map (some mb):=by unfold Nd.kids;rw[hdd];rfl
 simp (disch:=omega) only[go_sem,AF w]
 rw[hkv]
 refine AAP (ad:=ad) (mb:=mb) (es:=es) (nm:=e) (c:=c) (x:=s.res+(pts (ad c) (.cells n.cells 197 (0,0))+(pts (ad dn.num) (.cells dn.cells 197 (0,0))+(pts fb (.cells ⟨fc⟩ 191 (0,0))+x)))) (w.cast (by ac_rfl)) hf fun h w=>?_
 simp (disch:=omega) only[go_sem,AF w]
 refine AL w (Nd.cells {n with links:=n.links+1}) rfl rfl (by simp) rfl fun h w=>?_
 refine Pz _ _ _ (s93 (n:={n with links:=n.links+1}) w hm ?_)
 have hc1:dn.cells=Nd.cells {dn with dir:=some (mb,es++[(e,c)])}:=by unfold Nd.cells Nd.kids;rw[hdd];rfl
 refine AX (fun hk=>?_) (fun hk=>?_)
 ·simp (disch:=omega) only[go_sem,AF w]
  refine AL w (dn.more mb es e c (kindB n.mode)).cells ?_ rfl (by simp) rfl fun h w=>?_
  ·rw[hc1]
   have:kindB n.mode=16384:=hk
   unfold Nd.more
   rw[A03 this]
   rfl
  ·refine AA4 (n:={n with links:=n.links+1}) (x:=pts (ad dn.num) (.cells (dn.more mb es e c (kindB n.mode)).cells 197 (0,0))+(pts mb (CP ad (es++[(e,c)]))+x)) (w.cast (by ac_rfl)) hfc hcur hm K
 ·have:kindB n.mode≠16384:=hk
  have hc2:dn.cells=(dn.more mb es e c (kindB n.mode)).cells:=by rw[hc1];unfold Nd.more;rw[A05 this];rfl
  rw[hc2] at w
  exact AA4 (n:={n with links:=n.links+1}) (x:=pts (ad dn.num) (.cells (dn.more mb es e c (kindB n.mode)).cells 197 (0,0))+(pts mb (CP ad (es++[(e,c)]))+x)) (w.cast (by ac_rfl)) hfc hcur hm K
abbrev Jy (ad:Nat→Nat)(m nb:Nat):Nat→Nat:=fun k=>if k=m then nb else ad k
abbrev Wl (L:List (Option Nd))(d:Nat)(dn n:Nd)(mb:Nat)(es:List (Bs×Nat))(e:Bs):List (Option Nd):=
 (L++[some {n with links:=n.links+1}]).set (d-1) (some (dn.more mb es e (L.length+1) (kindB n.mode)))
theorem AFI {s:WS}{ad:Nat→Nat}{L:List (Option Nd)}{tr:Res}{nm e:Bs}{d fb mb:Nat}{dn:Nd}{es:List (Bs×Nat)}{f:FL}(ok:FOK s ad L tr)(g:JX x)
  (w:AN (FR s ad L tr+(pts fb (.cells ⟨f.cells (.map none)⟩ 191 (0,0))+x)) h) (hcur:s.cur=.pointer none) (hlen:L.length<9999) (hd1:1≤d) (hdn:L[d-1]? = some (some dn)) (hdd:dn.dir=some (mb,es)) (hf:lookE es e=none) (hlk:dn.links<65000)
  (hm:f.mode<65536) (hk:kindOk (kindB (modeK f.mode))) (h1:f.at_.ok) (h2:f.ct.ok) (h3:f.mt.ok) (h4:f.cr.ok) (hsz:f.size≤137438953472)
  (K:∀ n nb inv tr' h,MX f (L.length+1) s.inl (modeK f.mode) n→FOK (WS.opened {s with inv:=inv} (kindB n.mode) (Pt nb) nm f.size) (Jy ad (L.length+1) nb) (Wl L d dn n mb es e) tr' →
   AN (FR (WS.opened {s with inv:=inv} (kindB n.mode) (Pt nb) nm f.size) (Jy ad (L.length+1) nb) (Wl L d dn n mb es e) tr'+x) h→Q .nilIface h) :
  IL Q (Pt s.wb) (str nm) (Pt fb) (Pt (ad d)) (.pointer none) (str e) (.pointer none) h:=by
 have hdl:=(A02.1 hdn).1
 unfold IL
 refine V0 _ _ _ _ _ (s95 ok g w hlen hm hk h1 h2 h3 h4 hsz fun n nb inv tr' fm h isn ok w=>?_)
 have hnm:n.mode<65536:=by have:=(ok.nd L.length n (by simp)).2.2.1;exact this
 have hnl:n.links<100000:=by have:=(ok.nd L.length n (by simp)).2.2.2.1;exact this
 have had:Jy ad (L.length+1) nb d=ad d:=A05 (by omega)
 have hdn1:(L++[some n])[d-1]? = some (some dn):=by rw[A18 hdl];exact hdn
 have hdnum:dn.num=d:=by have:=ok.num _ _ hdn1;omega
 have hsum:sumR (Jy ad (L.length+1) nb) (L++[some n])=n.res (Jy ad (L.length+1) nb)+(dn.res (Jy ad (L.length+1) nb)+sumR (Jy ad (L.length+1) nb) (L.set (d-1) none)):=by
  rw[Dx,Fs hdn];rfl
 have hnb:Jy ad (L.length+1) nb (L.length+1)=nb:=A03 rfl
 simp (disch:=omega) only[go_sem]
 rw[←had,←hdnum]
 have hkr:n.kr (Jy ad (L.length+1) nb)=n.kr (Jy ad (L.length+1) nb):=rfl
 have hptr:Pt nb=Pt (Jy ad (L.length+1) nb (L.length+1)):=by rw[hnb]
 rw[hptr]
 have hdkr:dn.kr (Jy ad (L.length+1) nb)=pts mb (CP (Jy ad (L.length+1) nb) es):=by unfold Nd.kr;rw[hdd]
 refine AFE (s:={s with inv:=inv}) (ad:=Jy ad (L.length+1) nb) (n:=n) (fc:=f.cells (.map (some fm))) (sz:=f.size)
  (x:=tr'+(n.dr+(n.xr+n.kr (Jy ad (L.length+1) nb)))+(dn.dr+dn.xr)+sumR (Jy ad (L.length+1) nb) (L.set (d-1) none)+x) (w.cast ?_) rfl hcur hnm hdd hf hnl (by omega) fun h w=>?_
 ·unfold FR
  rw[hsum]
  unfold Nd.res
  rw[hdkr,isn.num]
  ac_rfl
 ·rw[hnb] at w
  have okn:FOK (WS.opened {s with inv:=inv} (kindB n.mode) (Pt nb) nm f.size) (Jy ad (L.length+1) nb) ((L++[some n]).set L.length (some {n with links:=n.links+1})) tr':=by
   have hlast:(L++[some n])[L.length]? = some (some n):=by simp
   have hnd:=ok.ndOK hlast
   refine F7 ok ?_ ?_ hlast rfl ⟨⟨hnd.1.1,hnd.1.2.1,hnm,?_,hnd.1.2.2.2.2⟩,hnd.2⟩
   ·unfold WS.opened
    split<;>exact⟨ok.ws.buf,ok.ws.len,ok.ws.max⟩
   ·unfold WS.opened
    split<;>rfl
   ·show n.links+1<100000
    have:=isn.links
    split at this<;>omega
  have hset:(L++[some n]).set L.length (some {n with links:=n.links+1})=L++[some {n with links:=n.links+1}]:=by
   rw[List.set_append_right _ _ (A07 _)];simp
  rw[hset] at okn
  have hdn2:(L++[some {n with links:=n.links+1}])[d-1]? = some (some dn):=by rw[A18 hdl];exact hdn
  have hnd2:=okn.ndOK hdn2
  refine K n nb inv tr' h isn (F7 okn okn.ws rfl hdn2 rfl ⟨⟨hnd2.1.1,hnd2.1.2.1,hnd2.1.2.2.1,?_,hnd2.1.2.2.2.2⟩,?_⟩) (w.cast ?_)
  ·show dn.links+(if kindB n.mode=16384 then 1 else 0)<100000
   split<;>omega
  ·intro mb' es' hd' ent hent
   cases hd'
   rcases A88.1 hent with he|he
   ·exact hnd2.2 mb es hdd ent he
   ·rw[A78] at he
    subst he
    exact⟨by show 1≤L.length+1;omega,{n with links:=n.links+1},by show (L++[some {n with links:=n.links+1}])[L.length+1-1]? = _;rw[A79];simp⟩
  ·unfold FR Wl
   rw[GN (by simp;omega),List.set_append_left _ _ hdl,Dx]
   unfold ndR Nd.res
   have e1:(dn.more mb es e (L.length+1) (kindB n.mode)).kr (Jy ad (L.length+1) nb)=pts mb (CP (Jy ad (L.length+1) nb) (es++[(e,L.length+1)])):=rfl
   rw[e1]
   dsimp only
   have hna:Jy ad (L.length+1) nb n.num=nb:=by rw[isn.num];exact hnb
   rw[hna]
   have e2:Nd.kr (Jy ad (L.length+1) nb) {n with links:=n.links+1}=n.kr (Jy ad (L.length+1) nb):=rfl
   rw[e2]
   ac_rfl
end
section
variable {h:H} {k:Value→Prop} {kt Q:Kt} {x y r:Res} {ad:Nat→Nat}
structure PN where
 num:Nat
 size:Nat
 at_:Nat
 ct:Nat
 mt:Nat
 cr:Nat
 mode:Nat
 uid:Nat
 gid:Nat
 links:Nat
 xblk:Nat
 bcnt:Nat
 dmaj:Nat
 dmin:Nat
 flags:Nat
 dbs:Bs
 xbs:Bs
 kids:Option (List (Bs×Nat))
def Nd.pn (n:Nd):PN:=⟨n.num,n.size,n.at_,n.ct,n.mt,n.cr,n.mode,n.uid,n.gid,n.links,n.xblk,n.bcnt,n.dmaj,n.dmin,n.flags,n.dbs,n.xbs,n.dir.map (·.2)⟩
def pnL (L:List (Option Nd)):List (Option PN):=L.map (Option.map Nd.pn)
theorem Js {L:List (Option Nd)}{i:Nat}:(pnL L)[i]? = (L[i]?).map (Option.map Nd.pn):=by unfold pnL;rw[A21]
theorem CF {L:List (Option Nd)}{i:Nat}{p:PN}(h:(pnL L)[i]? = some (some p)):∃ n,L[i]? = some (some n)∧n.pn=p:=by
 rw[Js,A74] at h
 obtain⟨o,h1,h2⟩:=h
 rw[A74] at h2
 obtain⟨n,h3,h4⟩:=h2
 subst h3
 exact⟨n,h1,h4⟩
def D7 (M:List (Option PN))(c:Nat)(nm:Bs):Option Nat:=match M[c-1]? with
 | some (some n)=>match n.kids with|some es=>lookE es nm|none=>none
 | _=>none
def walkP (M:List (Option PN)):Nat→List Bs→Option Nat
 | c,[]=>some c
 | c,e::es=>(D7 M c e).bind fun d=>walkP M d es
theorem UZ {L:List (Option Nd)}{c:Nat}{nm:Bs}:D7 (pnL L) c nm=Dv L c nm:=by
 unfold D7 Dv
 rw[Js]
 cases L[c-1]? with
 | none=>rfl
 | some o=>
  cases o with
  | none=>rfl
  | some n=>
   show (match n.dir.map (·.2) with|some es=>lookE es nm|none=>none)=(match n.dir with|some (_,es)=>lookE es nm|none=>none)
   cases n.dir with
   | none=>rfl
   | some me=>obtain⟨a,b⟩:=me;rfl
theorem OY {L:List (Option Nd)}:∀ (ns:List Bs) (c:Nat),walkP (pnL L) c ns=walk L c ns
 | [],_=>rfl
 | e::es,c=>by
  rw[walkP,walk,UZ]
  cases Dv L c e with
  | none=>rfl
  | some d=>exact OY es d
def newP (f:FL)(num:Nat)(inl:Bool):PN:=
 let m:=modeK f.mode
 ⟨num,szK (kindB m) f.size,f.at_.laid,f.ct.laid,f.mt.laid,f.cr.laid,m,f.uid,f.gid,if kindB m=16384 then 1 else 0,0,0,f.dmaj,f.dmin,flK inl (kindB m) f.size,datK inl (kindB m) f.size,xinK inl (kindB m) f.size,if kindB m=16384 then some [] else none⟩
theorem MX.pn {f:FL}{num:Nat}{inl:Bool}{n:Nd}(i:MX f num inl (modeK f.mode) n):n.pn=newP f num inl:=by
 have hd:=i.dir
 have h1:n.dir.map (·.2)=if kindB (modeK f.mode)=16384 then some [] else none:=by
  split at hd
  ·obtain⟨mb,hd⟩:=hd;rw[hd];rename_i h;rw[A03 h];rfl
  ·rw[hd];rename_i h;rw[A05 h];rfl
 unfold Nd.pn newP
 rw[h1,i.num,i.mode,i.size,i.own.1,i.own.2,i.time.1,i.time.2.1,i.time.2.2.1,i.time.2.2.2,i.links,i.blk.1,i.blk.2,i.dev.1,i.dev.2,i.flags,i.dat,i.xat]
def D0 (M:List (Option PN))(d:Nat)(q p:PN)(es:List (Bs×Nat))(e:Bs):List (Option PN):=
 (M++[some {p with links:=p.links+1}]).set (d-1) (some {q with kids:=some (es++[(e,M.length+1)]),links:=q.links+(if kindB p.mode=16384 then 1 else 0)})
theorem Zz {L:List (Option Nd)}{d mb:Nat}{dn n:Nd}{es:List (Bs×Nat)}{e:Bs}:pnL (Wl L d dn n mb es e)=D0 (pnL L) d dn.pn n.pn es e:=by
 unfold Wl D0 pnL
 rw[B22,A36,A25]
 rfl
structure PS where
 M:List (Option PN)
 B:Bs
 pos:Nat
 cur:Option Nat
 dw:Nat
 dm:Nat
 inl:Bool
 max:Nat
 gd:Nat
 db:Nat
structure AGi (wb:Nat) (S:PS) (s:WS) (ad:Nat→Nat) (L:List (Option Nd)) (tr:Res):Prop where
 ok:FOK s ad L tr
 wb:s.wb=wb
 ini:s.ini=true
 M:pnL L=S.M
 B:s.B=S.B
 pos:s.pos=S.pos
 dpos:s.dpos=S.pos
 dw:s.dw=S.dw
 dm:s.dm=S.dm
 cur:s.cur=ptrC ad S.cur
 inl:s.inl=S.inl
 max:s.max=S.max
 gd:s.gd=S.gd
 db:s.db=S.db
def BM (wb:Nat)(ad:Nat→Nat)(S:PS)(x:Res)(h:H):Prop:=∃ s L tr,AGi wb S s ad L tr∧AN (FR s ad L tr+x) h
theorem BM.mono {wb:Nat}{S:PS}(p:BM wb ad S (x+y) h):BM wb ad S x h:=by
 obtain⟨s,L,tr,a,w⟩:=p
 exact⟨s,L,tr,a,AN.left (y:=y) (w.cast (by ac_rfl))⟩
theorem BM.cast {wb:Nat}{S:PS}(p:BM wb ad S x h)(e:x=y):BM wb ad S y h:=e▸p
def PS.idle (S:PS):PS:={S with cur:=none,dw:=0,dm:=0}
def PN.ext (n:PN)(pos dw:Nat):PN:={n with dbs:=extRoot ((Eu pos-(pos-dw))/4096) ((pos-dw)/4096),flags:=n.flags ||| 524288,bcnt:=n.bcnt+(Eu pos-(pos-dw))/4096}
def PS.shut (S:PS)(c:Nat)(n:PN):PS:={S with M:=S.M.set (c-1) (some (n.ext S.pos S.dw)),B:=I1 S.B S.pos,pos:=Eu S.pos,cur:=none,dw:=0,dm:=0}
inductive Fin:PS→PS→Prop
 | none {S:PS}:S.cur=none→Fin S S
 | small {S:PS} {c:Nat} {n:PN}:S.cur=some c→1≤c→S.M[c-1]? = some (some n)→S.dw=S.dm→(S.dm=0∨n.flags=268697600)→Fin S S.idle
 | big {S:PS} {c:Nat} {n:PN}:S.cur=some c→1≤c→S.M[c-1]? = some (some n)→S.dw=S.dm→1≤S.dm→n.flags=262144→S.dw≤S.pos→(S.pos-S.dw)%4096=0→S.B.length≤S.pos→S.dw≤134000000→S.pos+4096≤S.max→n.bcnt<1000000→Fin S (S.shut c n)
theorem Jq {wb:Nat}{S S':PS}(p:BM wb ad S x h)(f:Fin S S')(K:∀ h,BM wb ad S' x h→Q .nilIface h):UX (Pt wb) h Q:=by
 obtain⟨s,L,tr,a,w⟩:=p
 rw[←a.wb]
 cases f with
 | none hc=>exact AIX (x:=tr+sumR ad L+x) (w.cast (by unfold FR;ac_rfl)) a.ini (by rw[a.cur,hc];rfl) (K _ ⟨s,L,tr,a,w⟩)
 | small hc h1 hn hdw hfl=>
  rename_i c n
  obtain⟨m,hm,rfl⟩:=CF (a.M▸hn)
  refine AHU a.ok w a.ini (by rw[a.cur,hc];rfl) h1 hm (by rw[a.dw,a.dm,hdw]) (by rw[a.dm];exact hfl) fun h ok w=>K h ⟨s.idle,L,tr,?_,w⟩
  exact⟨ok,a.wb,a.ini,a.M,a.B,a.pos,a.dpos,rfl,rfl,rfl,a.inl,a.max,a.gd,a.db⟩
 | big hc h1 hn hdw hd1 hfl hle hal hB h2 hm hbc=>
  rename_i c n
  obtain⟨m,hm',rfl⟩:=CF (a.M▸hn)
  refine AHk a.ok w a.ini (by rw[a.cur,hc];rfl) h1 hm' (by rw[a.dw,a.dm,hdw]) (by rw[a.dm];exact hd1) hfl (by rw[a.dw,a.pos];exact hle) (by rw[a.pos,a.dw];exact hal) (by rw[a.dpos,a.pos]) (by rw[a.B,a.pos];exact hB) (by rw[a.dw];exact h2) (by rw[a.pos,a.max];exact hm) hbc
   fun dv r ev er h ok w=>K h ⟨s.shut dv r,L.set (c-1) (some (m.ext s ev er)),tr,?_,w⟩
  refine⟨ok,a.wb,a.ini,?_,?_,?_,?_,rfl,rfl,rfl,a.inl,a.max,a.gd,a.db⟩
  ·unfold pnL PS.shut
   rw[B22,←a.M,←a.pos,←a.dw]
   rfl
  ·show I1 s.B s.pos=I1 S.B S.pos
   rw[a.B,a.pos]
  ·show Eu s.pos=Eu S.pos
   rw[a.pos]
  ·show Eu s.pos=Eu S.pos
   rw[a.pos]
def PS.wrote (S:PS)(bs:Bs):PS:={S with B:=BG S.B S.pos bs,pos:=S.pos+bs.length,dw:=S.dw+bs.length}
def PS.inned (S:PS)(c:Nat)(n:PN)(bs:Bs):PS:={S with M:=S.M.set (c-1) (some {n with dbs:=setL n.dbs S.dw bs}),dw:=S.dw+bs.length}
inductive Wrt (bs:Bs):PS→PS→Prop
 | none {S:PS}:bs=[]→Wrt bs S S
 | disk {S:PS} {c:Nat} {n:PN}:S.cur=some c→1≤c→S.M[c-1]? = some (some n)→0<bs.length→n.flags=262144→S.dw+bs.length≤S.dm→S.dm<9223372036854775808→S.pos+bs.length≤S.max→Wrt bs S (S.wrote bs)
 | inode {S:PS} {c:Nat} {n:PN}:S.cur=some c→1≤c→S.M[c-1]? = some (some n)→0<bs.length→n.flags=268697600→S.dw+bs.length≤S.dm→S.dm=n.dbs.length→n.dbs.length≤1000000→Wrt bs S (S.inned c n bs)
theorem G1 {wb:Nat}{S S':PS}{v:Value}{bs:Bs}(p:BM wb ad S x h)(d:RdX x v bs)(f:Wrt bs S S')(K:∀ h,BM wb ad S' x h→Q (.tuple #[.int .i64 (bs.length:Nat),.nilIface]) h):ZX (Pt wb) v h Q:=by
 obtain⟨s,L,tr,a,w⟩:=p
 cases f with
 | none hb=>
  subst hb
  obtain⟨a',c',hv⟩:=d.len
  exact AEp hv (K h ⟨s,L,tr,a,w⟩)
 | disk hc h1 hn hp hfl hfit hdm hm=>
  rename_i c n
  obtain⟨m,hm',rfl⟩:=CF (a.M▸hn)
  obtain⟨w',hnum⟩:=CG a.ok h1 hm' w
  rw[←a.wb]
  refine AHj (nb:=ad c) (n:=m) (x:=m.dr+(m.xr+m.kr ad)+(tr+sumR ad (L.set (c-1) none))+x) a.ok.ws (w'.cast (by unfold Nd.res;rw[hnum];ac_rfl)) d.addR (by rw[a.cur,hc];rfl) hfl hp (by rw[a.dw,a.dm];exact hfit) (by rw[a.dm];exact hdm) (by rw[a.pos,a.max];exact hm) (by rw[a.dpos,a.pos]) fun dv r h okw w=>?_
  refine K h ⟨_,L,tr,⟨a.ok.ws' (s':={s with dv:=dv,dr:=r,B:=BG s.B s.pos bs,dpos:=s.pos+bs.length,pos:=s.pos+bs.length,dw:=s.dw+bs.length}) okw rfl,a.wb,a.ini,a.M,?_,?_,?_,?_,a.dm,a.cur,a.inl,a.max,a.gd,a.db⟩,w.cast ?_⟩
  ·show BG s.B s.pos bs=BG S.B S.pos bs
   rw[a.B,a.pos]
  ·show s.pos+bs.length=S.pos+bs.length
   rw[a.pos]
  ·show s.pos+bs.length=S.pos+bs.length
   rw[a.pos]
  ·show s.dw+bs.length=S.dw+bs.length
   rw[a.dw]
  ·unfold FR
   rw[Fs hm']
   unfold Nd.res
   rw[hnum]
   ac_rfl
 | inode hc h1 hn hp hfl hfit hdm hbig=>
  rename_i c n
  obtain⟨m,hm',rfl⟩:=CF (a.M▸hn)
  obtain⟨w',hnum⟩:=CG a.ok h1 hm' w
  have hnd:=a.ok.ndOK hm'
  rw[←a.wb]
  refine AHG (nb:=ad c) (n:=m) (dbs:=m.dbs) (r:=m.dr) (x:=m.xr+m.kr ad+(tr+sumR ad (L.set (c-1) none))+x) a.ok.ws (w'.cast (by unfold Nd.res;rw[hnum];ac_rfl)) d.addR (by rw[a.cur,hc];rfl) hfl hnd.1.1 hp (by rw[a.dw,a.dm];exact hfit) (by rw[a.dm];exact hdm) hbig fun dv dr h bd w hdv=>?_
  have hl:=(A02.1 hm').1
  refine K h ⟨{s with dw:=s.dw+bs.length},L.set (c-1) (some {m with dbs:=setL m.dbs s.dw bs,dr:=dr}),tr,⟨F7 a.ok ⟨a.ok.ws.buf,a.ok.ws.len,a.ok.ws.max⟩ rfl hm' rfl ⟨⟨by rw[←hdv];exact bd,hnd.1.2.1,hnd.1.2.2.1,hnd.1.2.2.2.1,hnd.1.2.2.2.2⟩,hnd.2⟩,a.wb,a.ini,?_,a.B,a.pos,a.dpos,?_,a.dm,a.cur,a.inl,a.max,a.gd,a.db⟩,w.cast ?_⟩
  ·unfold pnL PS.inned
   rw[B22,←a.M,←a.dw]
   rfl
  ·show s.dw+bs.length=S.dw+bs.length
   rw[a.dw]
  ·unfold FR
   rw[GN hl]
   unfold Nd.res Nd.kr
   dsimp only
   rw[show ad m.num=ad c by rw[hnum]]
   ac_rfl
def PS.made (S:PS)(d:Nat)(q:PN)(es:List (Bs×Nat))(e:Bs)(f:FL):PS:=
 let p:=newP f (S.M.length+1) S.inl
 let T:={S with M:=D0 S.M d q p es e}
 if kindB (modeK f.mode)=32768 then {T with cur:=some (S.M.length+1),dw:=0,dm:=f.size} else T
structure FileOK (f:FL):Prop where
 mode:f.mode<65536
 kind:kindOk (kindB (modeK f.mode))
 at_:f.at_.ok
 ct:f.ct.ok
 mt:f.mt.ok
 cr:f.cr.ok
 size:f.size≤137438953472
theorem K3 {wb fb:Nat}{S:PS}{nm e:Bs}{st:List Bs}{d:Nat}{q:PN}{es:List (Bs×Nat)}{f:FL}(hfin:∀ Q:Kt,(∀ ad h,BM wb ad S (pts fb (.cells ⟨f.cells (.map none)⟩ 191 (0,0))+x) h→Q .nilIface h)→UX (Pt wb) h Q)(g:JX x)
  (hcur:S.cur=none) (hlen:S.M.length<9999) (hroot:∃ n,S.M[1]? = some (some n)) (hl:nm.length≤100000) (hst:cleanR nm=st++[e]) (he:e.length≤255) (hwalk:walkP S.M 2 st=some d)
  (hd1:1≤d) (hdn:S.M[d-1]? = some (some q)) (hdir:kindB q.mode=16384) (hdd:q.kids=some es) (hf:lookE es e=none) (hlk:q.links<65000) (fo:FileOK f) (K:∀ ad h,BM wb ad (S.made d q es e f) x h→Q .nilIface h):f55 (Pt wb) (str nm) (Pt fb) h Q:=by
 unfold f55
 refine ND _ _ _ (hfin _ fun ad h p=>?_)
 obtain⟨s,L,tr,a,w⟩:=p
 obtain⟨dn,hdn',hq⟩:=CF (a.M▸hdn)
 obtain⟨q0,hq0⟩:=hroot
 rw[←a.M] at hq0
 obtain⟨nr,hnr,_⟩:=CF hq0
 subst hq
 obtain⟨mb,hmb⟩:∃ mb,dn.dir=some (mb,es):=by
  have:dn.dir.map (·.2)=some es:=hdd
  rw[A74] at this
  obtain⟨⟨a,b⟩,h1,h2⟩:=this
  cases h2
  exact⟨a,h1⟩
 have hlenM:L.length=S.M.length:=by rw[←a.M];simp[pnL]
 have hcurs:s.cur=.pointer none:=by rw[a.cur,hcur];rfl
 rw[←a.wb]
 simp (disch:=omega) only[go_sem]
 refine ACn _ _ _ _ _ (s92 (must:=false) a.ok w ⟨by omega,nr,hnr⟩ hl hst he (by rw[←OY,a.M];exact hwalk) hdn' hd1 hdir (by simp) fun h w=>?_)
 have hch:Dv L d e=none:=by unfold Dv;rw[hdn'];simp only;rw[hmb];exact hf
 rw[hch]
 simp (disch:=omega) only[go_sem,ptrC,AF w]
 obtain⟨w',hnum⟩:=CG a.ok hd1 hdn' w
 have hlk':dn.links<65000:=hlk
 have fin:IL Q (Pt s.wb) (str nm) (Pt fb) (Pt (ad d)) (.pointer none) (str e) (.pointer none) h:=AFI a.ok g w hcurs (by omega) hd1 hdn' hmb hf hlk fo.mode fo.kind fo.at_ fo.ct fo.mt fo.cr fo.size fun n nb inv tr' h isn ok w=>by
  refine K _ h ⟨_,_,_,⟨ok,?_,?_,?_,?_,?_,?_,?_,?_,?_,?_,?_,?_,?_⟩,w⟩
  all_goals try rw[isn.mode]
  all_goals try unfold WS.opened
  all_goals try unfold PS.made
  ·split<;>exact a.wb
  ·split<;>exact a.ini
  ·rw[Zz,isn.pn,a.M,hlenM,a.inl];split<;>rfl
  ·split<;>exact a.B
  ·split<;>exact a.pos
  ·split<;>exact a.dpos
  ·split<;>first|rfl|exact a.dw
  ·split<;>first|rfl|exact a.dm
  ·rw[←hlenM]
   split
   ·show Pt nb=Pt (Jy ad (L.length+1) nb (L.length+1))
    unfold Jy;rw[A03 rfl]
   ·show s.cur=ptrC _ S.cur
    rw[a.cur,hcur];rfl
  ·split<;>exact a.inl
  ·split<;>exact a.max
  ·split<;>exact a.gd
  ·split<;>exact a.db
 have hand:(f.mode &&& 61440)=kindB f.mode:=rfl
 have hfm:=fo.mode
 simp (disch:=omega) only[go_sem,AF w]
 refine C3 (fun hkd=>?_) (fun hkd=>fin)
 rw[←hnum] at fin ⊢
 simp (disch:=omega) only[go_sem,AF w',A08]
 exact fin
end
end Go.Proofs.YtollddkkdgoonaaGreatDoor
