/- A part of a proof over images that are written and read. No condition; a step. -/
import Derived.Test.YtollddkkdgoonaaGreatDoorM17
namespace Go.Proofs.YtollddkkdgoonaaGreatDoor
open Go
set_option linter.unusedVariables false
set_option linter.unusedSimpArgs false
set_option maxRecDepth 100000
section
variable {h:H} {k:Value→Prop} {kt Q:Kt} {x y z r:Res} {v:VS}
attribute [local irreducible] AK Az AQ BB Ae AY AH AM VS.cells XN.cells
inductive BlkR:Bs→List EN→Prop
 | nil:BlkR [] []
 | cons {b:Bs} {l1 l2:List EN}:4096≤b.length→EntR (b.take 4096) l1→BlkR (b.drop 4096) l2→BlkR b (l1++l2)
theorem BlkR.len:∀ {b:Bs} {l:List EN},BlkR b l→l.length≤b.length∧b.length%4096=0
 | _,_,.nil=>⟨A07 _,rfl⟩
 | _,_,.cons h e r=>by
  have h1:=e.len
  have h2:=r.len
  rw[A20] at h1
  rw[A27] at h2
  rw[A01]
  omega
theorem PJ {l m:List EN}:entC (l++m)=entC l++entC m:=by unfold entC;rw[A73]
theorem Eb:∀ {l:List EN} {i:Nat} {e:EN},l[i]? = some e→(entC l)[i*3+0]? = some (str e.1)∧(entC l)[i*3+1]? = some (.int .u64 (e.2.1:Nat))∧(entC l)[i*3+2]? = some (.int .u64 (e.2.2:Nat))∧((entC l).drop (i*3)).take 3=e.cells
 | a::l,0,e,h=>by
  simp only[A51,A26] at h
  subst h
  exact⟨rfl,rfl,rfl,rfl⟩
 | a::l,i+1,e,h=>by
  have:=Eb (l:=l) (i:=i) (e:=e) (by simpa using h)
  rw[show (i+1)*3+0=(i*3+0)+3 by omega,show (i+1)*3+1=(i*3+1)+3 by omega,show (i+1)*3+2=(i*3+2)+3 by omega,show (i+1)*3=i*3+3 by omega]
  exact this
 | [],_,_,h=>by simp at h
section
variable {X:XN} {cv ev xv bv x0:Value} {b C:Bs} {es:List Value} {ib n par:Nat} {l:List EN}
theorem ABv {x2:Value}(d:RdX x bv b)(e:BlkR b l)(hb:b.length<10000000)(dv:Vec 114 3 ev n es r)(hn:n≤10000000)(w:AN (pts ib (.cells ⟨X.cells cv ev xv⟩ 81 (0,0))+(r+x)) h)
  (K:∀ ev r h,Vec 114 3 ev (n+l.length) (es++entC l) r→AN (pts ib (.cells ⟨X.cells cv ev xv⟩ 81 (0,0))+(r+x)) h→Hf Q x0 (Pt ib) x2 h):QE Q x0 (Pt ib) x2 bv h:=by
 have hel0:=e.len
 unfold QE
 refine Ba (fun m u h'=>∃ bv b l' n' es' ev r,m=b.length∧u=bv∧RdX x bv b∧BlkR b l'∧b.length<10000000∧Vec 114 3 ev n' es' r∧n'+l'.length=n+l.length∧es'++entC l'=es++entC l∧AN (pts ib (.cells ⟨X.cells cv ev xv⟩ 81 (0,0))+(r+x)) h') b.length ⟨bv,b,l,n,es,ev,r,rfl,rfl,d,e,hb,dv,rfl,rfl,w⟩ ?_
 rintro rec m u h' ⟨bv,b,l',n',es',ev,r,rfl,rfl,d,e,hb',dv,hl,hes,w⟩ hrec
 have hel:=e.len
 obtain⟨ba,bc',hbv⟩:=d.len
 unfold Qz Ucm Ucl
 rw[hbv,Aw,BD,←hbv]
 refine AX (fun hc=>?_) (fun hc=>?_)
 ·cases e with
  | nil=>simp at hc
  | cons g1 g2 g3=>
   rename_i l1 l2
   rw[A01] at hl hel
   refine d.slice (i:=0) (j:=4096) rfl Ec (A39 _) g1 fun u' d'=>?_
   rw[A68] at d'
   refine ZN (AHJ d' g2 (by rw[A20];omega) dv (by omega) w fun ev' r' h dv' w=>?_)
   refine d.slice (i:=4096) (j:=b.length) Ec rfl g1 (A07 _) fun u2 d2=>?_
   rw[A38] at d2
   have hdl:(b.drop 4096).length=b.length-4096:=A27
   refine hrec _ _ _ ⟨u2,b.drop 4096,l2,n'+l1.length,es'++entC l1,ev',r',rfl,rfl,d2,g3,by omega,dv',by omega,?_,w⟩ (by omega)
   rw[A12,←PJ]
   exact hes
 ·cases e with
  | nil=>
   rw[show es'=es++entC l by simpa[entC] using hes] at dv
   rw[show n'=n+l.length by simpa using hl] at dv
   exact K ev r h' dv w
  | cons g1 g2 g3=>omega
end
end
section
variable {h:H} {k:Value→Prop} {kt Q:Kt} {x y z r:Res} {v:VS}
attribute [local irreducible] AK Az AQ BB Ae AY AH AM VS.cells XN.cells
theorem VecX.pre {T:TypeId}{sz n i:Nat}{kk:IntKind}{v:Value}{vs:List Value}(d:VecX T sz v n vs x)(hi:i≤n)(K:∀ v',VecX T sz v' i (vs.take (i*sz)) x→k v'):AZ (.slice sz) v none (some (.int kk (i:Int))) k:=by
 obtain⟨r,y,rfl,d⟩:=d
 cases d with
 | nil=>
  obtain rfl:i=0:=by omega
  refine⟨.slice none 0 0,?_,K _ ⟨_,y,rfl,by rw[A92];exact .nil⟩⟩
  have e1:Ay 0 (some (.int kk ((0:Nat):Int)))=some 0:=BA
  have e2:Ay 0 none=some 0:=rfl
  simp only[A6,e1,e2]
  rw[A03 ⟨A07 _,A07 _⟩];rfl
 | own hn hc=>
  rename_i b c all
  have hm:i*sz≤n*sz:=A48 sz hi
  refine⟨.slice (some ⟨b,0,none⟩) i c,?_,K _ ⟨_,y,rfl,.own' (by omega) hc (by rw[A95,A30 hm])⟩⟩
  have e1:Ay n (some (.int kk (i:Int)))=some i:=BA
  have e2:Ay 0 none=some 0:=rfl
  simp only[A6,e1,e2]
  rw[A03 ⟨A39 _,by omega⟩]
  by_cases h0:c=0
  ·simp[h0]
  ·rw[A05 h0,A80,Bm];simp
structure NamesOK (l:List EN):Prop where
 nd:∀ (i j:Nat) (p q:EN),l[i]? = some p→l[j]? = some q→j<i→p.1≠q.1
 sl:∀ p∈l,(47:UInt8)∉p.1
 ln:∀ p∈l,p.1.length<1000
section
variable {X:XN} {cv ev xv bv x0:Value} {b C:Bs} {es:List Value} {ib n par i:Nat} {l:List EN} {p:EN}
theorem ADt {rec1:Value→H→Prop}{x8:Nat}{x170 x171:Value}(hs:(47:UInt8)∉p.1)(hl:p.1.length<1000)(hi:i<100000000)(w:AN (pts x8 (.cells ⟨p.cells⟩ 114 (0,0))+(pts ib (.cells ⟨X.cells cv ev xv⟩ 81 (0,0))+x)) h)
  (K:rec1 (.int .i64 (i+1:Nat)) h):Qq Q rec1 x0 (Pt ib) (Pt x8) x170 x171 (.int .i64 (i:Nat)) (.int .i64 ((0:Nat):Int)) h:=by
 unfold Qq
 refine Ba (fun m u h'=>∃ j,m=p.1.length-j∧j≤p.1.length∧u=.int .i64 (j:Nat)∧h'=h) p.1.length ⟨0,rfl,A39 _,rfl,rfl⟩ ?_
 rintro rec m u h' ⟨j,rfl,hj,rfl,rfl⟩ hrec
 have g0:(⟨p.cells⟩:Array Value)[0]? = some (str p.1):=rfl
 unfold Qx Ufl Ucm Unf Ucl
 simp (disch:=omega) only[go_sem,AF w,g0]
 refine AX (fun hc=>?_) (fun hc=>K)
 obtain⟨c,hcj⟩:∃ c,p.1[j]? = some c:=⟨_,A00 (by omega)⟩
 rw[CD hcj]
 have hc47:c≠47:=fun e=>hs (by rw[←e];exact A28 hcj)
 have e1:(AD .neq (bc c) (.int .u8 47))=fun k=>k (.bool true):=funext fun k=>by
  unfold bc
  rw[A3,A04]
  intro e
  apply hc47
  apply UInt8.toNat.inj
  show c.toNat=47
  omega
 simp only[e1]
 refine Al (Da ?_)
 exact hrec (p.1.length-(j+1)) _ _ ⟨j+1,rfl,by omega,rfl,rfl⟩ (by omega)
theorem ACU {rec1:Value→H→Prop}{x8:Nat}{x170 x171 dv:Value}(ok:NamesOK l)(hp:l[i]? = some p)(d:VecX 114 3 dv i ((entC l).take (i*3)) x)(hi:i<100000000)(w:AN (pts x8 (.cells ⟨p.cells⟩ 114 (0,0))+(pts ib (.cells ⟨X.cells cv ev xv⟩ 81 (0,0))+(z+x))) h)
  (K:∀ z h,AN (pts ib (.cells ⟨X.cells cv ev xv⟩ 81 (0,0))+(z+x)) h→rec1 (.int .i64 (i+1:Nat)) h):Rw Q rec1 x0 (Pt ib) (Pt x8) x170 x171 (.int .i64 (i:Nat)) dv (.int .i64 (i:Nat)) (.int .i64 ((0:Nat):Int)) h:=by
 have hpm:p∈l:=A28 hp
 unfold Rw
 refine Ba (fun m u h'=>∃ j z,m=i-j∧j≤i∧u=.int .i64 (j:Nat)∧AN (pts x8 (.cells ⟨p.cells⟩ 114 (0,0))+(pts ib (.cells ⟨X.cells cv ev xv⟩ 81 (0,0))+(z+x))) h') i ⟨0,z,rfl,A39 _,rfl,w⟩ ?_
 rintro rec m u h' ⟨j,z,rfl,hj,rfl,w⟩ hrec
 have g0:(⟨p.cells⟩:Array Value)[0]? = some (str p.1):=rfl
 unfold Rk Ucm Umk Ufl Unf Ucl
 rw[AT]
 refine AX (fun hc=>?_) (fun hc=>ADt (ok.sl p hpm) (ok.ln p hpm) hi w (K _ h' (w.cast (Kq3 _ _ _ _))))
 have hil:i<l.length:=(A02.1 hp).1
 obtain⟨q,hq⟩:∃ q,l[j]? = some q:=⟨_,A00 (by omega)⟩
 refine (d.addR.addR.addR:VecX 114 3 dv i _ _).agg w (by omega) ?_
 have hdr:(((entC l).take (i*3)).drop (j*3)).take 3=q.cells:=by
  rw[A49,A95,A30 (by omega)]
  exact (Eb hq).2.2.2
 rw[hdr]
 refine Ah w Fr rfl fun x10 h w=>?_
 refine AL w ⟨q.cells⟩ rfl rfl (by simp) rfl fun h w=>?_
 have g1:(⟨q.cells⟩:Array Value)[0]? = some (str q.1):=rfl
 have e1:decide (p.1≠q.1)=true:=A04 (ok.nd i j p q hp hq (by omega))
 simp (disch:=omega) only[go_sem,AF w,g0,g1,e1]
 refine Al (Da ?_)
 exact hrec (i-(j+1)) _ _ ⟨j+1,_,rfl,by omega,rfl,w.cast (AK3 _ _ _ _ _)⟩ (by omega)
theorem ADM (ok:NamesOK l)(d:VecX 114 3 ev l.length (entC l) x)(hl:l.length<100000000)(w:AN (pts ib (.cells ⟨X.cells cv ev xv⟩ 81 (0,0))+(z+x)) h)
  (K:∀ z h,AN (pts ib (.cells ⟨X.cells cv ev xv⟩ 81 (0,0))+(z+x)) h→Q (.tuple #[]) h):LK Q x0 (Pt ib) h:=by
 obtain⟨⟨ea,ec,hev⟩,_⟩:=d.len
 unfold LK Unf
 rw[AIw]
 refine AW w XN.g19 ?_
 rw[hev,Aw,←hev]
 unfold V3
 refine Ba (fun m u h'=>∃ i z,m=l.length-i∧i≤l.length∧u=.int .i64 (i:Nat)∧AN (pts ib (.cells ⟨X.cells cv ev xv⟩ 81 (0,0))+(z+x)) h') l.length ⟨0,z,rfl,A39 _,rfl,w⟩ ?_
 rintro rec m u h' ⟨i,z,rfl,hi,rfl,w⟩ hrec
 unfold Rp Ucm Umk Unf
 rw[AT]
 refine AX (fun hc=>?_) (fun hc=>K z h' w)
 have hil:i<l.length:=by omega
 obtain⟨p,hp⟩:∃ p,l[i]? = some p:=⟨_,A00 hil⟩
 refine (d.addR.addR:VecX 114 3 ev l.length _ _).agg w hil ?_
 rw[(Eb hp).2.2.2]
 refine Ah w Fr rfl fun x8 h w=>?_
 refine AL w ⟨p.cells⟩ rfl rfl (by simp) rfl fun h w=>?_
 rw[AIw]
 refine AW w XN.g19 ?_
 refine d.pre hi fun v' d'=>?_
 obtain⟨⟨va,vc,hv'⟩,_⟩:=d'.len
 rw[hv',Aw,←hv']
 exact ACU ok hp d' (by omega) w fun z h w=>hrec (l.length-(i+1)) _ _ ⟨i+1,z,rfl,by omega,rfl,w⟩ (by omega)
end
end
section
variable {h:H} {k:Value→Prop} {kt Q:Kt} {x y z r:Res} {v:VS}
attribute [local irreducible] AK Az AQ BB Ae AY AH AM VS.cells XN.cells
section
variable {X:XN} {cv ev xv bv x0:Value} {b C:Bs} {ib n par:Nat} {l:List EN}
theorem ABn (ok:NamesOK l)(h0:l[0]? = some ([46],X.num,2))(h1:l[1]? = some ([46,46],par,2))(d:VecX 114 3 ev l.length (entC l) x)(hl:l.length<100000000)(w:AN (pts ib (.cells ⟨X.cells cv ev xv⟩ 81 (0,0))+x) h)
  (K:∀ z h,AN (pts ib (.cells ⟨X.cells cv ev xv⟩ 81 (0,0))+(z+x)) h→Q (.tuple #[]) h):Hf Q x0 (Pt ib) (.int .u64 (par:Nat)) h:=by
 obtain⟨⟨ea,ec,hev⟩,_⟩:=d.len
 have hl2:1<l.length:=(A02.1 h1).1
 have e1:decide ((l.length:Int)<2)=false:=A08 (by omega)
 have dx:VecX 114 3 ev l.length (entC l) (pts ib (.cells ⟨X.cells cv ev xv⟩ 81 (0,0))+x):=d.addR
 have c0:=Eb h0
 have c1:=Eb h1
 unfold Hf Unf Ucf Ufl
 rw[AIw]
 refine AW w XN.g19 ?_
 rw[hev,Aw,AT,e1,Cr,AIw]
 refine AW w XN.g19 ?_
 refine dx.cell (i:=0) w (by omega) (by omega) c0.1 ?_
 rw[show (.string ⟨#[46]⟩:Value)=str [46] from rfl,Fq,show decide (([46]:Bs)≠[46])=false from rfl,Cr,AIw]
 refine AW w XN.g19 ?_
 refine dx.cell (i:=1) w (by omega) (by omega) c1.1 ?_
 rw[show (.string ⟨#[46,46]⟩:Value)=str [46,46] from rfl,Fq,show decide (([46,46]:Bs)≠[46,46])=false from rfl]
 unfold Kg Unf Ucl Ufl Ucg
 rw[AU,AIw]
 refine AW w XN.g19 ?_
 refine dx.cell (i:=0) w (by omega) (by omega) c0.2.1 ?_
 rw[AIw]
 refine AW w XN.g0 ?_
 rw[Aa,show decide ((X.num:Int)=(X.num:Int))=true from A04 rfl,Cq,AIw]
 refine AW w XN.g19 ?_
 refine dx.cell (i:=0) w (by omega) (by omega) c0.2.2.1 ?_
 rw[Aa,AIw]
 refine AW w XN.g0 ?_
 refine Al (Da ?_)
 unfold Mm Unf Ufl Ucg Ucl
 rw[AIw]
 refine AW w XN.g19 ?_
 refine dx.cell (i:=1) w (by omega) (by omega) c1.2.1 ?_
 rw[Aa,show decide ((par:Int)=(par:Int))=true from A04 rfl,Cq,AIw]
 refine AW w XN.g19 ?_
 refine dx.cell (i:=1) w (by omega) (by omega) c1.2.2.1 ?_
 rw[Aa,AIw]
 refine AW w XN.g0 ?_
 refine Al (Da ?_)
 exact ADM (z:=0) ok d hl (by rw[Res.zero_add];exact w) K
theorem AG4 (hin:X.inl=false)(d:RdX x cv C)(e:BlkR C l)(hC:C.length<10000000)(ok:NamesOK l)(h0:l[0]? = some ([46],X.num,2))(h1:l[1]? = some ([46,46],par,2))(w:AN (pts ib (.cells ⟨X.cells cv (.slice none 0 0) xv⟩ 81 (0,0))+x) h)
  (K:∀ ev z h,VecX 114 3 ev l.length (entC l) z→AN (pts ib (.cells ⟨X.cells cv ev xv⟩ 81 (0,0))+(z+x)) h→Q (.tuple #[]) h):ACK x0 (Pt ib) (.int .u64 (par:Nat)) h Q:=by
 obtain⟨ca,cc,hcv⟩:=d.len
 have hel:=e.len
 have hl2:1<l.length:=(A02.1 h1).1
 have e1:decide ((C.length:Int)>0)=true:=A04 (by omega)
 have e2:(AD .rem (.int .i64 (C.length:Nat)) (.int .i64 4096))=fun k=>k (.int .i64 ((0:Nat):Int)):=funext fun k=>by rw[LI (by decide),hel.2]
 unfold ACK Unf Ucm Ucl Uff Uld Ukp Ucg
 rw[AIw]
 refine AW w XN.g18 ?_
 rw[AIw]
 refine AW w XN.g21 ?_
 rw[hin,AU,hcv,Aw,Ao,e1,Cq,Aw]
 simp only[e2]
 rw[Aa,AIw,←hcv]
 refine AW w XN.g0 ?_
 refine Al (Da ?_)
 unfold Mq
 refine ABv (n:=0) (es:=[]) d e hC .nil (by omega) (w.cast (by rw[Res.zero_add])) fun ev r h dv w=>?_
 rw[A29,A34] at dv
 refine ABn ok h0 h1 dv.vx.addL (by omega) w fun z h w=>?_
 exact K ev _ h dv.vx.addR (w.cast (Kq2 _ _ _ _))
end
end
section
variable {h:H} {k:Value→Prop} {kt Q:Kt} {x y z r:Res}
inductive VecQ (T:TypeId):Value→Nat→List Value→Res→Prop
 | own {b o n c:Nat} {all:List Value}:n≤c→o+c≤all.length→VecQ T (.slice (some ⟨b,o,none⟩) n c) n ((all.drop o).take n) (pts b (.cells ⟨all⟩ T (0,0)))
theorem VecQ.own' {T:TypeId}{b o n c:Nat}{all vs:List Value}(hn:n≤c)(hc:o+c≤all.length)(ht:(all.drop o).take n=vs):VecQ T (.slice (some ⟨b,o,none⟩) n c) n vs (pts b (.cells ⟨all⟩ T (0,0))):=by
 subst ht;exact .own hn hc
theorem VecQ.len {T:TypeId}{n:Nat}{v:Value}{vs:List Value}(d:VecQ T v n vs r):(∃ a c,v=.slice a n c)∧vs.length=n:=by
 cases d with
 | own hn hc=>exact⟨⟨_,_,rfl⟩,by simp;omega⟩
theorem VecQ.get {T:TypeId}{v u:Value}{n i:Nat}{kk:IntKind}{vs:List Value}(d:VecQ T v n vs r)(w:AN (r+x) h)(hu:vs[i]? = some u)(K:k u):AI (.slice 1) v (.int kk (i:Int)) fun a=>AB false 1 a h k:=by
 have hl:=d.len.2
 have hi:i<vs.length:=(A02.1 hu).1
 cases d with
 | own hn hc=>
  rename_i b o c all
  rw[Cg (by omega),AF w]
  have:(⟨all⟩:Array Value)[o+i]? = some u:=by
   rw[A41] at hu
   split at hu
   ·simpa using hu
   ·cases hu
  rw[this];exact K
theorem VecQ.tail {T:TypeId}{v:Value}{n:Nat}{kk:IntKind}{vs:List Value}(d:VecQ T v n vs r)(hn:1≤n)(K:∀ v',VecQ T v' (n-1) (vs.drop 1) r→k v'):AZ (.slice 1) v (some (.int kk 1)) none k:=by
 cases d with
 | own hn' hc=>
  rename_i b o c all
  have e1:Ay 0 (some (.int kk 1))=some 1:=BA (n:=1)
  have e2:Ay n none=some n:=rfl
  refine⟨.slice (some ⟨b,if c=1 then o else o+1,none⟩) (n-1) (c-1),?_,K _ (.own' (by omega) ?_ ?_)⟩
  ·simp only[A6,e1,e2]
   rw[A03 ⟨hn,hn'⟩]
   by_cases h0:c=1
   ·rw[A03 h0,A03 h0]
   ·rw[A05 h0,A05 h0,A80,Bm]
  ·by_cases h0:c=1
   ·rw[A03 h0];omega
   ·rw[A05 h0];omega
  ·by_cases h0:c=1
   ·have:n=1:=by omega
    subst this
    rw[A49];simp
   ·rw[A05 h0,←A64,A49]
theorem VecQ.push {T:TypeId}{by_ n:Nat}{z:Option Value}{zv v e:Value}{vs:List Value}(d:VecQ T v n vs r)(w:AN (r+x) h)(hz:z=some zv)(hzs:zv.cells=#[zv])(he:e.cells=#[e])(ho:Value.oneCell' e=true)
  (hb:(n+1)*by_≤140737488355328) (hb2:n+1≤140737488355328) (K:∀ v r h,VecQ T v (n+1) (vs++[e]) r→AN (r+x) h→kt v h) :
  AH (.arr 1) T z 1 1 [(0,e)] h fun s h=>AM T z 1 by_ v s h kt:=by
 refine G5 w hz hzs he ho fun eb h w=>?_
 refine⟨1,⟨[e]⟩,rfl,?_,?_⟩
 ·unfold BF
  simp only[w.left.one]
  simp
 cases d with
 | @own b o _ c all hn hc=>
  have w2:AN (pts b (.cells ⟨all⟩ T (0,0))+(pts eb (.cells ⟨[e]⟩ T (0,0))+x)) h:=w.cast (Res.left_comm _ _ _)
  have hsrc:BF 1 n h (.slice (some ⟨b,o,none⟩) n c)=some ⟨(all.drop o).take n⟩:=by
   unfold BF
   simp only[w2.left.one,A86,A45,if_false]
   rw[A03 (by simp;omega)]
   congr 1
   apply A56
   simp[A44]
  have hl:((all.drop o).take n).length=n:=by simp;omega
  refine⟨_,n,c,zv,_,rfl,hz,by rw[hzs];rfl,hb,hb2,hsrc,fun h0=>?_,fun _ b' c' h' hc' hc2 ex hb' ho'=>?_⟩
  ·refine .inr ⟨_,_,T,rfl,rfl,w2.left.one,by simp;omega,by simp[ho],?_⟩
   have hsl:(Ai ⟨all⟩ (o+n*1) [e]).toList.length=all.length:=by rw[B21,FA];rfl
   refine K _ _ _ (.own' (all:=(Ai ⟨all⟩ (o+n*1) [e]).toList) h0 (by rw[hsl];exact hc) ?_) (AN.left (y:=pts eb (.cells ⟨[e]⟩ T (0,0))) (w2.set.cast ?_))
   ·have:=Fz (all:=all) (news:=[e]) (o:=o+n) (by simp;omega)
    rw[A67]
    have h3:((Ai ⟨all⟩ (o+n) [e]).toList.take (o+n+1)).drop o=(all.take (o+n)++[e]).drop o:=by rw[←this];rfl
    rw[A49,show o+n+1-o=n+1 by omega] at h3
    rw[h3,A52 (by simp;omega),A49,A62]
   ·ac_rfl
  ·refine K _ _ h' (.own' (o:=0) (all:=(all.drop o).take n++[e]++(Builtin.zeroCells zv.cells (c'-(n+1))).toList) hc' ?_ ?_) ((w.right.right.new ex hb' ho').cast ?_)
   ·simp only[A01,B21,Io,hzs,hl,A57,A29]
    rw[show (#[zv]:Array Value).size=1 from rfl,A67]
    omega
   ·rw[A68,A24 (by simp[hl]),A43 (by simp[hl])]
   ·congr 2
    simp only[Obj.cells.injEq,and_true]
    apply A56;simp
end
section
variable {h:H} {k:Value→Prop} {kt Q:Kt} {x y z r A:Res} {v:VS}
attribute [local irreducible] AK Az AQ BB Ae AY AH AM VS.cells XN.cells
structure TS where
 seen:List Bool
 par:List Nat
 nam:List Nat
 sub:List Nat
 q:List Nat
def bC (l:List Bool):List Value:=l.map .bool
def nC (l:List Nat):List Value:=l.map fun n=>.int .u64 (n:Nat)
def TR (N:Nat)(S:TS)(x4 x5 x6 x7 x8:Value)(A:Res):Prop:=∃ r4 r5 r6 r7 rq,A=r4+(r5+(r6+(r7+rq)))∧Vec 4 1 x4 N (bC S.seen) r4∧Vec 48 1 x5 N (nC S.par) r5∧Vec 48 1 x6 N (nC S.nam) r6∧Vec 48 1 x7 N (nC S.sub) r7∧VecQ 48 x8 S.q.length (nC S.q) rq
def TS.see (S:TS)(n c:Nat):TS:=if S.seen.getD c false then S else {S with seen:=S.seen.set c true,par:=S.par.set c n,q:=S.q++[c]}
theorem NF {l:List Bool}{i:Nat}(h:i<l.length):(bC l)[i]? = some (.bool (l.getD i false)):=by
 unfold bC
 rw[A21,A00 h,A10,A00 h];rfl
theorem HZ {l:List Nat}{i:Nat}(h:i<l.length):(nC l)[i]? = some (.int .u64 (l.getD i 0:Nat)):=by
 unfold nC
 rw[A21,A00 h,A10,A00 h];rfl
theorem Qe {l:List Bool}{i:Nat}{b:Bool}:(bC l).set i (.bool b)=bC (l.set i b):=by unfold bC;rw[B22]
theorem Nh {l:List Nat}{i n:Nat}:(nC l).set i (.int .u64 (n:Nat))=nC (l.set i n):=by unfold nC;rw[B22]
section
variable {N eb n c i:Nat} {S:TS} {e:EN} {x0 x1 x4 x5 x6 x7 x8 x10 x69 x70:Value} {rec2:Value→H→Prop} {rec3:Value→Value→H→Prop}
theorem ABZ (t:TR N S x4 x5 x6 x7 x8 A)(hc:e.2.1<N)(hq:S.q.length<1000000)(hi:i<100000000)(w:AN (pts eb (.cells ⟨e.cells⟩ 114 (0,0))+(A+x)) h)
  (K:∀ x8 A h,TR N (S.see n e.2.1) x4 x5 x6 x7 x8 A→AN (pts eb (.cells ⟨e.cells⟩ 114 (0,0))+(A+x)) h→rec3 x8 (.int .i64 (i+1:Nat)) h) :
  N7 Q rec2 rec3 x0 x1 x4 x5 x6 x7 x8 (.int .u64 (n:Nat)) x10 (Pt eb) x69 x70 (.int .i64 (i:Nat)) h:=by
 obtain⟨r4,r5,r6,r7,rq,rfl,a4,a5,a6,a7,aq⟩:=t
 have g1:(⟨e.cells⟩:Array Value)[1]? = some (.int .u64 (e.2.1:Nat)):=rfl
 have hl4:e.2.1<S.seen.length:=by have:=a4.len.2;unfold bC at this;rw[A25] at this;omega
 have f1:(AD .add (.int .i64 (i:Nat)) (.int .i64 1))=fun k=>k (.int .i64 (i+1:Nat)):=funext fun k=>by
  rw[BN (n:=1),Ci (by omega)]
 unfold N7 Ufl Uil Unt Uld Ukp
 rw[AIq]
 refine AW w g1 ?_
 refine Bu a4 (w.cast (AKv _ _ _ _)) (NF hl4) ?_
 rw[F1]
 cases hs:S.seen.getD e.2.1 false with
 | true=>
  have e1:S.see n e.2.1=S:=by unfold TS.see;rw[hs];rfl
  rw[e1] at K
  show AK (.bool false) _ _
  rw[AU]
  simp only[f1]
  exact K x8 _ h ⟨r4,r5,r6,r7,rq,rfl,a4,a5,a6,a7,aq⟩ w
 | false=>
  have e1:S.see n e.2.1 = {S with seen:=S.seen.set e.2.1 true,par:=S.par.set e.2.1 n,q:=S.q++[e.2.1]}:=by unfold TS.see;rw[hs];rfl
  rw[e1] at K
  show AK (.bool true) _ _
  rw[Ak,AIq]
  refine AW w g1 ?_
  rw[AIq]
  refine AW w g1 ?_
  refine DS (u:=.bool true) a4 (w.cast (AKv _ _ _ _)) hc rfl rfl fun r4 h a4 w=>?_
  refine AIn w g1 ?_
  have k5:∀ R4 E R5 B X:Res,R4+(E+((R5+B)+X))=R5+(R4+(E+(B+X))):=by intros;ac_rfl
  refine DS (u:=.int .u64 (n:Nat)) a5 (w.cast (k5 _ _ _ _ _)) hc rfl rfl fun r5 h a5 w=>?_
  rw[AIq]
  refine AW w g1 ?_
  have k6:∀ R5 R4 E R6 R7 RQ X:Res,R5+(R4+(E+((R6+(R7+RQ))+X)))=RQ+(R5+(R4+(E+((R6+R7)+X)))):=by intros;ac_rfl
  refine aq.push (w.cast (k6 _ _ _ _ _ _ _)) Cb rfl rfl rfl (by omega) (by omega) fun x8 rq h aq w=>?_
  simp only[f1]
  have k7:∀ RQ R5 R4 E R6 R7 X:Res,RQ+(R5+(R4+(E+((R6+R7)+X))))=E+((R4+(R5+(R6+(R7+RQ))))+X):=by intros;ac_rfl
  refine K x8 _ h ⟨r4,r5,r6,r7,rq,rfl,?_,?_,a6,a7,?_⟩ (w.cast (k7 _ _ _ _ _ _ _))
  ·rw[Qe] at a4;exact a4
  ·rw[Nh] at a5;exact a5
  ·show VecQ 48 x8 (S.q++[e.2.1]).length (nC (S.q++[e.2.1])) rq
   rw[A01]
   unfold nC at aq ⊢
   rw[A36]
   exact aq
def TS.ent (S:TS)(n:Nat)(e:EN):TS:=TS.see {S with nam:=S.nam.set e.2.1 (S.nam.getD e.2.1 0+1),sub:=if e.2.2=2 then S.sub.set n (S.sub.getD n 0+1) else S.sub} n e.2.1
structure EntOK (I:Bs) (ipg:Nat) (S:TS) (e:EN):Prop where
 i1:11≤e.2.1
 i2:e.2.1≤ipg
 kind:kindL (leL (rawL I e.2.1) 0 2)=e.2.2
 dir:e.2.2=2→S.seen.getD e.2.1 false=false
theorem AF8 {v:VS}(ok:v.OK x)(hit:itL v.I*4096+v.ipg*256≤v.I.length)(t:TR N S x4 x5 x6 x7 x8 A)(hN:N=v.ipg+1)(eo:EntOK v.I v.ipg S e)(hnN:n<N)(hq:S.q.length<1000000)(hb:S.nam.getD e.2.1 0<1000000∧S.sub.getD n 0<1000000)(hi:i<100000000)(w:AN (v.res+((pts eb (.cells ⟨e.cells⟩ 114 (0,0))+A)+x)) h)
  (K:∀ x8 A h,TR N (S.ent n e) x4 x5 x6 x7 x8 A→AN (v.res+((pts eb (.cells ⟨e.cells⟩ 114 (0,0))+A)+x)) h→rec3 x8 (.int .i64 (i+1:Nat)) h) :
  S4 Q rec2 rec3 (Pt v.vb) x1 x4 x5 x6 x7 x8 (.int .u64 (n:Nat)) x10 (Pt eb) x69 x70 (.int .i64 (i:Nat)) h:=by
 obtain⟨r4,r5,r6,r7,rq,rfl,a4,a5,a6,a7,aq⟩:=t
 have hi1:=eo.i1
 have hi2:=eo.i2
 have hc:e.2.1<N:=by omega
 have hl6:e.2.1<S.nam.length:=by have:=a6.len.2;unfold nC at this;rw[A25] at this;omega
 have hl7:n<S.sub.length:=by have:=a7.len.2;unfold nC at this;rw[A25] at this;omega
 have hl4:e.2.1<S.seen.length:=by have:=a4.len.2;unfold bC at this;rw[A25] at this;omega
 have g1:(⟨e.cells⟩:Array Value)[1]? = some (.int .u64 (e.2.1:Nat)):=rfl
 have g2:(⟨e.cells⟩:Array Value)[2]? = some (.int .u64 (e.2.2:Nat)):=rfl
 have lm:leL (rawL v.I e.2.1) 0 2<65536:=Ag
 have hrl:(rawL v.I e.2.1).length≤256:=by unfold rawL;rw[A20];omega
 unfold S4 Ufl Ucl Uil Ucm
 rw[AIq]
 refine AW w g1 ?_
 refine Jj (AAg ok (by omega) hi2 hit w fun bv db=>?_)
 refine DF (p:=0) (n:=2) db.addR.addR w (by decide) (by decide) (by omega) ?_
 refine ACC lm ?_
 refine E9 (YT lm ?_)
 rw[eo.kind,AIq]
 refine AW w g2 ?_
 rw[Aa,show decide ((e.2.2:Int)=(e.2.2:Int))=true from A04 rfl,AIq]
 refine AW w g1 ?_
 refine Al (Da ?_)
 rw[AIq]
 refine AW w g1 ?_
 have k6:∀ V E R4 R5 R6 R7 RQ X:Res,V+((E+(R4+(R5+(R6+(R7+RQ)))))+X)=R6+(V+(E+(R4+(R5+(R7+RQ)))+X)):=by intros;ac_rfl
 have w:=w.cast (k6 _ _ _ _ _ _ _ _)
 refine Bu a6 w (HZ hl6) ?_
 rw[BN (n:=1),CU (by omega)]
 refine DS (u:=.int .u64 (S.nam.getD e.2.1 0+1:Nat)) a6 w hc rfl rfl fun r6 h a6 w=>?_
 rw[Nh] at a6
 rw[Aa]
 have k7:∀ V E R4 R5 R6 R7 RQ X:Res,R6+(V+(E+(R4+(R5+(R7+RQ)))+X))=R7+(V+(E+(R4+(R5+(R6+RQ)))+X)):=by intros;ac_rfl
 have k8:∀ V E R4 R5 R6 R7 RQ X:Res,R7+(V+(E+(R4+(R5+(R6+RQ)))+X))=E+((R4+(R5+(R6+(R7+RQ))))+(V+X)):=by intros;ac_rfl
 have k9:∀ V E A X:Res,E+(A+(V+X))=V+((E+A)+X):=by intros;ac_rfl
 refine AX (fun hk=>?_) (fun hk=>?_)
 ·have hk2:e.2.2=2:=by omega
  have w:=w.cast (k7 _ _ _ _ _ _ _ _)
  refine Bu a7 w (HZ hl7) ?_
  rw[BN (n:=1),CU (by omega)]
  refine DS (u:=.int .u64 (S.sub.getD n 0+1:Nat)) a7 w hnN rfl rfl fun r7 h a7 w=>?_
  rw[Nh] at a7
  rw[AIq]
  have w:=w.cast (k8 _ _ _ _ _ _ _ _)
  refine AW w g1 ?_
  refine Bu a4 (w.cast (AKv _ _ _ _)) (NF hl4) ?_
  rw[F1,eo.dir hk2,AIq]
  refine AW w g1 ?_
  refine Al (Da ?_)
  refine ABZ (S:={S with nam:=S.nam.set e.2.1 (S.nam.getD e.2.1 0+1),sub:=S.sub.set n (S.sub.getD n 0+1)}) ⟨r4,r5,r6,r7,rq,rfl,a4,a5,a6,a7,aq⟩ hc hq hi w fun x8 A h t w=>K x8 A h ?_ (w.cast (k9 _ _ _ _))
  unfold TS.ent
  rw[A03 hk2]
  exact t
 ·have hk2:¬e.2.2=2:=by omega
  have w:=(w.cast (k7 _ _ _ _ _ _ _ _)).cast (k8 _ _ _ _ _ _ _ _)
  refine ABZ (S:={S with nam:=S.nam.set e.2.1 (S.nam.getD e.2.1 0+1)}) ⟨r4,r5,r6,r7,rq,rfl,a4,a5,a6,a7,aq⟩ hc hq hi w fun x8 A h t w=>K x8 A h ?_ (w.cast (k9 _ _ _ _))
  unfold TS.ent
  rw[A05 hk2]
  exact t
end
end
section
variable {h:H} {k:Value→Prop} {kt Q:Kt} {x y z r A:Res} {v:VS}
attribute [local irreducible] AK Az AQ BB Ae AY AH AM VS.cells XN.cells
def TS.stp (n:Nat)(S:TS)(e:EN):TS:=if e.1=[46]∨e.1=[46,46] then S else S.ent n e
inductive EntsR (I:Bs) (ipg n:Nat):TS→List EN→Prop
 | nil {S:TS}:EntsR I ipg n S []
 | cons {S:TS} {e:EN} {l:List EN}:(e.1=[46]∨e.1=[46,46])∨EntOK I ipg S e→S.q.length<1000000∧S.nam.getD e.2.1 0<1000000∧S.sub.getD n 0<1000000→EntsR I ipg n (S.stp n e) l→EntsR I ipg n S (e::l)
section
variable {N eb n c i:Nat} {S:TS} {e:EN} {l:List EN} {x0 x4 x5 x6 x7 x8 x10 x69 x70:Value} {rec2:Value→H→Prop} {rec3:Value→Value→H→Prop}
theorem AGW (ok:v.OK x)(hit:itL v.I*4096+v.ipg*256≤v.I.length)(d:VecX 114 3 x69 l.length (entC l) x)(hl:l.length<10000000)(t:TR N S x4 x5 x6 x7 x8 A)(hN:N=v.ipg+1)(er:EntsR v.I v.ipg n S l)(hnN:n<N)(w:AN (v.res+(A+(z+x))) h)
  (K:∀ x8 A z h,TR N (l.foldl (TS.stp n) S) x4 x5 x6 x7 x8 A→AN (v.res+(A+(z+x))) h→MG Q rec2 (Pt v.vb) (.int .u64 ((11:Nat):Int)) x4 x5 x6 x7 x8 x10 h) :
  Xu Q rec2 (Pt v.vb) (.int .u64 ((11:Nat):Int)) x4 x5 x6 x7 (.int .u64 (n:Nat)) x10 x69 (.int .i64 (l.length:Nat)) x8 (.int .i64 ((0:Nat):Int)) h:=by
 have hip:=ok.ipg
 obtain⟨R,hR⟩:∃ R,l.foldl (TS.stp n) S=R:=⟨_,rfl⟩
 rw[hR] at K
 unfold Xu
 refine DE (fun m u0 u1 h'=>∃ i S A z,m=l.length-i∧i≤l.length∧u1=.int .i64 (i:Nat)∧TR N S x4 x5 x6 x7 u0 A∧EntsR v.I v.ipg n S (l.drop i)∧(l.drop i).foldl (TS.stp n) S=R∧AN (v.res+(A+(z+x))) h') l.length ⟨0,S,A,z,rfl,A39 _,rfl,t,er,hR,w⟩ ?_
 rintro rec m u0 u1 h' ⟨i,S',A,z,rfl,hi,rfl,t,er,hf,w⟩ hrec
 unfold V7 Ucm Umk Ufl Ucf
 rw[AT]
 refine AX (fun hc=>?_) (fun hc=>?_)
 ·have hil:i<l.length:=by omega
  obtain⟨e,he⟩:∃ e,l[i]? = some e:=⟨_,A00 hil⟩
  have hdr:l.drop i=e::l.drop (i+1):=by
   rw[A50 hil]
   rw[A00 hil] at he
   rw[A14 he]
  rw[hdr] at er hf
  cases er with
  | cons heo hbd er2=>
   refine (d.addR.addR.addR:VecX 114 3 x69 l.length _ _).agg w hil ?_
   rw[(Eb he).2.2.2]
   refine Ah w Fr rfl fun eb h w=>?_
   refine AL w ⟨e.cells⟩ rfl rfl (by simp) rfl fun h w=>?_
   have g0:(⟨e.cells⟩:Array Value)[0]? = some (str e.1):=rfl
   have g1:(⟨e.cells⟩:Array Value)[1]? = some (.int .u64 (e.2.1:Nat)):=rfl
   have f1:(AD .add (.int .i64 (i:Nat)) (.int .i64 1))=fun k=>k (.int .i64 (i+1:Nat)):=funext fun k=>by
    rw[BN (n:=1),Ci (by omega)]
   have skip:(e.1=[46]∨e.1=[46,46])→AD .add (.int .i64 (i:Nat)) (.int .i64 1) fun x164=>rec u0 x164 h:=by
    intro hd
    rw[f1]
    have es:S'.stp n e=S':=A03 hd
    rw[es] at er2
    rw[A71,es] at hf
    exact hrec (l.length-(i+1)) _ _ _ ⟨i+1,S',A,_,rfl,hil,rfl,t,er2,hf,w.cast (AK3 _ _ _ _ _)⟩ (by omega)
   rw[AIq]
   refine AW w g0 ?_
   rw[show (.string ⟨#[46]⟩:Value)=str [46] from rfl,NZ]
   by_cases h1:e.1=[46]
   ·rw[A04 h1,PD]
    exact skip (.inl h1)
   ·rw[A08 h1,Cr,AIq]
    refine AW w g0 ?_
    rw[show (.string ⟨#[46,46]⟩:Value)=str [46,46] from rfl,NZ]
    refine AX (fun h2=>skip (.inr h2)) (fun h2=>?_)
    have heo:=heo.resolve_left (fun o=>o.elim h1 h2)
    have hi1:=heo.i1
    have hi2:=heo.i2
    obtain⟨⟨sa,sc,hx4⟩,_⟩:(∃ a c,x4=.slice a N c)∧True:=by
     obtain⟨_,_,_,_,_,_,a4,_⟩:=t
     exact⟨a4.len.1,trivial⟩
    have e1:decide ((e.2.1:Int)=0)=false:=A08 (by omega)
    have e2:decide ((e.2.1:Int)≥(N:Int))=false:=A08 (by omega)
    have e3:decide ((e.2.1:Int)<((11:Nat):Int))=false:=A08 (by omega)
    unfold WF Ufl Ucf Ucm Ucl
    rw[AIq]
    refine AW w g1 ?_
    rw[Aa,e1,Cr,AIq]
    refine AW w g1 ?_
    rw[hx4,Aw,DO,CU (by omega),BD,e2,Cr,AIq,←hx4]
    refine AW w g1 ?_
    rw[AT,e3,AU]
    have k2:∀ E V A Z X:Res,E+(V+(A+(Z+X)))=V+((E+A)+(Z+X)):=by intros;ac_rfl
    have k3:∀ E V A Z X:Res,V+((E+A)+(Z+X))=V+(A+((E+Z)+X)):=by intros;ac_rfl
    refine AF8 (ok.mono (y:=z)) hit t hN heo hnN hbd.1 ⟨hbd.2.1,hbd.2.2⟩ (by omega) (w.cast (k2 _ _ _ _ _)) fun x8 A h t w=>?_
    have es:S'.stp n e=S'.ent n e:=A05 (fun o=>o.elim h1 h2)
    rw[es] at er2
    rw[A71,es] at hf
    exact hrec (l.length-(i+1)) _ _ _ ⟨i+1,_,A,_,rfl,hil,rfl,t,er2,hf,w.cast (k3 _ _ _ _ _)⟩ (by omega)
 ·have hil:i=l.length:=by omega
  subst hil
  rw[B15,List.foldl_nil] at hf
  rw[hf] at t
  exact K _ A z h' t w
end
end
section
variable {h:H} {k:Value→Prop} {kt Q:Kt} {x y z r A:Res} {v:VS}
def VS.ino (v:VS)(u:Value):VS:={v with iv:=u}
theorem VS.set0 {v:VS}{u:Value}:Ai v.cells 0 [u]=(v.ino u).cells:=rfl
theorem VS.csize {v:VS}:v.cells.size=11:=rfl
attribute [local irreducible] AK Az AQ BB Ae AY AH AM VS.cells XN.cells
theorem VS.OK.ino {u:Value}(ok:v.OK x):(v.ino u).OK x:=⟨ok.rd,ok.len,ok.big,ok.nb,ok.nb1,ok.ow,ok.ipg,ok.ipg1,ok.ipg16⟩
structure AA where
 X:XN
 C:Bs
 l:List (Bs×Bs)
 E:List EN
inductive OutV (x:Res):List Value→List AA→Prop
 | nil:OutV x [] []
 | snoc {cs:List Value} {os:List AA} {o:AA} {cv ev xv:Value} {xas:List Value}:OutV x cs os→RdX x cv o.C→VecX 114 3 ev o.E.length (entC o.E) x→VecX 86 2 xv o.l.length xas x→AtV x xas o.l→OutV x (cs++o.X.cells cv ev xv) (os++[o])
theorem OutV.mono:∀ {cs:List Value} {os:List AA},OutV x cs os→OutV (y+x) cs os
 | _,_,.nil=>.nil
 | _,_,.snoc a b c d e=>.snoc a.mono b.addR c.addR d.addR e.mono
theorem OutV.addL {cs:List Value}{os:List AA}(a:OutV x cs os):OutV (x+y) cs os:=by rw[Res.comm];exact a.mono
section
variable {m n xb:Nat} {o:AA} {os:List AA} {cs xas:List Value} {cv ev xv x1 x4 x5 x6 x7 x8:Value} {rec2:Value→H→Prop}
theorem ABc (d:Vec 81 23 v.iv m cs r)(ov:OutV x cs os)(hm:m<1000000)(dc:RdX x cv o.C)(de:VecX 114 3 ev o.E.length (entC o.E) x)(dx:VecX 86 2 xv o.l.length xas x)(da:AtV x xas o.l)(w:AN (v.res+(r+(pts xb (.cells ⟨o.X.cells cv ev xv⟩ 81 (0,0))+y))) h)
  (K:∀ iv r cs h,Vec 81 23 iv (m+1) cs r→OutV x cs (os++[o])→AN ((v.ino iv).res+(r+(pts xb (.cells ⟨o.X.cells cv ev xv⟩ 81 (0,0))+y))) h→rec2 x8 h):MG Q rec2 (Pt v.vb) x1 x4 x5 x6 x7 x8 (Pt xb) h:=by
 obtain⟨ca,cc,hcv⟩:=dc.len
 obtain⟨⟨ea,ec,hev⟩,_⟩:=de.len
 obtain⟨⟨xa,xc,hxv⟩,_⟩:=dx.len
 have hone:(o.X.cells cv ev xv).all Value.oneCell'=true:=by rw[hcv,hev,hxv];exact XN.one
 have nf:∀ (k:Value→Prop),(AE (Pt v.vb) fun x161=>AC 0 x161 k)=k (.pointer (some ⟨v.vb,0,none⟩)):=fun k=>by simp only[go_sem]
 have hz:(Value.agg ⟨If.cells (.slice none 0 0) (.slice none 0 0) (.slice none 0 0)⟩).cells.size=23:=XN.size_
 unfold MG Uff Uld Ukp
 rw[nf]
 refine AW w VS.g0 ?_
 refine Cj w XN.len ?_
 refine CW d (w.cast (Kq1 _ _ _)) Cy hz XN.len (by omega) (by omega) hone fun b h w=>?_
 refine AIn w VS.g0 ?_
 refine B0 d w Cy hz XN.len hone (by omega) (by omega) fun iv r h d w=>?_
 obtain⟨⟨ia,ic,hiv⟩,_⟩:=d.len
 rw[nf]
 refine AL w (v.ino iv).cells (by rw[hiv];exact VS.set0) (by rw[hiv];rfl) (by rw[VS.csize];omega) (by rw[hiv];rfl) fun h w=>?_
 exact K iv r _ h d (.snoc ov dc de dx da) (w.cast (Kq1 _ _ _).symm)
end
end
section
variable {h:H} {k:Value→Prop} {kt Q:Kt} {x y z r A:Res} {v:VS}
attribute [local irreducible] AK Az AQ BB Ae AY AH AM VS.cells XN.cells
inductive WalkR (I:Bs) (nb ipg:Nat):Nat→Bs→TS→List AA→Bs→TS→List AA→Prop
 | done {ow:Bs} {S:TS} {os:List AA}:S.q=[]→WalkR I nb ipg 0 ow S os ow S os
 | file {k n:Nat} {ow ow1 ow' C:Bs} {S S':TS} {os os':List AA} {q:List Nat} {X:XN} {l:List (Bs×Bs)} {cl:List Nat}:S.q=n::q→1≤n→n≤ipg→InoOK I nb (rawL I n) n X C l cl→Clm cl ow ow1→kindL X.mode≠2 →
   WalkR I nb ipg k ow1 {S with q:=q} (os++[⟨X,C,xaOf l,[]⟩]) ow' S' os'→WalkR I nb ipg (k+1) ow S os ow' S' os'
 | dir {k n:Nat} {ow ow1 ow' C:Bs} {S S':TS} {os os':List AA} {q:List Nat} {X:XN} {l:List (Bs×Bs)} {cl:List Nat} {E:List EN}:S.q=n::q→1≤n→n≤ipg→InoOK I nb (rawL I n) n X C l cl→Clm cl ow ow1→kindL X.mode=2 →
   X.inl=false→BlkR C E→C.length<10000000→NamesOK E→E[0]? = some ([46],X.num,2)→E[1]? = some ([46,46],S.par.getD n 0,2)→E.length<10000000→EntsR I ipg n {S with q:=q} E →
   WalkR I nb ipg k ow1 (E.foldl (TS.stp n) {S with q:=q}) (os++[⟨X,C,xaOf l,E⟩]) ow' S' os'→WalkR I nb ipg (k+1) ow S os ow' S' os'
section
variable {m n N:Nat} {S S':TS} {os os':List AA} {cs:List Value} {x4 x5 x6 x7 x8:Value}
theorem EU {I b C:Bs}{nb n:Nat}{X:XN}{l:List (Bs×Bs)}{cl:List Nat}(io:InoOK I nb b n X C l cl):X.mode<65536∧X.num=n:=by
 have cf:=Fj io.con
 have:leL b 0 2<65536:=Ag
 exact⟨by rw[cf.2.2.1];exact this,by rw[cf.2.2.2.2.2];rfl⟩
theorem AFY {o':Bs}{kk:Nat}(ok:v.OK x)(hit:itL v.I*4096+v.ipg*256≤v.I.length)(hN:N=v.ipg+1)(wr:WalkR v.I v.nb v.ipg kk v.ow S os o' S' os')(hm:m+kk<1000000)(d:Vec 81 23 v.iv m cs r)(ov:OutV z cs os)(t:TR N S x4 x5 x6 x7 x8 A)(w:AN (v.res+(r+(A+(z+x)))) h)
  (K:∀ (rec2:Value→H→Prop) iv r cs A z x8 h,Vec 81 23 iv (m+kk) cs r→OutV z cs os'→TR N S' x4 x5 x6 x7 x8 A→S'.q=[]→((v.ino iv).own o').OK x→AN (((v.ino iv).own o').res+(r+(A+(z+x)))) h→LC Q rec2 (Pt v.vb) (.int .u64 ((11:Nat):Int)) x4 x5 x6 x7 x8 h) :
  X5 Q (Pt v.vb) (.int .u64 ((11:Nat):Int)) x4 x5 x6 x7 x8 h:=by
 unfold X5
 refine Ba (fun kk' u h'=>∃ m' iv ow S os cs r A z,m'+kk'=m+kk∧ow.length=v.ow.length∧WalkR v.I v.nb v.ipg kk' ow S os o' S' os'∧Vec 81 23 iv m' cs r∧OutV z cs os∧TR N S x4 x5 x6 x7 u A∧AN (((v.ino iv).own ow).res+(r+(A+(z+x)))) h') kk ⟨m,v.iv,v.ow,S,os,cs,r,A,z,rfl,rfl,wr,d,ov,t,w⟩ ?_
 rintro rec kk' u h' ⟨m',iv,ow,S,os,cs,r,A,z,hmk,hol,wr,d,ov,t,w⟩ hrec
 have ok1:((v.ino iv).own ow).OK x:=(ok.ino (u:=iv)).own hol
 cases wr with
 | done hq=>exact K rec iv r cs A z u h' (by rw[←hmk];exact d) ov t hq ok1 w
 | file hq h1 h2 io c hk wr2=>
  rename_i k2 n ow1 C q X l cl
  obtain⟨r4,r5,r6,r7,rq,rfl,a4,a5,a6,a7,aq⟩:=t
  rw[hq] at aq
  obtain⟨⟨qa,qc,hu⟩,_⟩:=aq.len
  have hmo:=EU io
  unfold LC Ucm Uil Ucl Umk Ufl Unf
  rw[hu,Aw,Ao,A04 (by rw[A19];omega),Ak,←hu]
  have w:=w.cast (ALF _ _ _ _ _ _ _ _ _)
  refine aq.get (i:=0) (u:=.int .u64 (n:Nat)) w rfl ?_
  refine aq.tail (by rw[A19];omega) fun u' aq=>?_
  have k2':∀ RQ V Y X:Res,RQ+(V+(Y+X))=V+((RQ+Y)+X):=by intros;ac_rfl
  refine SL (AEn (v:=(v.ino iv).own ow) ok1 h1 h2 hit io c (w.cast (k2' _ _ _ _)) fun cv xv xcs z' h dcv dxv dat ok2 w=>?_)
  refine Ah w Cy rfl fun xb h w=>?_
  obtain⟨ca,cc,hcv⟩:=dcv.len
  obtain⟨⟨xa,xc,hxv⟩,_⟩:=dxv.len
  have hone:(X.cells cv (.slice none 0 0) xv).all Value.oneCell'=true:=by rw[hcv,hxv];exact XN.one
  have w:AN (pts xb (.cells ⟨If.cells (.slice none 0 0) (.slice none 0 0) (.slice none 0 0)⟩ 81 (0,0))+(((v.ino iv).own ow1).res+(z'+((rq+((r+((r4+(r5+(r6+r7)))+z))))+x)))) h:=w
  refine AL w ⟨X.cells cv (.slice none 0 0) xv⟩ (Ar (by rw[XN.size_];exact XN.len)) XN.size_ (by rw[XN.size_];omega) hone fun h w=>?_
  rw[AIq]
  refine AW w XN.g1 ?_
  refine E9 (YT hmo.1 ?_)
  rw[Aa,A08 (by omega),AU]
  have k3:∀ P V Z' RQ R R4 R5 R6 R7 Z X:Res,P+(V+(Z'+((RQ+(R+((R4+(R5+(R6+R7)))+Z)))+X)))=V+(R+(P+((R4+(R5+(R6+(R7+RQ))))+((Z'+Z)+X)))):=by intros;ac_rfl
  refine ABc (v:=(v.ino iv).own ow1) (o:=⟨X,C,xaOf l,[]⟩) (ev:=.slice none 0 0) d (ov.mono (y:=z')) (by omega) dcv.addL (Vec.nil.vx.addL (y:=z'+z) |> fun q=>by rw[Res.zero_add] at q;exact q) dxv.addL dat.addL (w.cast (k3 _ _ _ _ _ _ _ _ _ _ _)) fun iv' r cs h d ov w=>?_
  exact hrec k2 _ _ ⟨m'+1,iv',ow1,{S with q:=q},_,cs,r,_,_,by omega,c.len.trans hol,wr2,d,ov.mono,⟨r4,r5,r6,r7,rq,rfl,a4,a5,a6,a7,aq⟩,w.cast (ALE _ _ _ _ _ _)⟩ (by omega)
 | dir hq h1 h2 io c hk hin hB hC hNm hE0 hE1 hEl hEs wr2=>
  rename_i k2 n ow1 C q X l cl E
  obtain⟨r4,r5,r6,r7,rq,rfl,a4,a5,a6,a7,aq⟩:=t
  rw[hq] at aq
  obtain⟨⟨qa,qc,hu⟩,_⟩:=aq.len
  have hmo:=EU io
  unfold LC Ucm Uil Ucl Umk Ufl Unf
  rw[hu,Aw,Ao,A04 (by rw[A19];omega),Ak,←hu]
  have w:=w.cast (ALF _ _ _ _ _ _ _ _ _)
  refine aq.get (i:=0) (u:=.int .u64 (n:Nat)) w rfl ?_
  refine aq.tail (by rw[A19];omega) fun u' aq=>?_
  have k2':∀ RQ V Y X:Res,RQ+(V+(Y+X))=V+((RQ+Y)+X):=by intros;ac_rfl
  refine SL (AEn (v:=(v.ino iv).own ow) ok1 h1 h2 hit io c (w.cast (k2' _ _ _ _)) fun cv xv xcs z' h dcv dxv dat ok2 w=>?_)
  refine Ah w Cy rfl fun xb h w=>?_
  obtain⟨ca,cc,hcv⟩:=dcv.len
  obtain⟨⟨xa,xc,hxv⟩,_⟩:=dxv.len
  have hone:(X.cells cv (.slice none 0 0) xv).all Value.oneCell'=true:=by rw[hcv,hxv];exact XN.one
  have w:AN (pts xb (.cells ⟨If.cells (.slice none 0 0) (.slice none 0 0) (.slice none 0 0)⟩ 81 (0,0))+(((v.ino iv).own ow1).res+(z'+((rq+((r+((r4+(r5+(r6+r7)))+z))))+x)))) h:=w
  refine AL w ⟨X.cells cv (.slice none 0 0) xv⟩ (Ar (by rw[XN.size_];exact XN.len)) XN.size_ (by rw[XN.size_];omega) hone fun h w=>?_
  rw[AIq]
  refine AW w XN.g1 ?_
  refine E9 (YT hmo.1 ?_)
  rw[Aa,A04 (by omega),Ak]
  have hl5:n<S.par.length:=by have:=a5.len.2;unfold nC at this;rw[A25] at this;omega
  have k5:∀ P V Z' RQ R R4 R5 R6 R7 Z X:Res,P+(V+(Z'+((RQ+(R+((R4+(R5+(R6+R7)))+Z)))+X)))=R5+(P+(V+(Z'+(RQ+(R+(R4+(R6+(R7+(Z+X))))))))):=by intros;ac_rfl
  have w:=w.cast (k5 _ _ _ _ _ _ _ _ _ _ _)
  refine Bu a5 w (HZ hl5) ?_
  have k6:∀ P V Z' RQ R R4 R5 R6 R7 Z X:Res,R5+(P+(V+(Z'+(RQ+(R+(R4+(R6+(R7+(Z+X)))))))))=P+(Z'+(V+((R4+(R5+(R6+(R7+RQ))))+(R+(Z+X))))):=by intros;ac_rfl
  refine AAY (AG4 hin dcv.addL hB hC hNm hE0 hE1 (w.cast (k6 _ _ _ _ _ _ _ _ _ _ _)) fun ev z2 h de w=>?_)
  obtain⟨⟨ea,ec,hev⟩,_⟩:=de.len
  rw[AIq]
  refine AW w XN.g19 ?_
  rw[hev,Aw,←hev]
  have k7:∀ P Z2 Z' V A R Z X:Res,P+(Z2+(Z'+(V+(A+(R+(Z+X))))))=V+(A+(0+((P+(Z2+(Z'+(R+Z))))+X))):=by intros;rw[Res.zero_add];ac_rfl
  have okl:((v.ino iv).own ow1).OK ((pts xb (.cells ⟨X.cells cv ev xv⟩ 81 (0,0))+(z2+(z'+(r+z))))+x):=ok2.mono
  refine AGW (v:=(v.ino iv).own ow1) (S:={S with q:=q}) okl hit de.addL.addR.addL hEl ⟨r4,r5,r6,r7,rq,rfl,a4,a5,a6,a7,aq⟩ hN hEs (by omega) (w.cast (k7 _ _ _ _ _ _ _ _)) fun x8 A z3 h t w=>?_
  have k8:∀ V A Z3 P Z2 Z' R Z X:Res,V+(A+(Z3+((P+(Z2+(Z'+(R+Z))))+X)))=V+(R+(P+(A+(((Z3+(Z2+Z'))+Z)+X)))):=by intros;ac_rfl
  refine ABc (v:=(v.ino iv).own ow1) (o:=⟨X,C,xaOf l,E⟩) d (ov.mono (y:=z3+(z2+z'))) (by omega) dcv.addR.addR.addL de.addL.addR.addL dxv.addR.addR.addL dat.mono.mono.addL (w.cast (k8 _ _ _ _ _ _ _ _ _)) fun iv' r cs h d ov w=>?_
  exact hrec k2 _ _ ⟨m'+1,iv',ow1,_,_,cs,r,_,_,by omega,c.len.trans hol,wr2,d,ov.mono,t,w.cast (ALE _ _ _ _ _ _)⟩ (by omega)
end
end
section
variable {h:H} {k:Value→Prop} {kt Q:Kt} {x y z r A:Res} {v:VS}
attribute [local irreducible] AK Az AQ BB Ae AY AH AM VS.cells XN.cells
theorem OutV.len:∀ {cs:List Value} {os:List AA},OutV x cs os→cs.length=os.length*23
 | _,_,.nil=>rfl
 | _,_,.snoc a _ _ _ _=>by
  have:=a.len
  rw[A01,A01,XN.len,this]
  simp;omega
theorem OutV.get:∀ {cs:List Value} {os:List AA} {i:Nat} {o:AA},OutV x cs os→os[i]? = some o →
  ∃ cv ev xv xas,(cs.drop (i*23)).take 23=o.X.cells cv ev xv∧RdX x cv o.C∧VecX 114 3 ev o.E.length (entC o.E) x∧VecX 86 2 xv o.l.length xas x∧AtV x xas o.l
 | _,_,_,_,.nil,e=>by simp at e
 | _,_,i,o,.snoc (cs:=cs) (os:=os) (o:=o') (cv:=cv) (ev:=ev) (xv:=xv) (xas:=xas) a b c d f,e=>by
  have hl:=a.len
  rcases A66 i os.length with h1|h1
  ·rw[A18 h1] at e
   obtain⟨cv,ev,xv,xas,g1,g2⟩:=a.get e
   refine⟨cv,ev,xv,xas,?_,g2⟩
   rw[A52 (by omega),A24 (by rw[A27];omega)]
   exact g1
  ·rw[A17 h1] at e
   have hi:i=os.length:=by
    rcases A66 (i-os.length) 1 with h2|h2
    ·omega
    ·rw[A40 (by simpa using h2)] at e;cases e
   subst hi
   rw[A87] at e
   simp only[A51,A26] at e
   subst e
   refine⟨cv,ev,xv,xas,?_,b,c,d,f⟩
   rw[←hl,A83,A43 (by rw[XN.len];omega)]
def LinksOK (N:Nat)(S:TS)(os:List AA):Prop:=∀ o∈os,o.X.num<N∧o.X.mode<65536∧S.sub.getD o.X.num 0<1000000∧o.X.links=if kindL o.X.mode=2 then S.sub.getD o.X.num 0+2 else S.nam.getD o.X.num 0
section
variable {N:Nat} {S:TS} {os:List AA} {cs:List Value} {x0 x6 x7 iv:Value} {r6 r7:Res}
theorem AEm (lo:LinksOK N S os)(d:VecX 81 23 iv os.length cs x)(ov:OutV y cs os)(a6:Vec 48 1 x6 N (nC S.nam) r6)(a7:Vec 48 1 x7 N (nC S.sub) r7)(hn:os.length<1000000)(w:AN (r6+(r7+(z+x))) h)
  (K:∀ z h,AN (r6+(r7+(z+x))) h→Q (.tuple #[]) h):XC Q x0 x6 x7 iv (.int .i64 (os.length:Nat)) (.int .i64 ((0:Nat):Int)) h:=by
 have hl6:S.nam.length=N:=by have:=a6.len.2;unfold nC at this;rw[A25] at this;omega
 have hl7:S.sub.length=N:=by have:=a7.len.2;unfold nC at this;rw[A25] at this;omega
 unfold XC
 refine Ba (fun m u h'=>∃ i z,m=os.length-i∧i≤os.length∧u=.int .i64 (i:Nat)∧AN (r6+(r7+(z+x))) h') os.length ⟨0,z,rfl,A39 _,rfl,w⟩ ?_
 rintro rec m u h' ⟨i,z,rfl,hi,rfl,w⟩ hrec
 unfold W0 Ucm Umk Ufl Uil Ucl
 rw[AT]
 refine AX (fun hc=>?_) (fun hc=>K z h' w)
 have hil:i<os.length:=by omega
 obtain⟨o,ho⟩:∃ o,os[i]? = some o:=⟨_,A00 hil⟩
 obtain⟨cv,ev,xv,xas,hcs,b,c,dd,f⟩:=ov.get ho
 obtain⟨g1,g2,g3,g4⟩:=lo o (A28 ho)
 obtain⟨ca,cc,hcv⟩:=b.len
 obtain⟨⟨ea,ec,hev⟩,_⟩:=c.len
 obtain⟨⟨xa,xc,hxv⟩,_⟩:=dd.len
 have hone:(o.X.cells cv ev xv).all Value.oneCell'=true:=by rw[hcv,hev,hxv];exact XN.one
 refine (d.addR.addR.addR:VecX 81 23 iv os.length cs _).agg w hil ?_
 rw[hcs]
 refine Ah w Cy rfl fun xb h w=>?_
 refine AL w ⟨o.X.cells cv ev xv⟩ (Ar (by rw[XN.size_];exact XN.len)) XN.size_ (by rw[XN.size_];omega) hone fun h w=>?_
 have k2:∀ P R6 R7 Z X:Res,R6+(P+(R7+(Z+X)))=R7+(P+(R6+(Z+X))):=by intros;ac_rfl
 have k3:∀ P R6 R7 Z X:Res,R6+(P+(R7+(Z+X)))=R6+(R7+((P+Z)+X)):=by intros;ac_rfl
 have w:=w.cast (Kq5 _ _ _ _ _)
 have f1:(AD .add (.int .i64 (i:Nat)) (.int .i64 1))=fun k=>k (.int .i64 (i+1:Nat)):=funext fun k=>by
  rw[BN (n:=1),Ci (by omega)]
 have fin:∀ want:Nat,want=o.X.links→PK Q rec x0 x6 x7 (Pt xb) (.int .u64 (want:Nat)) iv (.int .i64 (os.length:Nat)) (.int .i64 (i:Nat)) h:=by
  intro want hw
  unfold PK Ufl Ucl
  rw[AIq]
  refine AW w XN.g5 ?_
  rw[Aa,A04 (by omega),AIq]
  refine AW w XN.g0 ?_
  refine Al (Da ?_)
  rw[f1]
  exact hrec (os.length-(i+1)) _ _ ⟨i+1,_,rfl,hil,rfl,w.cast (k3 _ _ _ _ _)⟩ (by omega)
 rw[AIq]
 refine AW w XN.g0 ?_
 refine Bu a6 w (HZ (by omega)) ?_
 rw[AIq]
 refine AW w XN.g1 ?_
 refine E9 (YT g2 ?_)
 rw[Aa]
 refine AX (fun hk=>?_) (fun hk=>?_)
 ·rw[AIq]
  refine AW w XN.g0 ?_
  refine Bu a7 (w.cast (k2 _ _ _ _ _)) (HZ (by omega)) ?_
  rw[BN (n:=2),CU (by omega)]
  exact fin _ (by rw[g4,A03 (by omega)])
 ·exact fin _ (by rw[g4,A05 (by omega)])
end
end
section
variable {h:H} {k:Value→Prop} {kt Q:Kt} {x y z r A:Res} {v:VS}
attribute [local irreducible] AK Az AQ BB Ae AY AH AM VS.cells XN.cells
theorem XN.at1 {X:XN}{cv ev xv:Value}{l:List Value}(h:(l.drop (0*23)).take 23=X.cells cv ev xv):l[0*23+1]? = some (.int .u16 (X.mode:Nat)):=by
 have:((l.drop (0*23)).take 23)[1]? = some (.int .u16 (X.mode:Nat)):=by
  rw[h]
  exact XN.g1 (X:=X) (cv:=cv) (ev:=ev) (xv:=xv) |> fun q=>by simpa using q
 rw[A41] at this
 simpa using this
section
variable {N m:Nat} {S:TS} {os:List AA} {cs:List Value} {x4 x5 x6 x7 x8 x1:Value} {rec2:Value→H→Prop} {o0:AA}
theorem ABl (d:Vec 81 23 v.iv os.length cs r)(ov:OutV z cs os)(t:TR N S x4 x5 x6 x7 x8 A)(hq:S.q=[])(lo:LinksOK N S os)(h0:os[0]? = some o0)(hk:kindL o0.X.mode=2)(hn:os.length<1000000)(w:AN (v.res+(r+(A+(z+x)))) h)
  (K:∀ z h,VecX 81 23 v.iv os.length cs z→OutV z cs os→AN (v.res+(z+x)) h→Q (.tuple #[]) h):LC Q rec2 (Pt v.vb) x1 x4 x5 x6 x7 x8 h:=by
 obtain⟨r4,r5,r6,r7,rq,rfl,a4,a5,a6,a7,aq⟩:=t
 rw[hq] at aq
 obtain⟨⟨qa,qc,hu⟩,_⟩:=aq.len
 obtain⟨g1,g2,g3,g4⟩:=lo o0 (A28 h0)
 obtain⟨cv,ev,xv,xas,hcs,_⟩:=ov.get h0
 obtain⟨⟨ia,ic,hiv⟩,_⟩:=d.len
 have h0l:0<os.length:=(A02.1 h0).1
 have nf:∀ (k:Value→Prop),(AE (Pt v.vb) fun x161=>AC 0 x161 k)=k (.pointer (some ⟨v.vb,0,none⟩)):=fun k=>by simp only[go_sem]
 unfold LC Ucm Uil Ucl Umk Ufl Unf
 rw[hu,Aw,Ao,A08 (by simp),AU,nf]
 refine AW w VS.g0 ?_
 have dx:VecX 81 23 v.iv os.length cs (v.res+(r+((r4+(r5+(r6+(r7+rq))))+(z+x)))):=d.vx.addL.addR
 refine dx.cell (i:=0) w h0l (by omega) (XN.at1 hcs) ?_
 refine E9 (YT g2 ?_)
 rw[Aa,A04 (by omega)]
 refine Al (Da ?_)
 rw[nf]
 refine AW w VS.g0 ?_
 rw[hiv,Aw,←hiv]
 have k1:∀ V R R4 R5 R6 R7 RQ Z X:Res,V+(R+((R4+(R5+(R6+(R7+RQ))))+(Z+X)))=R6+(R7+((R4+(R5+RQ))+(R+(Z+(V+X))))):=by intros;ac_rfl
 have k2:∀ V R R6 R7 Z2 Z X:Res,R6+(R7+(Z2+(R+(Z+(V+X)))))=V+((R+(Z+(R6+(R7+Z2))))+X):=by intros;ac_rfl
 exact AEm lo d.vx.addL ov a6 a7 hn (w.cast (k1 _ _ _ _ _ _ _ _ _)) fun z2 h w=>K _ h d.vx.addL ov.addL.mono (w.cast (k2 _ _ _ _ _ _ _))
end
end
section
variable {h:H} {k:Value→Prop} {kt Q:Kt} {x y z r A:Res} {v:VS}
attribute [local irreducible] AK Az AQ BB Ae AY AH AM VS.cells XN.cells
theorem Qw:AG TP 4=some (.bool false):=by kernel_rfl
def TS0 (N:Nat):TS:=⟨(List.replicate N false).set 2 true,(List.replicate N 0).set 2 2,List.replicate N 0,List.replicate N 0,[2]⟩
structure WalkOK (I:Bs) (nb ipg:Nat) (ow o':Bs) (S:TS) (os:List AA) (n:Nat):Prop where
 walk:WalkR I nb ipg n ow (TS0 (ipg+1)) [] o' S os
 nlt:n<1000000
 len:os.length=n
 links:LinksOK (ipg+1) S os
 root:∃ o,os[0]? = some o∧kindL o.X.mode=2
 hit:itL I*4096+ipg*256≤I.length
section
variable {o':Bs} {S:TS} {os:List AA} {kk b4 b5 b6 b7 N:Nat}
theorem VZ (ok:v.OK x)(hiv:v.iv=.slice none 0 0)(hN:N=v.ipg+1)(wo:WalkOK v.I v.nb v.ipg v.ow o' S os kk)
  (w:AN (v.res+(pts b4 (.cells ⟨List.replicate N (.bool false)⟩ 4 (0,0))+(pts b5 (.cells ⟨List.replicate N (.int .u64 0)⟩ 48 (0,0))+(pts b6 (.cells ⟨List.replicate N (.int .u64 0)⟩ 48 (0,0))+x)))) h)
  (K:∀ iv cs z h,VecX 81 23 iv os.length cs z→OutV z cs os→((v.ino iv).own o').OK x→AN (((v.ino iv).own o').res+(z+x)) h→Q (.tuple #[]) h) :
  MU Q (Pt v.vb) (.int .u64 ((11:Nat):Int)) (.slice (some ⟨b4,0,none⟩) N N) (.slice (some ⟨b5,0,none⟩) N N) (.slice (some ⟨b6,0,none⟩) N N) h:=by
 have hip:=ok.ipg
 have hi1:=ok.ipg1
 unfold MU Ucm Ucl
 rw[Aw]
 refine C4 w Cb rfl (A07 _) (by omega) (by omega) fun b7 h w=>?_
 refine G5 w Cb rfl rfl rfl fun b8 h w=>?_
 rw[Aw,BW,A08 (by omega),AU]
 have k1:∀ B8 B7 V B4 B5 B6 X:Res,B8+(B7+(V+(B4+(B5+(B6+X)))))=B4+(B8+(B7+(V+(B5+(B6+X))))):=by intros;ac_rfl
 have a4:Vec 4 1 (.slice (some ⟨b4,0,none⟩) N N) N (List.replicate N (.bool false)) (pts b4 (.cells ⟨List.replicate N (.bool false)⟩ 4 (0,0))):=.own' (A07 _) (by simp) (by simp)
 have a5:Vec 48 1 (.slice (some ⟨b5,0,none⟩) N N) N (List.replicate N (.int .u64 0)) (pts b5 (.cells ⟨List.replicate N (.int .u64 0)⟩ 48 (0,0))):=.own' (A07 _) (by simp) (by simp)
 have a6:Vec 48 1 (.slice (some ⟨b6,0,none⟩) N N) N (List.replicate N (.int .u64 0)) (pts b6 (.cells ⟨List.replicate N (.int .u64 0)⟩ 48 (0,0))):=.own' (A07 _) (by simp) (by simp)
 have a7:Vec 48 1 (.slice (some ⟨b7,0,none⟩) N N) N (List.replicate N (.int .u64 0)) (pts b7 (.cells ⟨List.replicate N (.int .u64 0)⟩ 48 (0,0))):=.own' (A07 _) (by simp) (by simp)
 refine DS (i:=2) (u:=.bool true) a4 (w.cast (k1 _ _ _ _ _ _ _)) (by omega) rfl rfl fun r4 h a4 w=>?_
 have k2:∀ R4 B8 B7 V B5 B6 X:Res,R4+(B8+(B7+(V+(B5+(B6+X)))))=B5+(R4+(B8+(B7+(V+(B6+X))))):=by intros;ac_rfl
 refine DS (i:=2) (u:=.int .u64 2) a5 (w.cast (k2 _ _ _ _ _ _ _)) (by omega) rfl rfl fun r5 h a5 w=>?_
 have aq:VecQ 48 (.slice (some ⟨b8,0,none⟩) 1 1) 1 (nC [2]) (pts b8 (.cells ⟨[.int .u64 2]⟩ 48 (0,0))):=.own' (A07 _) (by simp) rfl
 have t:TR N (TS0 N) (.slice (some ⟨b4,0,none⟩) N N) (.slice (some ⟨b5,0,none⟩) N N) (.slice (some ⟨b6,0,none⟩) N N) (.slice (some ⟨b7,0,none⟩) N N) (.slice (some ⟨b8,0,none⟩) 1 1) (r4+(r5+(pts b6 (.cells ⟨List.replicate N (.int .u64 0)⟩ 48 (0,0))+(pts b7 (.cells ⟨List.replicate N (.int .u64 0)⟩ 48 (0,0))+pts b8 (.cells ⟨[.int .u64 2]⟩ 48 (0,0)))))):=by
  refine⟨r4,r5,_,_,_,rfl,?_,?_,?_,?_,aq⟩
  ·have:bC (TS0 N).seen=(List.replicate N (.bool false)).set 2 (.bool true):=by unfold bC TS0;rw[B22,B03]
   rw[this];exact a4
  ·have:nC (TS0 N).par=(List.replicate N (.int .u64 0)).set 2 (.int .u64 2):=by unfold nC TS0;rw[B22,B03];rfl
   rw[this];exact a5
  ·have:nC (TS0 N).nam=List.replicate N (.int .u64 0):=by unfold nC TS0;rw[B03];rfl
   rw[this];exact a6
  ·have:nC (TS0 N).sub=List.replicate N (.int .u64 0):=by unfold nC TS0;rw[B03];rfl
   rw[this];exact a7
 have k3:∀ R5 R4 B8 B7 V B6 X:Res,R5+(R4+(B8+(B7+(V+(B6+X)))))=V+(0+((R4+(R5+(B6+(B7+B8))))+(0+X))):=by intros;rw[Res.zero_add,Res.zero_add];ac_rfl
 obtain⟨o0,ho0,hk0⟩:=wo.root
 refine AFY (m:=0) (S:=TS0 N) (os:=[]) (cs:=[]) ok wo.hit hN (by rw[hN];exact wo.walk) (by have:=wo.nlt;omega) (by rw[hiv];exact .nil) .nil t (w.cast (k3 _ _ _ _ _ _ _)) fun rec2 iv r cs A z x8 h d ov t hq ok2 w=>?_
 rw[A29,←wo.len] at d
 exact ABl (v:=(v.ino iv).own o') d ov t hq (by rw[hN];exact wo.links) ho0 hk0 (by rw[wo.len];exact wo.nlt) w fun z h d ov w=>K iv cs z h d ov ok2 w
theorem s68 (ok:v.OK x)(hiv:v.iv=.slice none 0 0)(wo:WalkOK v.I v.nb v.ipg v.ow o' S os kk)(w:AN (v.res+x) h)
  (K:∀ iv cs z h,VecX 81 23 iv os.length cs z→OutV z cs os→((v.ino iv).own o').OK x→AN (((v.ino iv).own o').res+(z+x)) h→Q (.tuple #[]) h) :
  f68 (Pt v.vb) (.int .u64 ((11:Nat):Int)) h Q:=by
 have hip:=ok.ipg
 have f1:(AD .mul (.int .u64 1) (.int .u64 (v.ipg:Nat)))=fun k=>k (.int .u64 (v.ipg:Nat)):=funext fun k=>by
  rw[Bc,Int.one_mul,CU (by omega)]
 unfold f68 Unf
 simp (disch:=omega) only[go_sem,AF w,f1]
 refine C4 w Qw rfl (A07 _) (by omega) (by omega) fun b4 h w=>?_
 rw[Aw,Aw]
 have k1:∀ B6 B5 B4 V X:Res,B6+(B5+(B4+(V+X)))=V+(B4+(B5+(B6+X))):=by intros;ac_rfl
 have k2:∀ B6 B5 B4 V X:Res,B5+(B6+(B4+(V+X)))=V+(B4+(B5+(B6+X))):=by intros;ac_rfl
 refine And.intro ?_ ?_
 ·refine C4 w Cb rfl (A07 _) (by omega) (by omega) fun b5 h w=>?_
  refine And.intro ?_ ?_
  ·exact C4 w Cb rfl (A07 _) (by omega) (by omega) fun b6 h w=>VZ ok hiv rfl wo (w.cast (k1 _ _ _ _ _)) K
  ·exact C4 w Cb rfl (A07 _) (by omega) (by omega) fun b6 h w=>VZ ok hiv rfl wo (w.cast (k1 _ _ _ _ _)) K
 ·refine C4 w Cb rfl (A07 _) (by omega) (by omega) fun b6 h w=>?_
  exact C4 w Cb rfl (A07 _) (by omega) (by omega) fun b5 h w=>VZ ok hiv rfl wo (w.cast (k2 _ _ _ _ _)) K
end
end
section
variable {h:H} {k:Value→Prop} {kt Q:Kt} {x y z r A:Res} {v:VS}
attribute [local irreducible] AK Az AQ BB Ae AY AH AM VS.cells XN.cells
def usd:Nat→List Bool→List Bool
 | 0,l=>l
 | n+1,l=>(usd n l).set (n+1) true
theorem J0:∀ (n:Nat) (l:List Bool),(usd n l).length=l.length
 | 0,_=>rfl
 | n+1,l=>by rw[usd,A89,J0 n l]
section
variable {N:Nat} {U:List Bool} {x0 x4 x5 sv:Value} {sb:Bs}
theorem AFa (d:RdX x sv sb)(hsb:sb.length<100000)(h84:leL sb 84 4=11)(a4:Vec 4 1 x4 N (bC U) r)(hN:16≤N)(hN2:N<100000)(w:AN (r+x) h)
  (K:∀ r h,Vec 4 1 x4 N (bC (usd 10 U)) r→AN (r+x) h→PP Q x0 sv x4 x5 h):Xh Q x0 sv x4 x5 (.int .u64 ((1:Nat):Int)) h:=by
 unfold Xh
 refine Ba (fun m u h'=>∃ i r,m+i=10∧u=.int .u64 (i+1:Nat)∧Vec 4 1 x4 N (bC (usd i U)) r∧AN (r+x) h') 10 ⟨0,r,rfl,rfl,a4,w⟩ ?_
 rintro rec m u h' ⟨i,r,hi,rfl,a4,w⟩ hrec
 obtain⟨⟨va,vc,hv⟩,_⟩:=a4.len
 unfold YP Ucl Ucg Ucm
 refine DF (p:=84) (n:=4) d.addR w (by decide) (by decide) (by omega) ?_
 rw[h84,AT]
 refine C3 (fun hc=>?_) (fun hc=>?_)
 ·rw[hv,Aw,DO,CU (by omega),AT,A04 (by omega),Ak,←hv]
  refine DS (u:=.bool true) a4 w (by omega) rfl rfl fun r h a4 w=>?_
  rw[BN (n:=1),CU (by omega)]
  rw[Qe] at a4
  exact hrec (m-1) _ _ ⟨i+1,r,by omega,rfl,a4,w⟩ (by omega)
 ·have:i=10:=by omega
  subst this
  exact K r h' a4 w
def mkU (U:List Bool)(os:List AA):List Bool:=os.foldl (fun u o=>u.set o.X.num true) U
def cntD (os:List AA):Nat:=(os.filter fun o=>decide (kindL o.X.mode=2)).length
theorem AAF {os:List AA}:∀ {U:List Bool},(mkU U os).length=U.length:=by
 induction os with
 | nil=>intro U;rfl
 | cons o os ih=>intro U;exact (ih (U:=U.set o.X.num true)).trans (A89 ..)
theorem AFs {os:List AA}{cs:List Value}{iv:Value}{r4 r5:Res}(ok:v.OK x)(hN:N=v.ipg+1)(hos:∀ o∈os,1≤o.X.num∧o.X.num≤v.ipg∧o.X.mode<65536)(d:VecX 81 23 iv os.length cs x)(ov:OutV y cs os)(hn:os.length<1000000)(a4:Vec 4 1 x4 N (bC U) r4)(a5:Vec 48 1 x5 1 (nC [0]) r5)(w:AN (v.res+(r4+(r5+(z+x)))) h)
  (K:∀ r4 r5 z h,Vec 4 1 x4 N (bC (mkU U os)) r4→Vec 48 1 x5 1 (nC [cntD os]) r5→AN (v.res+(r4+(r5+(z+x)))) h→Ta Q (Pt v.vb) sv x4 x5 (.int .u64 0) (.int .u64 0) (.int .u64 0) h) :
  Xe Q (Pt v.vb) sv x4 x5 iv (.int .i64 (os.length:Nat)) (.int .i64 ((0:Nat):Int)) h:=by
 have hip:=ok.ipg
 unfold Xe
 refine Ba (fun m u h'=>∃ i r4 r5 z,m=os.length-i∧i≤os.length∧u=.int .i64 (i:Nat)∧Vec 4 1 x4 N (bC (mkU U (os.take i))) r4∧Vec 48 1 x5 1 (nC [cntD (os.take i)]) r5∧AN (v.res+(r4+(r5+(z+x)))) h') os.length ⟨0,r4,r5,z,rfl,A39 _,rfl,a4,a5,w⟩ ?_
 rintro rec m u h' ⟨i,r4,r5,z,rfl,hi,rfl,a4,a5,w⟩ hrec
 unfold YH Ucm Umk Ufl Ucl Unf Uil
 rw[AT]
 refine AX (fun hc=>?_) (fun hc=>?_)
 ·have hil:i<os.length:=by omega
  obtain⟨o,ho⟩:∃ o,os[i]? = some o:=⟨_,A00 hil⟩
  obtain⟨cv,ev,xv,xas,hcs,b,c,dd,f⟩:=ov.get ho
  obtain⟨g1,g2,g3⟩:=hos o (A28 ho)
  obtain⟨ca,cc,hcv⟩:=b.len
  obtain⟨⟨ea,ec,hev⟩,_⟩:=c.len
  obtain⟨⟨xa,xc,hxv⟩,_⟩:=dd.len
  have hone:(o.X.cells cv ev xv).all Value.oneCell'=true:=by rw[hcv,hev,hxv];exact XN.one
  have htk:os.take (i+1)=os.take i++[o]:=by rw[A85,ho];rfl
  refine (d.addR.addR.addR.addR:VecX 81 23 iv os.length cs _).agg w hil ?_
  rw[hcs]
  refine Ah w Cy rfl fun xb h w=>?_
  refine AL w ⟨o.X.cells cv ev xv⟩ (Ar (by rw[XN.size_];exact XN.len)) XN.size_ (by rw[XN.size_];omega) hone fun h w=>?_
  have hU:mkU U (os.take (i+1))=(mkU U (os.take i)).set o.X.num true:=by rw[htk];unfold mkU;rw[B19];rfl
  have hD:cntD (os.take (i+1))=if kindL o.X.mode=2 then cntD (os.take i)+1 else cntD (os.take i):=by
   rw[htk];unfold cntD;rw[B08]
   by_cases hk:kindL o.X.mode=2<;>simp[hk]
  have hcd:cntD (os.take i)≤i:=B28 (B38 _ _) (by simp;omega)
  have f1:(AD .add (.int .i64 (i:Nat)) (.int .i64 1))=fun k=>k (.int .i64 (i+1:Nat)):=funext fun k=>by
   rw[BN (n:=1),Ci (by omega)]
  rw[AIq]
  refine AW w XN.g0 ?_
  have k1:∀ P V R4 R5 Z X:Res,P+(V+(R4+(R5+(Z+X))))=R4+(P+(V+(R5+(Z+X)))):=by intros;ac_rfl
  refine DS (u:=.bool true) a4 (w.cast (k1 _ _ _ _ _ _)) (by omega) rfl rfl fun r4 h a4 w=>?_
  rw[Qe,←hU] at a4
  rw[AIq]
  refine AW w XN.g1 ?_
  refine E9 (YT g3 ?_)
  rw[Aa]
  refine AX (fun hk=>?_) (fun hk=>?_)
  ·rw[A03 (by omega)] at hD
   rw[AIq]
   refine AW w XN.g0 ?_
   have nf:∀ (k:Value→Prop),(AE (Pt v.vb) fun x161=>AC 6 x161 k)=k (.pointer (some ⟨v.vb,6,none⟩)):=fun k=>by simp only[go_sem]
   rw[Ra (n:=1) (by show (1:Int)≤_;omega),CU (show o.X.num-1<18446744073709551616 by omega),nf]
   refine AW w VS.g6 ?_
   rw[QI (show 0<v.ipg by omega),Nat.div_eq_of_lt (show o.X.num-1<v.ipg by omega),CU (show 0<18446744073709551616 by omega)]
   have k2:∀ P V R4 R5 Z X:Res,R4+(P+(V+(R5+(Z+X))))=R5+(P+(V+(R4+(Z+X)))):=by intros;ac_rfl
   have w:=w.cast (k2 _ _ _ _ _ _)
   refine Bu a5 w (HZ (by simp)) ?_
   rw[show ([cntD (os.take i)].getD 0 0)=cntD (os.take i) from rfl,BN (n:=1),CU (show cntD (os.take i)+1<18446744073709551616 by omega)]
   refine DS (u:=.int .u64 (cntD (os.take i)+1:Nat)) a5 w (by omega) rfl rfl fun r5 h a5 w=>?_
   rw[Nh,show [cntD (os.take i)].set 0 (cntD (os.take i)+1)=[cntD (os.take i)+1] from rfl,←hD] at a5
   rw[f1]
   have k4:∀ P V R4 R5 Z X:Res,R5+(P+(V+(R4+(Z+X))))=V+(R4+(R5+((P+Z)+X))):=by intros;ac_rfl
   exact hrec (os.length-(i+1)) _ _ ⟨i+1,r4,r5,_,rfl,hil,rfl,a4,a5,w.cast (k4 _ _ _ _ _ _)⟩ (by omega)
  ·rw[A05 (by omega)] at hD
   rw[f1]
   have k3:∀ P V R4 R5 Z X:Res,R4+(P+(V+(R5+(Z+X))))=V+(R4+(R5+((P+Z)+X))):=by intros;ac_rfl
   rw[←hD] at a5
   exact hrec (os.length-(i+1)) _ _ ⟨i+1,r4,r5,_,rfl,hil,rfl,a4,a5,w.cast (k3 _ _ _ _ _ _)⟩ (by omega)
 ·have:i=os.length:=by omega
  subst this
  rw[A38] at a4 a5
  exact K r4 r5 z h' a4 a5 w
end
end
end Go.Proofs.YtollddkkdgoonaaGreatDoor
