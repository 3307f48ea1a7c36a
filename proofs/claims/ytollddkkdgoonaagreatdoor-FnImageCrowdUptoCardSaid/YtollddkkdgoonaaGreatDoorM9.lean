/- A part of a proof over images that are written and read. No condition; a step. -/
import Derived.Test.YtollddkkdgoonaaGreatDoorM8
namespace Go.Proofs.YtollddkkdgoonaaGreatDoor
open Go
set_option linter.unusedVariables false
set_option linter.unusedSimpArgs false
section
variable {h:H} {k:Value→Prop} {kt Q:Kt} {x y r:Res}
theorem C4 {T:TypeId}{z:Option Value}{zv:Value}{kl kc:IntKind}{by_ n m:Nat}(w:AN x h)(hz:z=some zv)(hc:zv.cells=#[zv])(hn:n≤m)(hb:m*by_≤140737488355328)(hm:m≤140737488355328)
  (K:∀ b h,AN (pts b (.cells ⟨List.replicate m zv⟩ T (0,0))+x) h→kt (.slice (some ⟨b,0,none⟩) n m) h):AY z 1 by_ T (.int kl (n:Int)) (.int kc (m:Int)) h kt:=
 ⟨kl,kc,n,m,zv,rfl,rfl,hz,by omega,by omega,by rw[←Int.natCast_mul];omega,by omega,fun b h' e hb ho=>by
  rw[A67,A77,CY hc] at ho
  simpa using K b h' (w.new e hb ho)⟩
theorem Le {zv:Value}(hc:zv.cells=#[zv])(n:Nat):Builtin.zeroCells zv.cells n=⟨List.replicate n zv⟩:=by
 unfold Builtin.zeroCells
 rw[hc]
 apply A56
 apply A60
 intro i
 simp
 by_cases h:i<n<;>simp[h,Nat.mod_one]
theorem Ob {T:TypeId}{by_ n m:Nat}{z:Option Value}{zv v:Value}{vs:List Value}{kk:IntKind}(d:Vec T 1 v n vs r)(w:AN (r+x) h)(hz:z=some zv)(hzs:zv.cells=#[zv])(ho:Value.oneCell' zv=true)
  (hb:(n+m)*by_≤140737488355328) (hb2:n+m≤140737488355328) (hb3:m*by_≤140737488355328) (K:∀ v r h,Vec T 1 v (n+m) (vs++List.replicate m zv) r→AN (r+x) h→kt v h):CI T z 1 by_ v (.int kk (m:Int)) h kt:=by
 refine⟨kk,m,zv,rfl,by omega,by rw[←Int.natCast_mul];omega,by omega,hz,?_⟩
 rw[A77,A67]
 have e:(if m=0 then (#[]:Array Value) else Builtin.zeroCells zv.cells m)=⟨List.replicate m zv⟩:=by
  rw[Le hzs]
  split
  ·rename_i h;subst h;rfl
  ·rfl
 rw[e]
 exact IP d w hz (by rw[hzs];rfl) hb hb2 (by rw[List.all_replicate];simp[ho]) (by simp) K
def t0:Tm:=⟨false,0,0⟩
def dirF (m:Nat):FL:=⟨[],0,m,0,0,t0,t0,t0,t0,0,0⟩
def lostN:Bs:=[108,111,115,116,43,102,111,117,110,100]
def Fk (max:Nat):Nat:=(((max-1)/4096+1-1)/32768+1-1)/128+1
def rootP (inl:Bool):PN:={newP (dirF 16877) 2 inl with links:=2}
def M1 (inl:Bool):List (Option PN):=[none,some (rootP inl)]++List.replicate 8 none
def S1 (B:Bs)(inl:Bool)(max db:Nat):PS:=⟨M1 inl,B,(1+Fk max)*4096,none,0,0,inl,max,Fk max,db⟩
def S2 (B:Bs)(inl:Bool)(max db:Nat):PS:=(S1 B inl max db).made 2 (rootP inl) [] lostN (dirF 16832)
theorem TG:FileOK (dirF 16832):=⟨by decide,by unfold kindOk;decide,by unfold Tm.ok;decide,by unfold Tm.ok;decide,by unfold Tm.ok;decide,by unfold Tm.ok;decide,by decide⟩
theorem Dr:FileOK (dirF 16877):=⟨by decide,by unfold kindOk;decide,by unfold Tm.ok;decide,by unfold Tm.ok;decide,by unfold Tm.ok;decide,by unfold Tm.ok;decide,by decide⟩
theorem F6 (inl:Bool):kindB (rootP inl).mode=16384:=by
 show kindB (modeK 16877)=16384
 decide
theorem Qh (inl:Bool):(rootP inl).kids=some []:=by
 show (if kindB (modeK 16877)=16384 then some [] else none)=some []
 rw[A03 (by decide)]
theorem M0:AG TP 191=some (.agg ⟨(FL.cells (dirF 0) (.map none))⟩):=by kernel_rfl
theorem Xf {s s':WS}{ad:Nat→Nat}{L:List (Option Nd)}{tr tr':Res}{m:Nat}(ok:FOK s ad L tr)(hs:s'.OK)(hv:Vec 182 1 s'.inv (L.length+m) (L.map (ptrO ad)++List.replicate m (.pointer none)) tr')(hlen:L.length+m≤10000):FOK s' ad (L++List.replicate m none) tr':=by
 have hg:∀ (i:Nat) (n:Nd),(L++List.replicate m none)[i]? = some (some n)→L[i]? = some (some n):=by
  intro i n hi
  rcases A66 i L.length with h|h
  ·rwa [A18 h] at hi
  ·rw[A17 h,B18] at hi
   split at hi<;>cases hi
 have hg':∀ (i:Nat) (n:Nd),L[i]? = some (some n)→(L++List.replicate m none)[i]? = some (some n):=fun (i:Nat) (n:Nd) hi=>by
  rw[A18 (A02.1 hi).1];exact hi
 refine⟨hs,?_,fun i n hi=>ok.num i n (hg i n hi),fun i n hi=>ok.nd i n (hg i n hi),fun i n mb es hi hd e he=>?_,by simp;omega⟩
 ·rw[A36,B03,A01,A09];exact hv
 ·obtain⟨h1,c,h2⟩:=ok.kid i n mb es (hg i n hi) hd e he
  exact⟨h1,c,hg' _ _ h2⟩
theorem MR {ad:Nat→Nat}{L:List (Option Nd)}:∀ m,sumR ad (L++List.replicate m none)=sumR ad L
 | 0=>by simp
 | m+1=>by
  have:L++List.replicate (m+1) none=(L++List.replicate m none)++[none]:=by rw[A12,List.replicate_succ']
  rw[this,Dx,MR m]
  rfl
set_option maxRecDepth 20000 in
theorem AG6 {s:WS}(ok:s.OK)(g:JX x)(w:AN (s.res+x) h)(hcur:s.cur=.pointer none)(hdw:s.dw=0)(hdm:s.dm=0)(hmax:4096≤s.max)(hi:∃ a n c,s.inv=.slice a n c)(K:∀ ad h,BM s.wb ad (S2 s.B s.inl s.max s.db) x h→Q .nilIface h):ADb (Pt s.wb) h Q:=by
 have hmx:=ok.max
 unfold ADb
 refine C4 (n:=1) (m:=32) (zv:=.pointer none) w Hi rfl (by omega) (by omega) (by omega) fun tb h w=>?_
 simp (disch:=omega) only[go_sem,AF w]
 refine AL w (WS.cells {s with inv:=.slice (some ⟨tb,0,none⟩) 1 32}) rfl rfl (by simp) rfl fun h w=>?_
 refine Au M0 rfl (rs:=FL.cells (dirF 16877) (.map none)) rfl (BJ w fun fb h w=>?_)
 have ok0:FOK {s with inv:=.slice (some ⟨tb,0,none⟩) 1 32} (fun _=>0) [none] (pts tb (.cells ⟨List.replicate 32 (.pointer none)⟩ 182 (0,0))):=by
  refine⟨⟨ok.buf,ok.len,ok.max⟩,?_,?_,?_,?_,by simp⟩
  ·exact Vec.own' (by omega) (by simp) (by simp[ptrO])
  ·intro i n hi;rcases i with _|i<;>simp at hi
  ·intro i n hi;rcases i with _|i<;>simp at hi
  ·intro i n mb es hi;rcases i with _|i<;>simp at hi
 refine V0 _ _ _ _ _ (s95 (s:={s with inv:=.slice (some ⟨tb,0,none⟩) 1 32}) (f:=dirF 16877) (x:=x) ok0 g (w.cast ?_) (by simp) Dr.mode Dr.kind Dr.at_ Dr.ct Dr.mt Dr.cr Dr.size fun n nb inv tr' fm h isn ok1 w=>?_)
 ·unfold FR
  simp only[sumR,ndR,Res.add_zero]
  unfold WS.res
  ac_rfl
 simp (disch:=omega) only[go_sem]
 have hn1:([none]++[some n]:List (Option Nd))[2-1]? = some (some n):=rfl
 have hlk:n.links=1:=isn.links
 have hinv:=ok1.vec
 obtain⟨⟨ia,ic,hiv⟩,_⟩:=hinv.len
 have hiv:inv=.slice ia 2 ic:=hiv
 obtain⟨w',hnum⟩:=CG (c:=2) ok1 (by omega) hn1 w
 have had:(fun k=>if k=([none]:List (Option Nd)).length+1 then nb else (fun _=>0) k) n.num=nb:=by rw[hnum];rfl
 unfold Nd.res at w'
 rw[had] at w'
 simp (disch:=omega) only[go_sem,AF w',hlk]
 refine AL w' (Nd.cells {n with links:=2}) rfl rfl (by simp) rfl fun h w=>?_
 have e8:(AD .sub (.int .i64 11) (.int .i64 ((2:Nat):Int)))=fun k=>k (.int .i64 9):=funext fun k=>by rw[Bv];rfl
 have e7:(AD .sub (.int .i64 9) (.int .i64 1))=fun k=>k (.int .i64 ((8:Nat):Int)):=funext fun k=>by rw[Bv];rfl
 simp (disch:=omega) only[go_sem,AF w,hiv,e8,e7]
 rw[hiv] at hinv
 refine Ob (r:=tr') (x:=WS.res {s with inv:=.slice ia 2 ic}+(pts nb (.cells (Nd.cells {n with links:=2}) 197 (0,0))+(n.dr+(n.xr+n.kr (fun k=>if k=([none]:List (Option Nd)).length+1 then nb else (fun _=>0) k)))+x)) hinv (AN.left (y:=sumR (fun k=>if k=([none]:List (Option Nd)).length+1 then nb else (fun _=>0) k) (([none]++[some n]:List (Option Nd)).set (2-1) none)+pts fb (.cells ⟨(dirF 16877).cells (.map (some fm))⟩ 191 (0,0))) (w.cast (by rw[hiv];ac_rfl))) Hi rfl rfl (by simp) (by simp) (by simp) fun v tr2 h dv w=>?_
 obtain⟨⟨va,vc,hv⟩,_⟩:=dv.len
 subst hv
 refine AL w (WS.cells {s with inv:=.slice va (([none]++[some n]:List (Option Nd)).length+8) vc}) rfl rfl (by simp) rfl fun h w=>?_
 simp (disch:=omega) only[go_sem,AF w]
 have hgd:Fk s.max<2000:=by unfold Fk;omega
 refine AL w (WS.cells {s with inv:=.slice va (([none]++[some n]:List (Option Nd)).length+8) vc,gd:=Fk s.max}) rfl rfl (by simp) rfl fun h w=>?_
 have eg:(AD .add (.int .u32 1) (.int .u32 (Fk s.max:Nat)))=fun k=>k (.int .u32 ((1+Fk s.max:Nat):Int)):=funext fun k=>by rw[A0,←JR (m:=1+Fk s.max) (by omega)];rfl
 simp (disch:=omega) only[go_sem,AF w,eg]
 refine Jt _ _ _ _ (AAG (s:={s with inv:=.slice va (([none]++[some n]:List (Option Nd)).length+8) vc,gd:=Fk s.max}) (w.cast (y:=WS.res {s with inv:=.slice va (([none]++[some n]:List (Option Nd)).length+8) vc,gd:=Fk s.max}+(tr2+(pts nb (.cells (Nd.cells {n with links:=2}) 197 (0,0))+(n.dr+(n.xr+n.kr (fun k=>if k=([none]:List (Option Nd)).length+1 then nb else (fun _=>0) k)))+x))) (by unfold WS.res;ac_rfl)) (by omega) fun h w=>?_)
 refine AL w (WS.cells {s with inv:=.slice va (([none]++[some n]:List (Option Nd)).length+8) vc,gd:=Fk s.max,dpos:=(1+Fk s.max)*4096,pos:=(1+Fk s.max)*4096,ini:=true}) rfl rfl (by simp) rfl fun h w=>?_
 refine Au M0 rfl (rs:=FL.cells (dirF 16832) (.map none)) rfl (BJ w fun fb2 h w=>?_)
 have hname:(Value.string ⟨#[108,111,115,116,43,102,111,117,110,100]⟩)=str lostN:=rfl
 rw[hname]
 have hnd:=ok1.ndOK hn1
 have hpn:Nd.pn {n with links:=2}=rootP s.inl:=by
  have:=isn.pn (f:=dirF 16877)
  show {n.pn with links:=2}=_
  rw[this];rfl
 have p:BM s.wb (fun k=>if k=([none]:List (Option Nd)).length+1 then nb else (fun _=>0) k) (S1 s.B s.inl s.max s.db) (pts fb2 (.cells ⟨(dirF 16832).cells (.map none)⟩ 191 (0,0))+x) h:=by
  refine⟨{s with inv:=.slice va (([none]++[some n]:List (Option Nd)).length+8) vc,gd:=Fk s.max,dpos:=(1+Fk s.max)*4096,pos:=(1+Fk s.max)*4096,ini:=true},[none,some {n with links:=2}]++List.replicate 8 none,tr2,⟨?_,rfl,rfl,?_,rfl,rfl,rfl,hdw,hdm,hcur,rfl,rfl,rfl,rfl⟩,w.cast ?_⟩
  ·have:=F7 (s':={s with inv:=inv}) ok1 ok1.ws rfl hn1 (n':={n with links:=2}) rfl ⟨⟨hnd.1.1,hnd.1.2.1,hnd.1.2.2.1,by show 2<100000;omega,hnd.1.2.2.2.2⟩,hnd.2⟩
   exact Xf this ⟨ok.buf,ok.len,ok.max⟩ dv (by simp)
  ·show pnL _=M1 s.inl
   unfold pnL M1
   rw[A36,B03]
   simp only[A33,B46,Option.map_none,A80,hpn]
  ·unfold FR
   rw[MR]
   simp only[sumR,ndR,Res.add_zero,Res.zero_add]
   unfold Nd.res
   dsimp only
   have hnum':n.num=([none]:List (Option Nd)).length+1:=hnum
   rw[A03 hnum']
   unfold WS.res Nd.kr
   ac_rfl
 refine Xm _ _ _ _ _ (K3 (f:=dirF 16832) (e:=lostN) (st:=[]) (d:=2) (q:=rootP s.inl) (es:=[]) (fun Q kk=>Jq p (.none rfl) (kk _)) g rfl (by show (M1 s.inl).length<9999;unfold M1;simp) ⟨_,rfl⟩ (by decide) (by decide) (by decide) rfl (by omega) rfl (F6 _) (Qh _) rfl (by show 2<65000;omega) TG fun ad3 h p=>?_)
 have p':BM s.wb ad3 (S2 s.B s.inl s.max s.db) x h:=p
 obtain⟨s3,L3,tr3,a3,w3⟩:=p
 rw[←a3.wb]
 simp (disch:=omega) only[go_sem,AF w3]
 exact K ad3 h p'
end
section
set_option maxRecDepth 100000
def ABs (x0:Value)(h:H)(Q:Kt):Prop:=
 AD .and x0 (.int .u16 61440) fun x4=>AD .eql x4 (.int .u16 32768) fun x6=>AK x6
 (Q (.int .u8 1) h)
 (AD .eql x4 (.int .u16 16384) fun x8=>AK x8
 (Q (.int .u8 2) h)
 (AD .eql x4 (.int .u16 8192) fun a0=>AK a0
 (Q (.int .u8 3) h)
 (AD .eql x4 (.int .u16 24576) fun a2=>AK a2
 (Q (.int .u8 4) h)
 (AD .eql x4 (.int .u16 4096) fun a4=>AK a4
 (Q (.int .u8 5) h)
 (AD .eql x4 (.int .u16 49152) fun a6=>AK a6
 (Q (.int .u8 6) h)
 (AD .eql x4 (.int .u16 40960) fun a8=>AK a8
 (Q (.int .u8 7) h)
 (Q (.int .u8 0) h)))))))
theorem AAk (x0:Value)(h:H)(Q:Kt)(x:ABs x0 h Q):Call TP 203 [x0] h Q:=Bb nT Tryz.func203 (by kernel_rfl) x
def AAS (x0:Value)(h:H)(Q:Kt):Prop:=
 BB 347 (x0:Value).cells h fun x1 h=>AC 0 x1 fun x5=>AB false 1 x5 h fun x6=>Call TP 172 [(.slice none 0 0),x6] h fun x7 h=>AC 1 x1 fun x9=>AB false 1 x9 h fun a0=>Call TP 173 [x7,a0] h fun a1 h=>AC 2 x1 fun a3=>AB false 1 a3 h fun a4=>AH (.arr 1) 5 (AG TP 5) 1 1 [(0,a4)] h fun a5 h=>AM 5 (AG TP 5) 1 1 a1 a5 h fun a6 h=>AC 3 x1 fun a8=>AB false 1 a8 h fun a9=>AH (.arr 1) 5 (AG TP 5) 1 1 [(0,a9)] h fun b0 h=>AM 5 (AG TP 5) 1 1 a6 b0 h fun b1 h=>Q b1 h
theorem SW (x0:Value)(h:H)(Q:Kt)(x:AAS x0 h Q):Call TP 201 [x0] h Q:=Bb nT Tryz.func201 (by kernel_rfl) x
def QL (Q:Kt)(r1:R1)(x3 x4 x9 a0 m9 n0 n1:Value)(h:H):Prop:=
 AD .lss n1 n0 fun n2=>AK n2
 (AI (.slice 1) m9 n1 fun n3=>AB false 1 n3 h fun n4=>AB false 1 x4 h fun n5=>AE n5 fun n6=>AC 17 n6 fun n7=>AB false 1 n7 h fun n8=>CC (some .string) (AG TP 182) false n8 n4 h fun o0=>AE o0 fun o3=>AC 5 o3 fun o4=>AB false 1 o4 h fun o5=>Bj TP a0 [o5,n4] h fun o7 h=>Bq .iface true true h o7 .nilIface fun o9=>AK o9
 (Q o7 h)
 (AD .add n1 (.int .i64 1) fun p1=>r1 p1 h))
 (AB false 1 x9 h fun p2=>Bj TP p2 [] h fun p3 h=>Bq .iface true true h p3 .nilIface fun p5=>AK p5
 (Q p3 h)
 (AB false 1 x3 h fun p7=>AE p7 fun p8=>AC 3 p8 fun p9=>AB false 1 p9 h fun q0=>AB false 1 x3 h fun q1=>AE q1 fun q2=>AC 5 q2 fun q3=>AB false 1 q3 h fun q4=>AE q0 fun q5=>AC 0 q5 fun q6=>AJ 1 q6 q4 h fun h=>AB false 1 x3 h fun q7=>AB false 1 x3 h fun q8=>AE q8 fun q9=>AC 5 q9 fun t0=>AB false 1 t0 h fun t1=>AE q7 fun t2=>AC 6 t2 fun t3=>AJ 1 t3 t1 h fun h=>Q .nilIface h))
def Pu (Q:Kt)(x3 x4 x9 a0 m9 n0 n1:Value)(h:H):Prop:=A1 (fun r1 n1 h=>QL Q r1 x3 x4 x9 a0 m9 n0 n1 h) n1 h
def R9 (Q:Kt)(r2:R1)(r3:R1)(x3 x4 x9 a0 a3 a5 a6 a7:Value)(h:H):Prop:=
 AB false 1 a3 h fun k3=>AB false 1 a3 h fun k5=>AD .sub a7 (.int .i64 1) fun k7=>AB false 1 a3 h fun k8=>AD .sub a7 (.int .i64 1) fun m0=>AI (.slice 1) k8 m0 fun m1=>AB false 1 m1 h fun m2=>AB false 1 a3 h fun m3=>AI (.slice 1) m3 a7 fun m5=>AB false 1 m5 h fun m6=>AI (.slice 1) k3 a7 fun m7=>AJ 1 m7 m2 h fun h=>((AB false 1 a3 h fun v=>v=k5)∧AI (.slice 1) k5 k7 fun m8=>AJ 1 m8 m6 h fun h=>AD .sub a7 (.int .i64 1) fun k2=>r3 k2 h)
def Qg (Q:Kt)(r2:R1)(r3:R1)(x3 x4 x9 a0 a3 a5 a6 a7:Value)(h:H):Prop:=
 AD .gtr a7 (.int .i64 0) fun j3=>Az j3 true (AD .sub a7 (.int .i64 1) fun j8=>Bj TP a5 [a7,j8] h fun j9 h=>AK j9
 (R9 Q r2 r3 x3 x4 x9 a0 a3 a5 a6 a7 h)
 (AD .add a6 (.int .i64 1) fun j0=>r2 j0 h)) (AD .add a6 (.int .i64 1) fun j0=>r2 j0 h)
def Vu (Q:Kt)(r2:R1)(x3 x4 x9 a0 a3 a5 a6 a7:Value)(h:H):Prop:=A1 (fun r3 a7 h=>Qg Q r2 r3 x3 x4 x9 a0 a3 a5 a6 a7 h) a7 h
def P7 (Q:Kt)(r2:R1)(x3 x4 x9 a0 a3 a5 a6:Value)(h:H):Prop:=
 AB false 1 a3 h fun i6=>Ab i6 fun i7=>AD .lss a6 i7 fun i8=>AK i8
 (Vu Q r2 x3 x4 x9 a0 a3 a5 a6 a6 h)
 (AB false 1 a3 h fun m9=>Ab m9 fun n0=>Pu Q x3 x4 x9 a0 m9 n0 (.int .i64 0) h)
def Qb (Q:Kt)(x3 x4 x9 a0 a3 a5 a6:Value)(h:H):Prop:=A1 (fun r2 a6 h=>P7 Q r2 x3 x4 x9 a0 a3 a5 a6 h) a6 h
def RY (Q:Kt)(r4:R0)(x3 x4 x9 a0 a3 g5:Value)(h:H):Prop:=
 HM g5 h fun g6 h=>AO g6 0 fun g7=>AK g7
 (Hb g5 h fun g8=>AO g8 0 fun g9=>AB false 1 a3 h fun i0=>AH (.arr 1) 9 (AG TP 9) 1 1 [(0,g9)] h fun i2 h=>AM 9 (AG TP 9) 1 16 i0 i2 h fun i3 h=>AJ 1 a3 i3 h fun h=>r4 h)
 (Qb Q x3 x4 x9 a0 a3 (.func (.func 204) #[] #[x4,a3]) (.int .i64 1) h)
def Qf (Q:Kt)(x3 x4 x9 a0 a3 g5:Value)(h:H):Prop:=Kv (fun r4 h=>RY Q r4 x3 x4 x9 a0 a3 g5 h) h
def AEW (x0 x1 x2:Value)(h:H)(Q:Kt):Prop:=
 BB 126 (x0:Value).cells h fun x3 h=>BB 182 (x1:Value).cells h fun x4 h=>AB false 1 x3 h fun b3=>Call TP 91 [b3] h fun b4 h=>Bq .iface true true h b4 .nilIface fun b6=>AK b6
 (Q b4 h)
 (AB false 1 x3 h fun b8=>AB false 1 x4 h fun b9=>Call TP 96 [b8,(.string ⟨#[]⟩),b9,(.int .i64 9223372036854775807)] h fun c0 h=>AQ (AG TP 3) 3 h fun x8 h=>AJ 1 x8 (.int .i64 4096) h fun h=>AQ (AG TP 141) 141 h fun x9 h=>AJ 1 x9 (.func (.func 200) #[] #[x8,x3]) h fun h=>AB false 1 x4 h fun c4=>AE c4 fun c5=>AC 5 c5 fun c6=>AB false 1 c6 h fun c7=>Bj TP (.func (.func 202) #[] #[x8,x9,x3]) [c7,(.string ⟨#[46]⟩)] h fun c8 h=>Bq .iface true true h c8 .nilIface fun d0=>AK d0
 (Q c8 h)
 (AE x2 fun d4=>AC 5 d4 fun d5=>AB false 1 d5 h fun d6=>Bj TP (.func (.func 202) #[] #[x8,x9,x3]) [d6,(.string ⟨#[46,46]⟩)] h fun d7 h=>Bq .iface true true h d7 .nilIface fun d9=>AK d9
 (Q d7 h)
 (AQ (AG TP 49) 49 h fun a3 h=>AB false 1 x4 h fun g1=>AE g1 fun g2=>AC 17 g2 fun g3=>AB false 1 g3 h fun g4=>D5 g4 h fun g5 h=>Qf Q x3 x4 x9 (.func (.func 202) #[] #[x8,x9,x3]) a3 g5 h)))
def AGr (Q:Kt)(r:RS):Nat→DJ:=tab [(131061,.lp [3,4,9,10,99,100] [101] fun s e l h=>QL Q (u1 s) (e 3) (e 4) (e 9) (e 10) (e 99) (e 100) (gl l 0) h),
 (16774290,.jn fun e h=>R9 Q (u1 (r 32762)) (u1 (r 2096786)) (e 3) (e 4) (e 9) (e 10) (e 13) (e 15) (e 16) (e 17) h),
 (4193573,.lp [3,4,9,10,13,15,16] [17] fun s e l h=>Qg Q (u1 (r 32762)) (u1 s) (e 3) (e 4) (e 9) (e 10) (e 13) (e 15) (e 16) (gl l 0) h),
 (65525,.lp [3,4,9,10,13,15] [16] fun s e l h=>P7 Q (u1 s) (e 3) (e 4) (e 9) (e 10) (e 13) (e 15) (gl l 0) h),
 (16373,.lp [3,4,9,10,13,55] [] fun s e l h=>RY Q (u0 s) (e 3) (e 4) (e 9) (e 10) (e 13) (e 55) h)]
theorem AAa (x0 x1 x2:Value)(h:H)(Q:Kt)(x:AEW x0 x1 x2 h Q):Call TP 166 [x0,x1,x2] h Q:=Bb (AGr Q) Tryz.func166 (by kernel_rfl) x
def Rt (Q:Kt)(r1:R1)(x0 x4 j2 j3 j4:Value)(h:H):Prop:=
 AD .lss j4 j3 fun j5=>AK j5
 (AI (.slice 1) j2 j4 fun j6=>AB false 1 j6 h fun j7=>AB false 1 x4 h fun j8=>AE j8 fun j9=>AC 17 j9 fun k0=>AB false 1 k0 h fun k1=>CC (some .string) (AG TP 182) false k1 j7 h fun k3=>Call TP 93 [k3] h fun k5 h=>AK k5
 (AB false 1 x4 h fun k8=>Call TP 112 [x0,k3,k8] h fun k9 h=>Bq .iface true true h k9 .nilIface fun m1=>AK m1
 (Q k9 h)
 (AD .add j4 (.int .i64 1) fun m3=>r1 m3 h))
 (AD .add j4 (.int .i64 1) fun m3=>r1 m3 h))
 (Q .nilIface h)
def RI (Q:Kt)(x0 x4 j2 j3 j4:Value)(h:H):Prop:=A1 (fun r1 j4 h=>Rt Q r1 x0 x4 j2 j3 j4 h) j4 h
def Q8 (Q:Kt)(r2:R1)(r3:R1)(x0 x4 x8 a0 a1 a2:Value)(h:H):Prop:=
 AB false 1 x8 h fun g6=>AB false 1 x8 h fun g8=>AD .sub a2 (.int .i64 1) fun i0=>AB false 1 x8 h fun i1=>AD .sub a2 (.int .i64 1) fun i3=>AI (.slice 1) i1 i3 fun i4=>AB false 1 i4 h fun i5=>AB false 1 x8 h fun i6=>AI (.slice 1) i6 a2 fun i8=>AB false 1 i8 h fun i9=>AI (.slice 1) g6 a2 fun j0=>AJ 1 j0 i5 h fun h=>((AB false 1 x8 h fun v=>v=g8)∧AI (.slice 1) g8 i0 fun j1=>AJ 1 j1 i9 h fun h=>AD .sub a2 (.int .i64 1) fun g5=>r3 g5 h)
def Rf (Q:Kt)(r2:R1)(r3:R1)(x0 x4 x8 a0 a1 a2:Value)(h:H):Prop:=
 AD .gtr a2 (.int .i64 0) fun d6=>Az d6 true (AD .sub a2 (.int .i64 1) fun g1=>Bj TP a0 [a2,g1] h fun g2 h=>AK g2
 (Q8 Q r2 r3 x0 x4 x8 a0 a1 a2 h)
 (AD .add a1 (.int .i64 1) fun d3=>r2 d3 h)) (AD .add a1 (.int .i64 1) fun d3=>r2 d3 h)
def Wi (Q:Kt)(r2:R1)(x0 x4 x8 a0 a1 a2:Value)(h:H):Prop:=A1 (fun r3 a2 h=>Rf Q r2 r3 x0 x4 x8 a0 a1 a2 h) a2 h
def Q7 (Q:Kt)(r2:R1)(x0 x4 x8 a0 a1:Value)(h:H):Prop:=
 AB false 1 x8 h fun c9=>Ab c9 fun d0=>AD .lss a1 d0 fun d1=>AK d1
 (Wi Q r2 x0 x4 x8 a0 a1 a1 h)
 (AB false 1 x8 h fun j2=>Ab j2 fun j3=>RI Q x0 x4 j2 j3 (.int .i64 0) h)
def Rs (Q:Kt)(x0 x4 x8 a0 a1:Value)(h:H):Prop:=A1 (fun r2 a1 h=>Q7 Q r2 x0 x4 x8 a0 a1 h) a1 h
def Qu (Q:Kt)(r4:R0)(x0 x4 x8 b8:Value)(h:H):Prop:=
 HM b8 h fun b9 h=>AO b9 0 fun c0=>AK c0
 (Hb b8 h fun c1=>AO c1 0 fun c2=>AB false 1 x8 h fun c3=>AH (.arr 1) 9 (AG TP 9) 1 1 [(0,c2)] h fun c5 h=>AM 9 (AG TP 9) 1 16 c3 c5 h fun c6 h=>AJ 1 x8 c6 h fun h=>r4 h)
 (Rs Q x0 x4 x8 (.func (.func 167) #[] #[x4,x8]) (.int .i64 1) h)
def Vm (Q:Kt)(x0 x4 x8 b8:Value)(h:H):Prop:=Kv (fun r4 h=>Qu Q r4 x0 x4 x8 b8 h) h
def ZJ (x0 x1 x2:Value)(h:H)(Q:Kt):Prop:=
 BB 182 (x1:Value).cells h fun x4 h=>AB false 1 x4 h fun a8=>Call TP 166 [x0,a8,x2] h fun b0 h=>Bq .iface true true h b0 .nilIface fun b2=>AK b2
 (Q b0 h)
 (AQ (AG TP 49) 49 h fun x8 h=>AB false 1 x4 h fun b4=>AE b4 fun b5=>AC 17 b5 fun b6=>AB false 1 b6 h fun b7=>D5 b7 h fun b8 h=>Vm Q x0 x4 x8 b8 h)
def AFK (Q:Kt)(r:RS):Nat→DJ:=tab [(2037,.lp [0,4,72,73] [74] fun s e l h=>Rt Q (u1 s) (e 0) (e 4) (e 72) (e 73) (gl l 0) h),
 (259218,.jn fun e h=>Q8 Q (u1 (r 506)) (u1 (r 32402)) (e 0) (e 4) (e 8) (e 10) (e 11) (e 12) h),
 (64805,.lp [0,4,8,10,11] [12] fun s e l h=>Rf Q (u1 (r 506)) (u1 s) (e 0) (e 4) (e 8) (e 10) (e 11) (gl l 0) h),
 (1013,.lp [0,4,8,10] [11] fun s e l h=>Q7 Q (u1 s) (e 0) (e 4) (e 8) (e 10) (gl l 0) h),
 (245,.lp [0,4,8,28] [] fun s e l h=>Qu Q (u0 s) (e 0) (e 4) (e 8) (e 28) h)]
theorem SZ (x0 x1 x2:Value)(h:H)(Q:Kt)(x:ZJ x0 x1 x2 h Q):Call TP 112 [x0,x1,x2] h Q:=Bb (AFK Q) Tryz.func112 (by kernel_rfl) x
def ADf (x0 x1:Value)(h:H)(Q:Kt):Prop:=
 AB false 1 x0 h fun x6=>AD .gtr x6 (.int .i64 0) fun x7=>AK x7
 (AB false 1 x0 h fun x8=>AV .u16 x8 fun x9=>Ae (.struct [(0,1),(1,1),(2,1),(3,1)]) (AG TP 347) [(1,x9)] fun a0=>AQ (AG TP 347) 347 h fun x3 h=>AJ 4 x3 a0 h fun h=>AB false 1 x1 h fun a2=>AB true 4 x3 h fun a3=>Call TP 201 [a3] h fun a4 h=>((AB false 1 x1 h fun v=>v=a2)∧Call TP 57 [a2,a4] h fun a5 h=>AO a5 0 fun a6=>AO a5 1 fun a7=>Bq .iface true true h a7 .nilIface fun a9=>AK a9
 (Q a7 h)
 (AB false 1 x0 h fun b1=>AD .sub b1 (.int .i64 8) fun b2=>AJ 1 x0 b2 h fun h=>AB false 1 x0 h fun b3=>AD .lss b3 (.int .i64 4) fun b4=>AK b4
 (False )
 (AB false 1 x1 h fun b7=>AB false 1 x0 h fun b8=>AY (AG TP 5) 1 1 5 b8 b8 h fun b9 h=>((AB false 1 x1 h fun v=>v=b7)∧Call TP 57 [b7,b9] h fun c0 h=>AO c0 0 fun c1=>AO c0 1 fun c2=>Bq .iface true true h c2 .nilIface fun c4=>AK c4
 (Q c2 h)
 (AJ 1 x0 (.int .i64 4096) h fun h=>Q .nilIface h))))))
 (AJ 1 x0 (.int .i64 4096) h fun h=>Q .nilIface h)
theorem SS (x0 x1:Value)(h:H)(Q:Kt)(x:ADf x0 x1 h Q):Call TP 200 [x0,x1] h Q:=Bb nT Tryz.func200 (by kernel_rfl) x
def LU (Q:Kt)(x0 x1 x2 x4 x8 x9:Value)(h:H):Prop:=
 AV .u16 x9 fun c2=>CL x1 fun c4=>AV .u8 c4 fun c5=>AB false 1 x4 h fun c6=>Call TP 115 [c6,x0] h fun c8 h=>AE c8 fun c9=>AC 6 c9 fun d0=>AB false 1 d0 h fun d1=>Call TP 203 [d1] h fun d2 h=>Ae (.struct [(0,1),(1,1),(2,1),(3,1)]) (AG TP 347) [(0,x0),(1,c2),(2,c5),(3,d2)] fun d3=>AQ (AG TP 347) 347 h fun a1 h=>AJ 4 a1 d3 h fun h=>AB false 1 x4 h fun d5=>AB true 4 a1 h fun d6=>Call TP 201 [d6] h fun d7 h=>((AB false 1 x4 h fun v=>v=d5)∧Call TP 57 [d5,d7] h fun d8 h=>AO d8 0 fun d9=>AO d8 1 fun g0=>Bq .iface true true h g0 .nilIface fun g2=>AK g2
 (Q g0 h)
 (AB false 1 x4 h fun g5=>Uv 5 x1 h fun g7 h=>Call TP 57 [g5,g7] h fun g8 h=>AO g8 0 fun g9=>AO g8 1 fun i0=>Bq .iface true true h i0 .nilIface fun i2=>AK i2
 (Q i0 h)
 (AQ (AG TP 238) 238 h fun a4 h=>AB false 1 x4 h fun i5=>AD .sub x9 x8 fun i8=>AZ (.arr 4 1) a4 none (some i8) fun i9=>Call TP 57 [i5,i9] h fun j0 h=>AO j0 0 fun j1=>AO j0 1 fun j2=>Bq .iface true true h j2 .nilIface fun j4=>AK j4
 (Q j2 h)
 (AB false 1 x2 h fun j6=>AD .sub j6 x9 fun j8=>AJ 1 x2 j8 h fun h=>Q .nilIface h))))
def ACo (x0 x1 x2 x3 x4:Value)(h:H)(Q:Kt):Prop:=
 CL x1 fun a6=>AD .add (.int .i64 8) a6 fun a7=>AD .add a7 (.int .i64 3) fun a9=>AD .and a9 (.int .i64 (-4)) fun b0=>AB false 1 x2 h fun b1=>AD .add b0 (.int .i64 12) fun b3=>AD .lss b1 b3 fun b4=>AK b4
 (AB false 1 x3 h fun b5=>Bj TP b5 [] h fun b6 h=>Bq .iface true true h b6 .nilIface fun b8=>AK b8
 (Q b6 h)
 (LU Q x0 x1 x2 x4 a7 b0 h))
 (LU Q x0 x1 x2 x4 a7 b0 h)
def AFt (Q:Kt)(r:RS):Nat→DJ:=tab [(62,.jn fun e h=>LU Q (e 0) (e 1) (e 2) (e 4) (e 8) (e 9) h)]
theorem Mn (x0 x1 x2 x3 x4:Value)(h:H)(Q:Kt)(x:ACo x0 x1 x2 x3 x4 h Q):Call TP 202 [x0,x1,x2,x3,x4] h Q:=Bb (AFt Q) Tryz.func202 (by kernel_rfl) x
def ADV (x0 x1 x2 x3:Value)(h:H)(Q:Kt):Prop:=
 AB false 1 x2 h fun x9=>AE x9 fun a0=>AC 17 a0 fun a1=>AB false 1 a1 h fun a2=>AB false 1 x3 h fun a3=>AI (.slice 1) a3 x0 fun a5=>AB false 1 a5 h fun a6=>CC (some .string) (AG TP 182) false a2 a6 h fun a7=>AE a7 fun a8=>AC 5 a8 fun a9=>AB false 1 a9 h fun b0=>AB false 1 x2 h fun b1=>AE b1 fun b2=>AC 17 b2 fun b3=>AB false 1 b3 h fun b4=>AB false 1 x3 h fun b5=>AI (.slice 1) b5 x1 fun b7=>AB false 1 b7 h fun b8=>CC (some .string) (AG TP 182) false b4 b8 h fun b9=>AE b9 fun c0=>AC 5 c0 fun c1=>AB false 1 c1 h fun c2=>AD .eql b0 c2 fun c5=>AK c5
 (AB false 1 x3 h fun c6=>AI (.slice 1) c6 x0 fun c8=>AB false 1 c8 h fun c9=>AB false 1 x3 h fun d0=>AI (.slice 1) d0 x1 fun d2=>AB false 1 d2 h fun d3=>AD .lss c9 d3 fun d4=>Q d4 h)
 (AD .lss b0 c2 fun d7=>Q d7 h)
theorem AAM (x0 x1 x2 x3:Value)(h:H)(Q:Kt)(x:ADV x0 x1 x2 x3 h Q):Call TP 204 [x0,x1,x2,x3] h Q:=Bb nT Tryz.func204 (by kernel_rfl) x
def AD9 (x0 x1 x2 x3:Value)(h:H)(Q:Kt):Prop:=
 AB false 1 x2 h fun x9=>AE x9 fun a0=>AC 17 a0 fun a1=>AB false 1 a1 h fun a2=>AB false 1 x3 h fun a3=>AI (.slice 1) a3 x0 fun a5=>AB false 1 a5 h fun a6=>CC (some .string) (AG TP 182) false a2 a6 h fun a7=>AE a7 fun a8=>AC 5 a8 fun a9=>AB false 1 a9 h fun b0=>AB false 1 x2 h fun b1=>AE b1 fun b2=>AC 17 b2 fun b3=>AB false 1 b3 h fun b4=>AB false 1 x3 h fun b5=>AI (.slice 1) b5 x1 fun b7=>AB false 1 b7 h fun b8=>CC (some .string) (AG TP 182) false b4 b8 h fun b9=>AE b9 fun c0=>AC 5 c0 fun c1=>AB false 1 c1 h fun c2=>AD .eql b0 c2 fun c5=>AK c5
 (AB false 1 x3 h fun c6=>AI (.slice 1) c6 x0 fun c8=>AB false 1 c8 h fun c9=>AB false 1 x3 h fun d0=>AI (.slice 1) d0 x1 fun d2=>AB false 1 d2 h fun d3=>AD .lss c9 d3 fun d4=>Q d4 h)
 (AD .lss b0 c2 fun d7=>Q d7 h)
theorem Yc (x0 x1 x2 x3:Value)(h:H)(Q:Kt)(x:AD9 x0 x1 x2 x3 h Q):Call TP 167 [x0,x1,x2,x3] h Q:=Bb nT Tryz.func167 (by kernel_rfl) x
end
section
variable {h:H} {k:Value→Prop} {kt Q:Kt} {x y r:Res} {wb:Nat} {S S':PS} {ad:Nat→Nat}
theorem BM.opened (p:BM wb ad S x h):∃ r,AN (r+x) h∧∀ x' h',AN (r+x') h'→BM wb ad S x' h':=by
 obtain⟨s,L,tr,a,w⟩:=p
 exact⟨FR s ad L tr,w,fun x' h' w'=>⟨s,L,tr,a,w'⟩⟩
theorem A4 (p:BM wb ad S x h){b o:Nat}{c:Array Value}{T:TypeId}{fz:Nat×Nat}[CO b x (.cells c T fz)]:AB false 1 (.pointer (some ⟨b,o,none⟩)) h k=U3 c[o]? k:=by
 obtain⟨r,w,_⟩:=p.opened
 exact AF w
theorem IM (p:BM wb ad S x h){b o:Nat}{c:Array Value}{T:TypeId}{fz:Nat×Nat}{v:Value}[CO b x (.cells c T fz)](hv:c[o]? = some v):AB false 1 (.pointer (some ⟨b,o,none⟩)) h fun u=>u=v:=by
 rw[A4 p,hv];rfl
theorem DD (p:BM wb ad S x h){x':Res}{b o n:Nat}{v:Value}{c:Array Value}(c':Array Value){T:TypeId}{kh:H→Prop}[CO b x (.cells c T (0,0))][U2 b x (.cells c T (0,0)) (.cells c' T (0,0)) x']
  (hc:Ai c o v.cells.toList=c') (hv:v.cells.size=n) (hle:o+n≤c.size) (ho:v.cells.toList.all Value.oneCell'=true) (K:∀ h,BM wb ad S x' h→kh h):AJ n (.pointer (some ⟨b,o,none⟩)) v h kh:=by
 obtain⟨r,w,cl⟩:=p.opened
 exact AL w c' hc hv hle ho fun h w=>K h (cl _ _ w)
theorem M3 (p:BM wb ad S x h){T:TypeId}{cs:Array Value}(K:∀ b h,BM wb ad S (pts b (.cells cs T (0,0))+x) h→kt (Pt b) h):BB T cs h kt:=by
 obtain⟨r,w,cl⟩:=p.opened
 exact BJ w fun b h w=>K b h (cl _ _ (w.cast (by ac_rfl)))
theorem DG (p:BM wb ad S x h){z:Option Value}{zv:Value}{l:List Value}{T:TypeId}(hz:z=some zv)(hc:zv.cells=⟨l⟩)(K:∀ b h,BM wb ad S (pts b (.cells ⟨l⟩ T (0,0))+x) h→kt (Pt b) h):AQ z T h kt:=by
 obtain⟨r,w,cl⟩:=p.opened
 exact Ah w hz hc fun b h w=>K b h (cl _ _ (w.cast (by ac_rfl)))
theorem ADK (p:BM wb ad S x h){kl kc:IntKind}{n:Nat}(hn:n≤140737488355328)(K:∀ b h,BM wb ad S (buf b (List.replicate n 0)+x) h→kt (.slice (some ⟨b,0,none⟩) n n) h):AY (AG TP 5) 1 1 5 (.int kl (n:Int)) (.int kc (n:Int)) h kt:=by
 obtain⟨r,w,cl⟩:=p.opened
 exact ER w hn fun b h w=>K b h (cl _ _ (w.cast (by ac_rfl)))
def GD (ino rl nl ft:Nat):Bs:=Ac ino++Aq rl++[UInt8.ofNat nl,UInt8.ofNat ft]
theorem Hw (a b c d:Nat):(GD a b c d).length=8:=rfl
theorem KC {v:Value}{bs:Bs}{n:Nat}{y:Res}(b:BufV v bs r)(w:AN (r+y) h)(hn:n<256)(hl:bs.length+1≤140737488355328)(K:∀ v r h,BufV v (bs++[UInt8.ofNat n]) r→AN (r+y) h→kt v h) :
  AH (.arr 1) 5 (AG TP 5) 1 1 [(0,.int .u8 (n:Int))] h fun s h=>AM 5 (AG TP 5) 1 1 v s h kt:=by
 refine CZ (l:=[UInt8.ofNat n]) w (by decide) ?_ rfl fun b1 h w=>?_
 ·have:(.int .u8 (n:Int):Value)=bc (UInt8.ofNat n):=by
   rw[←MZ,A23 hn]
  rw[this];rfl
 ·rw[Res.left_comm] at w
  exact BU b w (Px w rfl) (by simpa using hl) fun v r h b w=>K v r h b (by rw[Res.left_comm] at w;exact w.right)
theorem AHY {a b c d:Nat}(w:AN x h)(hc:c<256)(hd:d<256)(K:∀ v r h,BufV v (GD a b c d) r→AN (r+x) h→Q v h):AAS (.agg ⟨[.int .u32 a,.int .u16 b,.int .u8 c,.int .u8 d]⟩) h Q:=by
 unfold AAS
 refine BJ w fun pb h w=>?_
 simp only[go_sem,AF w]
 refine Eo _ _ _ _ (OU (bs:=[]) .nil (w.cast (Res.zero_add _).symm) (by simp) fun v r h bv w=>?_)
 rw[AF w]
 simp only[go_sem]
 refine Ek _ _ _ _ (On bv w (by simp[Av]) fun v r h bv w=>?_)
 rw[AF w]
 simp only[go_sem]
 refine KC bv w hc (by simp[BI,Av]) fun v r h bv w=>?_
 rw[AF w]
 simp only[go_sem]
 refine KC bv w hd (by simp[BI,Av]) fun v r h bv w=>?_
 refine K v r h ?_ (AN.right (x:=pts pb _) (w.cast (Res.left_comm _ _ _)))
 simpa[GD] using bv
theorem Ty (p:BM wb ad S x h){a b c d:Nat}(hc:c<256)(hd:d<256)(K:∀ v r h,BufV v (GD a b c d) r→BM wb ad S (r+x) h→Q v h):AAS (.agg ⟨[.int .u32 a,.int .u16 b,.int .u8 c,.int .u8 d]⟩) h Q:=by
 obtain⟨r0,w,cl⟩:=p.opened
 exact AHY w hc hd fun v r h b w=>K v r h b (cl _ _ (w.cast (by ac_rfl)))
theorem JZ:AG TP 347=some (.agg ⟨[.int .u32 0,.int .u16 0,.int .u8 0,.int .u8 0]⟩):=by kernel_rfl
def EG (m:Nat):Nat:=if kindB m=32768 then 1 else if kindB m=16384 then 2 else if kindB m=8192 then 3 else if kindB m=24576 then 4 else if kindB m=4096 then 5 else if kindB m=49152 then 6 else if kindB m=40960 then 7 else 0
theorem M4 (m:Nat):EG m<256:=by unfold EG;(repeat' split)<;>omega
theorem AHz {m:Nat}(hm:m<65536)(K:Q (.int .u8 (EG m:Nat)) h):ABs (.int .u16 (m:Int)) h Q:=by
 unfold ABs
 simp (disch:=omega) only[go_sem]
 have hkk:(m &&& 61440)=kindB m:=rfl
 rw[hkk]
 unfold EG at K
 refine AX (fun h1=>?_) fun h1=>?_
 ·rw[A03 (by omega)] at K;exact K
 rw[A05 (by omega)] at K
 refine AX (fun h1=>?_) fun h1=>?_
 ·rw[A03 (by omega)] at K;exact K
 rw[A05 (by omega)] at K
 refine AX (fun h1=>?_) fun h1=>?_
 ·rw[A03 (by omega)] at K;exact K
 rw[A05 (by omega)] at K
 refine AX (fun h1=>?_) fun h1=>?_
 ·rw[A03 (by omega)] at K;exact K
 rw[A05 (by omega)] at K
 refine AX (fun h1=>?_) fun h1=>?_
 ·rw[A03 (by omega)] at K;exact K
 rw[A05 (by omega)] at K
 refine AX (fun h1=>?_) fun h1=>?_
 ·rw[A03 (by omega)] at K;exact K
 rw[A05 (by omega)] at K
 refine AX (fun h1=>?_) fun h1=>?_
 ·rw[A03 (by omega)] at K;exact K
 rw[A05 (by omega)] at K
 exact K
def HC (left:Nat):Bs:=GD 0 left 0 0++List.replicate (left-8) 0
def Dm (nm:Bs):Nat:=(8+nm.length+3)/4*4
def Eg (c ft:Nat)(nm:Bs):Bs:=GD c (Dm nm) nm.length ft++nm++List.replicate (Dm nm-(8+nm.length)) 0
structure FS (S:PS) (c:Nat) (n:PN) (room:Nat):Prop where
 cur:S.cur=some c
 pos:1≤c
 nd:S.M[c-1]? = some (some n)
 fl:n.flags=262144
 dm:S.dm=9223372036854775807
 dw:S.dw+room≤100000000
 max:S.pos+room≤S.max
theorem FS.wrote {c room:Nat}{n:PN}{bs:Bs}(a:FS S c n room)(hb:bs.length≤room):FS (S.wrote bs) c n (room-bs.length):=by
 refine⟨a.cur,a.pos,a.nd,a.fl,a.dm,?_,?_⟩
 ·show S.dw+bs.length+(room-bs.length)≤100000000
  have:=a.dw;omega
 ·show S.pos+bs.length+(room-bs.length)≤S.max
  have:=a.max;omega
theorem FS.wrt {c room:Nat}{n:PN}{bs:Bs}(a:FS S c n room)(hb:bs.length≤room)(h0:0<bs.length):Wrt bs S (S.wrote bs):=by
 have h1:=a.dw
 have h2:=a.dm
 have h3:=a.max
 exact .disk a.cur a.pos a.nd h0 a.fl (by omega) (by omega) (by omega)
theorem VL {B a b:Bs}{p:Nat}(h:B.length≤p):BG (BG B p a) (p+a.length) b=BG B p (a++b):=by
 have e:∀ (B m:Bs) (p:Nat),B.length≤p→BG B p m=B++List.replicate (p-B.length) 0++m:=by
  intro B m p h
  unfold BG setL
  have h1:(B++List.replicate (p+m.length-B.length) 0).take p=B++List.replicate (p-B.length) 0:=by
   rw[List.take_append,A43 (by omega),B49]
   congr 2;omega
  have h2:(B++List.replicate (p+m.length-B.length) 0).drop (p+m.length)=[]:=List.drop_eq_nil_iff.2 (by simp;omega)
  rw[h1,h2,A22]
 rw[e _ b _ (by rw[Ei];omega),e B a p h,e B (a++b) p h]
 have:p+a.length-(B++List.replicate (p-B.length) 0++a).length=0:=by simp;omega
 rw[this]
 simp
theorem EK {a b:Bs}(h:S.B.length≤S.pos):(S.wrote a).wrote b=S.wrote (a++b):=by
 unfold PS.wrote
 simp only[A01,VL h,B62]
theorem NN {a:Bs}(h:S.B.length≤S.pos):(S.wrote a).B.length≤(S.wrote a).pos:=by
 show (BG S.B S.pos a).length≤S.pos+a.length
 rw[Ei];omega
end
section
variable {h:H} {k:Value→Prop} {kt Q:Kt} {x y r:Res} {wb:Nat} {S S':PS} {ad:Nat→Nat}
theorem IF {n:Nat}{fst cap:Array Value}{args l:List Value}(hl:fst.toList++args++cap.toList=l)(hb:F9 TP n=true)(K:Call TP n l h kt):Bj TP (.func (.func n) fst cap) args h kt:=
 ⟨⟨n,fst,cap,rfl,hb⟩,n,fst,cap,rfl,by rw[hl];exact K⟩
theorem AEG {a:Nat}(ha:a<9223372036854775808):AD .and (.int .i64 (a:Int)) (.int .i64 (-4)) k=k (.int .i64 ((a/4*4:Nat):Int)):=by
 rw[←XR (k:=k) ha]
 have e:(BitVec.ofInt 64 (-4)) = ~~~ BitVec.ofInt 64 3:=by decide
 have:CT .and (.int .i64 (a:Int)) (.int .i64 (-4))=CT .andNot (.int .i64 (a:Int)) (.int .i64 3):=by
  show some (Value.int .i64 (IntKind.i64.wrap ((BitVec.ofInt 64 (a:Int) &&& BitVec.ofInt 64 (-4)).toNat:Int)))=some (Value.int .i64 (IntKind.i64.wrap ((BitVec.ofInt 64 (a:Int) &&& ~~~ BitVec.ofInt 64 3).toNat:Int)))
  rw[e]
 unfold AD
 rw[this]
theorem ZS {T:TypeId}{l:Bs}(w:AN x h)(K:∀ v r h,RdX r v l→AN (r+x) h→kt v h):Uv T (str l) h kt:=by
 refine⟨_,rfl,fun b cap h' hc e hb ho=>?_⟩
 rw[Cp] at hc ho
 have h1:Bw ⟨l.toArray⟩++Array.replicate (cap-l.length) (.int .u8 0)=bcs (l++List.replicate (cap-l.length) 0):=by
  rw[Fl,Dn]
  congr 1
  apply A56
  simp[Bw,bcs,bc]
 rw[h1] at ho
 rw[Cp]
 refine K _ (pts b (.cells (bcs (l++List.replicate (cap-l.length) 0)) T (cap,cap+1))) h' (.inr ⟨b,0,cap,_,T,_,0,rfl,(Res.add_zero _).symm,by simp,by simp,hc⟩) (w.new e hb ho)
theorem AAT (p:BM wb ad S x h){T:TypeId}{l:Bs}(K:∀ v r h,RdX r v l→BM wb ad S (r+x) h→kt v h):Uv T (str l) h kt:=by
 obtain⟨r,w,cl⟩:=p.opened
 exact ZS w fun v r' h d w=>K v r' h d (cl _ _ (w.cast (by ac_rfl)))
theorem TY (p:BM wb ad S x h){c:Nat}{n:PN}(h1:1≤c)(hn:S.M[c-1]? = some (some n)) :
  ∃ (nd:Nd) (r:Res),nd.pn=n∧AN (pts (ad c) (.cells nd.cells 197 (0,0))+(r+x)) h∧(∀ Q:Kt,Q (Pt (ad c)) h→U9 (Pt wb) (.int .u32 (c:Int)) h Q)∧nd.mode<65536:=by
 obtain⟨s,L,tr,a,w⟩:=p
 obtain⟨nd,hnd,hp⟩:=CF (a.M▸hn)
 obtain⟨w',hnum⟩:=CG a.ok h1 hnd w
 have hl:=(A02.1 hnd).1
 have hl2:=a.ok.len
 refine⟨nd,nd.dr+(nd.xr+nd.kr ad)+(s.res+(tr+sumR ad (L.set (c-1) none))),hp,w'.cast (by unfold Nd.res;rw[hnum];ac_rfl),fun Q hq=>?_,(a.ok.nd _ _ hnd).2.2.1⟩
 rw[←a.wb]
 refine ACV (i:=c) a.ok w h1 (by omega) ?_
 unfold HJ
 rw[hnd]
 simp only[ptrO]
 rw[hnum]
 exact hq
abbrev lbR (lb left:Nat):Res:=pts lb (.cells ⟨[.int .i64 left]⟩ 3 (0,0))
abbrev wvR (wv wb:Nat):Res:=pts wv (.cells ⟨[Pt wb]⟩ 126 (0,0))
set_option maxRecDepth 20000 in
theorem AFw {lb wv left c room:Nat}{n:PN}(p:BM wb ad S (lbR lb left+(wvR wv wb+x)) h)(a:FS S c n room)(hl:12≤left)(hl2:left≤4096)(hr:left≤room)(hB:S.B.length≤S.pos)
  (K:∀ h,BM wb ad (S.wrote (HC left)) (lbR lb 4096+(wvR wv wb+x)) h→Q .nilIface h):ADf (Pt lb) (Pt wv) h Q:=by
 unfold ADf
 simp (disch:=omega) only[go_sem,A4 p,A04]
 refine Au JZ rfl (rs:=[.int .u32 ((0:Nat):Int),.int .u16 left,.int .u8 ((0:Nat):Int),.int .u8 ((0:Nat):Int)]) rfl ?_
 refine DG p JZ rfl fun eb h p=>?_
 refine DD p ⟨[.int .u32 ((0:Nat):Int),.int .u16 left,.int .u8 ((0:Nat):Int),.int .u8 ((0:Nat):Int)]⟩ ((A2 _ _ _).trans rfl) rfl (by simp) rfl fun h p=>?_
 simp only[go_sem,A4 p]
 obtain⟨r0,w0,cl⟩:=p.opened
 rw[Am (w0.find (b:=eb)) (by simp)]
 refine SW _ _ _ (Ty (a:=0) (b:=left) (c:=0) (d:=0) p (by omega) (by omega) fun v r h bv p=>⟨IM p rfl,?_⟩)
 have hd8:=Hw 0 left 0 0
 refine Ip _ _ _ _ (G1 p bv.rdX.addL (a.wrt (by omega) (by omega)) fun h p=>?_)
 simp (disch:=omega) only[go_sem,A4 p]
 refine DD p ⟨[.int .i64 ((left-8:Nat):Int)]⟩ rfl rfl (by simp) rfl fun h p=>?_
 simp (disch:=omega) only[go_sem,A4 p,A08]
 refine ADK p (n:=left-8) (by omega) fun mb h p=>⟨IM p rfl,?_⟩
 have a2:=a.wrote (bs:=GD 0 left 0 0) (by omega)
 have d2:RdX (buf mb (List.replicate (left-8) 0)) (.slice (some ⟨mb,0,none⟩) (left-8) (left-8)) (List.replicate (left-8) 0):=.inr ⟨mb,0,left-8,(List.replicate (left-8) 0).map bc,5,(0,0),0,by simp,(Res.add_zero _).symm,by simp,by simp,by simp⟩
 refine Ip _ _ _ _ (G1 p d2.addL (a2.wrt (by simp;omega) (by simp;omega)) fun h p=>?_)
 simp (disch:=omega) only[go_sem]
 rw[EK hB] at p
 refine DD p ⟨[.int .i64 ((4096:Nat):Int)]⟩ rfl rfl (by simp) rfl fun h p=>?_
 exact K h (BM.mono (y:=r+pts eb (.cells ⟨[.int .u32 ((0:Nat):Int),.int .u16 left,.int .u8 ((0:Nat):Int),.int .u8 ((0:Nat):Int)]⟩ 347 (0,0))+buf mb (List.replicate (left-8) 0)) (p.cast (by ac_rfl)))
abbrev fvR (fv lb wv:Nat):Res:=pts fv (.cells ⟨[.func (.func 200) #[] #[Pt lb,Pt wv]]⟩ 141 (0,0))
set_option maxRecDepth 20000 in
theorem Vi {lb wv left c c' room:Nat}{n n':PN}{nm:Bs}(p:BM wb ad S (lbR lb left+(wvR wv wb+x)) h)(a:FS S c n room)(h1:1≤c')(hn:S.M[c'-1]? = some (some n'))(hm:n'.mode<65536)(hnm:1≤nm.length)(hnl:nm.length<256)(hc:c'<4294967296)
  (hl:Dm nm≤left) (hl2:left≤4096) (hr:Dm nm≤room) (hB:S.B.length≤S.pos)
  (K:∀ h,BM wb ad (S.wrote (Eg c' (EG n'.mode) nm)) (lbR lb (left-Dm nm)+(wvR wv wb+x)) h→Q .nilIface h):LU Q (.int .u32 (c':Int)) (str nm) (Pt lb) (Pt wv) (.int .i64 ((8+nm.length:Nat):Int)) (.int .i64 (Dm nm:Nat)) h:=by
 have hrl:8+nm.length≤Dm nm∧Dm nm<8+nm.length+4:=by unfold Dm;omega
 unfold LU
 simp (disch:=omega) only[go_sem,A4 p]
 obtain⟨nd,nr,hnd,nw,nq,hmode⟩:=TY p h1 hn
 have hmd:nd.mode=n'.mode:=by rw[←hnd];rfl
 refine NS _ _ _ _ (nq _ ?_)
 simp (disch:=omega) only[go_sem,AF nw,hmd]
 refine AAk _ _ _ (AHz hm ?_)
 refine Au JZ rfl (rs:=[.int .u32 c',.int .u16 (Dm nm:Nat),.int .u8 (nm.length:Nat),.int .u8 (EG n'.mode:Nat)]) rfl ?_
 refine DG p JZ rfl fun eb h p=>?_
 refine DD p ⟨[.int .u32 c',.int .u16 (Dm nm:Nat),.int .u8 (nm.length:Nat),.int .u8 (EG n'.mode:Nat)]⟩ ((A2 _ _ _).trans rfl) rfl (by simp) rfl fun h p=>?_
 simp only[go_sem,A4 p]
 obtain⟨r0,w0,cl⟩:=p.opened
 rw[Am (w0.find (b:=eb)) (by simp)]
 refine SW _ _ _ (Ty (a:=c') (b:=Dm nm) (c:=nm.length) (d:=EG n'.mode) p hnl (M4 _) fun v r h bv p=>⟨IM p rfl,?_⟩)
 have hd8:=Hw c' (Dm nm) nm.length (EG n'.mode)
 refine Ip _ _ _ _ (G1 p bv.rdX.addL (a.wrt (by omega) (by omega)) fun h p=>?_)
 simp (disch:=omega) only[go_sem,A4 p]
 have a2:=a.wrote (bs:=GD c' (Dm nm) nm.length (EG n'.mode)) (by omega)
 refine AAT p fun v2 r2 h d2 p=>?_
 refine Ip _ _ _ _ (G1 p d2.addL (a2.wrt (by omega) (by omega)) fun h p=>?_)
 rw[EK hB] at p
 have a3:=a2.wrote (bs:=nm) (by omega)
 rw[EK hB] at a3
 simp (disch:=omega) only[go_sem]
 refine DG p SK rfl fun zb h p=>?_
 simp (disch:=omega) only[go_sem,A4 p]
 rw[JN (by omega) (by omega)]
 have d3:RdX (pts zb (.cells ⟨[.int .u8 0,.int .u8 0,.int .u8 0,.int .u8 0]⟩ 238 (0,0))) (.slice (some ⟨zb,0,none⟩) (Dm nm-(8+nm.length)) 4) (List.replicate (Dm nm-(8+nm.length)) 0):=
  .inr ⟨zb,0,4,(List.replicate 4 0).map bc,238,(0,0),0,by simp,(Res.add_zero _).symm,by simp;omega,by rw[A09,A68,←B11,B49,A30 (by omega)],by simp;omega⟩
 have wr:Wrt (List.replicate (Dm nm-(8+nm.length)) 0) (S.wrote (GD c' (Dm nm) nm.length (EG n'.mode)++nm)) (S.wrote (Eg c' (EG n'.mode) nm)):=by
  by_cases h0:Dm nm-(8+nm.length)=0
  ·unfold Eg
   rw[h0]
   simp only[B50,A22]
   exact .none rfl
  ·unfold Eg
   have a4:=a3.wrt (bs:=List.replicate (Dm nm-(8+nm.length)) 0) (by rw[A09];omega) (by rw[A09];omega)
   rw[EK hB] at a4
   exact a4
 refine Ip _ _ _ _ (G1 p d3.addL wr fun h p=>?_)
 simp (disch:=omega) only[go_sem,A4 p]
 refine DD p ⟨[.int .i64 ((left-Dm nm:Nat):Int)]⟩ rfl rfl (by simp) rfl fun h p=>?_
 exact K h (BM.mono (y:=r2+r+pts eb (.cells ⟨[.int .u32 c',.int .u16 (Dm nm:Nat),.int .u8 (nm.length:Nat),.int .u8 (EG n'.mode:Nat)]⟩ 347 (0,0))+pts zb (.cells ⟨[.int .u8 0,.int .u8 0,.int .u8 0,.int .u8 0]⟩ 238 (0,0))) (p.cast (by ac_rfl)))
def Dk (left c ft:Nat)(nm:Bs):Nat×Bs:=if left<Dm nm+12 then (4096-Dm nm,HC left++Eg c ft nm) else (left-Dm nm,Eg c ft nm)
theorem GR {left:Nat}(h:8≤left):(HC left).length=left:=by unfold HC;rw[A01,Hw,A09];omega
theorem IK (c ft:Nat)(nm:Bs):(Eg c ft nm).length=Dm nm:=by
 unfold Eg;rw[A01,A01,Hw,A09];unfold Dm;omega
theorem AC5 {lb wv fv left c c' room:Nat}{n n':PN}{nm:Bs}(p:BM wb ad S (lbR lb left+(wvR wv wb+(fvR fv lb wv+x))) h)(a:FS S c n room)(h1:1≤c')(hn:S.M[c'-1]? = some (some n'))(hm:n'.mode<65536)(hnm:1≤nm.length)(hnl:nm.length<256)(hc:c'<4294967296)
  (hl:12≤left) (hl2:left≤4096) (hr:4500≤room) (hB:S.B.length≤S.pos)
  (K:∀ h,BM wb ad (S.wrote (Dk left c' (EG n'.mode) nm).2) (lbR lb (Dk left c' (EG n'.mode) nm).1+(wvR wv wb+(fvR fv lb wv+x))) h→Q .nilIface h):ACo (.int .u32 (c':Int)) (str nm) (Pt lb) (Pt fv) (Pt wv) h Q:=by
 have hrl:8+nm.length≤Dm nm∧Dm nm<8+nm.length+4:=by unfold Dm;omega
 have hrd:(8+nm.length+3)/4*4=Dm nm:=rfl
 unfold ACo
 have e8:(AD .add (.int .i64 8) (.int .i64 (nm.length:Nat)))=fun k=>k (.int .i64 ((8+nm.length:Nat):Int)):=funext fun k=>by rw[A0,←Ci (m:=8+nm.length) (by omega)];rfl
 simp (disch:=omega) only[go_sem,e8,AEG,hrd,A4 p]
 refine AX (fun hc'=>?_) (fun hc'=>?_)
 ·refine IF (l:=[Pt lb,Pt wv]) rfl (by kernel_rfl) (SS _ _ _ _ (AFw p a hl hl2 (by omega) hB fun h p=>?_))
  simp only[go_sem]
  have hf:=GR (left:=left) (by omega)
  refine Vi (x:=fvR fv lb wv+x) (left:=4096) p (a.wrote (bs:=HC left) (by omega)) h1 hn hm hnm hnl hc (by omega) (by omega) (by omega) (NN hB) fun h p=>K h ?_
  rw[EK hB] at p
  unfold Dk
  rw[A03 (by omega)]
  exact p
 ·refine Vi (x:=fvR fv lb wv+x) p a h1 hn hm hnm hnl hc (by omega) (by omega) (by omega) hB fun h p=>K h ?_
  unfold Dk
  rw[A05 (by omega)]
  exact p
end
section
variable {h:H} {k:Value→Prop} {kt Q:Kt} {x y r:Res} {wb:Nat} {S S':PS} {ad:Nat→Nat}
theorem DM (p:BM wb ad S x h){c:Nat}{n:PN}(h1:1≤c)(hn:S.M[c-1]? = some (some n)):∃ (nd:Nd) (r:Res),nd.pn=n∧nd.num=c∧AN (nd.res ad+(r+x)) h∧∀ x' h',AN (nd.res ad+(r+x')) h'→BM wb ad S x' h':=by
 obtain⟨s,L,tr,a,w⟩:=p
 obtain⟨nd,hnd,hp⟩:=CF (a.M▸hn)
 obtain⟨w',hnum⟩:=CG a.ok h1 hnd w
 refine⟨nd,s.res+(tr+sumR ad (L.set (c-1) none)),hp,hnum,w'.cast (by ac_rfl),fun x' h' w=>⟨s,L,tr,a,w.cast ?_⟩⟩
 unfold FR
 rw[Fs hnd]
 ac_rfl
theorem DS {T:TypeId}{v u:Value}{n i:Nat}{kk:IntKind}{vs:List Value}{kh:H→Prop}(d:Vec T 1 v n vs r)(w:AN (r+x) h)(hi:i<n)(hu:u.cells=#[u])(ho:Value.oneCell' u=true)
  (K:∀ r h,Vec T 1 v n (vs.set i u) r→AN (r+x) h→kh h):AI (.slice 1) v (.int kk (i:Int)) fun a=>AJ 1 a u h kh:=by
 cases d with
 | nil=>omega
 | own hn hc=>
  rename_i b c all
  rw[Cg hi,A29]
  refine AL w ⟨all.set i u⟩ ?_ (by rw[hu];rfl) (by simp;omega) (by rw[hu];simp[ho]) fun h w=>?_
  ·rw[hu,A2];rfl
  ·refine K _ h (Vec.own' (n:=n) hn (by simp;omega) ?_) w
   rw[List.take_set]
theorem Dw (p:BM wb ad S (r+x) h){T:TypeId}{v u:Value}{n i:Nat}{kk:IntKind}{vs:List Value}(d:Vec T 1 v n vs r)(hu:vs[i]? = some u)(K:k u):AI (.slice 1) v (.int kk (i:Int)) fun a=>AB false 1 a h k:=by
 obtain⟨r0,w,_⟩:=p.opened
 exact Bu d (w.cast (Res.left_comm _ _ _)) hu K
theorem O4 (p:BM wb ad S (r+x) h){T:TypeId}{v u:Value}{n i:Nat}{kk:IntKind}{vs:List Value}{kh:H→Prop}(d:Vec T 1 v n vs r)(hi:i<n)(hu:u.cells=#[u])(ho:Value.oneCell' u=true)
  (K:∀ r h,Vec T 1 v n (vs.set i u) r→BM wb ad S (r+x) h→kh h):AI (.slice 1) v (.int kk (i:Int)) fun a=>AJ 1 a u h kh:=by
 obtain⟨r0,w,cl⟩:=p.opened
 exact DS d (w.cast (Res.left_comm _ _ _)) hi hu ho fun r h d w=>K r h d (cl _ _ (w.cast (Res.left_comm _ _ _)))
def lessE (es:List (Bs×Nat))(a b:Bs):Bool:=match lookE es a,lookE es b with
 | some i,some j=>if i=j then Op.bytesLess a b else decide (i<j)
 | _,_=>false
def strs (l:List Bs):List Value:=l.map str
abbrev dvR (dv p:Nat):Res:=pts dv (.cells ⟨[Pt p]⟩ 182 (0,0))
abbrev cvR (cv:Nat)(v:Value):Res:=pts cv (.cells ⟨[v]⟩ 49 (0,0))
theorem SC {a b:Bs}:AD .lss (str a) (str b) k=k (.bool (Op.bytesLess a b)):=by
 refine Fo ?_
 simp only[CT,ByteArray.toList_eq]
def KidsIn (S:PS)(es:List (Bs×Nat)):Prop:=∀ e∈es,1≤e.2∧∃ n,S.M[e.2-1]? = some (some n)
theorem AA0 {dv cv c i j m:Nat}{n:PN}{es:List (Bs×Nat)}{l:List Bs}{v:Value}{a b:Bs}(p:BM wb ad S (r+(dvR dv (ad c)+(cvR cv v+x))) h)(d:Vec 9 1 v m (strs l) r)(h1:1≤c)(hn:S.M[c-1]? = some (some n))(hk:n.kids=some es)
  (hki:KidsIn S es) (hi:l[i]? = some a) (hj:l[j]? = some b) (ha:∃ x,lookE es a=some x) (hb:∃ x,lookE es b=some x) (K:Q (.bool (lessE es a b)) h) {x0 x1:Value} (e0:x0=.int .i64 i) (e1:x1=.int .i64 j) :
  AB false 1 (Pt dv) h fun x9=>AE x9 fun x10=>AC 17 x10 fun x11=>AB false 1 x11 h fun x12=>AB false 1 (Pt cv) h fun x13=>AI (.slice 1) x13 x0 fun x15=>AB false 1 x15 h fun x16=>CC (some .string) (AG TP 182) false x12 x16 h fun x17=>AE x17 fun x18=>AC 5 x18 fun x19=>AB false 1 x19 h fun x20=>AB false 1 (Pt dv) h fun x21=>AE x21 fun x22=>AC 17 x22 fun x23=>AB false 1 x23 h fun x24=>AB false 1 (Pt cv) h fun x25=>AI (.slice 1) x25 x1 fun x27=>AB false 1 x27 h fun x28=>CC (some .string) (AG TP 182) false x24 x28 h fun x29=>AE x29 fun x30=>AC 5 x30 fun x31=>AB false 1 x31 h fun x32=>AD .eql x20 x32 fun x35=>AK x35
 (AB false 1 (Pt cv) h fun x36=>AI (.slice 1) x36 x0 fun x38=>AB false 1 x38 h fun x39=>AB false 1 (Pt cv) h fun x40=>AI (.slice 1) x40 x1 fun x42=>AB false 1 x42 h fun x43=>AD .lss x39 x43 fun x44=>Q x44 h)
 (AD .lss x20 x32 fun x47=>Q x47 h):=by
 subst e0 e1
 obtain⟨ki,hai⟩:=ha
 obtain⟨kj,hbj⟩:=hb
 obtain⟨nd,rr,hnd,hnum,w,_⟩:=DM p h1 hn
 obtain⟨mb,hd⟩:∃ mb,nd.dir=some (mb,es):=by
  have:nd.dir.map (·.2)=some es:=by rw[←hk,←hnd];rfl
  rw[A74] at this
  obtain⟨⟨mb,es'⟩,e1,e2⟩:=this
  cases e2
  exact⟨mb,e1⟩
 obtain⟨hi1,ni,hni⟩:=hki _ (Gt hai)
 obtain⟨hj1,nj,hnj⟩:=hki _ (Gt hbj)
 obtain⟨ndi,ri,hpi,hnumi,wi,_⟩:=DM p hi1 hni
 obtain⟨ndj,rj,hpj,hnumj,wj,_⟩:=DM p hj1 hnj
 have gi:(strs l)[i]? = some (str a):=by unfold strs;rw[A21,hi];rfl
 have gj:(strs l)[j]? = some (str b):=by unfold strs;rw[A21,hj];rfl
 have wl:AN (pts (ad c) (.cells nd.cells 197 (0,0))+(nd.dr+(nd.xr+nd.kr ad))+(rr+(r+(dvR dv (ad c)+(cvR cv v+x))))) h:=w.cast (by unfold Nd.res;rw[hnum])
 have wi':AN (pts (ad ki) (.cells ndi.cells 197 (0,0))+(ndi.dr+(ndi.xr+ndi.kr ad))+(ri+(r+(dvR dv (ad c)+(cvR cv v+x))))) h:=wi.cast (by unfold Nd.res;rw[hnumi])
 have wj':AN (pts (ad kj) (.cells ndj.cells 197 (0,0))+(ndj.dr+(ndj.xr+ndj.kr ad))+(rj+(r+(dvR dv (ad c)+(cvR cv v+x))))) h:=wj.cast (by unfold Nd.res;rw[hnumj])
 simp only[go_sem,A4 p]
 rw[AF wl]
 simp only[go_sem]
 refine Dw p d gi ?_
 refine EJ w ?_
 simp only[hd,hai,go_sem]
 rw[AF wi']
 simp only[go_sem]
 rw[AF wl]
 simp only[go_sem]
 refine Dw p d gj ?_
 refine EJ w ?_
 simp only[hd,hbj,go_sem]
 rw[AF wj']
 simp only[go_sem]
 have hle:lessE es a b=if ki=kj then Op.bytesLess a b else decide (ki<kj):=by unfold lessE;rw[hai,hbj]
 rw[hle] at K
 have hn1:ndi.num=ki:=hnumi
 have hn2:ndj.num=kj:=hnumj
 refine AX (fun he=>?_) (fun he=>?_)
 ·refine Dw p d gi ?_
  refine Dw p d gj ?_
  rw[SC]
  rw[A03 (by omega)] at K
  exact K
 ·rw[A05 (by omega)] at K
  have:decide ((ndi.num:Int)<(ndj.num:Int))=decide (ki<kj):=decide_eq_decide.2 (by omega)
  rw[this]
  exact K
theorem AHo {dv cv c i j m:Nat}{n:PN}{es:List (Bs×Nat)}{l:List Bs}{v:Value}{a b:Bs}(p:BM wb ad S (r+(dvR dv (ad c)+(cvR cv v+x))) h)(d:Vec 9 1 v m (strs l) r)(h1:1≤c)(hn:S.M[c-1]? = some (some n))(hk:n.kids=some es)
  (hki:KidsIn S es) (hi:l[i]? = some a) (hj:l[j]? = some b) (ha:∃ x,lookE es a=some x) (hb:∃ x,lookE es b=some x) (K:Q (.bool (lessE es a b)) h):ADV (.int .i64 i) (.int .i64 j) (Pt dv) (Pt cv) h Q:=by
 unfold ADV
 exact AA0 p d h1 hn hk hki hi hj ha hb K rfl rfl
theorem AHs {dv cv c i j m:Nat}{n:PN}{es:List (Bs×Nat)}{l:List Bs}{v:Value}{a b:Bs}(p:BM wb ad S (r+(dvR dv (ad c)+(cvR cv v+x))) h)(d:Vec 9 1 v m (strs l) r)(h1:1≤c)(hn:S.M[c-1]? = some (some n))(hk:n.kids=some es)
  (hki:KidsIn S es) (hi:l[i]? = some a) (hj:l[j]? = some b) (ha:∃ x,lookE es a=some x) (hb:∃ x,lookE es b=some x) (K:Q (.bool (lessE es a b)) h):AD9 (.int .i64 i) (.int .i64 j) (Pt dv) (Pt cv) h Q:=by
 unfold AD9
 exact AA0 p d h1 hn hk hki hi hj ha hb K rfl rfl
def JA (l:List Bs)(j:Nat):List Bs:=(l.set j (l.getD (j-1) [])).set (j-1) (l.getD j [])
def Fc (less:Bs→Bs→Bool):Nat→List Bs→List Bs
 | 0,l=>l
 | j+1,l=>if less (l.getD (j+1) []) (l.getD j [])=true then Fc less j (JA l (j+1)) else l
def sortL (less:Bs→Bs→Bool):Nat→Nat→List Bs→List Bs
 | 0,_,l=>l
 | m+1,i,l=>sortL less m (i+1) (Fc less i l)
theorem H8 (l:List Bs)(j:Nat):(JA l j).length=l.length:=by simp[JA]
theorem H0 (less:Bs→Bs→Bool):∀ (j:Nat) (l:List Bs),(Fc less j l).length=l.length
 | 0,_=>rfl
 | j+1,l=>by
  unfold Fc
  split
  ·rw[H0 less j,H8]
  ·rfl
theorem LB {l:List Bs}{j:Nat}(h1:1≤j)(hj:j<l.length):(JA l j).Perm l:=by
 unfold JA
 have e1:l.getD (j-1) []=l[j-1]'(by omega):=by rw[A10,A00 (by omega)];rfl
 have e2:l.getD j []=l[j]:=by rw[A10,A00 (by omega)];rfl
 rw[e1,e2]
 exact List.set_set_perm (by omega) (by omega)
theorem HR (less:Bs→Bs→Bool):∀ (j:Nat) (l:List Bs),j<l.length→(Fc less j l).Perm l
 | 0,_,_=>List.Perm.refl _
 | j+1,l,h=>by
  unfold Fc
  split
  ·exact (HR less j _ (by rw[H8];omega)).trans (LB (by omega) h)
  ·exact List.Perm.refl _
theorem KK (less:Bs→Bs→Bool):∀ (m i:Nat) (l:List Bs),i+m≤l.length→(sortL less m i l).Perm l
 | 0,_,_,_=>List.Perm.refl _
 | m+1,i,l,h=>by
  unfold sortL
  exact (KK less m (i+1) _ (by rw[H0];omega)).trans (HR less i l (by omega))
theorem Of (l:List Bs)(i:Nat)(a:Bs):(strs l).set i (str a)=strs (l.set i a):=by unfold strs;rw[B22]
end
section
variable {h:H} {k:Value→Prop} {kt Q:Kt} {x y r:Res} {wb:Nat} {S S':PS} {ad:Nat→Nat}
theorem Iq (f:Nat→Value)(es:List (Bs×Nat))(i:Nat):(DP f es)[i]? = (es[i]?).map fun e=>(⟨str e.1,f e.2,i⟩:MapEntry):=by
 unfold DP
 rw[B37,A21,List.getElem?_zipIdx]
 cases es[i]?<;>simp
theorem Ih {f:Nat→Value}{es:List (Bs×Nat)}{e:MapEntry}(he:e∈DP f es):∃ i a,es[i]? = some a∧e=⟨str a.1,f a.2,i⟩:=by
 obtain⟨i,hi⟩:=Array.mem_iff_getElem?.1 he
 rw[Iq,A74] at hi
 obtain⟨a,h1,h2⟩:=hi
 exact⟨i,a,h1,h2.symm⟩
theorem Rl (f:Nat→Value){es:List (Bs×Nat)}{i:Nat}{a:Bs×Nat}(ha:es[i]? = some a):(DP f es).find? (·.born == i)=some ⟨str a.1,f a.2,i⟩:=by
 have hm:(⟨str a.1,f a.2,i⟩:MapEntry)∈DP f es:=by
  refine B24 (i:=i) ?_
  rw[Iq,ha];rfl
 cases hf:(DP f es).find? (·.born == i) with
 | none=>
  rw[Array.find?_eq_none] at hf
  exact absurd (by simp) (hf _ hm)
 | some e=>
  have h1:=Array.mem_of_find?_eq_some hf
  have h2:=Array.find?_some hf
  obtain⟨j,b,hb,rfl⟩:=Ih h1
  simp only[beq_iff_eq] at h2
  subst h2
  rw[ha] at hb
  cases hb
  rfl
theorem O8 {α:Type}(es:List α)(I:List Nat)(hnd:I.Nodup)(hlt:∀ i∈I,i<es.length)(hall:∀ i,i<es.length→i∈I):(I.filterMap fun i=>es[i]?).Perm es:=by
 have h1:I.Perm (List.range es.length):=by
  refine (List.perm_ext_iff_of_nodup hnd List.nodup_range).2 fun i=>?_
  rw[A96]
  exact⟨hlt i,hall i⟩
 have h2:(List.range es.length).filterMap (fun i=>es[i]?)=es:=by
  apply A60
  intro i
  have:(List.range es.length).filterMap (fun i=>es[i]?)=es:=by
   have h3:∀ (l:List α) (f:Nat→Option α),(∀ i,i<l.length→f i=l[i]?)→(List.range l.length).filterMap f=l:=by
    intro l
    induction l with
    | nil=>intro f _;rfl
    | cons a l ih=>
     intro f hf
     rw[A19,List.range_succ_eq_map,List.filterMap_cons]
     have h0:=hf 0 (by simp)
     simp only[A51] at h0
     rw[h0]
     simp only
     rw[List.filterMap_map]
     congr 1
     refine ih (f∘Nat.succ) fun i hi=>?_
     have:=hf (i+1) (by simp;omega)
     simpa using this
   exact h3 es _ fun i _=>rfl
  rw[this]
 have h4:=h1.filterMap (fun i=>es[i]?)
 rwa [h2] at h4
theorem Ho:AG TP 9=some (str []):=by kernel_rfl
theorem Wz {E:H→Prop}{mb ib cv:Nat}{es:List (Bs×Nat)}(hel:es.length≤100000)(w:AN (pts mb (CP ad es)+(pts ib (.mapIter (some mb) es.length #[] es.length)+(cvR cv (.slice none 0 0)+x))) h)
  (K:∀ l v r h,List.Perm l (es.map (·.1))→Vec 9 1 v es.length (strs l) r→AN (pts mb (CP ad es)+(r+(cvR cv v+x))) h→E h) :
  Kv (fun rec4 h=>HM (Pt ib) h fun x56 h=>AO x56 0 fun x57=>AK x57
   (Hb (Pt ib) h fun x58=>AO x58 0 fun x59=>AB false 1 (Pt cv) h fun x60=>AH (.arr 1) 9 (AG TP 9) 1 1 [(0,x59)] h fun x62 h=>AM 9 (AG TP 9) 1 16 x60 x62 h fun x63 h=>AJ 1 (Pt cv) x63 h fun h=>rec4 h)
   (E h)) h:=by
 have hbx:∀ (I:List Nat),I.Nodup→(∀ i∈I,i<es.length)→I.length≤es.length:=fun I h1 h2=>by
  have:=List.Nodup.length_le_of_subset (l₂:=List.range es.length) h1 fun i hi=>A96.2 (h2 i hi)
  simpa using this
 refine ABT (fun m h'=>∃ (I:List Nat) (v:Value) (r:Res),m=es.length-I.length∧I.Nodup∧(∀ i∈I,i<es.length)∧Vec 9 1 v I.length (strs ((I.filterMap fun i=>es[i]?).map (·.1))) r∧AN (pts mb (CP ad es)+(pts ib (.mapIter (some mb) es.length I.toArray es.length)+(r+(cvR cv v+x)))) h') es.length
  ⟨[],.slice none 0 0,0,by simp,List.nodup_nil,by simp,.nil,by rw[Res.zero_add];exact w⟩ ?_
 rintro rec m h' ⟨I,v,r,rfl,hnd,hlt,d,w⟩ hrec
 have hIl:=hbx I hnd hlt
 have hfl:(I.filterMap fun i=>es[i]?).length=I.length:=by
  have:∀ (I:List Nat),(∀ i∈I,i<es.length)→(I.filterMap fun i=>es[i]?).length=I.length:=by
   intro I
   induction I with
   | nil=>intro _;rfl
   | cons a I ih=>
    intro hh
    rw[List.filterMap_cons,A00 (hh a (by simp))]
    simp[ih fun i hi=>hh i (by simp[hi])]
  exact this I hlt
 refine⟨ib,rfl,.inr ⟨mb,es.length,I.toArray,DP (fun c=>Pt (ad c)) es,?_,w.left.one,?_,fun hall=>?_,fun e he hns=>?_⟩⟩
 ·exact w.find
 ·intro e he
  obtain⟨i,a,h1,rfl⟩:=Ih he
  exact (A02.1 h1).1
 ·simp only[go_sem]
  have hI:∀ i,i<es.length→i∈I:=fun i hi=>by
   have:=hall ⟨str es[i].1,Pt (ad es[i].2),i⟩ (by
    refine B24 (i:=i) ?_
    rw[Iq,A00 hi];rfl)
   simpa using this
  have hpm:=O8 es I hnd hlt hI
  have hln:I.length=es.length:=by rw[←hfl];exact hpm.length_eq
  rw[hln] at d
  exact K _ v r _ (hpm.map _) d (AN.right (x:=pts ib (.mapIter (some mb) es.length I.toArray es.length)) (w.cast (by ac_rfl)))
 ·obtain⟨i,a,h1,rfl⟩:=Ih he
  have hil:=(A02.1 h1).1
  have hni:i∉I:=by simpa using hns
  simp only[go_sem]
  have w2:AN (pts ib (.mapIter (some mb) es.length (I++[i]).toArray es.length)+(pts mb (CP ad es)+(r+(cvR cv v+x)))) (h'.setIfInBounds ib (.mapIter (some mb) es.length (I.toArray.push i) es.length)):=by
   have e:I.toArray.push i=(I++[i]).toArray:=by simp
   rw[e]
   exact (w.cast (y:=pts ib (.mapIter (some mb) es.length I.toArray es.length)+(pts mb (CP ad es)+(r+(cvR cv v+x)))) (by ac_rfl)).set
  refine⟨ib,mb,es.length,(I++[i]).toArray,DP (fun c=>Pt (ad c)) es,es.length,i,⟨str a.1,Pt (ad a.2),i⟩,rfl,w2.find,by simp,?_,Rl _ h1,?_⟩
  ·exact w2.right.left.one
  ·simp only[go_sem,AF w2]
   refine EY (x:=pts ib (.mapIter (some mb) es.length (I++[i]).toArray es.length)+(pts mb (CP ad es)+(cvR cv v+x))) d (w2.cast (by ac_rfl)) Ho rfl rfl rfl (by omega) (by omega) fun v' r' h d w=>?_
   refine AL w ⟨[v']⟩ (by obtain⟨⟨a,c,rfl⟩,_⟩:=d.len;rfl) (by obtain⟨⟨a,c,rfl⟩,_⟩:=d.len;rfl) (by simp) (by obtain⟨⟨a,c,rfl⟩,_⟩:=d.len;rfl) fun h w=>?_
   have hnd':(I++[i]).Nodup:=by
    rw[A65]
    exact⟨hnd,by simp,by intro a ha b hb;simp at hb;subst hb;intro e;subst e;exact hni ha⟩
   have hlt':∀ j∈I++[i],j<es.length:=by
    intro j hj
    rcases A88.1 hj with hj|hj
    ·exact hlt j hj
    ·simp at hj;subst hj;exact hil
   have hle:=hbx _ hnd' hlt'
   rw[A01,A57] at hle
   refine hrec (es.length-(I++[i]).length) h ⟨I++[i],v',r',rfl,hnd',hlt',?_,w.cast (by unfold cvR;ac_rfl)⟩ (by rw[A01,A57];omega)
   have:(I++[i]).filterMap (fun i=>es[i]?)=(I.filterMap fun i=>es[i]?)++[a]:=by
    rw[List.filterMap_append];simp[h1]
   rw[this]
   unfold strs at d ⊢
   simpa using d
end
end Go.Proofs.YtollddkkdgoonaaGreatDoor
