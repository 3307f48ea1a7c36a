/- A part of a proof over images that are written and read. No condition; a step. -/
import Derived.Test.YtollddkkdgoonaaGreatDoorM13
namespace Go.Proofs.YtollddkkdgoonaaGreatDoor
open Go
set_option linter.unusedVariables false
set_option linter.unusedSimpArgs false
section
variable {h:H} {k:Value→Prop} {kt Q:Kt} {x y r:Res} {wb db:Nat} {S S':PS} {ad:Nat→Nat} {inl:Bool}
attribute [local irreducible] AK Az AQ BB Ae AY AH AM Bp Db setL Bz JQ Pp FD Dl BS Op1.cells DY
inductive Steps:List Op1→PS→PS→Prop
 | nil {S:PS}:Steps [] S S
 | cons {o:Op1} {l:List Op1} {S S1 S2:PS}:Step1 o S S1→Steps l S1 S2→Steps (o::l) S S2
structure He (S0 S:PS):Prop where
 ex:∃ S1 S2 f n2,Fin S0 S1∧S1.M[1]? = some (some n2)∧RecD f S1 2 2 S2∧Fin S2 S
 ok:ClOK S
theorem G5 {T:TypeId}{z:Option Value}{zv e:Value}{kt:Kt}(w:AN x h)(hz:z=some zv)(hzs:zv.cells=#[zv])(he:e.cells=#[e])(_ho:Value.oneCell' e=true)(K:∀ b h,AN (pts b (.cells ⟨[e]⟩ T (0,0))+x) h→kt (.slice (some ⟨b,0,none⟩) 1 1) h) :
  AH (.arr 1) T z 1 1 [(0,e)] h kt:=by
 unfold AH
 refine⟨zv,⟨[e]⟩,hz,by omega,?_,fun b h' ex hb' ho'=>K b h' (w.new ex hb' ho')⟩
 rw[A05 (by omega),CY hzs]
 refine Es _ _ _ ?_
 unfold DC
 simp[Br,he,DC,GE]
section img
variable {ov:Value} {ro rd:Res} {l:List U1}
theorem AHT {rec1:Value→Value→H→Prop}{out:Value}{n:Nat}{S0:PS}(cl:He S0 S)(hdb:S.db=db)(g:JX x)(p:At wb db inl S0 x h)
  (K:∀ dv dr y h,BufV dv (BS S) dr→AN (dr+(y+x)) h→Q (.tuple #[out,.int .i64 0,dv]) h) :
  Ly Q rec1 (Pt db) (Pt wb) ov (.int .i64 (n:Int)) out (.int .i64 (n:Int)) h:=by
 obtain⟨⟨S1,S2,f,n2,h1,h2,h3,h4⟩,hok⟩:=cl
 unfold Ly
 have e1:decide ((n:Int)<(n:Int))=false:=A08 (by omega)
 rw[AT,e1,AU]
 refine ACT _ _ _ (s63 (fun Q kk=>W6 p h1 g kk) h2 h3 h4 hok fun h c=>?_)
 obtain⟨s,y,okw,hsd,hsB,w⟩:=c
 rw[LE,AU]
 have hb:=okw.buf
 rw[hsB] at hb
 rw[←hdb,←hsd]
 simp only[go_sem,AF w]
 have k1:∀ A D R Y X:Res,A+(D+R)+(Y+X)=R+(A+D+Y+X):=by intros;ac_rfl
 exact K s.dv s.dr (pts s.wb (.cells s.cells 184 (0,0))+pts s.db (.cells ⟨[s.dv,.int .i64 s.dpos]⟩ 121 (0,0))+y) h hb (w.cast (k1 _ _ _ _ _))
theorem AF6 {n:Nat}{S0 SE:PS}(dop:Vec 32 24 ov n (FC l) ro)(hn:l.length=n)(hn2:n≤10000)(hone:∀ o∈l,Value.oneCell' o.2=true)(hdat:∀ o∈l,RdX rd o.2 o.1.data)(hdl:∀ o∈l,o.1.data.length≤100000000)(st:Steps (l.map (·.1)) S0 SE)(cl:He SE S)(hdb:S.db=db)(g:JX x)
  (p:At wb db inl S0 (ro+(rd+x)) h) (K:∀ out dv dr y h,BufV dv (BS S) dr→AN (dr+(y+(ro+(rd+x)))) h→Q (.tuple #[out,.int .i64 0,dv]) h) :
  WU Q (Pt db) (Pt wb) ov (.int .i64 (n:Int)) (.slice none 0 0) (.int .i64 0) h:=by
 unfold WU
 refine DE (fun m u v h'=>∃ (i:Nat) (S:PS) (vs:List Value) (r:Res),m=n-i∧i≤n∧v=.int .i64 (i:Nat)∧Vec 36 22 u i vs r∧Steps ((l.drop i).map (·.1)) S SE∧At wb db inl S (r+(ro+(rd+x))) h') n
  ⟨0,S0,[],0,rfl,A39 _,rfl,.nil,by rw[A68];exact st,by rw[Res.zero_add];exact p⟩ ?_
 rintro rec m u v h' ⟨i,S1,vs,r,rfl,hi,rfl,d,st,p⟩ hrec
 by_cases hlt:i<n
 ·have hil:i<l.length:=by omega
  have hdrop:l.drop i=l[i]::l.drop (i+1):=A50 hil
  have hmem:l[i]∈l:=Q3 hil
  rw[hdrop,A33] at st
  cases st with
  | cons s1 st2=>
   exact AHZ dop hn hn2 (A00 hil) (hone _ hmem) (hdat _ hmem) (hdl _ hmem) d s1 g p fun out vs r h d p=>hrec (n-(i+1)) _ _ _ ⟨i+1,_,vs,r,rfl,by omega,rfl,d,st2,p⟩ (by omega)
 ·have hin:i=n:=by omega
  subst hin
  rw[←hn,B15,B46] at st
  cases st
  refine AHT cl hdb (g.addR.addR.addR) p fun dv dr y h b w=>K _ dv dr (y+r) h b (w.cast ?_)
  have k1:∀ D Y R X:Res,D+(Y+(R+X))=D+(Y+R+X):=by intros;ac_rfl
  exact k1 _ _ _ _
end img
end
section
set_option maxRecDepth 100000
def S6 (Q:Kt)(r1:R2)(x0 x1 x7 x8 x9 c0:Value)(h:H):Prop:=
 AK c0
 (AI (.slice 1) x0 x9 fun c4=>AB false 1 c4 h fun c5=>AV .u64 c5 fun c6=>AD .or x7 c6 fun c7=>AD .sub x8 (.int .u64 1) fun a4=>r1 c7 a4 h)
 (AD .sub x8 (.int .u64 1) fun a4=>r1 x7 a4 h)
def Vw (Q:Kt)(r1:R2)(x0 x1 x7 x8:Value)(h:H):Prop:=
 AD .gtr x8 (.int .u64 0) fun a2=>AK a2
 (AD .shl x7 (.int .u64 8) fun a6=>AD .add x1 x8 fun a9=>AD .sub a9 (.int .u64 1) fun b0=>AD .geq b0 x1 fun b3=>Az b3 true (Ab x0 fun b7=>AV .u64 b7 fun b8=>AD .lss b0 b8 fun b9=>S6 Q r1 x0 x1 a6 x8 b0 b9 h) (S6 Q r1 x0 x1 a6 x8 b0 (.bool false) h))
 (Q x7 h)
def ABS (Q:Kt)(x0 x1 x7 x8:Value)(h:H):Prop:=Bx (fun r1 x7 x8 h=>Vw Q r1 x0 x1 x7 x8 h) x7 x8 h
def f66 (x0 x1 x2:Value)(h:H)(Q:Kt):Prop:=
 ABS Q x0 x1 (.int .u64 0) x2 h
def AHv (Q:Kt)(r:RS):Nat→DJ:=tab [(14926,.jn fun e h=>S6 Q (u2 (r 58)) (e 0) (e 1) (e 7) (e 8) (e 9) (e 30) h),
 (117,.lp [0,1] [7,8] fun s e l h=>Vw Q (u2 s) (e 0) (e 1) (gl l 0) (gl l 1) h)]
theorem Bh (x0 x1 x2:Value)(h:H)(Q:Kt)(x:f66 x0 x1 x2 h Q):Call TP 66 [x0,x1,x2] h Q:=Bb (AHv Q) Tryz.func66 (by kernel_rfl) x
def f65 (x0 x1 x2 x3:Value)(h:H)(Q:Kt):Prop:=
 LH .not x1 fun x9=>AK x9
 (Call TP 120 [x0,x2,x3] h fun a3 h=>Q (.tuple #[]) h)
 (Q (.tuple #[]) h)
theorem Al (x0 x1 x2 x3:Value)(h:H)(Q:Kt)(x:f65 x0 x1 x2 x3 h Q):Call TP 65 [x0,x1,x2,x3] h Q:=Bb nT Tryz.func65 (by kernel_rfl) x
def ADm (x0 x1 x2:Value)(h:H)(Q:Kt):Prop:=
 AE x0 fun x8=>AC 9 x8 fun x9=>AB false 1 x9 h fun a0=>Ab a0 fun a1=>AV .u64 a1 fun a2=>AD .geq x1 a2 fun a3=>AK a3
 (AD .add (.string ⟨#[110,111,32,98,108,111,99,107,32,102,111,114,32]⟩) x2 fun a6=>Call TP 120 [x0,a6,x1] h fun a8 h=>Q (.tuple #[]) h)
 (AE x0 fun b1=>AC 9 b1 fun b2=>AB false 1 b2 h fun b3=>AI (.slice 1) b3 x1 fun b5=>AB false 1 b5 h fun b6=>AD .eql b6 (.int .u8 0) fun b7=>AD .add (.string ⟨#[98,108,111,99,107,32,117,115,101,100,32,116,119,105,99,101,32,98,121,32]⟩) x2 fun b9=>Call TP 65 [x0,b7,b9,x1] h fun c1 h=>AE x0 fun c3=>AC 9 c3 fun c4=>AB false 1 c4 h fun c5=>AI (.slice 1) c5 x1 fun c7=>AJ 1 c7 (.int .u8 1) h fun h=>Q (.tuple #[]) h)
theorem Gn (x0 x1 x2:Value)(h:H)(Q:Kt)(x:ADm x0 x1 x2 h Q):Call TP 122 [x0,x1,x2] h Q:=Bb nT Tryz.func122 (by kernel_rfl) x
def Rr (Q:Kt)(x0 x1:Value)(h:H):Prop:=
 AE x0 fun b8=>AC 3 b8 fun b9=>AB false 1 b9 h fun c0=>AD .mul x1 (.int .u64 4096) fun c2=>AD .add x1 (.int .u64 1) fun c4=>AD .mul c4 (.int .u64 4096) fun c5=>AZ (.slice 1) c0 (some c2) (some c5) fun c6=>Q c6 h
def AB0 (x0 x1:Value)(h:H)(Q:Kt):Prop:=
 AE x0 fun x7=>AC 1 x7 fun x8=>AB false 1 x8 h fun x9=>AD .geq x1 x9 fun a0=>Az a0 false (AD .add x1 (.int .u64 1) fun a3=>AD .mul a3 (.int .u64 4096) fun a4=>AE x0 fun a6=>AC 3 a6 fun a7=>AB false 1 a7 h fun a8=>Ab a8 fun a9=>AV .u64 a9 fun b0=>AD .gtr a4 b0 fun b1=>AK b1
 (Call TP 120 [x0,(.string ⟨#[110,111,32,98,108,111,99,107]⟩),x1] h fun b5 h=>AY (AG TP 5) 1 1 5 (.int .i64 4096) (.int .i64 4096) h fun b6 h=>Q b6 h)
 (Rr Q x0 x1 h)) (Call TP 120 [x0,(.string ⟨#[110,111,32,98,108,111,99,107]⟩),x1] h fun b5 h=>AY (AG TP 5) 1 1 5 (.int .i64 4096) (.int .i64 4096) h fun b6 h=>Q b6 h)
def AGk (Q:Kt)(r:RS):Nat→DJ:=tab [(14,.jn fun e h=>Rr Q (e 0) (e 1) h)]
theorem NG (x0 x1:Value)(h:H)(Q:Kt)(x:AB0 x0 x1 h Q):Call TP 129 [x0,x1] h Q:=Bb (AGk Q) Tryz.func129 (by kernel_rfl) x
def XF (Q:Kt)(r1:R1)(r2:R1)(x1 x6 b8 b9 c0 x7:Value)(h:H):Prop:=
 AD .rem x7 x6 fun c7=>AD .eql c7 (.int .u64 0) fun c8=>AK c8
 (AD .quo x7 x6 fun d1=>r2 d1 h)
 (AD .eql x7 (.int .u64 1) fun d3=>AK d3
 (Q (.bool true) h)
 (AD .add c0 (.int .i64 1) fun d4=>r1 d4 h))
def ACR (Q:Kt)(r1:R1)(x1 x6 b8 b9 c0 x7:Value)(h:H):Prop:=A1 (fun r2 x7 h=>XF Q r1 r2 x1 x6 b8 b9 c0 x7 h) x7 h
def XZ (Q:Kt)(r1:R1)(x1 b8 b9 c0:Value)(h:H):Prop:=
 AD .lss c0 b9 fun c1=>AK c1
 (AI (.slice 1) b8 c0 fun c2=>AB false 1 c2 h fun c3=>ACR Q r1 x1 c3 b8 b9 c0 x1 h)
 (Q (.bool false) h)
def AD6 (Q:Kt)(x1 b8 b9 c0:Value)(h:H):Prop:=A1 (fun r1 c0 h=>XZ Q r1 x1 b8 b9 c0 h) c0 h
def ADQ (x0 x1:Value)(h:H)(Q:Kt):Prop:=
 AD .eql x1 (.int .u64 0) fun x9=>AK x9
 (Q (.bool true) h)
 (Call TP 66 [x0,(.int .u64 92),(.int .u64 4)] h fun a1 h=>AD .and a1 (.int .u64 512) fun a2=>AD .neq a2 (.int .u64 0) fun a3=>AK a3
 (Call TP 66 [x0,(.int .u64 588),(.int .u64 4)] h fun a5 h=>AD .eql a5 x1 fun a7=>Az a7 false (Call TP 66 [x0,(.int .u64 592),(.int .u64 4)] h fun b0 h=>AD .eql b0 x1 fun b2=>Q b2 h) (Q (.bool true) h))
 (Call TP 66 [x0,(.int .u64 100),(.int .u64 4)] h fun b5 h=>AD .and b5 (.int .u64 1) fun b6=>AD .eql b6 (.int .u64 0) fun b7=>AK b7
 (Q (.bool true) h)
 (AH (.arr 1) 48 (AG TP 48) 1 3 [(0,(.int .u64 3)),(1,(.int .u64 5)),(2,(.int .u64 7))] h fun b8 h=>Ab b8 fun b9=>AD6 Q x1 b8 b9 (.int .i64 0) h)))
def AEd (Q:Kt)(r:RS):Nat→DJ:=tab [(256409,.lp [1,6,28,29,30] [7] fun s e l h=>XF Q (u1 (r 250)) (u1 s) (e 1) (e 6) (e 28) (e 29) (e 30) (gl l 0) h),
 (501,.lp [1,28,29] [30] fun s e l h=>XZ Q (u1 s) (e 1) (e 28) (e 29) (gl l 0) h)]
theorem Zb (x0 x1:Value)(h:H)(Q:Kt)(x:ADQ x0 x1 h Q):Call TP 121 [x0,x1] h Q:=Bb (AEd Q) Tryz.func121 (by kernel_rfl) x
def AEC (x0 x1:Value)(h:H)(Q:Kt):Prop:=
 AE x0 fun x8=>AC 8 x8 fun x9=>AB false 1 x9 h fun a0=>AD .mul x1 a0 fun a1=>AD .add (.int .u64 4096) a1 fun a2=>AE x0 fun a5=>AC 8 a5 fun a6=>AB false 1 a6 h fun a7=>AD .add a2 a7 fun a8=>AE x0 fun b0=>AC 3 b0 fun b1=>AB false 1 b1 h fun b2=>Ab b2 fun b3=>AV .u64 b3 fun b4=>AD .gtr a8 b4 fun b5=>AK b5
 (Call TP 120 [x0,(.string ⟨#[110,111,32,100,101,115,99,114,105,112,116,111,114]⟩),x1] h fun b8 h=>AY (AG TP 5) 1 1 5 (.int .i64 64) (.int .i64 64) h fun b9 h=>Q b9 h)
 (AE x0 fun c1=>AC 3 c1 fun c2=>AB false 1 c2 h fun c3=>AE x0 fun c7=>AC 8 c7 fun c8=>AB false 1 c8 h fun c9=>AD .add a2 c9 fun d0=>AZ (.slice 1) c3 (some a2) (some d0) fun d1=>Q d1 h)
theorem AAH (x0 x1:Value)(h:H)(Q:Kt)(x:AEC x0 x1 h Q):Call TP 181 [x0,x1] h Q:=Bb nT Tryz.func181 (by kernel_rfl) x
def NY (Q:Kt)(x3 x4 a1 a2 c0:Value)(h:H):Prop:=
 AK c0
 (Call TP 66 [a1,x4,x3] h fun c5 h=>AD .mul (.int .u64 8) x3 fun c7=>AD .shl c5 c7 fun c8=>AD .or a2 c8 fun c9=>Q c9 h)
 (Q a2 h)
def AB6 (x0 x1 x2 x3 x4:Value)(h:H)(Q:Kt):Prop:=
 Call TP 181 [x0,x1] h fun a5 h=>Call TP 66 [a5,x2,x3] h fun a9 h=>AE x0 fun b1=>AC 10 b1 fun b2=>AB false 1 b2 h fun b3=>Az b3 true (AE x0 fun b6=>AC 8 b6 fun b7=>AB false 1 b7 h fun b8=>AD .geq b8 (.int .u64 64) fun b9=>NY Q x3 x4 a5 a9 b9 h) (NY Q x3 x4 a5 a9 (.bool false) h)
def AE7 (Q:Kt)(r:RS):Nat→DJ:=tab [(122,.jn fun e h=>NY Q (e 3) (e 4) (e 11) (e 12) (e 30) h)]
theorem G7 (x0 x1 x2 x3 x4:Value)(h:H)(Q:Kt)(x:AB6 x0 x1 x2 x3 x4 h Q):Call TP 131 [x0,x1,x2,x3,x4] h Q:=Bb (AE7 Q) Tryz.func131 (by kernel_rfl) x
def ACr (x0 x1:Value)(h:H)(Q:Kt):Prop:=
 Call TP 131 [x0,x1,(.int .u64 0),(.int .u64 4),(.int .u64 32)] h fun x7 h=>Q x7 h
theorem Su (x0 x1:Value)(h:H)(Q:Kt)(x:ACr x0 x1 h Q):Call TP 123 [x0,x1] h Q:=Bb nT Tryz.func123 (by kernel_rfl) x
def ABg (x0 x1:Value)(h:H)(Q:Kt):Prop:=
 Call TP 131 [x0,x1,(.int .u64 4),(.int .u64 4),(.int .u64 36)] h fun x7 h=>Q x7 h
theorem Ss (x0 x1:Value)(h:H)(Q:Kt)(x:ABg x0 x1 h Q):Call TP 124 [x0,x1] h Q:=Bb nT Tryz.func124 (by kernel_rfl) x
def AEP (x0 x1:Value)(h:H)(Q:Kt):Prop:=
 Call TP 131 [x0,x1,(.int .u64 8),(.int .u64 4),(.int .u64 40)] h fun x7 h=>Q x7 h
theorem SH (x0 x1:Value)(h:H)(Q:Kt)(x:AEP x0 x1 h Q):Call TP 125 [x0,x1] h Q:=Bb nT Tryz.func125 (by kernel_rfl) x
def X1 (Q:Kt)(r1:R1)(r2:R1)(x0 x1 x4 x5 x6 x7 a0:Value)(h:H):Prop:=
 AD .lss a0 x6 fun k3=>AK k3
 (Call TP 125 [x0,x7] h fun k9 h=>AD .add k9 a0 fun m1=>Call TP 122 [x0,m1,(.string ⟨#[105,110,111,100,101,32,116,97,98,108,101]⟩)] h fun m2 h=>AD .add a0 (.int .u64 1) fun k5=>r2 k5 h)
 (AD .add x7 (.int .u64 1) fun d8=>r1 d8 h)
def YJ (Q:Kt)(r1:R1)(x0 x1 x4 x5 x6 x7 a0:Value)(h:H):Prop:=A1 (fun r2 a0 h=>X1 Q r1 r2 x0 x1 x4 x5 x6 x7 a0 h) a0 h
def N4 (Q:Kt)(r1:R1)(x0 x1 x4 x5 x6 x7:Value)(h:H):Prop:=
 Call TP 123 [x0,x7] h fun j4 h=>Call TP 122 [x0,j4,(.string ⟨#[98,108,111,99,107,32,98,105,116,109,97,112]⟩)] h fun j5 h=>Call TP 124 [x0,x7] h fun j9 h=>Call TP 122 [x0,j9,(.string ⟨#[105,110,111,100,101,32,98,105,116,109,97,112]⟩)] h fun k0 h=>YJ Q r1 x0 x1 x4 x5 x6 x7 (.int .u64 0) h
def YO (Q:Kt)(r1:R1)(r3:R1)(x0 x1 x4 x5 x6 x7 x8 x9:Value)(h:H):Prop:=
 AD .add (.int .u64 1) x4 fun i0=>AD .add i0 x5 fun i2=>AD .lss x9 i2 fun i3=>AK i3
 (AD .add x8 x9 fun i9=>Call TP 122 [x0,i9,(.string ⟨#[115,117,112,101,114,98,108,111,99,107]⟩)] h fun j0 h=>AD .add x9 (.int .u64 1) fun i5=>r3 i5 h)
 (N4 Q r1 x0 x1 x4 x5 x6 x7 h)
def ABE (Q:Kt)(r1:R1)(x0 x1 x4 x5 x6 x7 x8 x9:Value)(h:H):Prop:=A1 (fun r3 x9 h=>YO Q r1 r3 x0 x1 x4 x5 x6 x7 x8 x9 h) x9 h
def SM (Q:Kt)(r1:R1)(x0 x1 x4 x5 x6 x7:Value)(h:H):Prop:=
 AE x0 fun d3=>AC 4 d3 fun d4=>AB false 1 d4 h fun d5=>AD .lss x7 d5 fun d6=>AK d6
 (AE x0 fun g1=>AC 5 g1 fun g2=>AB false 1 g2 h fun g3=>AD .mul x7 g3 fun g4=>Call TP 121 [x1,x7] h fun g7 h=>AK g7
 (ABE Q r1 x0 x1 x4 x5 x6 x7 g4 (.int .u64 0) h)
 (N4 Q r1 x0 x1 x4 x5 x6 x7 h))
 (Q (.tuple #[]) h)
def ABP (Q:Kt)(x0 x1 x4 x5 x6 x7:Value)(h:H):Prop:=A1 (fun r1 x7 h=>SM Q r1 x0 x1 x4 x5 x6 x7 h) x7 h
def Tz (Q:Kt)(x0 x1 x4 x5:Value)(h:H):Prop:=
 AE x0 fun c0=>AC 6 c0 fun c1=>AB false 1 c1 h fun c2=>AE x0 fun c4=>AC 7 c4 fun c5=>AB false 1 c5 h fun c6=>AD .mul c2 c6 fun c7=>AD .add c7 (.int .u64 4096) fun c8=>AD .sub c8 (.int .u64 1) fun c9=>AD .quo c9 (.int .u64 4096) fun d0=>ABP Q x0 x1 x4 x5 d0 (.int .u64 0) h
def f67 (x0 x1:Value)(h:H)(Q:Kt):Prop:=
 AE x0 fun a2=>AC 4 a2 fun a3=>AB false 1 a3 h fun a4=>AE x0 fun a6=>AC 8 a6 fun a7=>AB false 1 a7 h fun a8=>AD .mul a4 a8 fun a9=>AD .add a9 (.int .u64 4096) fun b0=>AD .sub b0 (.int .u64 1) fun b1=>AD .quo b1 (.int .u64 4096) fun b2=>Call TP 66 [x1,(.int .u64 92),(.int .u64 4)] h fun b4 h=>AD .and b4 (.int .u64 16) fun b5=>AD .neq b5 (.int .u64 0) fun b6=>AK b6
 (Call TP 66 [x1,(.int .u64 206),(.int .u64 2)] h fun b8 h=>Tz Q x0 x1 b2 b8 h)
 (Tz Q x0 x1 b2 (.int .u64 0) h)
def AHi (Q:Kt)(r:RS):Nat→DJ:=tab [(258685,.lp [0,1,4,5,6,7] [10] fun s e l h=>X1 Q (u1 (r 126)) (u1 s) (e 0) (e 1) (e 4) (e 5) (e 6) (e 7) (gl l 0) h),
 (16166,.jn fun e h=>N4 Q (u1 (r 126)) (e 0) (e 1) (e 4) (e 5) (e 6) (e 7) h),
 (258645,.lp [0,1,4,5,6,7,8] [9] fun s e l h=>YO Q (u1 (r 126)) (u1 s) (e 0) (e 1) (e 4) (e 5) (e 6) (e 7) (e 8) (gl l 0) h),
 (253,.lp [0,1,4,5,6] [7] fun s e l h=>SM Q (u1 s) (e 0) (e 1) (e 4) (e 5) (e 6) (gl l 0) h),
 (30,.jn fun e h=>Tz Q (e 0) (e 1) (e 4) (e 5) h)]
theorem AEL (x0 x1:Value)(h:H)(Q:Kt)(x:f67 x0 x1 h Q):Call TP 67 [x0,x1] h Q:=Bb (AHi Q) Tryz.func67 (by kernel_rfl) x
def RJ (Q:Kt)(x0 x1:Value)(h:H):Prop:=
 AD .sub x1 (.int .u64 1) fun b8=>AE x0 fun c0=>AC 6 c0 fun c1=>AB false 1 c1 h fun c2=>AD .quo b8 c2 fun c3=>AD .sub x1 (.int .u64 1) fun c5=>AE x0 fun c7=>AC 6 c7 fun c8=>AB false 1 c8 h fun c9=>AD .rem c5 c9 fun d0=>AE x0 fun d7=>AC 7 d7 fun d8=>AB false 1 d8 h fun d9=>AD .mul d0 d9 fun g0=>Call TP 125 [x0,c3] h fun d3 h=>((AB false 1 d8 h fun v=>v=d9)∧AD .mul d3 (.int .u64 4096) fun d4=>AD .add d4 g0 fun g1=>AE x0 fun g4=>AC 7 g4 fun g5=>AB false 1 g5 h fun g6=>AD .add g1 g6 fun g7=>AE x0 fun g9=>AC 3 g9 fun i0=>AB false 1 i0 h fun i1=>Ab i1 fun i2=>AV .u64 i2 fun i3=>AD .gtr g7 i3 fun i4=>AK i4
 (Call TP 120 [x0,(.string ⟨#[110,111,32,114,111,111,109,32,102,111,114,32,105,110,111,100,101]⟩),x1] h fun i7 h=>AY (AG TP 5) 1 1 5 (.int .i64 256) (.int .i64 256) h fun i8 h=>Q i8 h)
 (AE x0 fun j0=>AC 3 j0 fun j1=>AB false 1 j1 h fun j2=>AE x0 fun j6=>AC 7 j6 fun j7=>AB false 1 j7 h fun j8=>AD .add g1 j8 fun j9=>AZ (.slice 1) j2 (some g1) (some j9) fun k0=>Q k0 h))
def ACm (x0 x1:Value)(h:H)(Q:Kt):Prop:=
 AD .lss x1 (.int .u64 1) fun x9=>Az x9 false (AE x0 fun a3=>AC 4 a3 fun a4=>AB false 1 a4 h fun a5=>AE x0 fun a7=>AC 6 a7 fun a8=>AB false 1 a8 h fun a9=>AD .mul a5 a9 fun b0=>AD .gtr x1 b0 fun b1=>AK b1
 (Call TP 120 [x0,(.string ⟨#[110,111,32,105,110,111,100,101]⟩),x1] h fun b5 h=>AY (AG TP 5) 1 1 5 (.int .i64 256) (.int .i64 256) h fun b6 h=>Q b6 h)
 (RJ Q x0 x1 h)) (Call TP 120 [x0,(.string ⟨#[110,111,32,105,110,111,100,101]⟩),x1] h fun b5 h=>AY (AG TP 5) 1 1 5 (.int .i64 256) (.int .i64 256) h fun b6 h=>Q b6 h)
def AF9 (Q:Kt)(r:RS):Nat→DJ:=tab [(14,.jn fun e h=>RJ Q (e 0) (e 1) h)]
theorem Jj (x0 x1:Value)(h:H)(Q:Kt)(x:ACm x0 x1 h Q):Call TP 128 [x0,x1] h Q:=Bb (AF9 Q) Tryz.func128 (by kernel_rfl) x
def f45 (x0:Value)(h:H)(Q:Kt):Prop:=
 AD .and x0 (.int .u16 61440) fun x4=>AD .eql x4 (.int .u16 32768) fun x6=>AK x6
 (Q (.int .u64 1) h)
 (AD .eql x4 (.int .u16 16384) fun x8=>AK x8
 (Q (.int .u64 2) h)
 (AD .eql x4 (.int .u16 8192) fun a0=>AK a0
 (Q (.int .u64 3) h)
 (AD .eql x4 (.int .u16 24576) fun a2=>AK a2
 (Q (.int .u64 4) h)
 (AD .eql x4 (.int .u16 4096) fun a4=>AK a4
 (Q (.int .u64 5) h)
 (AD .eql x4 (.int .u16 49152) fun a6=>AK a6
 (Q (.int .u64 6) h)
 (AD .eql x4 (.int .u16 40960) fun a8=>AK a8
 (Q (.int .u64 7) h)
 (Q (.int .u64 0) h)))))))
theorem E9 (x0:Value)(h:H)(Q:Kt)(x:f45 x0 h Q):Call TP 45 [x0] h Q:=Bb nT Tryz.func45 (by kernel_rfl) x
def AER (x0 x1:Value)(h:H)(Q:Kt):Prop:=
 AQ (AG TP 60) 60 h fun x4 h=>AV .u32 x0 fun x6=>AV .i32 x6 fun x7=>AV .i64 x7 fun x8=>AD .and x1 (.int .u64 3) fun a0=>AV .i64 a0 fun a1=>AD .shl a1 (.int .u64 32) fun a2=>AD .add x8 a2 fun a3=>AD .shr x1 (.int .u64 2) fun a5=>AV .i64 a5 fun a6=>Ae (.struct [(0,1),(1,1)]) (AG TP 60) [(0,a3),(1,a6)] fun a7=>AJ 2 x4 a7 h fun h=>AB true 2 x4 h fun v=>Q v h
theorem Yn (x0 x1:Value)(h:H)(Q:Kt)(x:AER x0 x1 h Q):Call TP 177 [x0,x1] h Q:=Bb nT Tryz.func177 (by kernel_rfl) x
def ADz (x0 x1:Value)(h:H)(Q:Kt):Prop:=
 AD .quo x1 (.int .u64 8) fun x7=>AI (.slice 1) x0 x7 fun x8=>AB false 1 x8 h fun x9=>AD .rem x1 (.int .u64 8) fun a1=>AD .shr x9 a1 fun a2=>AD .and a2 (.int .u8 1) fun a3=>AD .eql a3 (.int .u8 1) fun a4=>Q a4 h
theorem Sh (x0 x1:Value)(h:H)(Q:Kt)(x:ADz x0 x1 h Q):Call TP 130 [x0,x1] h Q:=Bb nT Tryz.func130 (by kernel_rfl) x
end
section
set_option maxRecDepth 100000
def Pn (Q:Kt)(x3 x4:Value)(h:H):Prop:=
 AE x3 fun x215=>AC 2 x215 fun x216=>AB false 1 x216 h fun x217=>Ab x217 fun x218=>AD .gtr x218 (.int .i64 0) fun x219=>AK x219
 (Q x3 h)
 (AE x3 fun x223=>AC 1 x223 fun x224=>AB false 1 x224 h fun x225=>AE x3 fun x227=>AC 5 x227 fun x228=>AB false 1 x228 h fun x229=>AD .add x225 x229 fun x230=>AD .sub x230 (.int .u64 1) fun x231=>AE x3 fun x233=>AC 5 x233 fun x234=>AB false 1 x234 h fun x235=>AD .quo x231 x235 fun x236=>AE x3 fun x237=>AC 4 x237 fun x238=>AJ 1 x238 x236 h fun h=>AE x3 fun x243=>AC 4 x243 fun x244=>AB false 1 x244 h fun x245=>AE x3 fun x247=>AC 6 x247 fun x248=>AB false 1 x248 h fun x249=>AD .mul x245 x249 fun x250=>Call TP 66 [x4,(.int .u64 0),(.int .u64 4)] h fun x241 h=>((AB false 1 x244 h fun v=>v=x245)∧(AB false 1 x248 h fun v=>v=x249)∧AD .eql x241 x250 fun x251=>Call TP 66 [x4,(.int .u64 0),(.int .u64 4)] h fun x253 h=>((AB false 1 x244 h fun v=>v=x245)∧(AB false 1 x248 h fun v=>v=x249)∧Call TP 65 [x3,x251,(.string ⟨#[105,110,111,100,101,115]⟩),x253] h fun x254 h=>Call TP 66 [x4,(.int .u64 58),(.int .u64 2)] h fun x257 h=>AD .and x257 (.int .u64 1) fun x258=>AD .eql x258 (.int .u64 1) fun x259=>Call TP 66 [x4,(.int .u64 58),(.int .u64 2)] h fun x261 h=>Call TP 65 [x3,x259,(.string ⟨#[115,116,97,116,101]⟩),x261] h fun x262 h=>AE x3 fun x264=>AC 2 x264 fun x265=>AB false 1 x265 h fun x266=>Ab x266 fun x267=>AD .gtr x267 (.int .i64 0) fun x268=>AK x268
 (Q x3 h)
 (AE x3 fun x272=>AC 1 x272 fun x273=>AB false 1 x273 h fun x274=>AY (AG TP 5) 1 1 5 x274 x274 h fun x275 h=>AE x3 fun x276=>AC 9 x276 fun x277=>AJ 1 x277 x275 h fun h=>Call TP 67 [x3,x4] h fun x280 h=>Call TP 66 [x4,(.int .u64 84),(.int .u64 4)] h fun x283 h=>Call TP 68 [x3,x283] h fun x284 h=>Call TP 69 [x3,x4] h fun x287 h=>Q x3 h))))
def TU (Q:Kt)(x0 x3 x4:Value)(h:H):Prop:=
 AE x3 fun x194=>AC 1 x194 fun x195=>AB false 1 x195 h fun x196=>AD .geq x196 (.int .u64 1) fun x197=>Az x197 true (AE x3 fun x200=>AC 1 x200 fun x201=>AB false 1 x201 h fun x202=>Ab x0 fun x204=>AV .u64 x204 fun x205=>AD .quo x205 (.int .u64 4096) fun x206=>AD .leq x202 x206 fun x207=>AE x3 fun x210=>AC 1 x210 fun x211=>AB false 1 x211 h fun x212=>Call TP 65 [x3,x207,(.string ⟨#[98,108,111,99,107,115]⟩),x212] h fun x213 h=>Pn Q x3 x4 h) (AE x3 fun x210=>AC 1 x210 fun x211=>AB false 1 x211 h fun x212=>Call TP 65 [x3,(.bool false),(.string ⟨#[98,108,111,99,107,115]⟩),x212] h fun x213 h=>Pn Q x3 x4 h)
def OC (Q:Kt)(x0 x3 x4:Value)(h:H):Prop:=
 AE x3 fun y6=>AC 8 y6 fun y7=>AB false 1 y7 h fun y8=>AD .geq y8 (.int .u64 32) fun y9=>Az y9 true (AE x3 fun z2=>AC 8 z2 fun z3=>AB false 1 z3 h fun z4=>AD .leq z4 (.int .u64 64) fun z5=>AE x3 fun z8=>AC 8 z8 fun z9=>AB false 1 z9 h fun x190=>Call TP 65 [x3,z5,(.string ⟨#[100,101,115,99,114,105,112,116,111,114,32,115,105,122,101]⟩),x190] h fun x191 h=>TU Q x0 x3 x4 h) (AE x3 fun z8=>AC 8 z8 fun z9=>AB false 1 z9 h fun x190=>Call TP 65 [x3,(.bool false),(.string ⟨#[100,101,115,99,114,105,112,116,111,114,32,115,105,122,101]⟩),x190] h fun x191 h=>TU Q x0 x3 x4 h)
def TW (Q:Kt)(x0 x3 x4:Value)(h:H):Prop:=
 AE x3 fun t5=>AC 7 t5 fun t6=>AB false 1 t6 h fun t7=>AD .geq t7 (.int .u64 128) fun t8=>Az t8 true (AE x3 fun v1=>AC 7 v1 fun v2=>AB false 1 v2 h fun v3=>AD .leq v3 (.int .u64 4096) fun v4=>Az v4 true (AE x3 fun v8=>AC 7 v8 fun v9=>AB false 1 v9 h fun w0=>AE x3 fun w2=>AC 7 w2 fun w3=>AB false 1 w3 h fun w4=>AD .sub w4 (.int .u64 1) fun w5=>AD .and w0 w5 fun w6=>AD .eql w6 (.int .u64 0) fun w7=>AE x3 fun y0=>AC 7 y0 fun y1=>AB false 1 y1 h fun y2=>Call TP 65 [x3,w7,(.string ⟨#[105,110,111,100,101,32,115,105,122,101]⟩),y2] h fun y3 h=>OC Q x0 x3 x4 h) (AE x3 fun y0=>AC 7 y0 fun y1=>AB false 1 y1 h fun y2=>Call TP 65 [x3,(.bool false),(.string ⟨#[105,110,111,100,101,32,115,105,122,101]⟩),y2] h fun y3 h=>OC Q x0 x3 x4 h)) (AE x3 fun y0=>AC 7 y0 fun y1=>AB false 1 y1 h fun y2=>Call TP 65 [x3,(.bool false),(.string ⟨#[105,110,111,100,101,32,115,105,122,101]⟩),y2] h fun y3 h=>OC Q x0 x3 x4 h)
def TK (Q:Kt)(x0 x3 x4:Value)(h:H):Prop:=
 AE x3 fun p7=>AC 6 p7 fun p8=>AB false 1 p8 h fun p9=>AD .geq p9 (.int .u64 1) fun q0=>Az q0 true (AE x3 fun q3=>AC 6 q3 fun q4=>AB false 1 q4 h fun q5=>AD .leq q5 (.int .u64 32768) fun q6=>AE x3 fun q9=>AC 6 q9 fun t0=>AB false 1 t0 h fun t1=>Call TP 65 [x3,q6,(.string ⟨#[105,110,111,100,101,115,32,111,102,32,97,32,103,114,111,117,112]⟩),t1] h fun t2 h=>TW Q x0 x3 x4 h) (AE x3 fun q9=>AC 6 q9 fun t0=>AB false 1 t0 h fun t1=>Call TP 65 [x3,(.bool false),(.string ⟨#[105,110,111,100,101,115,32,111,102,32,97,32,103,114,111,117,112]⟩),t1] h fun t2 h=>TW Q x0 x3 x4 h)
def So (Q:Kt)(x0 x3 x4 x6:Value)(h:H):Prop:=
 AD .and x6 (.int .u64 1040) fun n3=>AD .eql n3 (.int .u64 0) fun n4=>Call TP 65 [x3,n4,(.string ⟨#[99,104,101,99,107,115,117,109,115]⟩),x6] h fun n6 h=>AE x3 fun n9=>AC 5 n9 fun o0=>AB false 1 o0 h fun o1=>AD .geq o1 (.int .u64 8) fun o2=>Az o2 true (AE x3 fun o5=>AC 5 o5 fun o6=>AB false 1 o6 h fun o7=>AD .leq o7 (.int .u64 32768) fun o8=>AE x3 fun p1=>AC 5 p1 fun p2=>AB false 1 p2 h fun p3=>Call TP 65 [x3,o8,(.string ⟨#[98,108,111,99,107,115,32,111,102,32,97,32,103,114,111,117,112]⟩),p3] h fun p4 h=>TK Q x0 x3 x4 h) (AE x3 fun p1=>AC 5 p1 fun p2=>AB false 1 p2 h fun p3=>Call TP 65 [x3,(.bool false),(.string ⟨#[98,108,111,99,107,115,32,111,102,32,97,32,103,114,111,117,112]⟩),p3] h fun p4 h=>TK Q x0 x3 x4 h)
def N8 (Q:Kt)(x0 x3 x4 x5 x6:Value)(h:H):Prop:=
 Call TP 66 [x4,(.int .u64 76),(.int .u64 4)] h fun j1 h=>AD .eql j1 (.int .u64 1) fun j2=>Call TP 66 [x4,(.int .u64 76),(.int .u64 4)] h fun j4 h=>Call TP 65 [x3,j2,(.string ⟨#[114,101,118,105,115,105,111,110]⟩),j4] h fun j5 h=>Call TP 66 [x4,(.int .u64 24),(.int .u64 4)] h fun j8 h=>AD .eql j8 (.int .u64 2) fun j9=>Call TP 66 [x4,(.int .u64 24),(.int .u64 4)] h fun k1 h=>Call TP 65 [x3,j9,(.string ⟨#[98,108,111,99,107,32,115,105,122,101]⟩),k1] h fun k2 h=>Call TP 66 [x4,(.int .u64 20),(.int .u64 4)] h fun k5 h=>AD .eql k5 (.int .u64 0) fun k6=>Call TP 66 [x4,(.int .u64 20),(.int .u64 4)] h fun k8 h=>Call TP 65 [x3,k6,(.string ⟨#[102,105,114,115,116,32,98,108,111,99,107]⟩),k8] h fun k9 h=>AD .andNot x5 (.int .u64 33474) fun m2=>AD .eql m2 (.int .u64 0) fun m3=>Az m3 true (AD .and x5 (.int .u64 2) fun m6=>AD .neq m6 (.int .u64 0) fun m7=>Call TP 65 [x3,m7,(.string ⟨#[102,101,97,116,117,114,101,115,32,116,104,97,116,32,97,114,101,32,110,111,116,32,107,110,111,119,110]⟩),x5] h fun n0 h=>So Q x0 x3 x4 x6 h) (Call TP 65 [x3,(.bool false),(.string ⟨#[102,101,97,116,117,114,101,115,32,116,104,97,116,32,97,114,101,32,110,111,116,32,107,110,111,119,110]⟩),x5] h fun n0 h=>So Q x0 x3 x4 x6 h)
def Tj (Q:Kt)(x0 x3 x4:Value)(h:H):Prop:=
 Call TP 66 [x4,(.int .u64 56),(.int .u64 2)] h fun a8 h=>AD .eql a8 (.int .u64 61267) fun a9=>Call TP 66 [x4,(.int .u64 56),(.int .u64 2)] h fun b1 h=>Call TP 65 [x3,a9,(.string ⟨#[109,97,103,105,99]⟩),b1] h fun b2 h=>Call TP 66 [x4,(.int .u64 4),(.int .u64 4)] h fun b5 h=>Call TP 66 [x4,(.int .u64 336),(.int .u64 4)] h fun b7 h=>AD .shl b7 (.int .u64 32) fun b8=>AD .or b5 b8 fun b9=>AE x3 fun c0=>AC 1 c0 fun c1=>AJ 1 c1 b9 h fun h=>Call TP 66 [x4,(.int .u64 32),(.int .u64 4)] h fun c5 h=>Call TP 66 [x4,(.int .u64 40),(.int .u64 4)] h fun c7 h=>AE x3 fun c8=>AC 5 c8 fun c9=>AJ 1 c9 c5 h fun h=>AE x3 fun d0=>AC 6 d0 fun d1=>AJ 1 d1 c7 h fun h=>Call TP 66 [x4,(.int .u64 88),(.int .u64 2)] h fun d5 h=>AE x3 fun d6=>AC 7 d6 fun d7=>AJ 1 d7 d5 h fun h=>AE x3 fun d8=>AC 8 d8 fun d9=>AJ 1 d9 (.int .u64 32) h fun h=>Call TP 66 [x4,(.int .u64 96),(.int .u64 4)] h fun g1 h=>Call TP 66 [x4,(.int .u64 100),(.int .u64 4)] h fun g3 h=>AD .and g1 (.int .u64 128) fun g6=>AD .neq g6 (.int .u64 0) fun g7=>AE x3 fun g8=>AC 10 g8 fun g9=>AJ 1 g9 g7 h fun h=>AE x3 fun i1=>AC 10 i1 fun i2=>AB false 1 i2 h fun i3=>AK i3
 (Call TP 66 [x4,(.int .u64 254),(.int .u64 2)] h fun i6 h=>AE x3 fun i7=>AC 8 i7 fun i8=>AJ 1 i8 i6 h fun h=>N8 Q x0 x3 x4 g1 g3 h)
 (N8 Q x0 x3 x4 g1 g3 h)
def f25 (x0:Value)(h:H)(Q:Kt):Prop:=
 Ae (.struct [(0,1),(1,1),(2,1),(3,1),(4,1),(5,1),(6,1),(7,1),(8,1),(9,1),(10,1)]) (AG TP 51) [(3,x0)] fun x8=>BB 51 (x8:Value).cells h fun x9 h=>AH (.arr 1) 5 (AG TP 5) 1 0 [] h fun a0 h=>Ab x0 fun a2=>AD .geq a2 (.int .i64 2048) fun a3=>AK a3
 (AZ (.slice 1) x0 (some (.int .i64 1024)) (some (.int .i64 2048)) fun a5=>Tj Q x0 x9 a5 h)
 (Tj Q x0 x9 a0 h)
def AHx (Q:Kt)(r:RS):Nat→DJ:=tab [(4194302,.jn fun e h=>Pn Q (e 3) (e 4) h),
 (2097150,.jn fun e h=>TU Q (e 0) (e 3) (e 4) h),
 (1048574,.jn fun e h=>OC Q (e 0) (e 3) (e 4) h),
 (524286,.jn fun e h=>TW Q (e 0) (e 3) (e 4) h),
 (262142,.jn fun e h=>TK Q (e 0) (e 3) (e 4) h),
 (65534,.jn fun e h=>So Q (e 0) (e 3) (e 4) (e 6) h),
 (4094,.jn fun e h=>N8 Q (e 0) (e 3) (e 4) (e 5) (e 6) h),
 (62,.jn fun e h=>Tj Q (e 0) (e 3) (e 4) h)]
theorem ABi (x0:Value)(h:H)(Q:Kt)(x:f25 x0 h Q):Call TP 25 [x0] h Q:=Bb (AHx Q) Tryz.func25 (by kernel_rfl) x
def PK (Q:Kt)(r1:R1)(x0 x6 x7 a5 a6 z9 x190 x191:Value)(h:H):Prop:=
 AC 5 a5 fun x211=>AB false 1 x211 h fun x212=>AD .eql x212 a6 fun x214=>AC 0 a5 fun x215=>AB false 1 x215 h fun x216=>Call TP 65 [x0,x214,(.string ⟨#[108,105,110,107,115,32,111,102,32,105,110,111,100,101]⟩),x216] h fun x217 h=>AD .add x191 (.int .i64 1) fun x218=>r1 x218 h
def W0 (Q:Kt)(r1:R1)(x0 x6 x7 z9 x190 x191:Value)(h:H):Prop:=
 AD .lss x191 x190 fun x192=>AK x192
 (AI (.slice 23) z9 x191 fun x193=>AB true 23 x193 h fun x194=>AQ (AG TP 81) 81 h fun a5 h=>AJ 23 a5 x194 h fun h=>AC 0 a5 fun x196=>AB false 1 x196 h fun x197=>AI (.slice 1) x6 x197 fun x198=>AB false 1 x198 h fun x199=>AC 1 a5 fun x200=>AB false 1 x200 h fun x201=>Call TP 45 [x201] h fun x202 h=>AD .eql x202 (.int .u64 2) fun x203=>AK x203
 (AC 0 a5 fun x205=>AB false 1 x205 h fun x206=>AI (.slice 1) x7 x206 fun x207=>AB false 1 x207 h fun x208=>AD .add x208 (.int .u64 2) fun x209=>PK Q r1 x0 x6 x7 a5 x209 z9 x190 x191 h)
 (PK Q r1 x0 x6 x7 a5 x199 z9 x190 x191 h))
 (Q (.tuple #[]) h)
def XC (Q:Kt)(x0 x6 x7 z9 x190 x191:Value)(h:H):Prop:=A1 (fun r1 x191 h=>W0 Q r1 x0 x6 x7 z9 x190 x191 h) x191 h
def MG (Q:Kt)(r2:R1)(x0 x1 x4 x5 x6 x7 x8 a0:Value)(h:H):Prop:=
 AE x0 fun w7=>AC 0 w7 fun w8=>AB false 1 w8 h fun w9=>AB true 23 a0 h fun y0=>AH (.arr 23) 81 (AG TP 81) 23 1 [(0,y0)] h fun y1 h=>((AB false 1 w8 h fun v=>v=w9)∧AM 81 (AG TP 81) 23 216 w9 y1 h fun y2 h=>AE x0 fun y3=>AC 0 y3 fun y4=>AJ 1 y4 y2 h fun h=>r2 x8 h)
def N7 (Q:Kt)(r2:R1)(r3:R2)(x0 x1 x4 x5 x6 x7 x8 x9 a0 a2 i9 j0 j1:Value)(h:H):Prop:=
 AC 1 a2 fun t5=>AB false 1 t5 h fun t6=>AI (.slice 1) x4 t6 fun t7=>AB false 1 t7 h fun t8=>LH .not t8 fun t9=>AK t9
 (AC 1 a2 fun v1=>AB false 1 v1 h fun v2=>AC 1 a2 fun v4=>AB false 1 v4 h fun v5=>AI (.slice 1) x4 v2 fun v7=>AJ 1 v7 (.bool true) h fun h=>((AB false 1 v4 h fun v=>v=v5)∧AI (.slice 1) x5 v5 fun v8=>AJ 1 v8 x9 h fun h=>AC 1 a2 fun w0=>AB false 1 w0 h fun w1=>AH (.arr 1) 48 (AG TP 48) 1 1 [(0,w1)] h fun w2 h=>AM 48 (AG TP 48) 1 8 x8 w2 h fun w3 h=>AD .add j1 (.int .i64 1) fun w4=>r3 w3 w4 h))
 (AD .add j1 (.int .i64 1) fun w4=>r3 x8 w4 h)
def S4 (Q:Kt)(r2:R1)(r3:R2)(x0 x1 x4 x5 x6 x7 x8 x9 a0 a2 i9 j0 j1:Value)(h:H):Prop:=
 AC 1 a2 fun n5=>AB false 1 n5 h fun n6=>Call TP 128 [x0,n6] h fun n7 h=>Call TP 66 [n7,(.int .u64 0),(.int .u64 2)] h fun n8 h=>AV .u16 n8 fun n9=>Call TP 45 [n9] h fun o0 h=>AC 2 a2 fun o3=>AB false 1 o3 h fun o4=>AD .eql o0 o4 fun o5=>AC 1 a2 fun o6=>AB false 1 o6 h fun o7=>Call TP 65 [x0,o5,(.string ⟨#[107,105,110,100,32,111,102,32,97,110,32,101,110,116,114,121,32,111,102,32,105,110,111,100,101]⟩),o7] h fun o8 h=>AC 1 a2 fun p0=>AB false 1 p0 h fun p1=>AI (.slice 1) x6 p1 fun p2=>AB false 1 p2 h fun p3=>AD .add p3 (.int .u64 1) fun p4=>AI (.slice 1) x6 p1 fun p5=>AJ 1 p5 p4 h fun h=>AD .eql o0 (.int .u64 2) fun p7=>AK p7
 (AI (.slice 1) x7 x9 fun q0=>AB false 1 q0 h fun q1=>AD .add q1 (.int .u64 1) fun q2=>AI (.slice 1) x7 x9 fun q3=>AJ 1 q3 q2 h fun h=>AC 1 a2 fun q6=>AB false 1 q6 h fun q7=>AI (.slice 1) x4 q7 fun q8=>AB false 1 q8 h fun q9=>LH .not q9 fun t0=>AC 1 a2 fun t1=>AB false 1 t1 h fun t2=>Call TP 65 [x0,t0,(.string ⟨#[100,105,114,101,99,116,111,114,121,32,119,105,116,104,32,116,119,111,32,110,97,109,101,115]⟩),t2] h fun t3 h=>N7 Q r2 r3 x0 x1 x4 x5 x6 x7 x8 x9 a0 a2 i9 j0 j1 h)
 (N7 Q r2 r3 x0 x1 x4 x5 x6 x7 x8 x9 a0 a2 i9 j0 j1 h)
def WF (Q:Kt)(r2:R1)(r3:R2)(x0 x1 x4 x5 x6 x7 x8 x9 a0 a2 i9 j0 j1:Value)(h:H):Prop:=
 AC 1 a2 fun k3=>AB false 1 k3 h fun k4=>AD .eql k4 (.int .u64 0) fun k5=>Az k5 false (AC 1 a2 fun k7=>AB false 1 k7 h fun k8=>Ab x4 fun m0=>AV .u64 m0 fun m1=>AD .geq k8 m1 fun m2=>Az m2 false (AC 1 a2 fun m5=>AB false 1 m5 h fun m6=>AD .lss m6 x1 fun m8=>AK m8
 (AC 1 a2 fun n1=>AB false 1 n1 h fun n2=>Call TP 120 [x0,(.string ⟨#[101,110,116,114,121,32,111,102,32,105,110,111,100,101,32,116,104,97,116,32,105,115,32,110,111,110,101]⟩),n2] h fun n3 h=>AD .add j1 (.int .i64 1) fun w4=>r3 x8 w4 h)
 (S4 Q r2 r3 x0 x1 x4 x5 x6 x7 x8 x9 a0 a2 i9 j0 j1 h)) (AC 1 a2 fun n1=>AB false 1 n1 h fun n2=>Call TP 120 [x0,(.string ⟨#[101,110,116,114,121,32,111,102,32,105,110,111,100,101,32,116,104,97,116,32,105,115,32,110,111,110,101]⟩),n2] h fun n3 h=>AD .add j1 (.int .i64 1) fun w4=>r3 x8 w4 h)) (AC 1 a2 fun n1=>AB false 1 n1 h fun n2=>Call TP 120 [x0,(.string ⟨#[101,110,116,114,121,32,111,102,32,105,110,111,100,101,32,116,104,97,116,32,105,115,32,110,111,110,101]⟩),n2] h fun n3 h=>AD .add j1 (.int .i64 1) fun w4=>r3 x8 w4 h)
def V7 (Q:Kt)(r2:R1)(r3:R2)(x0 x1 x4 x5 x6 x7 x9 a0 i9 j0 x8 j1:Value)(h:H):Prop:=
 AD .lss j1 j0 fun j2=>AK j2
 (AI (.slice 3) i9 j1 fun j3=>AB true 3 j3 h fun j4=>AQ (AG TP 114) 114 h fun a2 h=>AJ 3 a2 j4 h fun h=>AC 0 a2 fun j5=>AB false 1 j5 h fun j6=>AD .eql j6 (.string ⟨#[46]⟩) fun j7=>Az j7 false (AC 0 a2 fun j9=>AB false 1 j9 h fun k0=>AD .eql k0 (.string ⟨#[46,46]⟩) fun k1=>AK k1
 (AD .add j1 (.int .i64 1) fun w4=>r3 x8 w4 h)
 (WF Q r2 r3 x0 x1 x4 x5 x6 x7 x8 x9 a0 a2 i9 j0 j1 h)) (AD .add j1 (.int .i64 1) fun w4=>r3 x8 w4 h))
 (MG Q r2 x0 x1 x4 x5 x6 x7 x8 a0 h)
def Xu (Q:Kt)(r2:R1)(x0 x1 x4 x5 x6 x7 x9 a0 i9 j0 x8 j1:Value)(h:H):Prop:=Bx (fun r3 x8 j1 h=>V7 Q r2 r3 x0 x1 x4 x5 x6 x7 x9 a0 i9 j0 x8 j1 h) x8 j1 h
def LC (Q:Kt)(r2:R1)(x0 x1 x4 x5 x6 x7 x8:Value)(h:H):Prop:=
 Ab x8 fun d8=>AD .gtr d8 (.int .i64 0) fun d9=>AK d9
 (AI (.slice 1) x8 (.int .i64 0) fun g1=>AB false 1 g1 h fun g2=>AZ (.slice 1) x8 (some (.int .i64 1)) none fun g4=>Call TP 126 [x0,g2] h fun g7 h=>AQ (AG TP 81) 81 h fun a0 h=>AJ 23 a0 g7 h fun h=>AC 1 a0 fun g8=>AB false 1 g8 h fun g9=>Call TP 45 [g9] h fun i0 h=>AD .eql i0 (.int .u64 2) fun i1=>AK i1
 (AI (.slice 1) x5 g2 fun i5=>AB false 1 i5 h fun i6=>Call TP 127 [x0,a0,i6] h fun i7 h=>AC 19 a0 fun i8=>AB false 1 i8 h fun i9=>Ab i9 fun j0=>Xu Q r2 x0 x1 x4 x5 x6 x7 g2 a0 i9 j0 g4 (.int .i64 0) h)
 (MG Q r2 x0 x1 x4 x5 x6 x7 g4 a0 h))
 (AE x0 fun y7=>AC 0 y7 fun y8=>AB false 1 y8 h fun y9=>AI (.slice 23) y9 (.int .i64 0) fun z0=>AC 1 z0 fun z1=>AB false 1 z1 h fun z2=>Call TP 45 [z2] h fun z3 h=>AD .eql z3 (.int .u64 2) fun z4=>Call TP 65 [x0,z4,(.string ⟨#[114,111,111,116,32,116,104,97,116,32,105,115,32,110,111,32,100,105,114,101,99,116,111,114,121]⟩),(.int .u64 2)] h fun z5 h=>AE x0 fun z7=>AC 0 z7 fun z8=>AB false 1 z8 h fun z9=>Ab z9 fun x190=>XC Q x0 x6 x7 z9 x190 (.int .i64 0) h)
def X5 (Q:Kt)(x0 x1 x4 x5 x6 x7 x8:Value)(h:H):Prop:=A1 (fun r2 x8 h=>LC Q r2 x0 x1 x4 x5 x6 x7 x8 h) x8 h
def MU (Q:Kt)(x0 x1 x4 x5 x6:Value)(h:H):Prop:=
 Ab x4 fun c5=>AY (AG TP 48) 1 8 48 c5 c5 h fun c6 h=>AH (.arr 1) 48 (AG TP 48) 1 1 [(0,(.int .u64 2))] h fun c7 h=>Ab x4 fun c9=>AD .leq c9 (.int .i64 2) fun d0=>AK d0
 (Call TP 120 [x0,(.string ⟨#[110,111,32,114,111,111,116]⟩),(.int .u64 2)] h fun d2 h=>Q (.tuple #[]) h)
 (AI (.slice 1) x4 (.int .i64 2) fun d5=>AJ 1 d5 (.bool true) h fun h=>AI (.slice 1) x5 (.int .i64 2) fun d6=>AJ 1 d6 (.int .u64 2) h fun h=>X5 Q x0 x1 x4 x5 x6 c6 c7 h)
def f68 (x0 x1:Value)(h:H)(Q:Kt):Prop:=
 AE x0 fun a8=>AC 4 a8 fun a9=>AB false 1 a9 h fun b0=>AE x0 fun b2=>AC 6 b2 fun b3=>AB false 1 b3 h fun b4=>AD .mul b0 b4 fun b5=>AD .add b5 (.int .u64 1) fun b6=>AY (AG TP 4) 1 1 4 b6 b6 h fun b7 h=>Ab b7 fun b9=>Ab b7 fun c2=>((AY (AG TP 48) 1 8 48 b9 b9 h fun c0 h=>((AY (AG TP 48) 1 8 48 c2 c2 h fun c3 h=>MU Q x0 x1 b7 c0 c3 h)
 ∧ (AY (AG TP 48) 1 8 48 c2 c2 h fun c3 h=>MU Q x0 x1 b7 c0 c3 h)))
 ∧ (AY (AG TP 48) 1 8 48 c2 c2 h fun c3 h=>AY (AG TP 48) 1 8 48 b9 b9 h fun c0 h=>MU Q x0 x1 b7 c0 c3 h))
def AIG (Q:Kt)(r:RS):Nat→DJ:=tab [(1047758,.jn fun e h=>PK Q (u1 (r 2046)) (e 0) (e 6) (e 7) (e 15) (e 16) (e 189) (e 190) (e 191) h),
 (4093,.lp [0,6,7,189,190] [191] fun s e l h=>W0 Q (u1 s) (e 0) (e 6) (e 7) (e 189) (e 190) (gl l 0) h),
 (130142,.jn fun e h=>MG Q (u1 (r 508)) (e 0) (e 1) (e 4) (e 5) (e 6) (e 7) (e 8) (e 10) h),
 (17057893630,.jn fun e h=>N7 Q (u1 (r 508)) (u2 (r 2082262)) (e 0) (e 1) (e 4) (e 5) (e 6) (e 7) (e 8) (e 9) (e 10) (e 12) (e 69) (e 70) (e 71) h),
 (1066118350,.jn fun e h=>S4 Q (u1 (r 508)) (u2 (r 2082262)) (e 0) (e 1) (e 4) (e 5) (e 6) (e 7) (e 8) (e 9) (e 10) (e 12) (e 69) (e 70) (e 71) h),
 (533059174,.jn fun e h=>WF Q (u1 (r 508)) (u2 (r 2082262)) (e 0) (e 1) (e 4) (e 5) (e 6) (e 7) (e 8) (e 9) (e 10) (e 12) (e 69) (e 70) (e 71) h),
 (4164525,.lp [0,1,4,5,6,7,9,10,69,70] [8,71] fun s e l h=>V7 Q (u1 (r 508)) (u2 s) (e 0) (e 1) (e 4) (e 5) (e 6) (e 7) (e 9) (e 10) (e 69) (e 70) (gl l 0) (gl l 1) h),
 (1017,.lp [0,1,4,5,6,7] [8] fun s e l h=>LC Q (u1 s) (e 0) (e 1) (e 4) (e 5) (e 6) (e 7) (gl l 0) h),
 (14,.jn fun e h=>MU Q (e 0) (e 1) (e 4) (e 5) (e 6) h)]
theorem AEI (x0 x1:Value)(h:H)(Q:Kt)(x:f68 x0 x1 h Q):Call TP 68 [x0,x1] h Q:=Bb (AIG Q) Tryz.func68 (by kernel_rfl) x
def Oc (Q:Kt)(r1:R1)(x0 x1 b0 b1 x289:Value)(h:H):Prop:=
 AK x289
 (AE x0 fun x291=>AC 3 x291 fun x292=>AB false 1 x292 h fun x293=>AD .mul b1 (.int .u64 4096) fun x295=>AZ (.slice 1) x293 (some x295) none fun x296=>Call TP 66 [x296,(.int .u64 56),(.int .u64 2)] h fun x299 h=>AD .eql x299 (.int .u64 61267) fun x300=>Az x300 true (Call TP 66 [x296,(.int .u64 90),(.int .u64 2)] h fun x303 h=>AD .and b0 (.int .u64 65535) fun x305=>AD .eql x303 x305 fun x306=>Call TP 65 [x0,x306,(.string ⟨#[99,111,112,121,32,111,102,32,116,104,101,32,115,117,112,101,114,98,108,111,99,107,32,105,110,32,103,114,111,117,112]⟩),b0] h fun x309 h=>AD .add b0 (.int .u64 1) fun x264=>r1 x264 h) (Call TP 65 [x0,(.bool false),(.string ⟨#[99,111,112,121,32,111,102,32,116,104,101,32,115,117,112,101,114,98,108,111,99,107,32,105,110,32,103,114,111,117,112]⟩),b0] h fun x309 h=>AD .add b0 (.int .u64 1) fun x264=>r1 x264 h))
 (AD .add b0 (.int .u64 1) fun x264=>r1 x264 h)
def VQ (Q:Kt)(r1:R1)(x0 x1 b0:Value)(h:H):Prop:=
 AE x0 fun x259=>AC 4 x259 fun x260=>AB false 1 x260 h fun x261=>AD .lss b0 x261 fun x262=>AK x262
 (AE x0 fun x267=>AC 5 x267 fun x268=>AB false 1 x268 h fun x269=>AD .mul b0 x269 fun x270=>AD .gtr b0 (.int .u64 0) fun x272=>Az x272 true (Call TP 121 [x1,b0] h fun x276 h=>Az x276 true (AD .add x270 (.int .u64 1) fun x280=>AD .mul x280 (.int .u64 4096) fun x281=>AE x0 fun x283=>AC 3 x283 fun x284=>AB false 1 x284 h fun x285=>Ab x285 fun x286=>AV .u64 x286 fun x287=>AD .leq x281 x287 fun x288=>Oc Q r1 x0 x1 b0 x270 x288 h) (Oc Q r1 x0 x1 b0 x270 (.bool false) h)) (Oc Q r1 x0 x1 b0 x270 (.bool false) h))
 (Q (.tuple #[]) h)
def Wv (Q:Kt)(x0 x1 b0:Value)(h:H):Prop:=A1 (fun r1 b0 h=>VQ Q r1 x0 x1 b0 h) b0 h
def Ln (Q:Kt)(r2:R3)(r3:R3)(x0 x1 x4 x5 x9 a0 a1 a2 a3 a4 a5 a6:Value)(h:H):Prop:=
 AE x0 fun w0=>AC 6 w0 fun w1=>AB false 1 w1 h fun w2=>AD .mul a1 w2 fun w3=>AD .add w3 a6 fun w5=>AD .add w5 (.int .u64 1) fun w6=>AE x0 fun w9=>AC 6 w9 fun y0=>AB false 1 y0 h fun y1=>AD .lss a6 y1 fun y2=>AK y2
 (AI (.slice 1) x4 w6 fun y9=>AB false 1 y9 h fun z0=>Call TP 130 [a3,a6] h fun y6 h=>((AB false 1 y9 h fun v=>v=z0)∧Bq .bool false false h y6 z0 fun z1=>Call TP 65 [x0,z1,(.string ⟨#[109,97,114,107,32,111,102,32,105,110,111,100,101]⟩),w6] h fun z3 h=>AI (.slice 1) x4 w6 fun z6=>AB false 1 z6 h fun z7=>LH .not z7 fun z8=>AK z8
 (AD .add a5 (.int .u64 1) fun x190=>Call TP 128 [x0,w6] h fun x194 h=>Call TP 66 [x194,(.int .u64 0),(.int .u64 2)] h fun x195 h=>AD .eql x195 (.int .u64 0) fun x196=>Az x196 true (Call TP 128 [x0,w6] h fun x200 h=>Call TP 66 [x200,(.int .u64 26),(.int .u64 2)] h fun x201 h=>AD .eql x201 (.int .u64 0) fun x202=>Call TP 65 [x0,x202,(.string ⟨#[105,110,111,100,101,32,116,104,97,116,32,105,115,32,110,111,116,32,117,115,101,100]⟩),w6] h fun x205 h=>AD .add a6 (.int .u64 1) fun n7=>r3 a4 x190 n7 h) (Call TP 65 [x0,(.bool false),(.string ⟨#[105,110,111,100,101,32,116,104,97,116,32,105,115,32,110,111,116,32,117,115,101,100]⟩),w6] h fun x205 h=>AD .add a6 (.int .u64 1) fun n7=>r3 a4 x190 n7 h))
 (AD .add a6 (.int .u64 1) fun n7=>r3 a4 a5 n7 h)))
 (AD .add a6 (.int .u64 1) fun n7=>r3 a4 a5 n7 h)
def Tx (Q:Kt)(r2:R3)(r3:R3)(x0 x1 x4 x5 x9 a0 a1 a2 a3 a4 a5 a6 a8:Value)(h:H):Prop:=
 LH .not a8 fun v5=>AK v5
 (AD .add a4 (.int .u64 1) fun v7=>Ln Q r2 r3 x0 x1 x4 x5 x9 a0 a1 a2 a3 v7 a5 a6 h)
 (Ln Q r2 r3 x0 x1 x4 x5 x9 a0 a1 a2 a3 a4 a5 a6 h)
def Lo (Q:Kt)(r2:R3)(r3:R3)(x0 x1 x4 x5 x9 a0 a1 a2 a3 a4 a5 a6 a7 a8:Value)(h:H):Prop:=
 AE x0 fun t2=>AC 5 t2 fun t3=>AB false 1 t3 h fun t4=>AD .lss a6 t4 fun t5=>AK t5
 (Call TP 130 [a2,a6] h fun t9 h=>Bq .bool false false h t9 a8 fun v1=>Call TP 65 [x0,v1,(.string ⟨#[109,97,114,107,32,111,102,32,98,108,111,99,107]⟩),a7] h fun v3 h=>Tx Q r2 r3 x0 x1 x4 x5 x9 a0 a1 a2 a3 a4 a5 a6 a8 h)
 (Tx Q r2 r3 x0 x1 x4 x5 x9 a0 a1 a2 a3 a4 a5 a6 a8 h)
def VB (Q:Kt)(r2:R3)(r3:R3)(x0 x1 x4 x5 x9 a0 a1 a2 a3 a4 a5 a6:Value)(h:H):Prop:=
 AD .lss a6 (.int .u64 32768) fun n5=>AK n5
 (AE x0 fun o0=>AC 5 o0 fun o1=>AB false 1 o1 h fun o2=>AD .mul a1 o2 fun o3=>AD .add o3 a6 fun o5=>AE x0 fun o8=>AC 5 o8 fun o9=>AB false 1 o9 h fun p0=>AD .geq a6 p0 fun p1=>Az p1 false (AE x0 fun p5=>AC 1 p5 fun p6=>AB false 1 p6 h fun p7=>AD .geq o5 p7 fun p8=>Az p8 false (AE x0 fun q2=>AC 9 q2 fun q3=>AB false 1 q3 h fun q4=>AI (.slice 1) q4 o5 fun q6=>AB false 1 q6 h fun q7=>AD .neq q7 (.int .u8 0) fun q8=>Lo Q r2 r3 x0 x1 x4 x5 x9 a0 a1 a2 a3 a4 a5 a6 o5 q8 h) (Lo Q r2 r3 x0 x1 x4 x5 x9 a0 a1 a2 a3 a4 a5 a6 o5 (.bool true) h)) (Lo Q r2 r3 x0 x1 x4 x5 x9 a0 a1 a2 a3 a4 a5 a6 o5 (.bool true) h))
 (Call TP 131 [x0,a1,(.int .u64 12),(.int .u64 2),(.int .u64 44)] h fun x209 h=>AD .eql x209 a4 fun x211=>Call TP 65 [x0,x211,(.string ⟨#[102,114,101,101,32,98,108,111,99,107,115,32,111,102,32,103,114,111,117,112]⟩),a1] h fun x213 h=>Call TP 131 [x0,a1,(.int .u64 14),(.int .u64 2),(.int .u64 46)] h fun x217 h=>AD .eql x217 a5 fun x219=>Call TP 65 [x0,x219,(.string ⟨#[102,114,101,101,32,105,110,111,100,101,115,32,111,102,32,103,114,111,117,112]⟩),a1] h fun x221 h=>AI (.slice 1) x5 a1 fun x228=>AB false 1 x228 h fun x229=>Call TP 131 [x0,a1,(.int .u64 16),(.int .u64 2),(.int .u64 48)] h fun x225 h=>((AB false 1 x228 h fun v=>v=x229)∧AD .eql x225 x229 fun x230=>Call TP 65 [x0,x230,(.string ⟨#[100,105,114,101,99,116,111,114,105,101,115,32,111,102,32,103,114,111,117,112]⟩),a1] h fun x232 h=>AD .add x9 a4 fun x235=>AD .add a0 a5 fun x238=>AD .add a1 (.int .u64 1) fun m3=>r2 x235 x238 m3 h))
def Wh (Q:Kt)(r2:R3)(x0 x1 x4 x5 x9 a0 a1 a2 a3 a4 a5 a6:Value)(h:H):Prop:=K9 (fun r3 a4 a5 a6 h=>VB Q r2 r3 x0 x1 x4 x5 x9 a0 a1 a2 a3 a4 a5 a6 h) a4 a5 a6 h
def VO (Q:Kt)(r2:R3)(x0 x1 x4 x5 x9 a0 a1:Value)(h:H):Prop:=
 AE x0 fun k8=>AC 4 k8 fun k9=>AB false 1 k9 h fun m0=>AD .lss a1 m0 fun m1=>AK m1
 (Call TP 123 [x0,a1] h fun m7 h=>Call TP 129 [x0,m7] h fun m8 h=>Call TP 124 [x0,a1] h fun n2 h=>Call TP 129 [x0,n2] h fun n3 h=>Wh Q r2 x0 x1 x4 x5 x9 a0 a1 m8 n3 (.int .u64 0) (.int .u64 0) (.int .u64 0) h)
 (Call TP 66 [x1,(.int .u64 12),(.int .u64 4)] h fun x241 h=>Call TP 66 [x1,(.int .u64 344),(.int .u64 4)] h fun x243 h=>AD .shl x243 (.int .u64 32) fun x244=>AD .or x241 x244 fun x245=>AD .eql x245 x9 fun x247=>Call TP 65 [x0,x247,(.string ⟨#[102,114,101,101,32,98,108,111,99,107,115]⟩),x9] h fun x249 h=>Call TP 66 [x1,(.int .u64 16),(.int .u64 4)] h fun x252 h=>AD .eql x252 a0 fun x254=>Call TP 65 [x0,x254,(.string ⟨#[102,114,101,101,32,105,110,111,100,101,115]⟩),a0] h fun x256 h=>Wv Q x0 x1 (.int .u64 0) h)
def Ta (Q:Kt)(x0 x1 x4 x5 x9 a0 a1:Value)(h:H):Prop:=K9 (fun r2 x9 a0 a1 h=>VO Q r2 x0 x1 x4 x5 x9 a0 a1 h) x9 a0 a1 h
def YH (Q:Kt)(r4:R1)(x0 x1 x4 x5 g8 g9 i0:Value)(h:H):Prop:=
 AD .lss i0 g9 fun i1=>AK i1
 (AI (.slice 23) g8 i0 fun i2=>AB true 23 i2 h fun i3=>AQ (AG TP 81) 81 h fun x8 h=>AJ 23 x8 i3 h fun h=>AC 0 x8 fun i5=>AB false 1 i5 h fun i6=>AI (.slice 1) x4 i6 fun i7=>AJ 1 i7 (.bool true) h fun h=>AC 1 x8 fun i8=>AB false 1 i8 h fun i9=>Call TP 45 [i9] h fun j0 h=>AD .eql j0 (.int .u64 2) fun j1=>AK j1
 (AC 0 x8 fun j3=>AB false 1 j3 h fun j4=>AD .sub j4 (.int .u64 1) fun j5=>AE x0 fun j7=>AC 6 j7 fun j8=>AB false 1 j8 h fun j9=>AD .quo j5 j9 fun k0=>AI (.slice 1) x5 k0 fun k1=>AB false 1 k1 h fun k2=>AD .add k2 (.int .u64 1) fun k3=>AI (.slice 1) x5 k0 fun k4=>AJ 1 k4 k3 h fun h=>AD .add i0 (.int .i64 1) fun k5=>r4 k5 h)
 (AD .add i0 (.int .i64 1) fun k5=>r4 k5 h))
 (Ta Q x0 x1 x4 x5 (.int .u64 0) (.int .u64 0) (.int .u64 0) h)
def Xe (Q:Kt)(x0 x1 x4 x5 g8 g9 i0:Value)(h:H):Prop:=A1 (fun r4 i0 h=>YH Q r4 x0 x1 x4 x5 g8 g9 i0 h) i0 h
def PP (Q:Kt)(x0 x1 x4 x5:Value)(h:H):Prop:=
 AE x0 fun g6=>AC 0 g6 fun g7=>AB false 1 g7 h fun g8=>Ab g8 fun g9=>Xe Q x0 x1 x4 x5 g8 g9 (.int .i64 0) h
def YP (Q:Kt)(r5:R1)(x0 x1 x4 x5 x6:Value)(h:H):Prop:=
 Call TP 66 [x1,(.int .u64 84),(.int .u64 4)] h fun d1 h=>AD .lss x6 d1 fun d2=>Az d2 true (Ab x4 fun d6=>AV .u64 d6 fun d7=>AD .lss x6 d7 fun d8=>AK d8
 (AI (.slice 1) x4 x6 fun g4=>AJ 1 g4 (.bool true) h fun h=>AD .add x6 (.int .u64 1) fun g1=>r5 g1 h)
 (PP Q x0 x1 x4 x5 h)) (PP Q x0 x1 x4 x5 h)
def Xh (Q:Kt)(x0 x1 x4 x5 x6:Value)(h:H):Prop:=A1 (fun r5 x6 h=>YP Q r5 x0 x1 x4 x5 x6 h) x6 h
def L7 (Q:Kt)(x0 x1 x4 x5:Value)(h:H):Prop:=
 Xh Q x0 x1 x4 x5 (.int .u64 1) h
def f69 (x0 x1:Value)(h:H)(Q:Kt):Prop:=
 AE x0 fun b4=>AC 4 b4 fun b5=>AB false 1 b5 h fun b6=>AE x0 fun b8=>AC 6 b8 fun b9=>AB false 1 b9 h fun c0=>AD .mul b6 c0 fun c1=>AD .add c1 (.int .u64 1) fun c2=>AE x0 fun c5=>AC 4 c5 fun c6=>AB false 1 c6 h fun c7=>((AY (AG TP 4) 1 1 4 c2 c2 h fun c3 h=>((AB false 1 c6 h fun v=>v=c7)∧((AY (AG TP 48) 1 8 48 c7 c7 h fun c8 h=>L7 Q x0 x1 c3 c8 h)
 ∧ (AY (AG TP 48) 1 8 48 c7 c7 h fun c8 h=>L7 Q x0 x1 c3 c8 h))))
 ∧ (AY (AG TP 48) 1 8 48 c7 c7 h fun c8 h=>((AB false 1 b5 h fun v=>v=b6)∧(AB false 1 b9 h fun v=>v=c0)∧AY (AG TP 4) 1 1 4 c2 c2 h fun c3 h=>L7 Q x0 x1 c3 c8 h)))
def AIC (Q:Kt)(r:RS):Nat→DJ:=tab [(130854,.jn fun e h=>Oc Q (u1 (r 1022)) (e 0) (e 1) (e 20) (e 21) (e 289) h),
 (2045,.lp [0,1] [20] fun s e l h=>VQ Q (u1 s) (e 0) (e 1) (gl l 0) h),
 (65615006,.jn fun e h=>Ln Q (u3 (r 250)) (u3 (r 128154)) (e 0) (e 1) (e 4) (e 5) (e 9) (e 10) (e 11) (e 12) (e 13) (e 14) (e 15) (e 16) h),
 (32807502,.jn fun e h=>Tx Q (u3 (r 250)) (u3 (r 128154)) (e 0) (e 1) (e 4) (e 5) (e 9) (e 10) (e 11) (e 12) (e 13) (e 14) (e 15) (e 16) (e 18) h),
 (16403750,.jn fun e h=>Lo Q (u3 (r 250)) (u3 (r 128154)) (e 0) (e 1) (e 4) (e 5) (e 9) (e 10) (e 11) (e 12) (e 13) (e 14) (e 15) (e 16) (e 17) (e 18) h),
 (256309,.lp [0,1,4,5,9,10,11,12,13] [14,15,16] fun s e l h=>VB Q (u3 (r 250)) (u3 s) (e 0) (e 1) (e 4) (e 5) (e 9) (e 10) (e 11) (e 12) (e 13) (gl l 0) (gl l 1) (gl l 2) h),
 (501,.lp [0,1,4,5] [9,10,11] fun s e l h=>VO Q (u3 s) (e 0) (e 1) (e 4) (e 5) (gl l 0) (gl l 1) (gl l 2) h),
 (117,.lp [0,1,4,5,58,59] [60] fun s e l h=>YH Q (u1 s) (e 0) (e 1) (e 4) (e 5) (e 58) (e 59) (gl l 0) h),
 (14,.jn fun e h=>PP Q (e 0) (e 1) (e 4) (e 5) h),
 (53,.lp [0,1,4,5] [6] fun s e l h=>YP Q (u1 s) (e 0) (e 1) (e 4) (e 5) (gl l 0) h),
 (6,.jn fun e h=>L7 Q (e 0) (e 1) (e 4) (e 5) h)]
theorem ACu (x0 x1:Value)(h:H)(Q:Kt)(x:f69 x0 x1 h Q):Call TP 69 [x0,x1] h Q:=Bb (AIC Q) Tryz.func69 (by kernel_rfl) x
def Qx (Q:Kt)(r1:R1)(r2:R1)(x0 x1 x8 y0 y1 y2 a1:Value)(h:H):Prop:=
 AC 0 x8 fun x201=>AB false 1 x201 h fun x202=>CL x202 fun x203=>AD .lss a1 x203 fun x204=>AK x204
 (AC 0 x8 fun x208=>AB false 1 x208 h fun x209=>BQ x209 a1 fun x211=>AD .neq x211 (.int .u8 47) fun x212=>AE x1 fun x214=>AC 0 x214 fun x215=>AB false 1 x215 h fun x216=>Call TP 65 [x0,x212,(.string ⟨#[115,108,97,115,104,32,105,110,32,97,32,110,97,109,101,32,111,102,32,100,105,114,101,99,116,111,114,121]⟩),x216] h fun x217 h=>AD .add a1 (.int .i64 1) fun x206=>r2 x206 h)
 (AD .add y2 (.int .i64 1) fun x218=>r1 x218 h)
def Qq (Q:Kt)(r1:R1)(x0 x1 x8 y0 y1 y2 a1:Value)(h:H):Prop:=A1 (fun r2 a1 h=>Qx Q r1 r2 x0 x1 x8 y0 y1 y2 a1 h) a1 h
def Rk (Q:Kt)(r1:R1)(r3:R1)(x0 x1 x8 y0 y1 y2 z2 z3 z4:Value)(h:H):Prop:=
 AD .lss z4 z3 fun z5=>AK z5
 (AI (.slice 3) z2 z4 fun z6=>AB true 3 z6 h fun z7=>AQ (AG TP 114) 114 h fun a0 h=>AJ 3 a0 z7 h fun h=>AC 0 x8 fun z9=>AB false 1 z9 h fun x190=>AC 0 a0 fun x191=>AB false 1 x191 h fun x192=>AD .neq x190 x192 fun x193=>AE x1 fun x195=>AC 0 x195 fun x196=>AB false 1 x196 h fun x197=>Call TP 65 [x0,x193,(.string ⟨#[110,97,109,101,32,116,104,97,116,32,99,111,109,101,115,32,116,119,105,99,101,32,105,110,32,100,105,114,101,99,116,111,114,121]⟩),x197] h fun x198 h=>AD .add z4 (.int .i64 1) fun x199=>r3 x199 h)
 (Qq Q r1 x0 x1 x8 y0 y1 y2 (.int .i64 0) h)
def Rw (Q:Kt)(r1:R1)(x0 x1 x8 y0 y1 y2 z2 z3 z4:Value)(h:H):Prop:=A1 (fun r3 z4 h=>Rk Q r1 r3 x0 x1 x8 y0 y1 y2 z2 z3 z4 h) z4 h
def Rp (Q:Kt)(r1:R1)(x0 x1 y0 y1 y2:Value)(h:H):Prop:=
 AD .lss y2 y1 fun y3=>AK y3
 (AI (.slice 3) y0 y2 fun y5=>AB true 3 y5 h fun y6=>AQ (AG TP 114) 114 h fun x8 h=>AJ 3 x8 y6 h fun h=>AE x1 fun y8=>AC 19 y8 fun y9=>AB false 1 y9 h fun z0=>AZ (.slice 3) z0 none (some y2) fun z2=>Ab z2 fun z3=>Rw Q r1 x0 x1 x8 y0 y1 y2 z2 z3 (.int .i64 0) h)
 (Q (.tuple #[]) h)
def V3 (Q:Kt)(x0 x1 y0 y1 y2:Value)(h:H):Prop:=A1 (fun r1 y2 h=>Rp Q r1 x0 x1 y0 y1 y2 h) y2 h
def LK (Q:Kt)(x0 x1:Value)(h:H):Prop:=
 AE x1 fun w8=>AC 19 w8 fun w9=>AB false 1 w9 h fun y0=>Ab y0 fun y1=>V3 Q x0 x1 y0 y1 (.int .i64 0) h
def Mm (Q:Kt)(x0 x1 x2:Value)(h:H):Prop:=
 AE x1 fun t4=>AC 19 t4 fun t5=>AB false 1 t5 h fun t6=>AI (.slice 3) t6 (.int .i64 1) fun t7=>AC 1 t7 fun t8=>AB false 1 t8 h fun t9=>AD .eql t9 x2 fun v1=>Az v1 true (AE x1 fun v4=>AC 19 v4 fun v5=>AB false 1 v5 h fun v6=>AI (.slice 3) v6 (.int .i64 1) fun v7=>AC 2 v7 fun v8=>AB false 1 v8 h fun v9=>AD .eql v9 (.int .u64 2) fun w0=>AE x1 fun w3=>AC 0 w3 fun w4=>AB false 1 w4 h fun w5=>Call TP 65 [x0,w0,(.string ⟨#[46,46,32,111,102,32,100,105,114,101,99,116,111,114,121]⟩),w5] h fun w6 h=>LK Q x0 x1 h) (AE x1 fun w3=>AC 0 w3 fun w4=>AB false 1 w4 h fun w5=>Call TP 65 [x0,(.bool false),(.string ⟨#[46,46,32,111,102,32,100,105,114,101,99,116,111,114,121]⟩),w5] h fun w6 h=>LK Q x0 x1 h)
def Kg (Q:Kt)(x0 x1 x2 n7:Value)(h:H):Prop:=
 AK n7
 (AE x1 fun o0=>AC 0 o0 fun o1=>AB false 1 o1 h fun o2=>Call TP 120 [x0,(.string ⟨#[100,105,114,101,99,116,111,114,121,32,119,105,116,104,111,117,116,32,46,32,97,110,100,32,46,46]⟩),o2] h fun o3 h=>Q (.tuple #[]) h)
 (AE x1 fun o6=>AC 19 o6 fun o7=>AB false 1 o7 h fun o8=>AI (.slice 3) o8 (.int .i64 0) fun o9=>AC 1 o9 fun p0=>AB false 1 p0 h fun p1=>AE x1 fun p3=>AC 0 p3 fun p4=>AB false 1 p4 h fun p5=>AD .eql p1 p5 fun p6=>Az p6 true (AE x1 fun p9=>AC 19 p9 fun q0=>AB false 1 q0 h fun q1=>AI (.slice 3) q1 (.int .i64 0) fun q2=>AC 2 q2 fun q3=>AB false 1 q3 h fun q4=>AD .eql q4 (.int .u64 2) fun q5=>AE x1 fun q8=>AC 0 q8 fun q9=>AB false 1 q9 h fun t0=>Call TP 65 [x0,q5,(.string ⟨#[46,32,111,102,32,100,105,114,101,99,116,111,114,121]⟩),t0] h fun t1 h=>Mm Q x0 x1 x2 h) (AE x1 fun q8=>AC 0 q8 fun q9=>AB false 1 q9 h fun t0=>Call TP 65 [x0,(.bool false),(.string ⟨#[46,32,111,102,32,100,105,114,101,99,116,111,114,121]⟩),t0] h fun t1 h=>Mm Q x0 x1 x2 h))
def Hf (Q:Kt)(x0 x1 x2:Value)(h:H):Prop:=
 AE x1 fun k3=>AC 19 k3 fun k4=>AB false 1 k4 h fun k5=>Ab k5 fun k6=>AD .lss k6 (.int .i64 2) fun k7=>Az k7 false (AE x1 fun m0=>AC 19 m0 fun m1=>AB false 1 m1 h fun m2=>AI (.slice 3) m2 (.int .i64 0) fun m3=>AC 0 m3 fun m4=>AB false 1 m4 h fun m5=>AD .neq m5 (.string ⟨#[46]⟩) fun m6=>Az m6 false (AE x1 fun n0=>AC 19 n0 fun n1=>AB false 1 n1 h fun n2=>AI (.slice 3) n2 (.int .i64 1) fun n3=>AC 0 n3 fun n4=>AB false 1 n4 h fun n5=>AD .neq n5 (.string ⟨#[46,46]⟩) fun n6=>Kg Q x0 x1 x2 n6 h) (Kg Q x0 x1 x2 (.bool true) h)) (Kg Q x0 x1 x2 (.bool true) h)
def Qz (Q:Kt)(r4:R1)(x0 x1 x2 x6:Value)(h:H):Prop:=
 Ab x6 fun j3=>AD .geq j3 (.int .i64 4096) fun j4=>AK j4
 (AZ (.slice 1) x6 none (some (.int .i64 4096)) fun k0=>Call TP 180 [x0,x1,k0] h fun k1 h=>AZ (.slice 1) x6 (some (.int .i64 4096)) none fun j6=>r4 j6 h)
 (Hf Q x0 x1 x2 h)
def QE (Q:Kt)(x0 x1 x2 x6:Value)(h:H):Prop:=A1 (fun r4 x6 h=>Qz Q r4 x0 x1 x2 x6 h) x6 h
def Mq (Q:Kt)(x0 x1 x2 x6:Value)(h:H):Prop:=
 QE Q x0 x1 x2 x6 h
def ACK (x0 x1 x2:Value)(h:H)(Q:Kt):Prop:=
 AE x1 fun a3=>AC 18 a3 fun a4=>AB false 1 a4 h fun a5=>AE x1 fun a7=>AC 21 a7 fun a8=>AB false 1 a8 h fun a9=>AK a9
 (Ab a5 fun b1=>AD .lss b1 (.int .i64 4) fun b2=>AK b2
 (AE x1 fun b5=>AC 0 b5 fun b6=>AB false 1 b6 h fun b7=>Call TP 120 [x0,(.string ⟨#[105,110,108,105,110,101,32,100,105,114,101,99,116,111,114,121]⟩),b7] h fun b8 h=>Q (.tuple #[]) h)
 (AE x1 fun c1=>AC 0 c1 fun c2=>AB false 1 c2 h fun c3=>Ae (.struct [(0,1),(1,1),(2,1)]) (AG TP 114) [(0,(.string ⟨#[46]⟩)),(1,c3),(2,(.int .u64 2))] fun c4=>Call TP 66 [a5,(.int .u64 0),(.int .u64 4)] h fun c6 h=>((AB false 1 c2 h fun v=>v=c3)∧Ae (.struct [(0,1),(1,1),(2,1)]) (AG TP 114) [(0,(.string ⟨#[46,46]⟩)),(1,c6),(2,(.int .u64 2))] fun c7=>AH (.arr 3) 114 (AG TP 114) 3 2 [(0,c4),(1,c7)] h fun c8 h=>AE x1 fun c9=>AC 19 c9 fun d0=>AJ 1 d0 c8 h fun h=>Ab a5 fun d5=>NW (.int .i64 60) d5 fun d6=>AZ (.slice 1) a5 (some (.int .i64 4)) (some d6) fun d7=>Call TP 180 [x0,x1,d7] h fun d8 h=>Ab a5 fun g0=>AD .gtr g0 (.int .i64 60) fun g1=>AK g1
 (AZ (.slice 1) a5 (some (.int .i64 60)) none fun g5=>Call TP 180 [x0,x1,g5] h fun g6 h=>Hf Q x0 x1 x2 h)
 (Hf Q x0 x1 x2 h))))
 (Ab a5 fun g9=>AD .gtr g9 (.int .i64 0) fun i0=>Az i0 true (Ab a5 fun i3=>AD .rem i3 (.int .i64 4096) fun i4=>AD .eql i4 (.int .i64 0) fun i5=>AE x1 fun i8=>AC 0 i8 fun i9=>AB false 1 i9 h fun j0=>Call TP 65 [x0,i5,(.string ⟨#[115,105,122,101,32,111,102,32,100,105,114,101,99,116,111,114,121]⟩),j0] h fun j1 h=>Mq Q x0 x1 x2 a5 h) (AE x1 fun i8=>AC 0 i8 fun i9=>AB false 1 i9 h fun j0=>Call TP 65 [x0,(.bool false),(.string ⟨#[115,105,122,101,32,111,102,32,100,105,114,101,99,116,111,114,121]⟩),j0] h fun j1 h=>Mq Q x0 x1 x2 a5 h))
def AE1 (Q:Kt)(r:RS):Nat→DJ:=tab [(260509,.lp [0,1,8,170,171,172] [11] fun s e l h=>Qx Q (u1 (r 254)) (u1 s) (e 0) (e 1) (e 8) (e 170) (e 171) (e 172) (gl l 0) h),
 (260501,.lp [0,1,8,170,171,172,182,183] [184] fun s e l h=>Rk Q (u1 (r 254)) (u1 s) (e 0) (e 1) (e 8) (e 170) (e 171) (e 172) (e 182) (e 183) (gl l 0) h),
 (509,.lp [0,1,170,171] [172] fun s e l h=>Rp Q (u1 s) (e 0) (e 1) (e 170) (e 171) (gl l 0) h),
 (126,.jn fun e h=>LK Q (e 0) (e 1) h),
 (62,.jn fun e h=>Mm Q (e 0) (e 1) (e 2) h),
 (58,.jn fun e h=>Kg Q (e 0) (e 1) (e 2) (e 107) h),
 (14,.jn fun e h=>Hf Q (e 0) (e 1) (e 2) h),
 (221,.lp [0,1,2] [6] fun s e l h=>Qz Q (u1 s) (e 0) (e 1) (e 2) (gl l 0) h),
 (110,.jn fun e h=>Mq Q (e 0) (e 1) (e 2) (e 6) h)]
theorem AAY (x0 x1 x2:Value)(h:H)(Q:Kt)(x:ACK x0 x1 x2 h Q):Call TP 127 [x0,x1,x2] h Q:=Bb (AE1 Q) Tryz.func127 (by kernel_rfl) x
def ACW (x0 x1 x2:Value)(h:H)(Q:Kt):Prop:=
 AD .add x0 (.int .u64 4) fun x6=>AB false 1 x1 h fun x7=>AD .add (.int .u64 128) x7 fun x8=>AD .gtr x6 x8 fun x9=>AK x9
 (Q (.int .u64 0) h)
 (AB false 1 x2 h fun a0=>Call TP 66 [a0,x0,(.int .u64 4)] h fun a2 h=>Q a2 h)
theorem ZI (x0 x1 x2:Value)(h:H)(Q:Kt)(x:ACW x0 x1 x2 h Q):Call TP 176 [x0,x1,x2] h Q:=Bb nT Tryz.func176 (by kernel_rfl) x
def Qt (Q:Kt)(r1:R1)(r2:R1)(x0 x1 x9 a3 m8 m9 n5 n6:Value)(h:H):Prop:=
 AD .lss n6 n5 fun n7=>AK n7
 (AI (.slice 2) x9 a3 fun o2=>AC 0 o2 fun o3=>AB false 1 o3 h fun o4=>AI (.slice 2) x9 n6 fun o7=>AC 0 o7 fun o8=>AB false 1 o8 h fun o9=>AD .neq o4 o9 fun p0=>AE x1 fun p2=>AC 0 p2 fun p3=>AB false 1 p3 h fun p4=>Call TP 65 [x0,p0,(.string ⟨#[97,116,116,114,105,98,117,116,101,32,116,104,97,116,32,99,111,109,101,115,32,116,119,105,99,101,32,105,110,32,105,110,111,100,101]⟩),p4] h fun p5 h=>AD .add n6 (.int .i64 1) fun p6=>r2 p6 h)
 (AD .add m9 (.int .i64 1) fun p7=>r1 p7 h)
def W9 (Q:Kt)(r1:R1)(x0 x1 x9 a3 m8 m9 n5 n6:Value)(h:H):Prop:=A1 (fun r2 n6 h=>Qt Q r1 r2 x0 x1 x9 a3 m8 m9 n5 n6 h) n6 h
def QF (Q:Kt)(r1:R1)(x0 x1 x9 m8 m9:Value)(h:H):Prop:=
 AD .lss m9 m8 fun n0=>AK n0
 (AZ (.slice 2) x9 none (some m9) fun n4=>Ab n4 fun n5=>W9 Q r1 x0 x1 x9 m9 m8 m9 n5 (.int .i64 0) h)
 (Q x9 h)
def Wg (Q:Kt)(x0 x1 x9 m8 m9:Value)(h:H):Prop:=A1 (fun r1 m9 h=>QF Q r1 x0 x1 x9 m8 m9 h) m9 h
def In (Q:Kt)(x0 x1 x9:Value)(h:H):Prop:=
 Ab x9 fun m8=>Wg Q x0 x1 x9 m8 (.int .i64 0) h
def Ga (Q:Kt)(x0 x1 x9 a1:Value)(h:H):Prop:=
 AD .neq a1 (.int .u64 0) fun g2=>AK g2
 (Call TP 122 [x0,a1,(.string ⟨#[97,116,116,114,105,98,117,116,101,115]⟩)] h fun g5 h=>AE x1 fun g7=>AC 22 g7 fun g8=>AB false 1 g8 h fun g9=>AD .add g9 (.int .u64 1) fun i0=>AE x1 fun i1=>AC 22 i1 fun i2=>AJ 1 i2 i0 h fun h=>Call TP 129 [x0,a1] h fun i5 h=>AE x1 fun j1=>AC 0 j1 fun j2=>AB false 1 j2 h fun j3=>Call TP 66 [i5,(.int .u64 0),(.int .u64 4)] h fun i8 h=>((AB false 1 j2 h fun v=>v=j3)∧AD .eql i8 (.int .u64 3925999616) fun i9=>Call TP 65 [x0,i9,(.string ⟨#[109,97,103,105,99,32,111,102,32,97,116,116,114,105,98,117,116,101,115,32,111,102,32,105,110,111,100,101]⟩),j3] h fun j4 h=>AE x1 fun k5=>AC 0 k5 fun k6=>AB false 1 k6 h fun k7=>Call TP 66 [i5,(.int .u64 4),(.int .u64 4)] h fun j7 h=>((AB false 1 k6 h fun v=>v=k7)∧AD .eql j7 (.int .u64 1) fun j8=>Az j8 true (Call TP 66 [i5,(.int .u64 8),(.int .u64 4)] h fun k1 h=>((AB false 1 k6 h fun v=>v=k7)∧AD .eql k1 (.int .u64 1) fun k2=>Call TP 65 [x0,k2,(.string ⟨#[114,101,102,101,114,101,110,99,101,115,32,111,102,32,97,116,116,114,105,98,117,116,101,115,32,111,102,32,105,110,111,100,101]⟩),k7] h fun k8 h=>AZ (.slice 1) i5 (some (.int .i64 32)) none fun m3=>Call TP 207 [x0,x1,m3,i5,(.bool false)] h fun m5 h=>AM 86 (AG TP 86) 2 40 x9 m5 h fun m6 h=>In Q x0 x1 m6 h)) (Call TP 65 [x0,(.bool false),(.string ⟨#[114,101,102,101,114,101,110,99,101,115,32,111,102,32,97,116,116,114,105,98,117,116,101,115,32,111,102,32,105,110,111,100,101]⟩),k7] h fun k8 h=>AZ (.slice 1) i5 (some (.int .i64 32)) none fun m3=>Call TP 207 [x0,x1,m3,i5,(.bool false)] h fun m5 h=>AM 86 (AG TP 86) 2 40 x9 m5 h fun m6 h=>In Q x0 x1 m6 h))))
 (In Q x0 x1 x9 h)
def Nr (Q:Kt)(x0 x1 x2 x3 x9 b9:Value)(h:H):Prop:=
 AK b9
 (AD .add (.int .u64 128) x3 fun c2=>AD .add c2 (.int .u64 4) fun c3=>AZ (.slice 1) x2 (some c3) none fun c4=>Call TP 207 [x0,x1,c4,c4,(.bool true)] h fun c9 h=>Call TP 66 [x2,(.int .u64 104),(.int .u64 4)] h fun d1 h=>AE x0 fun d3=>AC 10 d3 fun d4=>AB false 1 d4 h fun d5=>AK d5
 (Call TP 66 [x2,(.int .u64 118),(.int .u64 2)] h fun d8 h=>AD .shl d8 (.int .u64 32) fun d9=>AD .or d1 d9 fun g0=>Ga Q x0 x1 c9 g0 h)
 (Ga Q x0 x1 c9 d1 h))
 (Call TP 66 [x2,(.int .u64 104),(.int .u64 4)] h fun d1 h=>AE x0 fun d3=>AC 10 d3 fun d4=>AB false 1 d4 h fun d5=>AK d5
 (Call TP 66 [x2,(.int .u64 118),(.int .u64 2)] h fun d8 h=>AD .shl d8 (.int .u64 32) fun d9=>AD .or d1 d9 fun g0=>Ga Q x0 x1 x9 g0 h)
 (Ga Q x0 x1 x9 d1 h))
def ACN (x0 x1 x2 x3:Value)(h:H)(Q:Kt):Prop:=
 AE x0 fun a6=>AC 7 a6 fun a7=>AB false 1 a7 h fun a8=>AD .add (.int .u64 128) x3 fun b0=>AD .add b0 (.int .u64 4) fun b1=>AD .geq a8 b1 fun b2=>Az b2 true (AD .add (.int .u64 128) x3 fun b6=>Call TP 66 [x2,b6,(.int .u64 4)] h fun b7 h=>AD .eql b7 (.int .u64 3925999616) fun b8=>Nr Q x0 x1 x2 x3 (.slice none 0 0) b8 h) (Nr Q x0 x1 x2 x3 (.slice none 0 0) (.bool false) h)
def AGh (Q:Kt)(r:RS):Nat→DJ:=tab [(521421,.lp [0,1,9,13,98,99,105] [106] fun s e l h=>Qt Q (u1 (r 1018)) (u1 s) (e 0) (e 1) (e 9) (e 13) (e 98) (e 99) (e 105) (gl l 0) h),
 (2037,.lp [0,1,9,98] [99] fun s e l h=>QF Q (u1 s) (e 0) (e 1) (e 9) (e 98) (gl l 0) h),
 (254,.jn fun e h=>In Q (e 0) (e 1) (e 9) h),
 (126,.jn fun e h=>Ga Q (e 0) (e 1) (e 9) (e 11) h),
 (58,.jn fun e h=>Nr Q (e 0) (e 1) (e 2) (e 3) (e 9) (e 29) h)]
theorem AAZ (x0 x1 x2 x3:Value)(h:H)(Q:Kt)(x:ACN x0 x1 x2 x3 h Q):Call TP 178 [x0,x1,x2,x3] h Q:=Bb (AGh Q) Tryz.func178 (by kernel_rfl) x
def KX (Q:Kt)(x0 x1:Value)(h:H):Prop:=
 AE x1 fun i0=>AC 4 i0 fun i1=>AB false 1 i1 h fun i2=>AD .eql i2 (.int .u64 0) fun i3=>Az i3 true (AE x1 fun i6=>AC 7 i6 fun i7=>AB false 1 i7 h fun i8=>AD .and i8 (.int .u64 524288) fun i9=>AD .eql i9 (.int .u64 0) fun j0=>AE x1 fun j3=>AC 0 j3 fun j4=>AB false 1 j4 h fun j5=>Call TP 65 [x0,j0,(.string ⟨#[100,101,118,105,99,101,32,119,105,116,104,32,99,111,110,116,101,110,116]⟩),j5] h fun j6 h=>Q (.tuple #[]) h) (AE x1 fun j3=>AC 0 j3 fun j4=>AB false 1 j4 h fun j5=>Call TP 65 [x0,(.bool false),(.string ⟨#[100,101,118,105,99,101,32,119,105,116,104,32,99,111,110,116,101,110,116]⟩),j5] h fun j6 h=>Q (.tuple #[]) h)
def EX (Q:Kt)(x0 x1 x3 x8 j7:Value)(h:H):Prop:=
 AK j7
 (AE x1 fun k2=>AC 4 k2 fun k3=>AB false 1 k3 h fun k4=>AD .eql k4 (.int .u64 0) fun k5=>Az k5 true (AE x1 fun k8=>AC 7 k8 fun k9=>AB false 1 k9 h fun m0=>AD .and m0 (.int .u64 524288) fun m1=>AD .eql m1 (.int .u64 0) fun m2=>AE x1 fun m5=>AC 0 m5 fun m6=>AB false 1 m6 h fun m7=>Call TP 65 [x0,m2,(.string ⟨#[102,105,102,111,32,111,114,32,115,111,99,107,101,116,32,119,105,116,104,32,99,111,110,116,101,110,116]⟩),m7] h fun m8 h=>Q (.tuple #[]) h) (AE x1 fun m5=>AC 0 m5 fun m6=>AB false 1 m6 h fun m7=>Call TP 65 [x0,(.bool false),(.string ⟨#[102,105,102,111,32,111,114,32,115,111,99,107,101,116,32,119,105,116,104,32,99,111,110,116,101,110,116]⟩),m7] h fun m8 h=>Q (.tuple #[]) h))
 (AE x1 fun n1=>AC 4 n1 fun n2=>AB false 1 n2 h fun n3=>AE x0 fun n5=>AC 3 n5 fun n6=>AB false 1 n6 h fun n7=>Ab n7 fun n8=>AV .u64 n8 fun n9=>AD .leq n3 n9 fun o0=>AE x1 fun o2=>AC 0 o2 fun o3=>AB false 1 o3 h fun o4=>Call TP 65 [x0,o0,(.string ⟨#[115,105,122,101,32,111,102,32,105,110,111,100,101]⟩),o4] h fun o5 h=>AE x1 fun o7=>AC 4 o7 fun o8=>AB false 1 o8 h fun o9=>AE x0 fun p1=>AC 3 p1 fun p2=>AB false 1 p2 h fun p3=>Ab p3 fun p4=>AV .u64 p4 fun p5=>AD .gtr o9 p5 fun p6=>AK p6
 (Q (.tuple #[]) h)
 (AE x1 fun t0=>AC 21 t0 fun t1=>AB false 1 t1 h fun t2=>AK t2
 (AH (.arr 1) 5 (AG TP 5) 1 0 [] h fun t4 h=>AM 5 (AG TP 5) 1 1 t4 x8 h fun t6 h=>AM 5 (AG TP 5) 1 1 t6 x3 h fun t8 h=>AE x1 fun t9=>AC 18 t9 fun v0=>AJ 1 v0 t8 h fun h=>AE x1 fun v3=>AC 4 v3 fun v4=>AB false 1 v4 h fun v5=>AE x1 fun v7=>AC 18 v7 fun v8=>AB false 1 v8 h fun v9=>Ab v9 fun w0=>AV .u64 w0 fun w1=>AD .leq v5 w1 fun w2=>AE x1 fun w4=>AC 0 w4 fun w5=>AB false 1 w5 h fun w6=>Call TP 65 [x0,w2,(.string ⟨#[105,110,108,105,110,101,32,115,105,122,101,32,111,102,32,105,110,111,100,101]⟩),w6] h fun w7 h=>AE x1 fun y0=>AC 18 y0 fun y1=>AB false 1 y1 h fun y2=>AE x1 fun y4=>AC 4 y4 fun y5=>AB false 1 y5 h fun y6=>AE x1 fun y8=>AC 18 y8 fun y9=>AB false 1 y9 h fun z0=>Ab z0 fun z1=>AV .u64 z1 fun z2=>NW y6 z2 fun z3=>AZ (.slice 1) y2 none (some z3) fun z4=>AE x1 fun z5=>AC 18 z5 fun z6=>AJ 1 z6 z4 h fun h=>Q (.tuple #[]) h)
 (AE x1 fun z9=>AC 7 z9 fun x190=>AB false 1 x190 h fun x191=>AD .and x191 (.int .u64 524288) fun x192=>AD .neq x192 (.int .u64 0) fun x193=>AK x193
 (AE x1 fun x196=>AC 4 x196 fun x197=>AB false 1 x197 h fun x198=>AY (AG TP 5) 1 1 5 x198 x198 h fun x199 h=>AE x1 fun x200=>AC 18 x200 fun x201=>AJ 1 x201 x199 h fun h=>AQ (AG TP 48) 48 h fun a1 h=>AJ 1 a1 (.int .u64 0) h fun h=>Call TP 208 [x0,x1,x8,(.int .i64 5),a1] h fun x205 h=>AB false 1 a1 h fun x207=>AE x1 fun x209=>AC 4 x209 fun x210=>AB false 1 x210 h fun x211=>AD .add x211 (.int .u64 4096) fun x212=>AD .sub x212 (.int .u64 1) fun x213=>AD .quo x213 (.int .u64 4096) fun x214=>AD .leq x207 x214 fun x215=>AE x1 fun x217=>AC 0 x217 fun x218=>AB false 1 x218 h fun x219=>Call TP 65 [x0,x215,(.string ⟨#[101,120,116,101,110,116,115,32,98,101,121,111,110,100,32,116,104,101,32,115,105,122,101,32,111,102,32,105,110,111,100,101]⟩),x219] h fun x220 h=>Q (.tuple #[]) h)
 (AE x1 fun x223=>AC 1 x223 fun x224=>AB false 1 x224 h fun x225=>Call TP 45 [x225] h fun x226 h=>AD .eql x226 (.int .u64 7) fun x227=>AK x227
 (AE x1 fun x230=>AC 4 x230 fun x231=>AB false 1 x231 h fun x232=>AD .lss x232 (.int .u64 60) fun x233=>AE x1 fun x235=>AC 0 x235 fun x236=>AB false 1 x236 h fun x237=>Call TP 65 [x0,x233,(.string ⟨#[115,104,111,114,116,32,108,105,110,107,32,111,102,32,105,110,111,100,101]⟩),x237] h fun x238 h=>AH (.arr 1) 5 (AG TP 5) 1 0 [] h fun x240 h=>AE x1 fun x243=>AC 4 x243 fun x244=>AB false 1 x244 h fun x245=>NW x245 (.int .u64 60) fun x246=>AZ (.slice 1) x8 none (some x246) fun x247=>AM 5 (AG TP 5) 1 1 x240 x247 h fun x248 h=>AE x1 fun x249=>AC 18 x249 fun x250=>AJ 1 x250 x248 h fun h=>Q (.tuple #[]) h)
 (AE x1 fun p9=>AC 4 p9 fun q0=>AB false 1 q0 h fun q1=>AD .eql q1 (.int .u64 0) fun q2=>AE x1 fun q4=>AC 0 q4 fun q5=>AB false 1 q5 h fun q6=>Call TP 65 [x0,q2,(.string ⟨#[99,111,110,116,101,110,116,32,119,105,116,104,111,117,116,32,101,120,116,101,110,116,115,32,111,102,32,105,110,111,100,101]⟩),q6] h fun q7 h=>Q (.tuple #[]) h)))))
def IU (Q:Kt)(x0 x1 x3 x8 a8 a9:Value)(h:H):Prop:=
 AK a9
 (Call TP 66 [x8,(.int .u64 0),(.int .u64 4)] h fun b3 h=>Call TP 66 [x8,(.int .u64 4),(.int .u64 4)] h fun b5 h=>AD .neq b3 (.int .u64 0) fun b7=>AK b7
 (AD .shr b3 (.int .u64 8) fun c1=>AD .and c1 (.int .u64 255) fun c2=>AV .u32 c2 fun c3=>AD .and b3 (.int .u64 255) fun c5=>AV .u32 c5 fun c6=>AE x1 fun c7=>AC 16 c7 fun c8=>AJ 1 c8 c3 h fun h=>AE x1 fun c9=>AC 17 c9 fun d0=>AJ 1 d0 c6 h fun h=>KX Q x0 x1 h)
 (AD .shr b5 (.int .u64 8) fun d4=>AD .and d4 (.int .u64 4095) fun d5=>AV .u32 d5 fun d6=>AD .and b5 (.int .u64 255) fun d8=>AD .shr b5 (.int .u64 12) fun g0=>AD .and g0 (.int .u64 1048320) fun g1=>AD .or d8 g1 fun g2=>AV .u32 g2 fun g3=>AE x1 fun g4=>AC 16 g4 fun g5=>AJ 1 g5 d6 h fun h=>AE x1 fun g6=>AC 17 g6 fun g7=>AJ 1 g7 g3 h fun h=>KX Q x0 x1 h))
 (AD .eql a8 (.int .u64 5) fun j8=>AK j8
 (EX Q x0 x1 x3 x8 (.bool true) h)
 (AD .eql a8 (.int .u64 6) fun j9=>EX Q x0 x1 x3 x8 j9 h))
def ADh (x0 x1 x2 x3:Value)(h:H)(Q:Kt):Prop:=
 AZ (.slice 1) x2 (some (.int .i64 40)) (some (.int .i64 100)) fun a3=>AE x1 fun a5=>AC 1 a5 fun a6=>AB false 1 a6 h fun a7=>Call TP 45 [a7] h fun a8 h=>AD .eql a8 (.int .u64 3) fun b0=>AK b0
 (IU Q x0 x1 x3 a3 a8 (.bool true) h)
 (AD .eql a8 (.int .u64 4) fun b1=>IU Q x0 x1 x3 a3 a8 b1 h)
def AGl (Q:Kt)(r:RS):Nat→DJ:=tab [(854,.jn fun e h=>KX Q (e 0) (e 1) h),
 (430,.jn fun e h=>EX Q (e 0) (e 1) (e 3) (e 8) (e 77) h),
 (106,.jn fun e h=>IU Q (e 0) (e 1) (e 3) (e 8) (e 18) (e 19) h)]
theorem Zx (x0 x1 x2 x3:Value)(h:H)(Q:Kt)(x:ADh x0 x1 x2 x3 h Q):Call TP 179 [x0,x1,x2,x3] h Q:=Bb (AGl Q) Tryz.func179 (by kernel_rfl) x
def HW (Q:Kt)(r1:R1)(x0 x1 x2 x6 x7 x8 d3:Value)(h:H):Prop:=
 AK d3
 (AE x1 fun d6=>AC 0 d6 fun d7=>AB false 1 d7 h fun d8=>Call TP 120 [x0,(.string ⟨#[101,110,116,114,121,32,111,102,32,100,105,114,101,99,116,111,114,121]⟩),d8] h fun d9 h=>Q (.tuple #[]) h)
 (Call TP 66 [x2,(.int .u64 0),(.int .u64 4)] h fun g1 h=>AD .neq g1 (.int .u64 0) fun g3=>AK g3
 (AD .gtr x7 (.int .u64 0) fun g6=>AE x1 fun g8=>AC 0 g8 fun g9=>AB false 1 g9 h fun i0=>Call TP 65 [x0,g6,(.string ⟨#[101,109,112,116,121,32,110,97,109,101,32,105,110,32,100,105,114,101,99,116,111,114,121]⟩),i0] h fun i1 h=>AE x1 fun i4=>AC 19 i4 fun i5=>AB false 1 i5 h fun i6=>AD .add (.int .u64 8) x7 fun i9=>AZ (.slice 1) x2 (some (.int .i64 8)) (some i9) fun j0=>HI j0 h fun j1=>Ae (.struct [(0,1),(1,1),(2,1)]) (AG TP 114) [(0,j1),(1,g1),(2,x8)] fun j4=>AH (.arr 3) 114 (AG TP 114) 3 1 [(0,j4)] h fun j5 h=>((AB false 1 i5 h fun v=>v=i6)∧AM 114 (AG TP 114) 3 32 i6 j5 h fun j6 h=>AE x1 fun j7=>AC 19 j7 fun j8=>AJ 1 j8 j6 h fun h=>AZ (.slice 1) x2 (some x6) none fun k1=>r1 k1 h))
 (AZ (.slice 1) x2 (some x6) none fun k1=>r1 k1 h))
def RO (Q:Kt)(r1:R1)(x0 x1 x2:Value)(h:H):Prop:=
 Ab x2 fun a1=>AD .gtr a1 (.int .i64 0) fun a2=>AK a2
 (Call TP 66 [x2,(.int .u64 4),(.int .u64 2)] h fun a4 h=>Call TP 66 [x2,(.int .u64 6),(.int .u64 1)] h fun a6 h=>Call TP 66 [x2,(.int .u64 7),(.int .u64 1)] h fun a8 h=>Ab x2 fun b0=>AD .lss b0 (.int .i64 8) fun b1=>Az b1 false (AD .lss a4 (.int .u64 8) fun b4=>Az b4 false (AD .rem a4 (.int .u64 4) fun b8=>AD .neq b8 (.int .u64 0) fun b9=>Az b9 false (Ab x2 fun c4=>AV .u64 c4 fun c5=>AD .gtr a4 c5 fun c6=>Az c6 false (AD .add (.int .u64 8) a6 fun d0=>AD .gtr d0 a4 fun d2=>HW Q r1 x0 x1 x2 a4 a6 a8 d2 h) (HW Q r1 x0 x1 x2 a4 a6 a8 (.bool true) h)) (HW Q r1 x0 x1 x2 a4 a6 a8 (.bool true) h)) (HW Q r1 x0 x1 x2 a4 a6 a8 (.bool true) h)) (HW Q r1 x0 x1 x2 a4 a6 a8 (.bool true) h))
 (Q (.tuple #[]) h)
def XL (Q:Kt)(x0 x1 x2:Value)(h:H):Prop:=A1 (fun r1 x2 h=>RO Q r1 x0 x1 x2 h) x2 h
def ABo (x0 x1 x2:Value)(h:H)(Q:Kt):Prop:=
 XL Q x0 x1 x2 h
def AEs (Q:Kt)(r:RS):Nat→DJ:=tab [(298,.jn fun e h=>HW Q (u1 (r 2)) (e 0) (e 1) (e 2) (e 6) (e 7) (e 8) (e 43) h),
 (5,.lp [0,1] [2] fun s e l h=>RO Q (u1 s) (e 0) (e 1) (gl l 0) h)]
theorem ZN (x0 x1 x2:Value)(h:H)(Q:Kt)(x:ABo x0 x1 x2 h Q):Call TP 180 [x0,x1,x2] h Q:=Bb (AEs Q) Tryz.func180 (by kernel_rfl) x
def AEU (x0:Value)(h:H)(Q:Kt):Prop:=
 AD .eql x0 (.int .u64 0) fun x6=>AK x6
 (Q (.tuple #[(.string ⟨#[]⟩),(.bool true)]) h)
 (AD .eql x0 (.int .u64 1) fun x8=>AK x8
 (Q (.tuple #[(.string ⟨#[117,115,101,114,46]⟩),(.bool true)]) h)
 (AD .eql x0 (.int .u64 2) fun a0=>AK a0
 (Q (.tuple #[(.string ⟨#[115,121,115,116,101,109,46,112,111,115,105,120,95,97,99,108,95,97,99,99,101,115,115]⟩),(.bool true)]) h)
 (AD .eql x0 (.int .u64 3) fun a2=>AK a2
 (Q (.tuple #[(.string ⟨#[115,121,115,116,101,109,46,112,111,115,105,120,95,97,99,108,95,100,101,102,97,117,108,116]⟩),(.bool true)]) h)
 (AD .eql x0 (.int .u64 4) fun a4=>AK a4
 (Q (.tuple #[(.string ⟨#[116,114,117,115,116,101,100,46]⟩),(.bool true)]) h)
 (AD .eql x0 (.int .u64 6) fun a6=>AK a6
 (Q (.tuple #[(.string ⟨#[115,101,99,117,114,105,116,121,46]⟩),(.bool true)]) h)
 (AD .eql x0 (.int .u64 7) fun a8=>AK a8
 (Q (.tuple #[(.string ⟨#[115,121,115,116,101,109,46]⟩),(.bool true)]) h)
 (AD .eql x0 (.int .u64 8) fun b0=>AK b0
 (Q (.tuple #[(.string ⟨#[115,121,115,116,101,109,46,114,105,99,104,97,99,108]⟩),(.bool true)]) h)
 (Q (.tuple #[(.string ⟨#[]⟩),(.bool false)]) h))))))))
theorem Y1 (x0:Value)(h:H)(Q:Kt)(x:AEU x0 h Q):Call TP 184 [x0] h Q:=Bb nT Tryz.func184 (by kernel_rfl) x
def Nw (Q:Kt)(x0 x1 x2 a1 a2 a3 a4:Value)(h:H):Prop:=
 AD .add a2 (.int .u64 4) fun x197=>Ab x2 fun x199=>AV .u64 x199 fun x200=>AD .leq x197 x200 fun x201=>Az x201 true (AD .add a4 a2 fun x205=>AD .add x205 (.int .u64 4) fun x206=>AD .leq x206 a3 fun x208=>AE x1 fun x211=>AC 0 x211 fun x212=>AB false 1 x212 h fun x213=>Call TP 65 [x0,x208,(.string ⟨#[97,116,116,114,105,98,117,116,101,115,32,111,118,101,114,32,116,104,101,105,114,32,118,97,108,117,101,115,32,105,110,32,105,110,111,100,101]⟩),x213] h fun x214 h=>Q a1 h) (AE x1 fun x211=>AC 0 x211 fun x212=>AB false 1 x212 h fun x213=>Call TP 65 [x0,(.bool false),(.string ⟨#[97,116,116,114,105,98,117,116,101,115,32,111,118,101,114,32,116,104,101,105,114,32,118,97,108,117,101,115,32,105,110,32,105,110,111,100,101]⟩),x213] h fun x214 h=>Q a1 h)
def Ew (Q:Kt)(r1:R3)(x0 x1 x2 x3 x4 a1 a2 a3 a4 a5 a9 b1 b2:Value)(h:H):Prop:=
 HI b1 h fun z2=>AD .add a9 z2 fun z3=>Ae (.struct [(0,1),(1,1)]) (AG TP 86) [(0,z3),(1,b2)] fun z5=>AH (.arr 2) 86 (AG TP 86) 2 1 [(0,z5)] h fun z6 h=>AM 86 (AG TP 86) 2 40 a1 z6 h fun z7 h=>AD .add (.int .u64 16) a5 fun x190=>AD .add x190 (.int .u64 3) fun x191=>AD .quo x191 (.int .u64 4) fun x192=>AD .mul x192 (.int .u64 4) fun x193=>AD .add a2 x193 fun x194=>r1 z7 x194 a3 h
def LM (Q:Kt)(r1:R3)(x0 x1 x2 x3 x4 a1 a2 a3 a4 a5 a7 a8 a9 b1 b2 b3 v2:Value)(h:H):Prop:=
 AK v2
 (AE x1 fun w1=>AC 0 w1 fun w2=>AB false 1 w2 h fun w3=>Call TP 212 [b1,b2] h fun v7 h=>((AB false 1 w2 h fun v=>v=w3)∧AV .u64 v7 fun v8=>AD .eql b3 v8 fun v9=>Call TP 65 [x0,v9,(.string ⟨#[104,97,115,104,32,111,102,32,97,110,32,97,116,116,114,105,98,117,116,101,32,111,102,32,105,110,111,100,101]⟩),w3] h fun w4 h=>AD .gtr a8 (.int .u64 0) fun w6=>AK w6
 (AD .rem a7 (.int .u64 4) fun w9=>AD .eql w9 (.int .u64 0) fun y0=>AE x1 fun y2=>AC 0 y2 fun y3=>AB false 1 y3 h fun y4=>Call TP 65 [x0,y0,(.string ⟨#[112,108,97,99,101,32,111,102,32,97,32,118,97,108,117,101,32,111,102,32,105,110,111,100,101]⟩),y4] h fun y5 h=>NW a3 a7 fun y8=>Ew Q r1 x0 x1 x2 x3 x4 a1 a2 y8 a4 a5 a9 b1 b2 h)
 (Ew Q r1 x0 x1 x2 x3 x4 a1 a2 a3 a4 a5 a9 b1 b2 h)))
 (AD .gtr a8 (.int .u64 0) fun w6=>AK w6
 (AD .rem a7 (.int .u64 4) fun w9=>AD .eql w9 (.int .u64 0) fun y0=>AE x1 fun y2=>AC 0 y2 fun y3=>AB false 1 y3 h fun y4=>Call TP 65 [x0,y0,(.string ⟨#[112,108,97,99,101,32,111,102,32,97,32,118,97,108,117,101,32,111,102,32,105,110,111,100,101]⟩),y4] h fun y5 h=>NW a3 a7 fun y8=>Ew Q r1 x0 x1 x2 x3 x4 a1 a2 y8 a4 a5 a9 b1 b2 h)
 (Ew Q r1 x0 x1 x2 x3 x4 a1 a2 a3 a4 a5 a9 b1 b2 h))
def LY (Q:Kt)(r1:R3)(x0 x1 x2 x3 x4 a1 a2 a3 a4 a5 a7 a8 a9 o9:Value)(h:H):Prop:=
 AK o9
 (AE x1 fun p2=>AC 0 p2 fun p3=>AB false 1 p3 h fun p4=>Call TP 120 [x0,(.string ⟨#[112,108,97,99,101,32,111,102,32,97,110,32,97,116,116,114,105,98,117,116,101,32,111,102,32,105,110,111,100,101]⟩),p4] h fun p5 h=>Q a1 h)
 (AD .add a2 (.int .u64 16) fun p9=>AD .add a2 (.int .u64 16) fun q1=>AD .add q1 a5 fun q3=>AZ (.slice 1) x2 (some p9) (some q3) fun q4=>AH (.arr 1) 5 (AG TP 5) 1 0 [] h fun q5 h=>AD .add a7 a8 fun t0=>AZ (.slice 1) x3 (some a7) (some t0) fun t1=>AM 5 (AG TP 5) 1 1 q5 t1 h fun t2 h=>AD .add a2 (.int .u64 12) fun t5=>Call TP 66 [x2,t5,(.int .u64 4)] h fun t6 h=>LH .not x4 fun t8=>Az t8 false (AD .neq t6 (.int .u64 0) fun v1=>LM Q r1 x0 x1 x2 x3 x4 a1 a2 a3 a4 a5 a7 a8 a9 q4 t2 t6 v1 h) (LM Q r1 x0 x1 x2 x3 x4 a1 a2 a3 a4 a5 a7 a8 a9 q4 t2 t6 (.bool true) h))
def P9 (Q:Kt)(r1:R3)(x0 x1 x2 x3 x4 a1 a2 a3 a4:Value)(h:H):Prop:=
 AD .add a2 (.int .u64 16) fun d6=>Ab x2 fun d8=>AV .u64 d8 fun d9=>AD .gtr d6 d9 fun g0=>AK g0
 (AE x1 fun g3=>AC 0 g3 fun g4=>AB false 1 g4 h fun g5=>Call TP 120 [x0,(.string ⟨#[97,116,116,114,105,98,117,116,101,115,32,116,104,97,116,32,100,111,32,110,111,116,32,101,110,100,32,105,110,32,105,110,111,100,101]⟩),g5] h fun g6 h=>Q a1 h)
 (Call TP 66 [x2,a2,(.int .u64 1)] h fun i0 h=>AD .add a2 (.int .u64 1) fun i3=>Call TP 66 [x2,i3,(.int .u64 1)] h fun i4 h=>AD .add a2 (.int .u64 2) fun i7=>Call TP 66 [x2,i7,(.int .u64 2)] h fun i8 h=>AD .add a2 (.int .u64 8) fun j1=>Call TP 66 [x2,j1,(.int .u64 4)] h fun j2 h=>AD .add a2 (.int .u64 4) fun j6=>AE x1 fun k0=>AC 0 k0 fun k1=>AB false 1 k1 h fun k2=>Call TP 66 [x2,j6,(.int .u64 4)] h fun j7 h=>((AB false 1 k1 h fun v=>v=k2)∧AD .eql j7 (.int .u64 0) fun j8=>Call TP 65 [x0,j8,(.string ⟨#[97,116,116,114,105,98,117,116,101,32,105,110,32,97,110,32,105,110,111,100,101,32,111,102,32,105,116,115,32,111,119,110,32,111,102,32,105,110,111,100,101]⟩),k2] h fun k3 h=>Call TP 184 [i4] h fun k6 h=>AO k6 0 fun k7=>AO k6 1 fun k8=>AE x1 fun m2=>AC 0 m2 fun m3=>AB false 1 m3 h fun m4=>Call TP 65 [x0,k8,(.string ⟨#[105,110,100,101,120,32,111,102,32,97,110,32,97,116,116,114,105,98,117,116,101,32,111,102,32,105,110,111,100,101]⟩),m4] h fun m5 h=>AD .add a2 (.int .u64 16) fun m7=>AD .add m7 i0 fun m9=>Ab x2 fun n1=>AV .u64 n1 fun n2=>AD .gtr m9 n2 fun n3=>Az n3 false (AD .add i8 j2 fun n7=>Ab x3 fun n9=>AV .u64 n9 fun o0=>AD .gtr n7 o0 fun o1=>Az o1 false (AD .add i8 j2 fun o6=>AD .lss o6 i8 fun o8=>LY Q r1 x0 x1 x2 x3 x4 a1 a2 a3 a4 i0 i8 j2 k7 o8 h) (LY Q r1 x0 x1 x2 x3 x4 a1 a2 a3 a4 i0 i8 j2 k7 (.bool true) h)) (LY Q r1 x0 x1 x2 x3 x4 a1 a2 a3 a4 i0 i8 j2 k7 (.bool true) h)))
def QA (Q:Kt)(r1:R3)(x0 x1 x2 x3 x4 a4 a1 a2 a3:Value)(h:H):Prop:=
 AD .add a2 (.int .u64 4) fun c4=>Ab x2 fun c6=>AV .u64 c6 fun c7=>AD .leq c4 c7 fun c8=>Az c8 true (Call TP 66 [x2,a2,(.int .u64 4)] h fun d2 h=>AD .neq d2 (.int .u64 0) fun d3=>AK d3
 (P9 Q r1 x0 x1 x2 x3 x4 a1 a2 a3 a4 h)
 (Nw Q x0 x1 x2 a1 a2 a3 a4 h)) (Nw Q x0 x1 x2 a1 a2 a3 a4 h)
def Qs (Q:Kt)(x0 x1 x2 x3 x4 a4 a1 a2 a3:Value)(h:H):Prop:=K9 (fun r1 a1 a2 a3 h=>QA Q r1 x0 x1 x2 x3 x4 a4 a1 a2 a3 h) a1 a2 a3 h
def ACc (x0 x1 x2 x3 x4:Value)(h:H)(Q:Kt):Prop:=
 Ab x3 fun b5=>AV .u64 b5 fun b6=>Ab x3 fun b8=>Ab x2 fun c0=>AD .sub b8 c0 fun c1=>AV .u64 c1 fun c2=>Qs Q x0 x1 x2 x3 x4 c2 (.slice none 0 0) (.int .u64 0) b6 h
def AFi (Q:Kt)(r:RS):Nat→DJ:=tab [(126,.jn fun e h=>Nw Q (e 0) (e 1) (e 2) (e 11) (e 12) (e 13) (e 14) h),
 (2037758,.jn fun e h=>Ew Q (u3 (r 124)) (e 0) (e 1) (e 2) (e 3) (e 4) (e 11) (e 12) (e 13) (e 14) (e 15) (e 19) (e 21) (e 22) h),
 (4075510,.jn fun e h=>LM Q (u3 (r 124)) (e 0) (e 1) (e 2) (e 3) (e 4) (e 11) (e 12) (e 13) (e 14) (e 15) (e 17) (e 18) (e 19) (e 21) (e 22) (e 23) (e 152) h),
 (254714,.jn fun e h=>LY Q (u3 (r 124)) (e 0) (e 1) (e 2) (e 3) (e 4) (e 11) (e 12) (e 13) (e 14) (e 15) (e 17) (e 18) (e 19) (e 119) h),
 (994,.jn fun e h=>P9 Q (u3 (r 124)) (e 0) (e 1) (e 2) (e 3) (e 4) (e 11) (e 12) (e 13) (e 14) h),
 (249,.lp [0,1,2,3,4,14] [11,12,13] fun s e l h=>QA Q (u3 s) (e 0) (e 1) (e 2) (e 3) (e 4) (e 14) (gl l 0) (gl l 1) (gl l 2) h)]
theorem AAV (x0 x1 x2 x3 x4:Value)(h:H)(Q:Kt)(x:ACc x0 x1 x2 x3 x4 h Q):Call TP 207 [x0,x1,x2,x3,x4] h Q:=Bb (AFi Q) Tryz.func207 (by kernel_rfl) x
def RR (Q:Kt)(r1:R1)(r2:R1)(x0 x1 x2 x4 a0 a2 a3 a5 a8 a9 b0:Value)(h:H):Prop:=
 AD .lss b0 a8 fun x196=>AK x196
 (AD .add a9 b0 fun x202=>Call TP 122 [x0,x202,(.string ⟨#[99,111,110,116,101,110,116]⟩)] h fun x203 h=>AE x1 fun x205=>AC 22 x205 fun x206=>AB false 1 x206 h fun x207=>AD .add x207 (.int .u64 1) fun x208=>AE x1 fun x209=>AC 22 x209 fun x210=>AJ 1 x210 x208 h fun h=>AD .add a5 b0 fun x213=>AD .mul x213 (.int .u64 4096) fun x214=>AE x1 fun x217=>AC 4 x217 fun x218=>AB false 1 x218 h fun x219=>AD .lss x214 x219 fun x220=>AK x220
 (AE x1 fun x222=>AC 18 x222 fun x223=>AB false 1 x223 h fun x224=>AZ (.slice 1) x224 (some x214) none fun x226=>AD .add a9 b0 fun x230=>Call TP 129 [x0,x230] h fun x231 h=>((AB false 1 x223 h fun v=>v=x224)∧DI 1 x226 x231 h fun x232 h=>AD .add b0 (.int .u64 1) fun x198=>r2 x198 h))
 (AD .add b0 (.int .u64 1) fun x198=>r2 x198 h))
 (AD .add a5 a8 fun x236=>AE x4 fun x237=>AJ 1 x237 x236 h fun h=>AD .add a3 (.int .u64 1) fun n4=>r1 n4 h)
def Rq (Q:Kt)(r1:R1)(x0 x1 x2 x4 a0 a2 a3 a5 a8 a9 b0:Value)(h:H):Prop:=A1 (fun r2 b0 h=>RR Q r1 r2 x0 x1 x2 x4 a0 a2 a3 a5 a8 a9 b0 h) b0 h
def Nm (Q:Kt)(r1:R1)(x0 x1 x2 x4 a0 a2 a3 a5 a8 a9:Value)(h:H):Prop:=
 AD .gtr a8 (.int .u64 32768) fun x193=>AK x193
 (Q (.tuple #[]) h)
 (Rq Q r1 x0 x1 x2 x4 a0 a2 a3 a5 a8 a9 (.int .u64 0) h)
def NL (Q:Kt)(r1:R1)(x0 x1 x2 x4 a0 a2 a3:Value)(h:H):Prop:=
 AD .lss a3 a0 fun n2=>AK n2
 (AD .mul (.int .u64 12) a3 fun n7=>AD .add (.int .u64 12) n7 fun n8=>AD .mul (.int .u64 12) a3 fun o0=>AD .add (.int .u64 24) o0 fun o1=>AZ (.slice 1) x2 (some n8) (some o1) fun o2=>Call TP 66 [o2,(.int .u64 0),(.int .u64 4)] h fun o4 h=>AE x4 fun o8=>AB false 1 o8 h fun o9=>AD .geq o4 o9 fun p0=>AE x1 fun p2=>AC 0 p2 fun p3=>AB false 1 p3 h fun p4=>Call TP 65 [x0,p0,(.string ⟨#[111,114,100,101,114,32,111,102,32,101,120,116,101,110,116,115,32,111,102,32,105,110,111,100,101]⟩),p4] h fun p5 h=>AD .gtr a2 (.int .i64 0) fun p7=>AK p7
 (Call TP 66 [o2,(.int .u64 4),(.int .u64 4)] h fun p9 h=>Call TP 66 [o2,(.int .u64 8),(.int .u64 2)] h fun q1 h=>AD .shl q1 (.int .u64 32) fun q2=>AD .or p9 q2 fun q3=>Call TP 122 [x0,q3,(.string ⟨#[101,120,116,101,110,116,115]⟩)] h fun q6 h=>AE x1 fun q8=>AC 22 q8 fun q9=>AB false 1 q9 h fun t0=>AD .add t0 (.int .u64 1) fun t1=>AE x1 fun t2=>AC 22 t2 fun t3=>AJ 1 t3 t1 h fun h=>AE x4 fun t6=>AB false 1 t6 h fun t7=>ACp t7 o4 fun t9=>AE x4 fun v0=>AJ 1 v0 t9 h fun h=>Call TP 129 [x0,q3] h fun v3 h=>AD .sub a2 (.int .i64 1) fun v9=>AE x1 fun w2=>AC 0 w2 fun w3=>AB false 1 w3 h fun w4=>Call TP 66 [v3,(.int .u64 6),(.int .u64 2)] h fun v6 h=>((AB false 1 w3 h fun v=>v=w4)∧AV .i64 v6 fun v7=>AD .eql v7 v9 fun w0=>Call TP 65 [x0,w0,(.string ⟨#[100,101,112,116,104,32,98,101,108,111,119,32,111,102,32,105,110,111,100,101]⟩),w4] h fun w5 h=>Call TP 208 [x0,x1,v3,a2,x4] h fun y1 h=>AD .add a3 (.int .u64 1) fun n4=>r1 n4 h))
 (Call TP 66 [o2,(.int .u64 4),(.int .u64 2)] h fun y3 h=>Call TP 66 [o2,(.int .u64 8),(.int .u64 4)] h fun y5 h=>Call TP 66 [o2,(.int .u64 6),(.int .u64 2)] h fun y7 h=>AD .shl y7 (.int .u64 32) fun y8=>AD .or y5 y8 fun y9=>AD .geq y3 (.int .u64 1) fun z2=>Az z2 true (AD .leq y3 (.int .u64 32768) fun z5=>AE x1 fun z8=>AC 0 z8 fun z9=>AB false 1 z9 h fun x190=>Call TP 65 [x0,z5,(.string ⟨#[108,101,110,103,116,104,32,111,102,32,101,120,116,101,110,116,32,111,102,32,105,110,111,100,101]⟩),x190] h fun x191 h=>Nm Q r1 x0 x1 x2 x4 a0 a2 a3 o4 y3 y9 h) (AE x1 fun z8=>AC 0 z8 fun z9=>AB false 1 z9 h fun x190=>Call TP 65 [x0,(.bool false),(.string ⟨#[108,101,110,103,116,104,32,111,102,32,101,120,116,101,110,116,32,111,102,32,105,110,111,100,101]⟩),x190] h fun x191 h=>Nm Q r1 x0 x1 x2 x4 a0 a2 a3 o4 y3 y9 h)))
 (Q (.tuple #[]) h)
def Vp (Q:Kt)(x0 x1 x2 x4 a0 a2 a3:Value)(h:H):Prop:=A1 (fun r1 a3 h=>NL Q r1 x0 x1 x2 x4 a0 a2 a3 h) a3 h
def Mv (Q:Kt)(x0 x1 x2 x4 a0 a2:Value)(h:H):Prop:=
 Vp Q x0 x1 x2 x4 a0 a2 (.int .u64 0) h
def K8 (Q:Kt)(x0 x1 x2 x3 x4 a0 a2:Value)(h:H):Prop:=
 Call TP 66 [x2,(.int .u64 0),(.int .u64 2)] h fun j5 h=>AD .neq j5 (.int .u64 62218) fun j6=>Az j6 false (AD .mul (.int .u64 12) a0 fun j9=>AD .add (.int .u64 12) j9 fun k0=>Ab x2 fun k2=>AV .u64 k2 fun k3=>AD .gtr k0 k3 fun k4=>Az k4 false (AD .gtr a2 (.int .i64 5) fun k8=>Az k8 false (AD .neq x3 (.int .i64 5) fun m2=>Az m2 true (AD .sub x3 (.int .i64 1) fun m6=>AD .neq a2 m6 fun m7=>AK m7
 (Q (.tuple #[]) h)
 (Mv Q x0 x1 x2 x4 a0 a2 h)) (Mv Q x0 x1 x2 x4 a0 a2 h)) (Q (.tuple #[]) h)) (Q (.tuple #[]) h)) (Q (.tuple #[]) h)
def NC (Q:Kt)(x0 x1 x2 x3 x4 a0 a2:Value)(h:H):Prop:=
 AD .leq a2 (.int .i64 5) fun g8=>Az g8 true (AD .eql x3 (.int .i64 5) fun i1=>Az i1 false (AD .sub x3 (.int .i64 1) fun i5=>AD .eql a2 i5 fun i6=>AE x1 fun j0=>AC 0 j0 fun j1=>AB false 1 j1 h fun j2=>Call TP 65 [x0,i6,(.string ⟨#[100,101,112,116,104,32,111,102,32,101,120,116,101,110,116,115,32,111,102,32,105,110,111,100,101]⟩),j2] h fun j3 h=>K8 Q x0 x1 x2 x3 x4 a0 a2 h) (AE x1 fun j0=>AC 0 j0 fun j1=>AB false 1 j1 h fun j2=>Call TP 65 [x0,(.bool true),(.string ⟨#[100,101,112,116,104,32,111,102,32,101,120,116,101,110,116,115,32,111,102,32,105,110,111,100,101]⟩),j2] h fun j3 h=>K8 Q x0 x1 x2 x3 x4 a0 a2 h)) (AE x1 fun j0=>AC 0 j0 fun j1=>AB false 1 j1 h fun j2=>Call TP 65 [x0,(.bool false),(.string ⟨#[100,101,112,116,104,32,111,102,32,101,120,116,101,110,116,115,32,111,102,32,105,110,111,100,101]⟩),j2] h fun j3 h=>K8 Q x0 x1 x2 x3 x4 a0 a2 h)
def ABj (x0 x1 x2 x3 x4:Value)(h:H)(Q:Kt):Prop:=
 Call TP 66 [x2,(.int .u64 2),(.int .u64 2)] h fun b3 h=>Call TP 66 [x2,(.int .u64 4),(.int .u64 2)] h fun b5 h=>Call TP 66 [x2,(.int .u64 6),(.int .u64 2)] h fun b7 h=>AV .i64 b7 fun b8=>AE x1 fun c4=>AC 0 c4 fun c5=>AB false 1 c5 h fun c6=>Call TP 66 [x2,(.int .u64 0),(.int .u64 2)] h fun c1 h=>((AB false 1 c5 h fun v=>v=c6)∧AD .eql c1 (.int .u64 62218) fun c2=>Call TP 65 [x0,c2,(.string ⟨#[109,97,103,105,99,32,111,102,32,101,120,116,101,110,116,115,32,111,102,32,105,110,111,100,101]⟩),c6] h fun c7 h=>AD .leq b3 b5 fun d1=>Az d1 true (AD .mul (.int .u64 12) b5 fun d4=>AD .add (.int .u64 12) d4 fun d5=>Ab x2 fun d7=>AV .u64 d7 fun d8=>AD .leq d5 d8 fun d9=>AE x1 fun g2=>AC 0 g2 fun g3=>AB false 1 g3 h fun g4=>Call TP 65 [x0,d9,(.string ⟨#[101,110,116,114,105,101,115,32,111,102,32,101,120,116,101,110,116,115,32,111,102,32,105,110,111,100,101]⟩),g4] h fun g5 h=>NC Q x0 x1 x2 x3 x4 b3 b8 h) (AE x1 fun g2=>AC 0 g2 fun g3=>AB false 1 g3 h fun g4=>Call TP 65 [x0,(.bool false),(.string ⟨#[101,110,116,114,105,101,115,32,111,102,32,101,120,116,101,110,116,115,32,111,102,32,105,110,111,100,101]⟩),g4] h fun g5 h=>NC Q x0 x1 x2 x3 x4 b3 b8 h))
def AGZ (Q:Kt)(r:RS):Nat→DJ:=tab [(8333301,.lp [0,1,2,4,10,12,13,15,18,19] [20] fun s e l h=>RR Q (u1 (r 254)) (u1 s) (e 0) (e 1) (e 2) (e 4) (e 10) (e 12) (e 13) (e 15) (e 18) (e 19) (gl l 0) h),
 (520830,.jn fun e h=>Nm Q (u1 (r 254)) (e 0) (e 1) (e 2) (e 4) (e 10) (e 12) (e 13) (e 15) (e 18) (e 19) h),
 (509,.lp [0,1,2,4,10,12] [13] fun s e l h=>NL Q (u1 s) (e 0) (e 1) (e 2) (e 4) (e 10) (e 12) (gl l 0) h),
 (126,.jn fun e h=>Mv Q (e 0) (e 1) (e 2) (e 4) (e 10) (e 12) h),
 (62,.jn fun e h=>K8 Q (e 0) (e 1) (e 2) (e 3) (e 4) (e 10) (e 12) h),
 (30,.jn fun e h=>NC Q (e 0) (e 1) (e 2) (e 3) (e 4) (e 10) (e 12) h)]
theorem Zi (x0 x1 x2 x3 x4:Value)(h:H)(Q:Kt)(x:ABj x0 x1 x2 x3 x4 h Q):Call TP 208 [x0,x1,x2,x3,x4] h Q:=Bb (AGZ Q) Tryz.func208 (by kernel_rfl) x
def QM (Q:Kt)(r1:R2)(x1 x5 x8:Value)(h:H):Prop:=
 Ab x1 fun b6=>AD .lss x8 b6 fun b7=>AK b7
 (AD .shl x5 (.int .u64 16) fun c1=>AD .shr x5 (.int .u64 16) fun c3=>AD .xor c1 c3 fun c4=>AV .u64 x8 fun c7=>Call TP 66 [x1,c7,(.int .u64 4)] h fun c8 h=>AV .u32 c8 fun c9=>AD .xor c4 c9 fun d0=>AD .add x8 (.int .i64 4) fun b9=>r1 d0 b9 h)
 (Q x5 h)
def QS (Q:Kt)(x1 x5 x8:Value)(h:H):Prop:=Bx (fun r1 x5 x8 h=>QM Q r1 x1 x5 x8 h) x5 x8 h
def Q5 (Q:Kt)(r2:R2)(x1 x9 a0 x5 a1:Value)(h:H):Prop:=
 AD .lss a1 a0 fun a2=>AK a2
 (AI (.slice 1) x9 a1 fun a3=>AB false 1 a3 h fun a4=>AD .shl x5 (.int .u64 5) fun a6=>AD .shr x5 (.int .u64 27) fun a8=>AD .xor a6 a8 fun a9=>AV .u32 a4 fun b1=>AD .xor a9 b1 fun b2=>AD .add a1 (.int .i64 1) fun b3=>r2 b2 b3 h)
 (QS Q x1 x5 (.int .i64 0) h)
def Xd (Q:Kt)(x1 x9 a0 x5 a1:Value)(h:H):Prop:=Bx (fun r2 x5 a1 h=>Q5 Q r2 x1 x9 a0 x5 a1 h) x5 a1 h
def AB8 (x0 x1:Value)(h:H)(Q:Kt):Prop:=
 Ab x0 fun a0=>Xd Q x1 x0 a0 (.int .u32 0) (.int .i64 0) h
def AE3 (Q:Kt)(r:RS):Nat→DJ:=tab [(245,.lp [1] [5,8] fun s e l h=>QM Q (u2 s) (e 1) (gl l 0) (gl l 1) h),
 (117,.lp [1,9,10] [5,11] fun s e l h=>Q5 Q (u2 s) (e 1) (e 9) (e 10) (gl l 0) (gl l 1) h)]
theorem AAc (x0 x1:Value)(h:H)(Q:Kt)(x:AB8 x0 x1 h Q):Call TP 212 [x0,x1] h Q:=Bb (AE3 Q) Tryz.func212 (by kernel_rfl) x
end
end Go.Proofs.YtollddkkdgoonaaGreatDoor
