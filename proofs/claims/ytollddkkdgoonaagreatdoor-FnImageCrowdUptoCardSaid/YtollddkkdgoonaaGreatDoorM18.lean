/- A part of a proof over images that are written and read. No condition; a step. -/
import Derived.Test.YtollddkkdgoonaaGreatDoorM17
namespace Go.Proofs.YtollddkkdgoonaaGreatDoor
open Go
set_option linter.unusedVariables false
set_option linter.unusedSimpArgs false
section
variable {h:H} {k:Value→Prop} {kt Q:Kt} {x y z r:Res} {v:VS}
theorem XN.times {X:XN}{cv ev xv:Value}:(⟨X.cells cv ev xv⟩:Array Value).extract 8 (8+2)=⟨BY X.at_⟩∧(⟨X.cells cv ev xv⟩:Array Value).extract 10 (10+2)=⟨BY X.ct⟩∧(⟨X.cells cv ev xv⟩:Array Value).extract 12 (12+2)=⟨BY X.mt⟩∧(⟨X.cells cv ev xv⟩:Array Value).extract 14 (14+2)=⟨BY X.cr⟩:=⟨rfl,rfl,rfl,rfl⟩
attribute [local irreducible] AK Az AQ BB Ae AY AH AM VS.cells XN.cells
theorem QK {kt:Kt}{p0 p1 p2 p3:Nat×Nat}(w:AN x h)(K:∀ b h,AN (pts b (.cells ⟨BY p0++(BY p1++(BY p2++BY p3))⟩ 60 (0,0))+x) h→kt (.slice (some ⟨b,0,none⟩) 4 4) h) :
  AH (.arr 2) 60 (AG TP 60) 2 4 [(0,.agg ⟨BY p0⟩),(1,.agg ⟨BY p1⟩),(2,.agg ⟨BY p2⟩),(3,.agg ⟨BY p3⟩)] h kt:=by
 unfold AH
 refine⟨_,⟨BY p0++(BY p1++(BY p2++BY p3))⟩,Jo,by omega,?_,fun b h' ex hb' ho'=>K b h' (w.new ex hb' ho')⟩
 rw[A05 (by omega)]
 have hm:Ax (Value.agg ⟨[.int .i64 0,.int .i64 0]⟩).cells (4*2)=⟨List.replicate 8 (.int .i64 0)⟩:=by kernel_rfl
 rw[hm]
 refine Es _ _ _ ?_
 rfl
theorem AtV.addL {cs:List Value}{l:List (Bs×Bs)}(a:AtV x cs l):AtV (x+y) cs l:=by rw[Res.comm];exact a.mono
section
variable {X X':XN} {bv:Value} {b C o':Bs} {cl:List Nat} {l:List (Bs×Bs)} {x4 x5 x6 x8 n tb:Nat}
def inoX1 (b:Bs)(n:Nat):XN:={Iy b n with inl:=decide (leL b 32 4 &&& 268435456≠0)}
structure InoOK (I:Bs) (nb:Nat) (b:Bs) (n:Nat) (X':XN) (C:Bs) (l:List (Bs×Bs)) (cl:List Nat):Prop where
 len:b.length=256
 ex:leL b 128 2=24
 kind:kindL (leL b 0 2)≠0
 del:leL b 20 4=0
 ns:leL b 140 4<4000000000∧leL b 132 4<4000000000∧leL b 136 4<4000000000∧leL b 148 4<4000000000
 xa:XaR b l
 nd:NoDup2 l
 ll:l.length<1000000
 inl:(∃ p∈l,p.1=sysd)→(inoX1 b n).inl=true
 rl:(restOf l).length<100000
 con:ContR I nb (inoX1 b n) ((b.drop 40).take 60) (restOf l) C X' cl
 sec:secOK X'
 blk:X'.blk<1000000
set_option maxRecDepth 20000 in
theorem AFF (ok:v.OK x)(db:RdX x bv b)(io:InoOK v.I v.nb b n X' C l cl)(c:Clm cl v.ow o')
  (w:AN (v.res+(pts x8 (.cells ⟨(Iy b n).cells (.slice none 0 0) (.slice none 0 0) (.slice none 0 0)⟩ 81 (0,0))+(fR x4 x5 x6 bv+(y+x)))) h)
  (K:∀ cv xv cs z h,RdX z cv C→VecX 86 2 xv (xaOf l).length cs z→AtV z cs (xaOf l)→(v.own o').OK x→AN ((v.own o').res+(z+x)) h→Q (.agg ⟨X'.cells cv (.slice none 0 0) xv⟩) h) :
  AC 7 (Pt x8) fun x130=>AB false 1 x130 h fun x131=>AD .and x131 (.int .u64 268435456) fun x132=>AD .neq x132 (.int .u64 0) fun x133=>AC 21 (Pt x8) fun x134=>AJ 1 x134 x133 h fun h=>AB false 1 (Pt x5) h fun x136=>AB false 1 (Pt x6) h fun x137=>Call TP 178 [Pt v.vb,Pt x8,x136,x137] h fun x138 h=>Ab x138 fun x140=>KV Q (Pt v.vb) (.int .u64 (n:Nat)) (Pt x4) (Pt x5) (Pt x8) x138 x140 (.slice none 0 0) (.int .i64 0) h:=by
 have l32:leL b 32 4<4294967296:=Ag
 have lmo:leL b 0 2<65536:=Ag
 have l28:leL b 28 4<4294967296:=Ag
 have l116:leL b 116 2<65536:=Ag
 have hfl:(Iy b n).flags=leL b 32 4:=rfl
 simp (disch:=omega) only[go_sem,AF w]
 refine AL w ⟨(inoX1 b n).cells (.slice none 0 0) (.slice none 0 0) (.slice none 0 0)⟩ ?_ rfl (by rw[XN.size_];omega) rfl fun h w=>?_
 ·have e:decide (((leL b 32 4 &&& 268435456:Nat):Int)≠0)=decide (leL b 32 4 &&& 268435456≠0):=decide_eq_decide.2 (by omega)
  rw[hfl,e]
  exact XN.set21
 refine AW w (by rfl) ?_
 refine AW w (by rfl) ?_
 have hnum:(⟨(inoX1 b n).cells (.slice none 0 0) (.slice none 0 0) (.slice none 0 0)⟩:Array Value)[0]? = some (.int .u64 (n:Nat)):=XN.g0
 refine AAZ _ _ _ _ _ _ (AIN ok.mono.mono db.addR.addR io.xa io.nd io.ll w hnum fun lv cs y' h d A w=>?_)
 obtain⟨⟨la,lc,hlv⟩,_⟩:=d.len
 rw[hlv,Aw,←hlv]
 have k1:∀ V P F Y' Y X:Res,V+(P+(Y'+(F+(Y+X))))=V+(P+(F+((Y'+Y)+X))):=by intros;ac_rfl
 refine ADy d.addL A.addL io.ll io.inl (w.cast (k1 _ _ _ _ _ _)) fun rec1 rv xv cs r z h dr dx A w=>?_
 obtain⟨⟨xa,xc,hxv⟩,_⟩:=dx.len
 have cf:=Fj io.con
 refine AE8 ok db io.len dr.addR.addL io.rl io.con c lmo l32 io.sec io.blk (by rw[cf.2.1];show leL b 28 4+leL b 116 2*4294967296<18446744073709551616;omega) ⟨_,_,_,hxv⟩ w fun cv z' h dcv ok' w=>?_
 have k2:∀ V A B X:Res,V+(A+(B+X))=V+((A+B)+X):=by intros;ac_rfl
 exact K cv xv cs _ h dcv.addL dx.vx.addL.addR A.mono.mono.mono ok' (w.cast (k2 _ _ _ _))
theorem AGI {X:XN}(hns:X.at_.2<4000000000∧X.ct.2<4000000000∧X.mt.2<4000000000∧X.cr.2<4000000000)(i:Nat)(hi:i<4):∃ a c:Int,((BY X.at_++(BY X.ct++(BY X.mt++BY X.cr))).drop (i*2)).take 2=[.int .i64 a,.int .i64 c]∧c<1000000000:=by
 have:i=0∨i=1∨i=2∨i=3:=by omega
 rcases this with rfl|rfl|rfl|rfl<;>refine⟨_,_,rfl,?_⟩<;>omega
set_option maxRecDepth 20000 in
theorem AB5 {X:XN}(ok:v.OK x)(hns:X.at_.2<4000000000∧X.ct.2<4000000000∧X.mt.2<4000000000∧X.cr.2<4000000000)
  (w:AN (v.res+(pts x8 (.cells ⟨X.cells (.slice none 0 0) (.slice none 0 0) (.slice none 0 0)⟩ 81 (0,0))+(fR x4 x5 x6 bv+((pts tb (.cells ⟨BY X.at_++(BY X.ct++(BY X.mt++BY X.cr))⟩ 60 (0,0))+y)+x)))) h)
  (K:∀ y h,AN (v.res+(pts x8 (.cells ⟨X.cells (.slice none 0 0) (.slice none 0 0) (.slice none 0 0)⟩ 81 (0,0))+(fR x4 x5 x6 bv+(y+x)))) h →
   AC 7 (Pt x8) fun x130=>AB false 1 x130 h fun x131=>AD .and x131 (.int .u64 268435456) fun x132=>AD .neq x132 (.int .u64 0) fun x133=>AC 21 (Pt x8) fun x134=>AJ 1 x134 x133 h fun h=>AB false 1 (Pt x5) h fun x136=>AB false 1 (Pt x6) h fun x137=>Call TP 178 [Pt v.vb,Pt x8,x136,x137] h fun x138 h=>Ab x138 fun x140=>KV Q (Pt v.vb) (.int .u64 (n:Nat)) (Pt x4) (Pt x5) (Pt x8) x138 x140 (.slice none 0 0) (.int .i64 0) h) :
  RE Q (Pt v.vb) (.int .u64 (n:Nat)) (Pt x4) (Pt x5) (Pt x6) (Pt x8) (.slice (some ⟨tb,0,none⟩) 4 4) (.int .i64 ((4:Nat):Int)) (.int .i64 ((0:Nat):Int)) h:=by
 unfold RE
 refine Ba (fun m u h'=>∃ i y,m=4-i∧i≤4∧u=.int .i64 (i:Nat)∧AN (v.res+(pts x8 (.cells ⟨X.cells (.slice none 0 0) (.slice none 0 0) (.slice none 0 0)⟩ 81 (0,0))+(fR x4 x5 x6 bv+((pts tb (.cells ⟨BY X.at_++(BY X.ct++(BY X.mt++BY X.cr))⟩ 60 (0,0))+y)+x)))) h') 4 ⟨0,y,rfl,by omega,rfl,w⟩ ?_
 rintro rec m u h' ⟨i,y,rfl,hi,rfl,w⟩ hrec
 unfold P0
 rw[AT]
 refine AX (fun hc=>?_) (fun hc=>K _ h' w)
 have hi4:i<4:=by omega
 obtain⟨a,c,hac,hcl⟩:=AGI hns i hi4
 have d:Vec 60 2 (.slice (some ⟨tb,0,none⟩) 4 4) 4 (BY X.at_++(BY X.ct++(BY X.mt++BY X.cr))) (pts tb (.cells ⟨BY X.at_++(BY X.ct++(BY X.mt++BY X.cr))⟩ 60 (0,0))):=.own' (A07 _) rfl rfl
 refine (d.vx.addL.addL.addR.addR.addR:VecX 60 2 _ 4 _ _).agg w hi4 ?_
 rw[hac]
 refine Ah w Jo rfl fun tb2 h w=>?_
 refine AL w ⟨[.int .i64 a,.int .i64 c]⟩ rfl rfl (by simp) rfl fun h w=>?_
 have g1:(⟨[.int .i64 a,.int .i64 c]⟩:Array Value)[1]? = some (.int .i64 c):=rfl
 have e1:decide (c<1000000000)=true:=A04 hcl
 have f1:(AD .add (.int .i64 (i:Nat)) (.int .i64 1))=fun k=>k (.int .i64 (i+1:Nat)):=funext fun k=>by
  rw[BN (n:=1),Ci (by omega)]
 simp (disch:=omega) only[go_sem,AF w,g1,f1]
 rw[e1]
 refine Al _ _ _ _ _ _ (Da ?_)
 have k1:∀ B V P F T Y X:Res,B+(V+(P+(F+((T+Y)+X))))=V+(P+(F+((T+(B+Y))+X))):=by intros;ac_rfl
 exact hrec (4-(i+1)) _ _ ⟨i+1,_,rfl,by omega,rfl,w.cast (k1 _ _ _ _ _ _ _)⟩ (by omega)
set_option maxRecDepth 20000 in
theorem ADw (ok:v.OK x)(db:RdX x bv b)(io:InoOK v.I v.nb b n X' C l cl)(c:Clm cl v.ow o')
  (w:AN (v.res+(pts x8 (.cells ⟨(Iy b n).cells (.slice none 0 0) (.slice none 0 0) (.slice none 0 0)⟩ 81 (0,0))+(fR x4 x5 x6 bv+(y+x)))) h)
  (K:∀ cv xv cs z h,RdX z cv C→VecX 86 2 xv (xaOf l).length cs z→AtV z cs (xaOf l)→(v.own o').OK x→AN ((v.own o').res+(z+x)) h→Q (.agg ⟨X'.cells cv (.slice none 0 0) xv⟩) h) :
  Gj Q (Pt v.vb) (.int .u64 (n:Nat)) (Pt x4) (Pt x5) (Pt x6) (Pt x8) h:=by
 have lmo:leL b 0 2<65536:=Ag
 have hlen:=io.len
 have hmode:(Iy b n).mode=leL b 0 2:=rfl
 have hk:kindL (leL b 0 2)≠0:=io.kind
 unfold Gj
 have ff:∀ (o:Nat) (k:Value→Prop),AC o (Pt x8) k=k (.pointer (some ⟨x8,o,none⟩)):=fun o k=>by simp only[go_sem]
 rw[ff]
 refine AW w XN.g1 ?_
 refine E9 _ _ _ (YT lmo ?_)
 have e1:decide ((kindL (leL b 0 2):Int)≠0)=true:=A04 (by omega)
 rw[A3,hmode,e1]
 refine Al _ _ _ _ _ _ (Da ?_)
 refine AW w (by rfl) ?_
 refine DF (p:=20) (n:=4) db.addR.addR.addR.addR w (by decide) (by decide) (by omega) ?_
 rw[io.del,Aa,show decide (((0:Nat):Int)=0)=true from rfl]
 refine Al _ _ _ _ _ _ (Da ?_)
 have hx8:=w.find (b:=x8)
 have ht:=XN.times (X:=Iy b n) (cv:=.slice none 0 0) (ev:=.slice none 0 0) (xv:=.slice none 0 0)
 have hsz:∀ o,o≤21→o+2≤(⟨(Iy b n).cells (.slice none 0 0) (.slice none 0 0) (.slice none 0 0)⟩:Array Value).size:=fun o ho=>by rw[XN.size_];omega
 rw[ff,Am hx8 (hsz 8 (by omega)),ht.1,ff,Am hx8 (hsz 10 (by omega)),ht.2.1,ff,Am hx8 (hsz 12 (by omega)),ht.2.2.1,ff,Am hx8 (hsz 14 (by omega)),ht.2.2.2]
 refine QK w fun tb h w=>?_
 rw[Aw]
 have k1:∀ T V P F Y X:Res,T+(V+(P+(F+(Y+X))))=V+(P+(F+((T+Y)+X))):=by intros;ac_rfl
 exact AB5 ok ⟨io.ns.1,io.ns.2.1,io.ns.2.2.1,io.ns.2.2.2⟩ (w.cast (k1 _ _ _ _ _ _)) fun y h w=>AFF ok db io c w K
theorem Zv:AG TP 30=some (.slice none 0 0):=by kernel_rfl
set_option maxRecDepth 20000 in
theorem AEn (ok:v.OK x)(h1:1≤n)(h2:n≤v.ipg)(hit:itL v.I*4096+v.ipg*256≤v.I.length)(io:InoOK v.I v.nb (rawL v.I n) n X' C l cl)(c:Clm cl v.ow o')(w:AN (v.res+(y+x)) h)
  (K:∀ cv xv cs z h,RdX z cv C→VecX 86 2 xv (xaOf l).length cs z→AtV z cs (xaOf l)→(v.own o').OK x→AN ((v.own o').res+(z+(y+x))) h→Q (.agg ⟨X'.cells cv (.slice none 0 0) xv⟩) h) :
  AES (Pt v.vb) (.int .u64 (n:Nat)) h Q:=by
 unfold AES
 refine Ah w Cy rfl fun x4 h w=>?_
 have k0:∀ P V Y:Res,P+(V+Y)=V+(P+Y):=by intros;ac_rfl
 have w:AN (v.res+(pts x4 (.cells ⟨If.cells (.slice none 0 0) (.slice none 0 0) (.slice none 0 0)⟩ 81 (0,0))+(y+x))) h:=AN.cast w (k0 _ _ _)
 refine Jj _ _ _ _ (AAg (ok.mono (y:=y)) h1 h2 hit w fun bv db=>?_)
 obtain⟨ba,bc',hbv⟩:=db.len
 have hlen:=io.len
 refine Ah w Zv rfl fun x5 h w=>?_
 refine AL w ⟨[bv]⟩ (by rw[hbv];rfl) (by rw[hbv];rfl) (by simp) (by rw[hbv];rfl) fun h w=>?_
 refine Ah w Cb rfl fun x6 h w=>?_
 refine AL w ⟨[.int .u64 0]⟩ rfl rfl (by simp) rfl fun h w=>?_
 have e0:decide ((256:Int)>128)=true:=rfl
 simp (disch:=omega) only[go_sem,AF w,e0]
 refine DF (p:=128) (n:=2) db.addR.addR.addR.addR w (by decide) (by decide) (by omega) ?_
 rw[io.ex]
 refine AL w ⟨[.int .u64 ((24:Nat):Int)]⟩ rfl rfl (by simp) rfl fun h w=>?_
 refine AW (u:=.int .u64 ((24:Nat):Int)) w (by rfl) ?_
 have f1:(AD .add (.int .u64 128) (.int .u64 ((24:Nat):Int)))=fun k=>k (.int .u64 ((152:Nat):Int)):=funext fun k=>by rw[A0];rfl
 have f2:(AD .leq (.int .u64 ((152:Nat):Int)) (.int .u64 256))=fun k=>k (.bool true):=funext fun k=>by rw[BW];rfl
 have f3:(AD .rem (.int .u64 ((24:Nat):Int)) (.int .u64 4))=fun k=>k (.int .u64 ((0:Nat):Int)):=funext fun k=>by rw[LI (by decide)]
 have f4:(AD .eql (.int .u64 ((0:Nat):Int)) (.int .u64 0))=fun k=>k (.bool true):=funext fun k=>by rw[Aa];rfl
 simp only[f1]
 refine AW w VS.g7 ?_
 simp only[f2,Cq]
 refine AW (u:=.int .u64 ((24:Nat):Int)) w (by rfl) ?_
 simp only[f3,f4]
 refine Al _ _ _ _ _ _ (Da ?_)
 have k1:∀ P6 P5 V P4 X:Res,P6+(P5+(V+(P4+X)))=(P6+(P5+(P4+V)))+(0+X):=by intros;rw[Res.zero_add];ac_rfl
 refine AEO db (by omega) (fun x8 y' h w=>?_) (w.cast (k1 _ _ _ _ _))
 have k2:∀ P8 P6 P5 P4 V Y X:Res,(P8+(P6+(P5+(P4+V))))+(Y+X)=V+(P8+((P6+(P5+P4))+(Y+X))):=by intros;ac_rfl
 exact ADw (ok.mono (y:=y)) db io c (w.cast (k2 _ _ _ _ _ _ _)) fun cv xv cs z h dc dx A _ w=>K cv xv cs z h dc dx A (ok.own c.len) w
end
end
section
variable {h:H} {k:Value→Prop} {kt Q:Kt} {x y z r:Res} {v:VS}
attribute [local irreducible] AK Az AQ BB Ae AY AH AM VS.cells XN.cells
abbrev EN:=Bs×Nat×Nat
def EN.cells (e:EN):List Value:=[str e.1,.int .u64 (e.2.1:Nat),.int .u64 (e.2.2:Nat)]
def entC (l:List EN):List Value:=l.flatMap EN.cells
theorem Fr:AG TP 114=some (.agg ⟨[str [],.int .u64 0,.int .u64 0]⟩):=by kernel_rfl
inductive EntR:Bs→List EN→Prop
 | nil:EntR [] []
 | skip {b:Bs} {l:List EN}:8≤b.length→8≤leL b 4 2→leL b 4 2%4=0→leL b 4 2≤b.length→8+leL b 6 1≤leL b 4 2→leL b 0 4=0→EntR (b.drop (leL b 4 2)) l→EntR b l
 | step {b:Bs} {l:List EN}:8≤b.length→8≤leL b 4 2→leL b 4 2%4=0→leL b 4 2≤b.length→8+leL b 6 1≤leL b 4 2→leL b 0 4≠0→0<leL b 6 1→EntR (b.drop (leL b 4 2)) l→EntR b (((b.drop 8).take (leL b 6 1),leL b 0 4,leL b 7 1)::l)
theorem EntR.len:∀ {b:Bs} {l:List EN},EntR b l→l.length≤b.length
 | _,_,.nil=>A07 _
 | _,_,.skip _ _ _ _ _ _ e=>by
  have:=e.len
  rw[A27] at this
  omega
 | _,_,.step _ _ _ _ _ _ _ e=>by
  have:=e.len
  rw[A27] at this
  rw[A19]
  omega
theorem EntR.inv:∀ {b:Bs} {l:List EN},EntR b l→b≠[]→8≤b.length∧8≤leL b 4 2∧leL b 4 2%4=0∧leL b 4 2≤b.length∧8+leL b 6 1≤leL b 4 2 ∧
  ((leL b 0 4=0∧EntR (b.drop (leL b 4 2)) l)∨(leL b 0 4≠0∧0<leL b 6 1∧∃ l2,l=((b.drop 8).take (leL b 6 1),leL b 0 4,leL b 7 1)::l2∧EntR (b.drop (leL b 4 2)) l2))
 | _,_,.nil,h=>absurd rfl h
 | _,_,.skip h1 h2 h3 h4 h5 h6 e,_=>⟨h1,h2,h3,h4,h5,.inl ⟨h6,e⟩⟩
 | _,_,.step h1 h2 h3 h4 h5 h6 h7 e,_=>⟨h1,h2,h3,h4,h5,.inr ⟨h6,h7,_,rfl,e⟩⟩
section
variable {X:XN} {cv ev xv bv x0:Value} {b:Bs} {es:List Value} {ib n:Nat} {l:List EN}
set_option maxRecDepth 20000 in
theorem AHJ (d:RdX x bv b)(e:EntR b l)(hb:b.length<1000000)(dv:Vec 114 3 ev n es r)(hn:n<100000000)(w:AN (pts ib (.cells ⟨X.cells cv ev xv⟩ 81 (0,0))+(r+x)) h)
  (K:∀ ev r h,Vec 114 3 ev (n+l.length) (es++entC l) r→AN (pts ib (.cells ⟨X.cells cv ev xv⟩ 81 (0,0))+(r+x)) h→Q (.tuple #[]) h):ABo x0 (Pt ib) bv h Q:=by
 have hel0:l.length≤b.length:=e.len
 unfold ABo XL
 refine Ba (fun m u h'=>∃ bv b l' n' es' ev r,m=b.length∧u=bv∧RdX x bv b∧EntR b l'∧b.length<1000000∧Vec 114 3 ev n' es' r∧n'+l'.length=n+l.length∧es'++entC l'=es++entC l∧AN (pts ib (.cells ⟨X.cells cv ev xv⟩ 81 (0,0))+(r+x)) h') b.length ⟨bv,b,l,n,es,ev,r,rfl,rfl,d,e,hb,dv,rfl,rfl,w⟩ ?_
 rintro rec m u h' ⟨bv,b,l',n',es',ev,r,rfl,rfl,d,e,hb',dv,hl,hes,w⟩ hrec
 have hel:=e.len
 obtain⟨ba,bc',hbv⟩:=d.len
 unfold RO
 rw[hbv,Aw,Ao,←hbv]
 refine AX (fun hc=>?_) (fun hc=>?_)
 ·have hbn:b≠[]:=fun e0=>by subst e0;simp at hc
  obtain⟨g1,g2,g3,g4,g5,hor⟩:=e.inv hbn
  have d3:RdX (pts ib (.cells ⟨X.cells cv ev xv⟩ 81 (0,0))+(r+x)) u b:=d.addR.addR
  have l4:leL b 4 2<65536:=Ag
  have l6:leL b 6 1<256:=Ag
  have l0:leL b 0 4<4294967296:=Ag
  have e1:decide ((b.length:Int)<8)=false:=A08 (by omega)
  have e2:decide ((leL b 4 2:Int)<8)=false:=A08 (by omega)
  have e3:(AD .rem (.int .u64 (leL b 4 2:Nat)) (.int .u64 4))=fun k=>k (.int .u64 ((0:Nat):Int)):=funext fun k=>by rw[LI (by decide),g3]
  have e4:(AD .neq (.int .u64 ((0:Nat):Int)) (.int .u64 0))=fun k=>k (.bool false):=funext fun k=>by rw[A3];rfl
  have e5:decide ((leL b 4 2:Int)>(b.length:Int))=false:=A08 (by omega)
  have f8:(AD .add (.int .u64 8) (.int .u64 (leL b 6 1:Nat)))=fun k=>k (.int .u64 ((8+leL b 6 1:Nat):Int)):=funext fun k=>by
   rw[A0,←CU (show 8+leL b 6 1<18446744073709551616 by omega)];rfl
  have e6:decide (((8+leL b 6 1:Nat):Int)>(leL b 4 2:Int))=false:=A08 (by omega)
  refine DF (p:=4) (n:=2) d3 w (by decide) (by decide) (by omega) ?_
  refine DF (p:=6) (n:=1) d3 w (by decide) (by decide) (by omega) ?_
  refine DF (p:=7) (n:=1) d3 w (by decide) (by decide) (by omega) ?_
  rw[hbv,Aw,AT,e1,Cr,AT,e2,Cr]
  simp only[e3,e4,Cr]
  rw[Aw,DO,CU (by omega),Ao,e5,Cr]
  simp only[f8]
  rw[Ao,e6,←hbv]
  unfold HW
  rw[AU]
  refine DF (p:=0) (n:=4) d3 w (by decide) (by decide) (by omega) ?_
  rw[A3]
  have hdl:(b.drop (leL b 4 2)).length=b.length-leL b 4 2:=A27
  refine AX (fun hc0=>?_) (fun hc0=>?_)
  ·rcases hor with⟨h0,_⟩|⟨h0,hp,l2,hl2,hr⟩
   ·omega
   ·subst hl2
    have e7:decide ((leL b 6 1:Int)>0)=true:=A04 (by omega)
    have nf:∀ (o:Nat) (k:Value→Prop),(AE (Pt ib) fun x161=>AC o x161 k)=k (.pointer (some ⟨ib,o,none⟩)):=fun o k=>by simp only[go_sem]
    rw[Ao,e7,nf]
    refine AW w XN.g0 ?_
    refine Al _ _ _ _ _ _ (Da ?_)
    rw[nf]
    refine AW w XN.g19 ?_
    simp only[f8]
    refine d.slice (i:=8) (j:=8+leL b 6 1) Ec BA (by omega) (by omega) fun nv dn=>?_
    rw[A49,A62] at dn
    refine dn.addR.addR.str w ?_
    refine Au Fr rfl (rs:=EN.cells ((b.drop 8).take (leL b 6 1),leL b 0 4,leL b 7 1)) rfl ?_
    have k1:∀ P R X:Res,P+(R+X)=R+(P+X):=by intros;ac_rfl
    refine CW dv (w.cast (k1 _ _ _)) Fr rfl rfl (by omega) (by omega) rfl fun b14 h w=>?_
    refine And.intro (AW w XN.g19 rfl) ?_
    have hll:=A76 List.length hes
    simp only[A19] at hl hel
    refine B0 dv w Fr rfl rfl rfl (by omega) (by omega) fun ev' r' h dv' w=>?_
    rw[nf]
    obtain⟨⟨a',c',hev⟩,_⟩:=dv'.len
    refine AL w ⟨X.cells cv ev' xv⟩ (by rw[hev];exact XN.set19) (by rw[hev];rfl) (by rw[XN.size_];omega) (by rw[hev];rfl) fun h w=>?_
    refine d.slice (i:=leL b 4 2) (j:=b.length) BA rfl g4 (A07 _) fun u' d'=>?_
    rw[A38] at d'
    refine hrec _ _ _ ⟨u',b.drop (leL b 4 2),l2,n'+1,_,ev',r',rfl,rfl,d',hr,by omega,dv',by omega,?_,w.cast (k1 _ _ _)⟩ (by omega)
    rw[←hes,A12]
    rfl
  ·rcases hor with⟨h0,hr⟩|⟨h0,_⟩
   ·refine d.slice (i:=leL b 4 2) (j:=b.length) BA rfl g4 (A07 _) fun u' d'=>?_
    rw[A38] at d'
    exact hrec _ _ _ ⟨u',b.drop (leL b 4 2),l',n',es',ev,r,rfl,rfl,d',hr,by omega,dv,hl,hes,w⟩ (by omega)
   ·omega
 ·have hb0:b=[]:=A69.1 (by omega)
  subst hb0
  have hl0:l'=[]:=A69.1 (by simpa using hel)
  subst hl0
  rw[show es'=es++entC l by simpa[entC] using hes] at dv
  rw[show n'=n+l.length by simpa using hl] at dv
  exact K ev r h' dv w
end
end
section
variable {h:H} {k:Value→Prop} {kt Q:Kt} {x y z r:Res} {v:VS}
attribute [local irreducible] AK Az AQ BB Ae AY AH AM VS.cells XN.cells
inductive BlkR:Bs→List EN→Prop
 | nil:BlkR [] []
 | cons {b:Bs} {l1 l2:List EN}:4096≤b.length→EntR (b.take 4096) l1→BlkR (b.drop 4096) l2→BlkR b (l1++l2)
theorem BlkR.len:∀ {b:Bs} {l:List EN},BlkR b l→l.length≤b.length∧b.length%4096=0
 | _,_,.nil=>⟨A07 _,rfl⟩
 | _,_,.cons h e r=>by
  have h1:=e.len
  have h2:=r.len
  rw[A20] at h1
  rw[A27] at h2
  rw[A01]
  omega
theorem PJ {l m:List EN}:entC (l++m)=entC l++entC m:=by unfold entC;rw[A73]
theorem Eb:∀ {l:List EN} {i:Nat} {e:EN},l[i]? = some e→(entC l)[i*3+0]? = some (str e.1)∧(entC l)[i*3+1]? = some (.int .u64 (e.2.1:Nat))∧(entC l)[i*3+2]? = some (.int .u64 (e.2.2:Nat))∧((entC l).drop (i*3)).take 3=e.cells
 | a::l,0,e,h=>by
  simp only[A51,A26] at h
  subst h
  exact⟨rfl,rfl,rfl,rfl⟩
 | a::l,i+1,e,h=>by
  have:=Eb (l:=l) (i:=i) (e:=e) (by simpa using h)
  rw[show (i+1)*3+0=(i*3+0)+3 by omega,show (i+1)*3+1=(i*3+1)+3 by omega,show (i+1)*3+2=(i*3+2)+3 by omega,show (i+1)*3=i*3+3 by omega]
  exact this
 | [],_,_,h=>by simp at h
section
variable {X:XN} {cv ev xv bv x0:Value} {b C:Bs} {es:List Value} {ib n par:Nat} {l:List EN}
set_option maxRecDepth 20000 in
theorem ABv {x2:Value}(d:RdX x bv b)(e:BlkR b l)(hb:b.length<10000000)(dv:Vec 114 3 ev n es r)(hn:n≤10000000)(w:AN (pts ib (.cells ⟨X.cells cv ev xv⟩ 81 (0,0))+(r+x)) h)
  (K:∀ ev r h,Vec 114 3 ev (n+l.length) (es++entC l) r→AN (pts ib (.cells ⟨X.cells cv ev xv⟩ 81 (0,0))+(r+x)) h→Hf Q x0 (Pt ib) x2 h):QE Q x0 (Pt ib) x2 bv h:=by
 have hel0:=e.len
 unfold QE
 refine Ba (fun m u h'=>∃ bv b l' n' es' ev r,m=b.length∧u=bv∧RdX x bv b∧BlkR b l'∧b.length<10000000∧Vec 114 3 ev n' es' r∧n'+l'.length=n+l.length∧es'++entC l'=es++entC l∧AN (pts ib (.cells ⟨X.cells cv ev xv⟩ 81 (0,0))+(r+x)) h') b.length ⟨bv,b,l,n,es,ev,r,rfl,rfl,d,e,hb,dv,rfl,rfl,w⟩ ?_
 rintro rec m u h' ⟨bv,b,l',n',es',ev,r,rfl,rfl,d,e,hb',dv,hl,hes,w⟩ hrec
 have hel:=e.len
 obtain⟨ba,bc',hbv⟩:=d.len
 unfold Qz
 rw[hbv,Aw,BD,←hbv]
 refine AX (fun hc=>?_) (fun hc=>?_)
 ·cases e with
  | nil=>simp at hc
  | cons g1 g2 g3=>
   rename_i l1 l2
   rw[A01] at hl hel
   refine d.slice (i:=0) (j:=4096) rfl Ec (A39 _) g1 fun u' d'=>?_
   rw[A68] at d'
   refine ZN _ _ _ _ _ (AHJ d' g2 (by rw[A20];omega) dv (by omega) w fun ev' r' h dv' w=>?_)
   refine d.slice (i:=4096) (j:=b.length) Ec rfl g1 (A07 _) fun u2 d2=>?_
   rw[A38] at d2
   have hdl:(b.drop 4096).length=b.length-4096:=A27
   refine hrec _ _ _ ⟨u2,b.drop 4096,l2,n'+l1.length,es'++entC l1,ev',r',rfl,rfl,d2,g3,by omega,dv',by omega,?_,w⟩ (by omega)
   rw[A12,←PJ]
   exact hes
 ·cases e with
  | nil=>
   rw[show es'=es++entC l by simpa[entC] using hes] at dv
   rw[show n'=n+l.length by simpa using hl] at dv
   exact K ev r h' dv w
  | cons g1 g2 g3=>omega
end
end
section
variable {h:H} {k:Value→Prop} {kt Q:Kt} {x y z r:Res} {v:VS}
attribute [local irreducible] AK Az AQ BB Ae AY AH AM VS.cells XN.cells
theorem VecX.pre {T:TypeId}{sz n i:Nat}{kk:IntKind}{v:Value}{vs:List Value}(d:VecX T sz v n vs x)(hi:i≤n)(K:∀ v',VecX T sz v' i (vs.take (i*sz)) x→k v'):AZ (.slice sz) v none (some (.int kk (i:Int))) k:=by
 obtain⟨r,y,rfl,d⟩:=d
 cases d with
 | nil=>
  obtain rfl:i=0:=by omega
  refine⟨.slice none 0 0,?_,K _ ⟨_,y,rfl,by rw[A92];exact .nil⟩⟩
  have e1:Ay 0 (some (.int kk ((0:Nat):Int)))=some 0:=BA
  have e2:Ay 0 none=some 0:=rfl
  simp only[A6,e1,e2]
  rw[A03 ⟨A07 _,A07 _⟩];rfl
 | own hn hc=>
  rename_i b c all
  have hm:i*sz≤n*sz:=A48 sz hi
  refine⟨.slice (some ⟨b,0,none⟩) i c,?_,K _ ⟨_,y,rfl,.own' (by omega) hc (by rw[A95,A30 hm])⟩⟩
  have e1:Ay n (some (.int kk (i:Int)))=some i:=BA
  have e2:Ay 0 none=some 0:=rfl
  simp only[A6,e1,e2]
  rw[A03 ⟨A39 _,by omega⟩]
  by_cases h0:c=0
  ·simp[h0]
  ·rw[A05 h0,A80,Bm];simp
structure NamesOK (l:List EN):Prop where
 nd:∀ (i j:Nat) (p q:EN),l[i]? = some p→l[j]? = some q→j<i→p.1≠q.1
 sl:∀ p∈l,(47:UInt8)∉p.1
 ln:∀ p∈l,p.1.length<1000
section
variable {X:XN} {cv ev xv bv x0:Value} {b C:Bs} {es:List Value} {ib n par i:Nat} {l:List EN} {p:EN}
theorem ADt {rec1:Value→H→Prop}{x8:Nat}{x170 x171:Value}(hs:(47:UInt8)∉p.1)(hl:p.1.length<1000)(hi:i<100000000)(w:AN (pts x8 (.cells ⟨p.cells⟩ 114 (0,0))+(pts ib (.cells ⟨X.cells cv ev xv⟩ 81 (0,0))+x)) h)
  (K:rec1 (.int .i64 (i+1:Nat)) h):Qq Q rec1 x0 (Pt ib) (Pt x8) x170 x171 (.int .i64 (i:Nat)) (.int .i64 ((0:Nat):Int)) h:=by
 unfold Qq
 refine Ba (fun m u h'=>∃ j,m=p.1.length-j∧j≤p.1.length∧u=.int .i64 (j:Nat)∧h'=h) p.1.length ⟨0,rfl,A39 _,rfl,rfl⟩ ?_
 rintro rec m u h' ⟨j,rfl,hj,rfl,rfl⟩ hrec
 have g0:(⟨p.cells⟩:Array Value)[0]? = some (str p.1):=rfl
 unfold Qx
 simp (disch:=omega) only[go_sem,AF w,g0]
 refine AX (fun hc=>?_) (fun hc=>K)
 obtain⟨c,hcj⟩:∃ c,p.1[j]? = some c:=⟨_,A00 (by omega)⟩
 rw[CD hcj]
 have hc47:c≠47:=fun e=>hs (by rw[←e];exact A28 hcj)
 have e1:(AD .neq (bc c) (.int .u8 47))=fun k=>k (.bool true):=funext fun k=>by
  unfold bc
  rw[A3,A04]
  intro e
  apply hc47
  apply UInt8.toNat.inj
  show c.toNat=47
  omega
 simp only[e1]
 refine Al _ _ _ _ _ _ (Da ?_)
 exact hrec (p.1.length-(j+1)) _ _ ⟨j+1,rfl,by omega,rfl,rfl⟩ (by omega)
set_option maxRecDepth 20000 in
theorem ACU {rec1:Value→H→Prop}{x8:Nat}{x170 x171 dv:Value}(ok:NamesOK l)(hp:l[i]? = some p)(d:VecX 114 3 dv i ((entC l).take (i*3)) x)(hi:i<100000000)(w:AN (pts x8 (.cells ⟨p.cells⟩ 114 (0,0))+(pts ib (.cells ⟨X.cells cv ev xv⟩ 81 (0,0))+(z+x))) h)
  (K:∀ z h,AN (pts ib (.cells ⟨X.cells cv ev xv⟩ 81 (0,0))+(z+x)) h→rec1 (.int .i64 (i+1:Nat)) h):Rw Q rec1 x0 (Pt ib) (Pt x8) x170 x171 (.int .i64 (i:Nat)) dv (.int .i64 (i:Nat)) (.int .i64 ((0:Nat):Int)) h:=by
 have hpm:p∈l:=A28 hp
 unfold Rw
 refine Ba (fun m u h'=>∃ j z,m=i-j∧j≤i∧u=.int .i64 (j:Nat)∧AN (pts x8 (.cells ⟨p.cells⟩ 114 (0,0))+(pts ib (.cells ⟨X.cells cv ev xv⟩ 81 (0,0))+(z+x))) h') i ⟨0,z,rfl,A39 _,rfl,w⟩ ?_
 rintro rec m u h' ⟨j,z,rfl,hj,rfl,w⟩ hrec
 have g0:(⟨p.cells⟩:Array Value)[0]? = some (str p.1):=rfl
 unfold Rk
 rw[AT]
 have k2:∀ A P Z X:Res,A+(P+(Z+X))=P+((A+Z)+X):=by intros;ac_rfl
 refine AX (fun hc=>?_) (fun hc=>ADt (ok.sl p hpm) (ok.ln p hpm) hi w (K _ h' (w.cast (k2 _ _ _ _))))
 have hil:i<l.length:=(A02.1 hp).1
 obtain⟨q,hq⟩:∃ q,l[j]? = some q:=⟨_,A00 (by omega)⟩
 refine (d.addR.addR.addR:VecX 114 3 dv i _ _).agg w (by omega) ?_
 have hdr:(((entC l).take (i*3)).drop (j*3)).take 3=q.cells:=by
  rw[A49,A95,A30 (by omega)]
  exact (Eb hq).2.2.2
 rw[hdr]
 refine Ah w Fr rfl fun x10 h w=>?_
 refine AL w ⟨q.cells⟩ rfl rfl (by simp) rfl fun h w=>?_
 have g1:(⟨q.cells⟩:Array Value)[0]? = some (str q.1):=rfl
 have e1:decide (p.1≠q.1)=true:=A04 (ok.nd i j p q hp hq (by omega))
 simp (disch:=omega) only[go_sem,AF w,g0,g1,e1]
 refine Al _ _ _ _ _ _ (Da ?_)
 have k1:∀ B A P Z X:Res,B+(A+(P+(Z+X)))=A+(P+((B+Z)+X)):=by intros;ac_rfl
 exact hrec (i-(j+1)) _ _ ⟨j+1,_,rfl,by omega,rfl,w.cast (k1 _ _ _ _ _)⟩ (by omega)
set_option maxRecDepth 20000 in
theorem ADM (ok:NamesOK l)(d:VecX 114 3 ev l.length (entC l) x)(hl:l.length<100000000)(w:AN (pts ib (.cells ⟨X.cells cv ev xv⟩ 81 (0,0))+(z+x)) h)
  (K:∀ z h,AN (pts ib (.cells ⟨X.cells cv ev xv⟩ 81 (0,0))+(z+x)) h→Q (.tuple #[]) h):LK Q x0 (Pt ib) h:=by
 obtain⟨⟨ea,ec,hev⟩,_⟩:=d.len
 unfold LK
 have nf:∀ (o:Nat) (k:Value→Prop),(AE (Pt ib) fun x161=>AC o x161 k)=k (.pointer (some ⟨ib,o,none⟩)):=fun o k=>by simp only[go_sem]
 rw[nf]
 refine AW w XN.g19 ?_
 rw[hev,Aw,←hev]
 unfold V3
 refine Ba (fun m u h'=>∃ i z,m=l.length-i∧i≤l.length∧u=.int .i64 (i:Nat)∧AN (pts ib (.cells ⟨X.cells cv ev xv⟩ 81 (0,0))+(z+x)) h') l.length ⟨0,z,rfl,A39 _,rfl,w⟩ ?_
 rintro rec m u h' ⟨i,z,rfl,hi,rfl,w⟩ hrec
 unfold Rp
 rw[AT]
 refine AX (fun hc=>?_) (fun hc=>K z h' w)
 have hil:i<l.length:=by omega
 obtain⟨p,hp⟩:∃ p,l[i]? = some p:=⟨_,A00 hil⟩
 refine (d.addR.addR:VecX 114 3 ev l.length _ _).agg w hil ?_
 rw[(Eb hp).2.2.2]
 refine Ah w Fr rfl fun x8 h w=>?_
 refine AL w ⟨p.cells⟩ rfl rfl (by simp) rfl fun h w=>?_
 rw[nf]
 refine AW w XN.g19 ?_
 refine d.pre hi fun v' d'=>?_
 obtain⟨⟨va,vc,hv'⟩,_⟩:=d'.len
 rw[hv',Aw,←hv']
 exact ACU ok hp d' (by omega) w fun z h w=>hrec (l.length-(i+1)) _ _ ⟨i+1,z,rfl,by omega,rfl,w⟩ (by omega)
end
end
section
variable {h:H} {k:Value→Prop} {kt Q:Kt} {x y z r:Res} {v:VS}
attribute [local irreducible] AK Az AQ BB Ae AY AH AM VS.cells XN.cells
section
variable {X:XN} {cv ev xv bv x0:Value} {b C:Bs} {ib n par:Nat} {l:List EN}
set_option maxRecDepth 20000 in
theorem ABn (ok:NamesOK l)(h0:l[0]? = some ([46],X.num,2))(h1:l[1]? = some ([46,46],par,2))(d:VecX 114 3 ev l.length (entC l) x)(hl:l.length<100000000)(w:AN (pts ib (.cells ⟨X.cells cv ev xv⟩ 81 (0,0))+x) h)
  (K:∀ z h,AN (pts ib (.cells ⟨X.cells cv ev xv⟩ 81 (0,0))+(z+x)) h→Q (.tuple #[]) h):Hf Q x0 (Pt ib) (.int .u64 (par:Nat)) h:=by
 obtain⟨⟨ea,ec,hev⟩,_⟩:=d.len
 have hl2:1<l.length:=(A02.1 h1).1
 have nf:∀ (o:Nat) (k:Value→Prop),(AE (Pt ib) fun x161=>AC o x161 k)=k (.pointer (some ⟨ib,o,none⟩)):=fun o k=>by simp only[go_sem]
 have e1:decide ((l.length:Int)<2)=false:=A08 (by omega)
 have dx:VecX 114 3 ev l.length (entC l) (pts ib (.cells ⟨X.cells cv ev xv⟩ 81 (0,0))+x):=d.addR
 have c0:=Eb h0
 have c1:=Eb h1
 unfold Hf
 rw[nf]
 refine AW w XN.g19 ?_
 rw[hev,Aw,AT,e1,Cr,nf]
 refine AW w XN.g19 ?_
 refine dx.cell (i:=0) w (by omega) (by omega) c0.1 ?_
 rw[show (.string ⟨#[46]⟩:Value)=str [46] from rfl,Fq,show decide (([46]:Bs)≠[46])=false from rfl,Cr,nf]
 refine AW w XN.g19 ?_
 refine dx.cell (i:=1) w (by omega) (by omega) c1.1 ?_
 rw[show (.string ⟨#[46,46]⟩:Value)=str [46,46] from rfl,Fq,show decide (([46,46]:Bs)≠[46,46])=false from rfl]
 unfold Kg
 rw[AU,nf]
 refine AW w XN.g19 ?_
 refine dx.cell (i:=0) w (by omega) (by omega) c0.2.1 ?_
 rw[nf]
 refine AW w XN.g0 ?_
 rw[Aa,show decide ((X.num:Int)=(X.num:Int))=true from A04 rfl,Cq,nf]
 refine AW w XN.g19 ?_
 refine dx.cell (i:=0) w (by omega) (by omega) c0.2.2.1 ?_
 rw[Aa,nf]
 refine AW w XN.g0 ?_
 refine Al _ _ _ _ _ _ (Da ?_)
 unfold Mm
 rw[nf]
 refine AW w XN.g19 ?_
 refine dx.cell (i:=1) w (by omega) (by omega) c1.2.1 ?_
 rw[Aa,show decide ((par:Int)=(par:Int))=true from A04 rfl,Cq,nf]
 refine AW w XN.g19 ?_
 refine dx.cell (i:=1) w (by omega) (by omega) c1.2.2.1 ?_
 rw[Aa,nf]
 refine AW w XN.g0 ?_
 refine Al _ _ _ _ _ _ (Da ?_)
 exact ADM (z:=0) ok d hl (by rw[Res.zero_add];exact w) K
set_option maxRecDepth 20000 in
theorem AG4 (hin:X.inl=false)(d:RdX x cv C)(e:BlkR C l)(hC:C.length<10000000)(ok:NamesOK l)(h0:l[0]? = some ([46],X.num,2))(h1:l[1]? = some ([46,46],par,2))(w:AN (pts ib (.cells ⟨X.cells cv (.slice none 0 0) xv⟩ 81 (0,0))+x) h)
  (K:∀ ev z h,VecX 114 3 ev l.length (entC l) z→AN (pts ib (.cells ⟨X.cells cv ev xv⟩ 81 (0,0))+(z+x)) h→Q (.tuple #[]) h):ACK x0 (Pt ib) (.int .u64 (par:Nat)) h Q:=by
 obtain⟨ca,cc,hcv⟩:=d.len
 have hel:=e.len
 have hl2:1<l.length:=(A02.1 h1).1
 have nf:∀ (o:Nat) (k:Value→Prop),(AE (Pt ib) fun x161=>AC o x161 k)=k (.pointer (some ⟨ib,o,none⟩)):=fun o k=>by simp only[go_sem]
 have e1:decide ((C.length:Int)>0)=true:=A04 (by omega)
 have e2:(AD .rem (.int .i64 (C.length:Nat)) (.int .i64 4096))=fun k=>k (.int .i64 ((0:Nat):Int)):=funext fun k=>by rw[LI (by decide),hel.2]
 unfold ACK
 rw[nf]
 refine AW w XN.g18 ?_
 rw[nf]
 refine AW w XN.g21 ?_
 rw[hin,AU,hcv,Aw,Ao,e1,Cq,Aw]
 simp only[e2]
 rw[Aa,nf,←hcv]
 refine AW w XN.g0 ?_
 refine Al _ _ _ _ _ _ (Da ?_)
 unfold Mq
 refine ABv (n:=0) (es:=[]) d e hC .nil (by omega) (w.cast (by rw[Res.zero_add])) fun ev r h dv w=>?_
 rw[A29,A34] at dv
 refine ABn ok h0 h1 dv.vx.addL (by omega) w fun z h w=>?_
 have k1:∀ P Z R X:Res,P+(Z+(R+X))=P+((Z+R)+X):=by intros;ac_rfl
 exact K ev _ h dv.vx.addR (w.cast (k1 _ _ _ _))
end
end
section
variable {h:H} {k:Value→Prop} {kt Q:Kt} {x y z r:Res}
inductive VecQ (T:TypeId):Value→Nat→List Value→Res→Prop
 | own {b o n c:Nat} {all:List Value}:n≤c→o+c≤all.length→VecQ T (.slice (some ⟨b,o,none⟩) n c) n ((all.drop o).take n) (pts b (.cells ⟨all⟩ T (0,0)))
theorem VecQ.own' {T:TypeId}{b o n c:Nat}{all vs:List Value}(hn:n≤c)(hc:o+c≤all.length)(ht:(all.drop o).take n=vs):VecQ T (.slice (some ⟨b,o,none⟩) n c) n vs (pts b (.cells ⟨all⟩ T (0,0))):=by
 subst ht;exact .own hn hc
theorem VecQ.len {T:TypeId}{n:Nat}{v:Value}{vs:List Value}(d:VecQ T v n vs r):(∃ a c,v=.slice a n c)∧vs.length=n:=by
 cases d with
 | own hn hc=>exact⟨⟨_,_,rfl⟩,by simp;omega⟩
theorem VecQ.get {T:TypeId}{v u:Value}{n i:Nat}{kk:IntKind}{vs:List Value}(d:VecQ T v n vs r)(w:AN (r+x) h)(hu:vs[i]? = some u)(K:k u):AI (.slice 1) v (.int kk (i:Int)) fun a=>AB false 1 a h k:=by
 have hl:=d.len.2
 have hi:i<vs.length:=(A02.1 hu).1
 cases d with
 | own hn hc=>
  rename_i b o c all
  rw[Cg (by omega),AF w]
  have:(⟨all⟩:Array Value)[o+i]? = some u:=by
   rw[A41] at hu
   split at hu
   ·simpa using hu
   ·cases hu
  rw[this];exact K
theorem VecQ.tail {T:TypeId}{v:Value}{n:Nat}{kk:IntKind}{vs:List Value}(d:VecQ T v n vs r)(hn:1≤n)(K:∀ v',VecQ T v' (n-1) (vs.drop 1) r→k v'):AZ (.slice 1) v (some (.int kk 1)) none k:=by
 cases d with
 | own hn' hc=>
  rename_i b o c all
  have e1:Ay 0 (some (.int kk 1))=some 1:=BA (n:=1)
  have e2:Ay n none=some n:=rfl
  refine⟨.slice (some ⟨b,if c=1 then o else o+1,none⟩) (n-1) (c-1),?_,K _ (.own' (by omega) ?_ ?_)⟩
  ·simp only[A6,e1,e2]
   rw[A03 ⟨hn,hn'⟩]
   by_cases h0:c=1
   ·rw[A03 h0,A03 h0]
   ·rw[A05 h0,A05 h0,A80,Bm]
  ·by_cases h0:c=1
   ·rw[A03 h0];omega
   ·rw[A05 h0];omega
  ·by_cases h0:c=1
   ·have:n=1:=by omega
    subst this
    rw[A49];simp
   ·rw[A05 h0,←A64,A49]
theorem VecQ.push {T:TypeId}{by_ n:Nat}{z:Option Value}{zv v e:Value}{vs:List Value}(d:VecQ T v n vs r)(w:AN (r+x) h)(hz:z=some zv)(hzs:zv.cells=#[zv])(he:e.cells=#[e])(ho:Value.oneCell' e=true)
  (hb:(n+1)*by_≤140737488355328) (hb2:n+1≤140737488355328) (K:∀ v r h,VecQ T v (n+1) (vs++[e]) r→AN (r+x) h→kt v h) :
  AH (.arr 1) T z 1 1 [(0,e)] h fun s h=>AM T z 1 by_ v s h kt:=by
 refine G5 w hz hzs he ho fun eb h w=>?_
 refine⟨1,⟨[e]⟩,rfl,?_,?_⟩
 ·unfold BF
  simp only[w.left.one]
  simp
 cases d with
 | @own b o _ c all hn hc=>
  have w2:AN (pts b (.cells ⟨all⟩ T (0,0))+(pts eb (.cells ⟨[e]⟩ T (0,0))+x)) h:=w.cast (Res.left_comm _ _ _)
  have hsrc:BF 1 n h (.slice (some ⟨b,o,none⟩) n c)=some ⟨(all.drop o).take n⟩:=by
   unfold BF
   simp only[w2.left.one,A86,A45,if_false]
   rw[A03 (by simp;omega)]
   congr 1
   apply A56
   simp[A44]
  have hl:((all.drop o).take n).length=n:=by simp;omega
  refine⟨_,n,c,zv,_,rfl,hz,by rw[hzs];rfl,hb,hb2,hsrc,fun h0=>?_,fun _ b' c' h' hc' hc2 ex hb' ho'=>?_⟩
  ·refine .inr ⟨_,_,T,rfl,rfl,w2.left.one,by simp;omega,by simp[ho],?_⟩
   have hsl:(Ai ⟨all⟩ (o+n*1) [e]).toList.length=all.length:=by rw[B21,FA];rfl
   refine K _ _ _ (.own' (all:=(Ai ⟨all⟩ (o+n*1) [e]).toList) h0 (by rw[hsl];exact hc) ?_) (AN.left (y:=pts eb (.cells ⟨[e]⟩ T (0,0))) (w2.set.cast ?_))
   ·have:=Fz (all:=all) (news:=[e]) (o:=o+n) (by simp;omega)
    rw[A67]
    have h3:((Ai ⟨all⟩ (o+n) [e]).toList.take (o+n+1)).drop o=(all.take (o+n)++[e]).drop o:=by rw[←this];rfl
    rw[A49,show o+n+1-o=n+1 by omega] at h3
    rw[h3,A52 (by simp;omega),A49,A62]
   ·ac_rfl
  ·refine K _ _ h' (.own' (o:=0) (all:=(all.drop o).take n++[e]++(Builtin.zeroCells zv.cells (c'-(n+1))).toList) hc' ?_ ?_) ((w.right.right.new ex hb' ho').cast ?_)
   ·simp only[A01,B21,Io,hzs,hl,A57,A29]
    rw[show (#[zv]:Array Value).size=1 from rfl,A67]
    omega
   ·rw[A68,A24 (by simp[hl]),A43 (by simp[hl])]
   ·congr 2
    simp only[Obj.cells.injEq,and_true]
    apply A56;simp
end
section
variable {h:H} {k:Value→Prop} {kt Q:Kt} {x y z r A:Res} {v:VS}
attribute [local irreducible] AK Az AQ BB Ae AY AH AM VS.cells XN.cells
structure TS where
 seen:List Bool
 par:List Nat
 nam:List Nat
 sub:List Nat
 q:List Nat
def bC (l:List Bool):List Value:=l.map .bool
def nC (l:List Nat):List Value:=l.map fun n=>.int .u64 (n:Nat)
def TR (N:Nat)(S:TS)(x4 x5 x6 x7 x8:Value)(A:Res):Prop:=∃ r4 r5 r6 r7 rq,A=r4+(r5+(r6+(r7+rq)))∧Vec 4 1 x4 N (bC S.seen) r4∧Vec 48 1 x5 N (nC S.par) r5∧Vec 48 1 x6 N (nC S.nam) r6∧Vec 48 1 x7 N (nC S.sub) r7∧VecQ 48 x8 S.q.length (nC S.q) rq
def TS.see (S:TS)(n c:Nat):TS:=if S.seen.getD c false then S else {S with seen:=S.seen.set c true,par:=S.par.set c n,q:=S.q++[c]}
theorem NF {l:List Bool}{i:Nat}(h:i<l.length):(bC l)[i]? = some (.bool (l.getD i false)):=by
 unfold bC
 rw[A21,A00 h,A10,A00 h];rfl
theorem HZ {l:List Nat}{i:Nat}(h:i<l.length):(nC l)[i]? = some (.int .u64 (l.getD i 0:Nat)):=by
 unfold nC
 rw[A21,A00 h,A10,A00 h];rfl
theorem Qe {l:List Bool}{i:Nat}{b:Bool}:(bC l).set i (.bool b)=bC (l.set i b):=by unfold bC;rw[B22]
theorem Nh {l:List Nat}{i n:Nat}:(nC l).set i (.int .u64 (n:Nat))=nC (l.set i n):=by unfold nC;rw[B22]
section
variable {N eb n c i:Nat} {S:TS} {e:EN} {x0 x1 x4 x5 x6 x7 x8 x10 x69 x70:Value} {rec2:Value→H→Prop} {rec3:Value→Value→H→Prop}
set_option maxRecDepth 20000 in
theorem ABZ (t:TR N S x4 x5 x6 x7 x8 A)(hc:e.2.1<N)(hq:S.q.length<1000000)(hi:i<100000000)(w:AN (pts eb (.cells ⟨e.cells⟩ 114 (0,0))+(A+x)) h)
  (K:∀ x8 A h,TR N (S.see n e.2.1) x4 x5 x6 x7 x8 A→AN (pts eb (.cells ⟨e.cells⟩ 114 (0,0))+(A+x)) h→rec3 x8 (.int .i64 (i+1:Nat)) h) :
  N7 Q rec2 rec3 x0 x1 x4 x5 x6 x7 x8 (.int .u64 (n:Nat)) x10 (Pt eb) x69 x70 (.int .i64 (i:Nat)) h:=by
 obtain⟨r4,r5,r6,r7,rq,rfl,a4,a5,a6,a7,aq⟩:=t
 have g1:(⟨e.cells⟩:Array Value)[1]? = some (.int .u64 (e.2.1:Nat)):=rfl
 have hl4:e.2.1<S.seen.length:=by have:=a4.len.2;unfold bC at this;rw[A25] at this;omega
 have ff:∀ (o:Nat) (k:Value→Prop),AC o (Pt eb) k=k (.pointer (some ⟨eb,o,none⟩)):=fun o k=>by simp only[go_sem]
 have f1:(AD .add (.int .i64 (i:Nat)) (.int .i64 1))=fun k=>k (.int .i64 (i+1:Nat)):=funext fun k=>by
  rw[BN (n:=1),Ci (by omega)]
 unfold N7
 rw[ff]
 refine AW w g1 ?_
 have k4:∀ E R4 B X:Res,E+((R4+B)+X)=R4+(E+(B+X)):=by intros;ac_rfl
 refine Bu a4 (w.cast (k4 _ _ _ _)) (NF hl4) ?_
 rw[F1]
 cases hs:S.seen.getD e.2.1 false with
 | true=>
  have e1:S.see n e.2.1=S:=by unfold TS.see;rw[hs];rfl
  rw[e1] at K
  show AK (.bool false) _ _
  rw[AU]
  simp only[f1]
  exact K x8 _ h ⟨r4,r5,r6,r7,rq,rfl,a4,a5,a6,a7,aq⟩ w
 | false=>
  have e1:S.see n e.2.1 = {S with seen:=S.seen.set e.2.1 true,par:=S.par.set e.2.1 n,q:=S.q++[e.2.1]}:=by unfold TS.see;rw[hs];rfl
  rw[e1] at K
  show AK (.bool true) _ _
  rw[Ak,ff]
  refine AW w g1 ?_
  rw[ff]
  refine AW w g1 ?_
  refine DS (u:=.bool true) a4 (w.cast (k4 _ _ _ _)) hc rfl rfl fun r4 h a4 w=>?_
  refine And.intro (AW w g1 rfl) ?_
  have k5:∀ R4 E R5 B X:Res,R4+(E+((R5+B)+X))=R5+(R4+(E+(B+X))):=by intros;ac_rfl
  refine DS (u:=.int .u64 (n:Nat)) a5 (w.cast (k5 _ _ _ _ _)) hc rfl rfl fun r5 h a5 w=>?_
  rw[ff]
  refine AW w g1 ?_
  have k6:∀ R5 R4 E R6 R7 RQ X:Res,R5+(R4+(E+((R6+(R7+RQ))+X)))=RQ+(R5+(R4+(E+((R6+R7)+X)))):=by intros;ac_rfl
  refine aq.push (w.cast (k6 _ _ _ _ _ _ _)) Cb rfl rfl rfl (by omega) (by omega) fun x8 rq h aq w=>?_
  simp only[f1]
  have k7:∀ RQ R5 R4 E R6 R7 X:Res,RQ+(R5+(R4+(E+((R6+R7)+X))))=E+((R4+(R5+(R6+(R7+RQ))))+X):=by intros;ac_rfl
  refine K x8 _ h ⟨r4,r5,r6,r7,rq,rfl,?_,?_,a6,a7,?_⟩ (w.cast (k7 _ _ _ _ _ _ _))
  ·rw[Qe] at a4;exact a4
  ·rw[Nh] at a5;exact a5
  ·show VecQ 48 x8 (S.q++[e.2.1]).length (nC (S.q++[e.2.1])) rq
   rw[A01]
   unfold nC at aq ⊢
   rw[A36]
   exact aq
def TS.ent (S:TS)(n:Nat)(e:EN):TS:=TS.see {S with nam:=S.nam.set e.2.1 (S.nam.getD e.2.1 0+1),sub:=if e.2.2=2 then S.sub.set n (S.sub.getD n 0+1) else S.sub} n e.2.1
structure EntOK (I:Bs) (ipg:Nat) (S:TS) (e:EN):Prop where
 i1:11≤e.2.1
 i2:e.2.1≤ipg
 kind:kindL (leL (rawL I e.2.1) 0 2)=e.2.2
 dir:e.2.2=2→S.seen.getD e.2.1 false=false
set_option maxRecDepth 20000 in
theorem AF8 {v:VS}(ok:v.OK x)(hit:itL v.I*4096+v.ipg*256≤v.I.length)(t:TR N S x4 x5 x6 x7 x8 A)(hN:N=v.ipg+1)(eo:EntOK v.I v.ipg S e)(hnN:n<N)(hq:S.q.length<1000000)(hb:S.nam.getD e.2.1 0<1000000∧S.sub.getD n 0<1000000)(hi:i<100000000)(w:AN (v.res+((pts eb (.cells ⟨e.cells⟩ 114 (0,0))+A)+x)) h)
  (K:∀ x8 A h,TR N (S.ent n e) x4 x5 x6 x7 x8 A→AN (v.res+((pts eb (.cells ⟨e.cells⟩ 114 (0,0))+A)+x)) h→rec3 x8 (.int .i64 (i+1:Nat)) h) :
  S4 Q rec2 rec3 (Pt v.vb) x1 x4 x5 x6 x7 x8 (.int .u64 (n:Nat)) x10 (Pt eb) x69 x70 (.int .i64 (i:Nat)) h:=by
 obtain⟨r4,r5,r6,r7,rq,rfl,a4,a5,a6,a7,aq⟩:=t
 have hi1:=eo.i1
 have hi2:=eo.i2
 have hc:e.2.1<N:=by omega
 have hl6:e.2.1<S.nam.length:=by have:=a6.len.2;unfold nC at this;rw[A25] at this;omega
 have hl7:n<S.sub.length:=by have:=a7.len.2;unfold nC at this;rw[A25] at this;omega
 have hl4:e.2.1<S.seen.length:=by have:=a4.len.2;unfold bC at this;rw[A25] at this;omega
 have g1:(⟨e.cells⟩:Array Value)[1]? = some (.int .u64 (e.2.1:Nat)):=rfl
 have g2:(⟨e.cells⟩:Array Value)[2]? = some (.int .u64 (e.2.2:Nat)):=rfl
 have ff:∀ (o:Nat) (k:Value→Prop),AC o (Pt eb) k=k (.pointer (some ⟨eb,o,none⟩)):=fun o k=>by simp only[go_sem]
 have lm:leL (rawL v.I e.2.1) 0 2<65536:=Ag
 have hrl:(rawL v.I e.2.1).length≤256:=by unfold rawL;rw[A20];omega
 unfold S4
 rw[ff]
 refine AW w g1 ?_
 refine Jj _ _ _ _ (AAg ok (by omega) hi2 hit w fun bv db=>?_)
 refine DF (p:=0) (n:=2) db.addR.addR w (by decide) (by decide) (by omega) ?_
 refine ACC lm ?_
 refine E9 _ _ _ (YT lm ?_)
 rw[eo.kind,ff]
 refine AW w g2 ?_
 rw[Aa,show decide ((e.2.2:Int)=(e.2.2:Int))=true from A04 rfl,ff]
 refine AW w g1 ?_
 refine Al _ _ _ _ _ _ (Da ?_)
 rw[ff]
 refine AW w g1 ?_
 have k6:∀ V E R4 R5 R6 R7 RQ X:Res,V+((E+(R4+(R5+(R6+(R7+RQ)))))+X)=R6+(V+(E+(R4+(R5+(R7+RQ)))+X)):=by intros;ac_rfl
 have w:=w.cast (k6 _ _ _ _ _ _ _ _)
 refine Bu a6 w (HZ hl6) ?_
 rw[BN (n:=1),CU (by omega)]
 refine DS (u:=.int .u64 (S.nam.getD e.2.1 0+1:Nat)) a6 w hc rfl rfl fun r6 h a6 w=>?_
 rw[Nh] at a6
 rw[Aa]
 have k7:∀ V E R4 R5 R6 R7 RQ X:Res,R6+(V+(E+(R4+(R5+(R7+RQ)))+X))=R7+(V+(E+(R4+(R5+(R6+RQ)))+X)):=by intros;ac_rfl
 have k8:∀ V E R4 R5 R6 R7 RQ X:Res,R7+(V+(E+(R4+(R5+(R6+RQ)))+X))=E+((R4+(R5+(R6+(R7+RQ))))+(V+X)):=by intros;ac_rfl
 have k9:∀ V E A X:Res,E+(A+(V+X))=V+((E+A)+X):=by intros;ac_rfl
 refine AX (fun hk=>?_) (fun hk=>?_)
 ·have hk2:e.2.2=2:=by omega
  have w:=w.cast (k7 _ _ _ _ _ _ _ _)
  refine Bu a7 w (HZ hl7) ?_
  rw[BN (n:=1),CU (by omega)]
  refine DS (u:=.int .u64 (S.sub.getD n 0+1:Nat)) a7 w hnN rfl rfl fun r7 h a7 w=>?_
  rw[Nh] at a7
  rw[ff]
  have w:=w.cast (k8 _ _ _ _ _ _ _ _)
  refine AW w g1 ?_
  have k4:∀ E R4 B X:Res,E+((R4+B)+X)=R4+(E+(B+X)):=by intros;ac_rfl
  refine Bu a4 (w.cast (k4 _ _ _ _)) (NF hl4) ?_
  rw[F1,eo.dir hk2,ff]
  refine AW w g1 ?_
  refine Al _ _ _ _ _ _ (Da ?_)
  refine ABZ (S:={S with nam:=S.nam.set e.2.1 (S.nam.getD e.2.1 0+1),sub:=S.sub.set n (S.sub.getD n 0+1)}) ⟨r4,r5,r6,r7,rq,rfl,a4,a5,a6,a7,aq⟩ hc hq hi w fun x8 A h t w=>K x8 A h ?_ (w.cast (k9 _ _ _ _))
  unfold TS.ent
  rw[A03 hk2]
  exact t
 ·have hk2:¬e.2.2=2:=by omega
  have w:=(w.cast (k7 _ _ _ _ _ _ _ _)).cast (k8 _ _ _ _ _ _ _ _)
  refine ABZ (S:={S with nam:=S.nam.set e.2.1 (S.nam.getD e.2.1 0+1)}) ⟨r4,r5,r6,r7,rq,rfl,a4,a5,a6,a7,aq⟩ hc hq hi w fun x8 A h t w=>K x8 A h ?_ (w.cast (k9 _ _ _ _))
  unfold TS.ent
  rw[A05 hk2]
  exact t
end
end
section
variable {h:H} {k:Value→Prop} {kt Q:Kt} {x y z r A:Res} {v:VS}
attribute [local irreducible] AK Az AQ BB Ae AY AH AM VS.cells XN.cells
def TS.stp (n:Nat)(S:TS)(e:EN):TS:=if e.1=[46]∨e.1=[46,46] then S else S.ent n e
inductive EntsR (I:Bs) (ipg n:Nat):TS→List EN→Prop
 | nil {S:TS}:EntsR I ipg n S []
 | cons {S:TS} {e:EN} {l:List EN}:(e.1=[46]∨e.1=[46,46])∨EntOK I ipg S e→S.q.length<1000000∧S.nam.getD e.2.1 0<1000000∧S.sub.getD n 0<1000000→EntsR I ipg n (S.stp n e) l→EntsR I ipg n S (e::l)
section
variable {N eb n c i:Nat} {S:TS} {e:EN} {l:List EN} {x0 x4 x5 x6 x7 x8 x10 x69 x70:Value} {rec2:Value→H→Prop} {rec3:Value→Value→H→Prop}
set_option maxRecDepth 20000 in
theorem AGW (ok:v.OK x)(hit:itL v.I*4096+v.ipg*256≤v.I.length)(d:VecX 114 3 x69 l.length (entC l) x)(hl:l.length<10000000)(t:TR N S x4 x5 x6 x7 x8 A)(hN:N=v.ipg+1)(er:EntsR v.I v.ipg n S l)(hnN:n<N)(w:AN (v.res+(A+(z+x))) h)
  (K:∀ x8 A z h,TR N (l.foldl (TS.stp n) S) x4 x5 x6 x7 x8 A→AN (v.res+(A+(z+x))) h→MG Q rec2 (Pt v.vb) (.int .u64 ((11:Nat):Int)) x4 x5 x6 x7 x8 x10 h) :
  Xu Q rec2 (Pt v.vb) (.int .u64 ((11:Nat):Int)) x4 x5 x6 x7 (.int .u64 (n:Nat)) x10 x69 (.int .i64 (l.length:Nat)) x8 (.int .i64 ((0:Nat):Int)) h:=by
 have hip:=ok.ipg
 obtain⟨R,hR⟩:∃ R,l.foldl (TS.stp n) S=R:=⟨_,rfl⟩
 rw[hR] at K
 unfold Xu
 refine DE (fun m u0 u1 h'=>∃ i S A z,m=l.length-i∧i≤l.length∧u1=.int .i64 (i:Nat)∧TR N S x4 x5 x6 x7 u0 A∧EntsR v.I v.ipg n S (l.drop i)∧(l.drop i).foldl (TS.stp n) S=R∧AN (v.res+(A+(z+x))) h') l.length ⟨0,S,A,z,rfl,A39 _,rfl,t,er,hR,w⟩ ?_
 rintro rec m u0 u1 h' ⟨i,S',A,z,rfl,hi,rfl,t,er,hf,w⟩ hrec
 unfold V7
 rw[AT]
 refine AX (fun hc=>?_) (fun hc=>?_)
 ·have hil:i<l.length:=by omega
  obtain⟨e,he⟩:∃ e,l[i]? = some e:=⟨_,A00 hil⟩
  have hdr:l.drop i=e::l.drop (i+1):=by
   rw[A50 hil]
   rw[A00 hil] at he
   rw[A14 he]
  rw[hdr] at er hf
  cases er with
  | cons heo hbd er2=>
   refine (d.addR.addR.addR:VecX 114 3 x69 l.length _ _).agg w hil ?_
   rw[(Eb he).2.2.2]
   refine Ah w Fr rfl fun eb h w=>?_
   refine AL w ⟨e.cells⟩ rfl rfl (by simp) rfl fun h w=>?_
   have g0:(⟨e.cells⟩:Array Value)[0]? = some (str e.1):=rfl
   have g1:(⟨e.cells⟩:Array Value)[1]? = some (.int .u64 (e.2.1:Nat)):=rfl
   have ff:∀ (o:Nat) (k:Value→Prop),AC o (Pt eb) k=k (.pointer (some ⟨eb,o,none⟩)):=fun o k=>by simp only[go_sem]
   have f1:(AD .add (.int .i64 (i:Nat)) (.int .i64 1))=fun k=>k (.int .i64 (i+1:Nat)):=funext fun k=>by
    rw[BN (n:=1),Ci (by omega)]
   have k1:∀ E V A Z X:Res,E+(V+(A+(Z+X)))=V+(A+((E+Z)+X)):=by intros;ac_rfl
   have skip:(e.1=[46]∨e.1=[46,46])→AD .add (.int .i64 (i:Nat)) (.int .i64 1) fun x164=>rec u0 x164 h:=by
    intro hd
    rw[f1]
    have es:S'.stp n e=S':=A03 hd
    rw[es] at er2
    rw[A71,es] at hf
    exact hrec (l.length-(i+1)) _ _ _ ⟨i+1,S',A,_,rfl,hil,rfl,t,er2,hf,w.cast (k1 _ _ _ _ _)⟩ (by omega)
   rw[ff]
   refine AW w g0 ?_
   rw[show (.string ⟨#[46]⟩:Value)=str [46] from rfl,NZ]
   by_cases h1:e.1=[46]
   ·rw[A04 h1,PD]
    exact skip (.inl h1)
   ·rw[A08 h1,Cr,ff]
    refine AW w g0 ?_
    rw[show (.string ⟨#[46,46]⟩:Value)=str [46,46] from rfl,NZ]
    refine AX (fun h2=>skip (.inr h2)) (fun h2=>?_)
    have heo:=heo.resolve_left (fun o=>o.elim h1 h2)
    have hi1:=heo.i1
    have hi2:=heo.i2
    obtain⟨⟨sa,sc,hx4⟩,_⟩:(∃ a c,x4=.slice a N c)∧True:=by
     obtain⟨_,_,_,_,_,_,a4,_⟩:=t
     exact⟨a4.len.1,trivial⟩
    have e1:decide ((e.2.1:Int)=0)=false:=A08 (by omega)
    have e2:decide ((e.2.1:Int)≥(N:Int))=false:=A08 (by omega)
    have e3:decide ((e.2.1:Int)<((11:Nat):Int))=false:=A08 (by omega)
    unfold WF
    rw[ff]
    refine AW w g1 ?_
    rw[Aa,e1,Cr,ff]
    refine AW w g1 ?_
    rw[hx4,Aw,DO,CU (by omega),BD,e2,Cr,ff,←hx4]
    refine AW w g1 ?_
    rw[AT,e3,AU]
    have k2:∀ E V A Z X:Res,E+(V+(A+(Z+X)))=V+((E+A)+(Z+X)):=by intros;ac_rfl
    have k3:∀ E V A Z X:Res,V+((E+A)+(Z+X))=V+(A+((E+Z)+X)):=by intros;ac_rfl
    refine AF8 (ok.mono (y:=z)) hit t hN heo hnN hbd.1 ⟨hbd.2.1,hbd.2.2⟩ (by omega) (w.cast (k2 _ _ _ _ _)) fun x8 A h t w=>?_
    have es:S'.stp n e=S'.ent n e:=A05 (fun o=>o.elim h1 h2)
    rw[es] at er2
    rw[A71,es] at hf
    exact hrec (l.length-(i+1)) _ _ _ ⟨i+1,_,A,_,rfl,hil,rfl,t,er2,hf,w.cast (k3 _ _ _ _ _)⟩ (by omega)
 ·have hil:i=l.length:=by omega
  subst hil
  rw[B15,List.foldl_nil] at hf
  rw[hf] at t
  exact K _ A z h' t w
end
end
section
variable {h:H} {k:Value→Prop} {kt Q:Kt} {x y z r A:Res} {v:VS}
def VS.ino (v:VS)(u:Value):VS:={v with iv:=u}
theorem VS.set0 {v:VS}{u:Value}:Ai v.cells 0 [u]=(v.ino u).cells:=rfl
theorem VS.csize {v:VS}:v.cells.size=11:=rfl
attribute [local irreducible] AK Az AQ BB Ae AY AH AM VS.cells XN.cells
theorem VS.OK.ino {u:Value}(ok:v.OK x):(v.ino u).OK x:=⟨ok.rd,ok.len,ok.big,ok.nb,ok.nb1,ok.ow,ok.ipg,ok.ipg1,ok.ipg16⟩
structure AA where
 X:XN
 C:Bs
 l:List (Bs×Bs)
 E:List EN
inductive OutV (x:Res):List Value→List AA→Prop
 | nil:OutV x [] []
 | snoc {cs:List Value} {os:List AA} {o:AA} {cv ev xv:Value} {xas:List Value}:OutV x cs os→RdX x cv o.C→VecX 114 3 ev o.E.length (entC o.E) x→VecX 86 2 xv o.l.length xas x→AtV x xas o.l→OutV x (cs++o.X.cells cv ev xv) (os++[o])
theorem OutV.mono:∀ {cs:List Value} {os:List AA},OutV x cs os→OutV (y+x) cs os
 | _,_,.nil=>.nil
 | _,_,.snoc a b c d e=>.snoc a.mono b.addR c.addR d.addR e.mono
theorem OutV.addL {cs:List Value}{os:List AA}(a:OutV x cs os):OutV (x+y) cs os:=by rw[Res.comm];exact a.mono
section
variable {m n xb:Nat} {o:AA} {os:List AA} {cs xas:List Value} {cv ev xv x1 x4 x5 x6 x7 x8:Value} {rec2:Value→H→Prop}
set_option maxRecDepth 20000 in
theorem ABc (d:Vec 81 23 v.iv m cs r)(ov:OutV x cs os)(hm:m<1000000)(dc:RdX x cv o.C)(de:VecX 114 3 ev o.E.length (entC o.E) x)(dx:VecX 86 2 xv o.l.length xas x)(da:AtV x xas o.l)(w:AN (v.res+(r+(pts xb (.cells ⟨o.X.cells cv ev xv⟩ 81 (0,0))+y))) h)
  (K:∀ iv r cs h,Vec 81 23 iv (m+1) cs r→OutV x cs (os++[o])→AN ((v.ino iv).res+(r+(pts xb (.cells ⟨o.X.cells cv ev xv⟩ 81 (0,0))+y))) h→rec2 x8 h):MG Q rec2 (Pt v.vb) x1 x4 x5 x6 x7 x8 (Pt xb) h:=by
 obtain⟨ca,cc,hcv⟩:=dc.len
 obtain⟨⟨ea,ec,hev⟩,_⟩:=de.len
 obtain⟨⟨xa,xc,hxv⟩,_⟩:=dx.len
 have hone:(o.X.cells cv ev xv).all Value.oneCell'=true:=by rw[hcv,hev,hxv];exact XN.one
 have nf:∀ (k:Value→Prop),(AE (Pt v.vb) fun x161=>AC 0 x161 k)=k (.pointer (some ⟨v.vb,0,none⟩)):=fun k=>by simp only[go_sem]
 have hz:(Value.agg ⟨If.cells (.slice none 0 0) (.slice none 0 0) (.slice none 0 0)⟩).cells.size=23:=XN.size_
 unfold MG
 rw[nf]
 refine AW w VS.g0 ?_
 refine Cj w XN.len ?_
 have k1:∀ V R X:Res,V+(R+X)=R+(V+X):=by intros;ac_rfl
 refine CW d (w.cast (k1 _ _ _)) Cy hz XN.len (by omega) (by omega) hone fun b h w=>?_
 refine And.intro (AW w VS.g0 rfl) ?_
 refine B0 d w Cy hz XN.len hone (by omega) (by omega) fun iv r h d w=>?_
 obtain⟨⟨ia,ic,hiv⟩,_⟩:=d.len
 rw[nf]
 refine AL w (v.ino iv).cells (by rw[hiv];exact VS.set0) (by rw[hiv];rfl) (by rw[VS.csize];omega) (by rw[hiv];rfl) fun h w=>?_
 exact K iv r _ h d (.snoc ov dc de dx da) (w.cast (k1 _ _ _).symm)
end
end
end Go.Proofs.YtollddkkdgoonaaGreatDoor
