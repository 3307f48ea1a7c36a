/- A part of a proof over images that are written and read. No condition; a step. -/
import Derived.Test.YtollddkkdgoonaaGreatDoorM19
namespace Go.Proofs.YtollddkkdgoonaaGreatDoor
open Go
set_option linter.unusedVariables false
set_option linter.unusedSimpArgs false
section
variable {h:H} {k:Value→Prop} {kt Q:Kt} {x y z r:Res}
def RdV (sz:Nat)(v:Value)(n:Nat)(vs:List Value)(x:Res):Prop:=
 (∃ a c,v=.slice a 0 c∧n=0∧vs=[])∨∃ b o c all T fz y,v=.slice (some ⟨b,o,none⟩) n c∧x=pts b (.cells ⟨all⟩ T fz)+y∧o+n*sz≤all.length∧(all.drop o).take (n*sz)=vs∧n≤c
theorem RdV.addL {sz n:Nat}{v:Value}{vs:List Value}(d:RdV sz v n vs x):RdV sz v n vs (x+y):=by
 rcases d with d|⟨b,o,c,all,T,fz,z,h1,h2,h3⟩
 ·exact .inl d
 ·exact .inr ⟨b,o,c,all,T,fz,z+y,h1,by rw[h2,Res.assoc],h3⟩
theorem RdV.addR {sz n:Nat}{v:Value}{vs:List Value}(d:RdV sz v n vs x):RdV sz v n vs (y+x):=by rw[Res.comm];exact d.addL
theorem Vec.rdv {T:TypeId}{sz n:Nat}{v:Value}{vs:List Value}(d:Vec T sz v n vs r):RdV sz v n vs r:=by
 cases d with
 | nil=>exact .inl ⟨none,0,rfl,rfl,rfl⟩
 | own hn hc=>
  have:=A48 sz hn
  exact .inr ⟨_,0,_,_,T,_,0,rfl,(Res.add_zero _).symm,by omega,by rw[A68],hn⟩
theorem VecX.rdv {T:TypeId}{sz n:Nat}{v:Value}{vs:List Value}(d:VecX T sz v n vs x):RdV sz v n vs x:=by
 obtain⟨r,y,rfl,d⟩:=d
 exact d.rdv.addL
theorem RdV.len {sz n:Nat}{v:Value}{vs:List Value}(d:RdV sz v n vs x):(∃ a c,v=.slice a n c)∧vs.length=n*sz:=by
 rcases d with⟨a',c,h1,h2,h3⟩|⟨b,o,c,all,T,fz,y,h1,h2,h3,h4,h5⟩
 ·subst h2 h3;exact⟨⟨_,_,h1⟩,by simp⟩
 ·refine⟨⟨_,_,h1⟩,?_⟩
  rw[←h4,A20,A27];omega
theorem RdV.one_ {sz n:Nat}{v:Value}{vs:List Value}(d:RdV sz v n vs x):Value.oneCell' v=true:=by
 obtain⟨⟨a,c,hv⟩,_⟩:=d.len
 rw[hv];rfl
theorem PQ {b o n c i sz:Nat}{kk:IntKind}(hi:i<n):AI (.slice sz) (.slice (some ⟨b,o,none⟩) n c) (.int kk (i:Int)) k=k (.pointer (some ⟨b,o+i*sz,none⟩)):=by
 refine propext ⟨fun⟨kk',m,h1,a,l,c',h2,h3,h4,h5⟩=>?_,fun hk=>⟨kk,i,rfl,_,n,c,rfl,by omega,by omega,?_⟩⟩
 ·cases h1;cases h2;simpa[Bm] using h5
 ·simpa[Bm] using hk
theorem RdV.get {n i:Nat}{kk:IntKind}{v u:Value}{vs:List Value}(d:RdV 1 v n vs x)(w:AN x h)(hu:vs[i]? = some u)(K:k u):AI (.slice 1) v (.int kk (i:Int)) fun a=>AB false 1 a h k:=by
 have hl:=d.len.2
 have hi:i<vs.length:=(A02.1 hu).1
 rcases d with⟨a',c,h1,h2,h3⟩|⟨b,o,c,all,T,fz,y,h1,h2,h3,h4,h5⟩
 ·subst h3;simp at hi
 ·subst h1 h2
  rw[Cg (by omega),AF w]
  have:(⟨all⟩:Array Value)[o+i]? = some u:=by
   rw[←h4,A41] at hu
   split at hu
   ·rw[A53] at hu;simpa using hu
   ·cases hu
  rw[this];exact K
theorem RdV.two {n i:Nat}{kk:IntKind}{v u:Value}{vs:List Value}{F:Value→Value→Prop}(d:RdV 1 v n vs x)(w:AN x h)(hu:vs[i]? = some u)(K:∀ a,(AB false 1 a h fun v=>v=u)→F a u):AI (.slice 1) v (.int kk (i:Int)) fun a=>AB false 1 a h fun u=>F a u:=by
 have hl:=d.len.2
 have hi:i<vs.length:=(A02.1 hu).1
 rcases d with⟨a',c,h1,h2,h3⟩|⟨b,o,c,all,T,fz,y,h1,h2,h3,h4,h5⟩
 ·subst h3;simp at hi
 ·subst h1 h2
  have:(⟨all⟩:Array Value)[o+i]? = some u:=by
   rw[←h4,A41] at hu
   split at hu
   ·rw[A53] at hu;simpa using hu
   ·cases hu
  rw[Cg (by omega),AF w,this]
  exact K _ (by rw[AF w,this];exact rfl)
theorem RdV.agg {sz n i:Nat}{kk:IntKind}{v:Value}{vs:List Value}(d:RdV sz v n vs x)(w:AN x h)(hi:i<n)(K:k (.agg ⟨(vs.drop (i*sz)).take sz⟩)):AI (.slice sz) v (.int kk (i:Int)) fun a=>AB true sz a h k:=by
 rcases d with⟨a',c,h1,h2,h3⟩|⟨b,o,c,all,T,fz,y,h1,h2,h3,h4,h5⟩
 ·omega
 ·subst h1 h2
  have hm:i*sz+sz≤n*sz:=by
   have:(i+1)*sz≤n*sz:=A48 sz hi
   rw[A93,B34] at this;exact this
  rw[PQ hi,Am (o:=o+i*sz) (w.left.one) (by simp;omega)]
  have:(⟨all⟩:Array Value).extract (o+i*sz) (o+i*sz+sz)=⟨(vs.drop (i*sz)).take sz⟩:=by
   apply A56
   rw[←h4]
   simp only[B42,A44,A49,A95,A64]
   congr 1
   omega
  rw[this];exact K
theorem RdV.cell {sz n i j:Nat}{kk:IntKind}{v u:Value}{vs:List Value}(d:RdV sz v n vs x)(w:AN x h)(hi:i<n)(hj:j<sz)(hu:vs[i*sz+j]? = some u)(K:k u):AI (.slice sz) v (.int kk (i:Int)) fun a=>AC j a fun p=>AB false 1 p h k:=by
 rcases d with⟨a',c,h1,h2,h3⟩|⟨b,o,c,all,T,fz,y,h1,h2,h3,h4,h5⟩
 ·omega
 ·subst h1 h2
  have hm:i*sz+sz≤n*sz:=by
   have:(i+1)*sz≤n*sz:=A48 sz hi
   rw[A93,B34] at this;exact this
  rw[PQ hi]
  simp only[DW,Bm]
  rw[AF w]
  have:(⟨all⟩:Array Value)[o+i*sz+j]? = some u:=by
   rw[←h4,A41] at hu
   split at hu
   ·rw[A53,←B62] at hu;simpa using hu
   ·cases hu
  rw[this];exact K
theorem RdV.slice {sz n i j:Nat}{lo hi:Option Value}{v:Value}{vs:List Value}(d:RdV sz v n vs x)(hlo:Ay 0 lo=some i)(hhi:Ay n hi=some j)(h1:i≤j)(h2:j≤n)(K:∀ v',RdV sz v' (j-i) ((vs.take (j*sz)).drop (i*sz)) x→k v'):AZ (.slice sz) v lo hi k:=by
 rcases d with⟨a',c,e1,e2,e3⟩|⟨b,o,c,all,T,fz,y,e1,e2,e3,e4,e5⟩
 ·subst e1 e2 e3
  obtain rfl:j=0:=by omega
  obtain rfl:i=0:=by omega
  refine⟨.slice (if c=0 then a' else a'.map (·.add 0)) 0 c,?_,K _ (.inl ⟨_,c,rfl,rfl,by simp⟩)⟩
  simp only[A6,hlo,hhi]
  rw[A03 ⟨A07 _,A39 _⟩]
  simp
 ·subst e1
  have hj:j*sz≤n*sz:=A48 sz h2
  have hij:i*sz+(j-i)*sz=j*sz:=by rw[←A93];congr 1;omega
  refine⟨.slice (some ⟨b,if c=i then o else o+i*sz,none⟩) (j-i) (c-i),?_,K _ (.inr ⟨b,if c=i then o else o+i*sz,c-i,all,T,fz,y,rfl,e2,?_,?_,by omega⟩)⟩
  ·simp only[A6,hlo,hhi]
   rw[A03 ⟨h1,by omega⟩]
   by_cases hc:c=i
   ·rw[A03 hc,A03 hc]
   ·rw[A05 hc,A05 hc,A80,Bm]
  ·by_cases hc:c=i
   ·rw[A03 hc]
    have:j-i=0:=by omega
    rw[this];omega
   ·rw[A05 hc];omega
  ·by_cases hc:c=i
   ·have:j=i:=by omega
    subst this
    rw[A87,A92,B17,A49,A87,B17]
   ·rw[A05 hc,←e4,A95,A30 hj,A49,A64]
    congr 1
    omega
theorem RdV.src {sz n:Nat}{v:Value}{vs:List Value}(d:RdV sz v n vs x)(w:AN x h):srcLen v=some n∧BF sz n h v=some ⟨vs⟩:=by
 rcases d with⟨a',c,h1,h2,h3⟩|⟨b,o,c,all,T,fz,y,h1,h2,h3,h4,h5⟩
 ·subst h1 h2 h3;exact⟨rfl,Od (A92 _)⟩
 ·subst h1 h2
  refine⟨rfl,?_⟩
  unfold BF
  simp only[w.left.one,A86,A45,if_false]
  rw[A03 (by simpa using h3)]
  congr 1
  apply A56
  rw[←h4]
  simp only[B42,A44]
  congr 1
  omega
theorem CA {T:TypeId}{sz by_ n m:Nat}{z:Option Value}{zv v s:Value}{vs news:List Value}(d:Vec T sz v n vs r)(e:RdV sz s m news x)(w:AN (r+x) h)(hz:z=some zv)(hzs:zv.cells.size=sz)
  (hb:(n+m)*by_≤140737488355328) (hb2:n+m≤140737488355328) (hone:news.all Value.oneCell'=true)
  (K:∀ v r h,Vec T sz v (n+m) (vs++news) r→AN (r+x) h→kt v h):AM T z sz by_ v s h kt:=by
 obtain⟨s1,s2⟩:=e.src w.right
 exact⟨m,⟨news⟩,s1,s2,IP d w hz hzs hb hb2 hone e.len.2 K⟩
theorem Dg {T:TypeId}{sz:Nat}{z:Option Value}{zv:Value}{kt:Kt}(w:AN x h)(hz:z=some zv)(K:∀ v r h,Vec T sz v 0 [] r→AN (r+x) h→kt v h):AH (.arr sz) T z sz 0 [] h kt:=by
 refine⟨zv,#[],hz,by omega,?_,fun b h' e hb ho=>K _ _ h' (.own' (all:=[]) (A07 _) (by simp) (by simp)) (w.new e hb ho)⟩
 rw[A03 (by omega)];rfl
theorem Pi (l:List Bs):(strs l).all Value.oneCell'=true:=by
 unfold strs
 rw[List.all_map,B10]
 intro a _;rfl
end
section
set_option maxRecDepth 100000
def KL (Q:Kt)(r1:R1)(r2:R1)(x2 x3 x4 x9 a3 d4 d5 d6 n0 n1 n2 p1:Value)(h:H):Prop:=
 AK p1
 (AB true 18 x9 h fun p2=>AC 0 a3 fun p3=>AB false 1 p3 h fun p4=>AC 1 a3 fun p6=>AB false 1 p6 h fun p7=>AI (.slice 1) x4 p7 fun p8=>AB false 1 p8 h fun p9=>Call TP 46 [p2,p4,p9] h fun q0 h=>AJ 18 x9 q0 h fun h=>AD .add n2 (.int .i64 1) fun q1=>r2 q1 h)
 (AD .add n2 (.int .i64 1) fun q1=>r2 q1 h)
def We (Q:Kt)(r1:R1)(r2:R1)(x2 x3 x4 x9 d4 d5 d6 n0 n1 n2:Value)(h:H):Prop:=
 AD .lss n2 n1 fun n3=>AK n3
 (AI (.slice 3) n0 n2 fun n4=>AB true 3 n4 h fun n5=>AQ (AG TP 114) 114 h fun a3 h=>AJ 3 a3 n5 h fun h=>AC 0 a3 fun n6=>AB false 1 n6 h fun n7=>AD .neq n7 (.string ⟨#[46]⟩) fun n8=>Az n8 true (AC 0 a3 fun o0=>AB false 1 o0 h fun o1=>AD .neq o1 (.string ⟨#[46,46]⟩) fun o2=>Az o2 true (AC 1 a3 fun o5=>AB false 1 o5 h fun o6=>Ab x4 fun o8=>AV .u64 o8 fun o9=>AD .lss o6 o9 fun p0=>KL Q r1 r2 x2 x3 x4 x9 a3 d4 d5 d6 n0 n1 n2 p0 h) (KL Q r1 r2 x2 x3 x4 x9 a3 d4 d5 d6 n0 n1 n2 (.bool false) h)) (KL Q r1 r2 x2 x3 x4 x9 a3 d4 d5 d6 n0 n1 n2 (.bool false) h))
 (AC 0 x3 fun q2=>AB false 1 q2 h fun q3=>AB true 18 x9 h fun q4=>AH (.arr 18) 63 (AG TP 63) 18 1 [(0,q4)] h fun q5 h=>AM 63 (AG TP 63) 18 200 q3 q5 h fun q6 h=>AC 0 x3 fun q7=>AJ 1 q7 q6 h fun h=>AD .add d6 (.int .i64 1) fun q8=>r1 q8 h)
def Wj (Q:Kt)(r1:R1)(x2 x3 x4 x9 d4 d5 d6 n0 n1 n2:Value)(h:H):Prop:=A1 (fun r2 n2 h=>We Q r1 r2 x2 x3 x4 x9 d4 d5 d6 n0 n1 n2 h) n2 h
def WX (Q:Kt)(r1:R1)(r3:R1)(x2 x3 x4 x8 x9 d4 d5 d6 k4 k5 k6:Value)(h:H):Prop:=
 AD .lss k6 k5 fun k7=>AK k7
 (AI (.slice 2) k4 k6 fun k8=>AB true 2 k8 h fun k9=>AQ (AG TP 86) 86 h fun a1 h=>AJ 2 a1 k9 h fun h=>AC 15 x9 fun m0=>AB false 1 m0 h fun m1=>AC 0 a1 fun m2=>AB false 1 m2 h fun m3=>AC 1 a1 fun m4=>AB false 1 m4 h fun m5=>Call TP 16 [m1,m3,m5] h fun m6 h=>AC 15 x9 fun m7=>AJ 1 m7 m6 h fun h=>AD .add k6 (.int .i64 1) fun m8=>r3 m8 h)
 (AC 19 x8 fun m9=>AB false 1 m9 h fun n0=>Ab n0 fun n1=>Wj Q r1 x2 x3 x4 x9 d4 d5 d6 n0 n1 (.int .i64 0) h)
def ABJ (Q:Kt)(r1:R1)(x2 x3 x4 x8 x9 d4 d5 d6 k4 k5 k6:Value)(h:H):Prop:=A1 (fun r3 k6 h=>WX Q r1 r3 x2 x3 x4 x8 x9 d4 d5 d6 k4 k5 k6 h) k6 h
def MW (Q:Kt)(r1:R1)(x2 x3 x4 x8 x9 d4 d5 d6:Value)(h:H):Prop:=
 AC 20 x8 fun k3=>AB false 1 k3 h fun k4=>Ab k4 fun k5=>ABJ Q r1 x2 x3 x4 x8 x9 d4 d5 d6 k4 k5 (.int .i64 0) h
def XX (Q:Kt)(r1:R1)(x2 x3 x4 d4 d5 d6:Value)(h:H):Prop:=
 AD .lss d6 d5 fun d7=>AK d7
 (AI (.slice 23) d4 d6 fun d8=>AB true 23 d8 h fun d9=>AQ (AG TP 81) 81 h fun x8 h=>AJ 23 x8 d9 h fun h=>AC 1 x8 fun g0=>AB false 1 g0 h fun g1=>AC 2 x8 fun g2=>AB false 1 g2 h fun g3=>AC 3 x8 fun g4=>AB false 1 g4 h fun g5=>AC 8 x8 fun g6=>AB true 2 g6 h fun g7=>AC 10 x8 fun g8=>AB true 2 g8 h fun g9=>AC 12 x8 fun i0=>AB true 2 i0 h fun i1=>AC 14 x8 fun i2=>AB true 2 i2 h fun i3=>AC 16 x8 fun i4=>AB false 1 i4 h fun i5=>AC 17 x8 fun i6=>AB false 1 i6 h fun i7=>Ae (.struct [(0,1),(1,1),(2,1),(3,2),(5,2),(7,2),(9,2),(11,1),(12,1),(13,1),(14,1),(15,1),(16,1),(17,1)]) (AG TP 63) [(0,g1),(1,g3),(2,g5),(3,g7),(4,g9),(5,i1),(6,i3),(7,i5),(8,i7)] fun i8=>AQ (AG TP 63) 63 h fun x9 h=>AJ 18 x9 i8 h fun h=>AC 1 x8 fun i9=>AB false 1 i9 h fun j0=>Call TP 45 [j0] h fun j1 h=>AD .eql j1 (.int .u64 1) fun j3=>AK j3
 (AC 18 x8 fun j4=>AB false 1 j4 h fun j5=>AC 13 x9 fun j6=>AJ 1 j6 j5 h fun h=>MW Q r1 x2 x3 x4 x8 x9 d4 d5 d6 h)
 (AD .eql j1 (.int .u64 7) fun j8=>AK j8
 (AC 18 x8 fun j9=>AB false 1 j9 h fun k0=>HI k0 h fun k1=>AC 14 x9 fun k2=>AJ 1 k2 k1 h fun h=>MW Q r1 x2 x3 x4 x8 x9 d4 d5 d6 h)
 (MW Q r1 x2 x3 x4 x8 x9 d4 d5 d6 h)))
 (AB true 1 x3 h fun q9=>AJ 1 x2 q9 h fun h=>AB true 1 x2 h fun v=>Q v h)
def WK (Q:Kt)(x2 x3 x4 d4 d5 d6:Value)(h:H):Prop:=A1 (fun r1 d6 h=>XX Q r1 x2 x3 x4 d4 d5 d6 h) d6 h
def VM (Q:Kt)(r4:R1)(x0 x2 x3 x4 b8 b9 c0:Value)(h:H):Prop:=
 AD .lss c0 b9 fun c1=>AK c1
 (AI (.slice 23) b8 c0 fun c3=>AB true 23 c3 h fun c4=>AQ (AG TP 81) 81 h fun x6 h=>AJ 23 x6 c4 h fun h=>AC 0 x6 fun c6=>AB false 1 c6 h fun c7=>AI (.slice 1) x4 c7 fun c9=>AJ 1 c9 c0 h fun h=>AD .add c0 (.int .i64 1) fun d0=>r4 d0 h)
 (AE x0 fun d2=>AC 0 d2 fun d3=>AB false 1 d3 h fun d4=>Ab d4 fun d5=>WK Q x2 x3 x4 d4 d5 (.int .i64 0) h)
def ABO (Q:Kt)(x0 x2 x3 x4 b8 b9 c0:Value)(h:H):Prop:=A1 (fun r4 c0 h=>VM Q r4 x0 x2 x3 x4 b8 b9 c0 h) c0 h
def f14 (x0:Value)(h:H)(Q:Kt):Prop:=
 AQ (AG TP 40) 40 h fun x2 h=>AQ (AG TP 40) 40 h fun x3 h=>AE x0 fun a5=>AC 4 a5 fun a6=>AB false 1 a6 h fun a7=>AE x0 fun a9=>AC 6 a9 fun b0=>AB false 1 b0 h fun b1=>AD .mul a7 b1 fun b2=>AD .add b2 (.int .u64 1) fun b3=>AY (AG TP 3) 1 8 3 b3 b3 h fun b4 h=>AE x0 fun b6=>AC 0 b6 fun b7=>AB false 1 b7 h fun b8=>Ab b8 fun b9=>ABO Q x0 x2 x3 b4 b8 b9 (.int .i64 0) h
def AHw (Q:Kt)(r:RS):Nat→DJ:=tab [(262568550,.jn fun e h=>KL Q (u1 (r 250)) (u1 (r 1025658)) (e 2) (e 3) (e 4) (e 9) (e 13) (e 44) (e 45) (e 46) (e 100) (e 101) (e 102) (e 121) h),
 (2051317,.lp [2,3,4,9,44,45,46,100,101] [102] fun s e l h=>We Q (u1 (r 250)) (u1 s) (e 2) (e 3) (e 4) (e 9) (e 44) (e 45) (e 46) (e 100) (e 101) (gl l 0) h),
 (1025653,.lp [2,3,4,8,9,44,45,46,84,85] [86] fun s e l h=>WX Q (u1 (r 250)) (u1 s) (e 2) (e 3) (e 4) (e 8) (e 9) (e 44) (e 45) (e 46) (e 84) (e 85) (gl l 0) h),
 (128206,.jn fun e h=>MW Q (u1 (r 250)) (e 2) (e 3) (e 4) (e 8) (e 9) (e 44) (e 45) (e 46) h),
 (501,.lp [2,3,4,44,45] [46] fun s e l h=>XX Q (u1 s) (e 2) (e 3) (e 4) (e 44) (e 45) (gl l 0) h),
 (245,.lp [0,2,3,4,28,29] [30] fun s e l h=>VM Q (u1 s) (e 0) (e 2) (e 3) (e 4) (e 28) (e 29) (gl l 0) h)]
theorem ABt (x0:Value)(h:H)(Q:Kt)(x:f14 x0 h Q):Call TP 14 [x0] h Q:=Bb (AHw Q) Tryz.func14 (by kernel_rfl) x
def Ls (Q:Kt)(x3 x6 x7 x9 a0:Value)(h:H):Prop:=
 AC 16 x3 fun d1=>AB false 1 d1 h fun d2=>AZ (.slice 1) d2 (some x7) none fun d4=>AC 17 x3 fun d7=>AB false 1 d7 h fun d8=>AZ (.slice 1) d8 (some x7) none fun g0=>AM 9 (AG TP 9) 1 16 x9 d4 h fun d5 h=>((AB false 1 d7 h fun v=>v=d8)∧AC 16 x3 fun g2=>AM 3 (AG TP 3) 1 8 a0 g0 h fun g1 h=>AJ 1 g2 d5 h fun h=>AC 17 x3 fun g3=>AJ 1 g3 g1 h fun h=>AB true 18 x3 h fun g4=>AJ 18 x6 g4 h fun h=>AB true 18 x6 h fun v=>Q v h)
def LO (Q:Kt)(x1 x2 x3 x6 x7 x8 x9 a0:Value)(h:H):Prop:=
 AH (.arr 1) 9 (AG TP 9) 1 1 [(0,x1)] h fun c1 h=>AM 9 (AG TP 9) 1 16 x9 c1 h fun c2 h=>AH (.arr 1) 3 (AG TP 3) 1 1 [(0,x2)] h fun c5 h=>AM 3 (AG TP 3) 1 8 a0 c5 h fun c6 h=>AK x8
 (AD .add x7 (.int .i64 1) fun c9=>Ls Q x3 x6 c9 c2 c6 h)
 (Ls Q x3 x6 x7 c2 c6 h)
def f46 (x0 x1 x2:Value)(h:H)(Q:Kt):Prop:=
 BB 63 (x0:Value).cells h fun x3 h=>AQ (AG TP 63) 63 h fun x6 h=>AB true 18 x3 h fun a2=>Call TP 50 [a2,x1] h fun a4 h=>AO a4 0 fun a5=>AO a4 1 fun a6=>AC 16 x3 fun a8=>AB false 1 a8 h fun a9=>AZ (.slice 1) a9 none (some a5) fun b1=>AC 17 x3 fun b4=>AB false 1 b4 h fun b5=>AZ (.slice 1) b5 none (some a5) fun b7=>((AH (.arr 1) 9 (AG TP 9) 1 0 [] h fun a7 h=>((AB false 1 a8 h fun v=>v=a9)∧(AB false 1 b4 h fun v=>v=b5)∧((AM 9 (AG TP 9) 1 16 a7 b1 h fun b2 h=>((AB false 1 b4 h fun v=>v=b5)∧AH (.arr 1) 3 (AG TP 3) 1 0 [] h fun b3 h=>((AB false 1 b4 h fun v=>v=b5)∧AM 3 (AG TP 3) 1 8 b3 b7 h fun b8 h=>LO Q x1 x2 x3 x6 a5 a6 b2 b8 h)))
 ∧ (AH (.arr 1) 3 (AG TP 3) 1 0 [] h fun b3 h=>((AB false 1 a8 h fun v=>v=a9)∧(AB false 1 b4 h fun v=>v=b5)∧AM 9 (AG TP 9) 1 16 a7 b1 h fun b2 h=>((AB false 1 b4 h fun v=>v=b5)∧AM 3 (AG TP 3) 1 8 b3 b7 h fun b8 h=>LO Q x1 x2 x3 x6 a5 a6 b2 b8 h))))))
 ∧ (AH (.arr 1) 3 (AG TP 3) 1 0 [] h fun b3 h=>((AB false 1 a8 h fun v=>v=a9)∧(AB false 1 b4 h fun v=>v=b5)∧AH (.arr 1) 9 (AG TP 9) 1 0 [] h fun a7 h=>((AB false 1 a8 h fun v=>v=a9)∧(AB false 1 b4 h fun v=>v=b5)∧AM 9 (AG TP 9) 1 16 a7 b1 h fun b2 h=>((AB false 1 b4 h fun v=>v=b5)∧AM 3 (AG TP 3) 1 8 b3 b7 h fun b8 h=>LO Q x1 x2 x3 x6 a5 a6 b2 b8 h)))))
def AHa (Q:Kt)(r:RS):Nat→DJ:=tab [(126,.jn fun e h=>Ls Q (e 3) (e 6) (e 7) (e 9) (e 10) h),
 (30,.jn fun e h=>LO Q (e 1) (e 2) (e 3) (e 6) (e 7) (e 8) (e 9) (e 10) h)]
theorem AB4 (x0 x1 x2:Value)(h:H)(Q:Kt)(x:f46 x0 x1 x2 h Q):Call TP 46 [x0,x1,x2] h Q:=Bb (AHa Q) Tryz.func46 (by kernel_rfl) x
def Pc (Q:Kt)(x1 x2 x6:Value)(h:H):Prop:=
 AC 16 x2 fun b5=>AB false 1 b5 h fun b6=>Ab b6 fun b7=>AD .lss x6 b7 fun b8=>Az b8 true (AC 16 x2 fun c0=>AB false 1 c0 h fun c1=>AI (.slice 1) c1 x6 fun c3=>AB false 1 c3 h fun c4=>AD .eql c4 x1 fun c6=>Q (.tuple #[x6,c6]) h) (Q (.tuple #[x6,(.bool false)]) h)
def W8 (Q:Kt)(r1:R1)(x1 x2 x6:Value)(h:H):Prop:=
 AC 16 x2 fun x8=>AB false 1 x8 h fun x9=>Ab x9 fun a0=>AD .lss x6 a0 fun a1=>Az a1 true (AC 16 x2 fun a3=>AB false 1 a3 h fun a4=>AI (.slice 1) a4 x6 fun a6=>AB false 1 a6 h fun a7=>AD .lss a7 x1 fun a9=>AK a9
 (AD .add x6 (.int .i64 1) fun b2=>r1 b2 h)
 (Pc Q x1 x2 x6 h)) (Pc Q x1 x2 x6 h)
def AA2 (Q:Kt)(x1 x2 x6:Value)(h:H):Prop:=A1 (fun r1 x6 h=>W8 Q r1 x1 x2 x6 h) x6 h
def f50 (x0 x1:Value)(h:H)(Q:Kt):Prop:=
 BB 63 (x0:Value).cells h fun x2 h=>AA2 Q x1 x2 (.int .i64 0) h
def AHC (Q:Kt)(r:RS):Nat→DJ:=tab [(30,.jn fun e h=>Pc Q (e 1) (e 2) (e 6) h),
 (57,.lp [1,2] [6] fun s e l h=>W8 Q (u1 s) (e 1) (e 2) (gl l 0) h)]
theorem Xl (x0 x1:Value)(h:H)(Q:Kt)(x:f50 x0 x1 h Q):Call TP 50 [x0,x1] h Q:=Bb (AHC Q) Tryz.func50 (by kernel_rfl) x
def f20 (x0 x1:Value)(h:H)(Q:Kt):Prop:=
 BB 63 (x0:Value).cells h fun x2 h=>AB true 18 x2 h fun x9=>Call TP 50 [x9,x1] h fun a1 h=>AO a1 0 fun a2=>AO a1 1 fun a3=>LH .not a3 fun a5=>AK a5
 (Q (.tuple #[(.int .i64 0),(.bool false)]) h)
 (AC 17 x2 fun a6=>AB false 1 a6 h fun a7=>AI (.slice 1) a7 a2 fun a9=>AB false 1 a9 h fun b0=>Q (.tuple #[b0,(.bool true)]) h)
theorem ADr (x0 x1:Value)(h:H)(Q:Kt)(x:f20 x0 x1 h Q):Call TP 20 [x0,x1] h Q:=Bb nT Tryz.func20 (by kernel_rfl) x
def Vh (Q:Kt)(r1:R2)(x2 a1 a2 x6 a3:Value)(h:H):Prop:=
 AD .lss a3 a2 fun a4=>AK a4
 (AI (.slice 1) a1 a3 fun a5=>AB false 1 a5 h fun a6=>AC 0 x2 fun a8=>AB false 1 a8 h fun a9=>AI (.slice 18) a9 x6 fun b1=>AB true 18 b1 h fun b2=>Call TP 20 [b2,a6] h fun b4 h=>AO b4 0 fun b5=>AO b4 1 fun b6=>AC 0 x2 fun b7=>AB false 1 b7 h fun b8=>AI (.slice 18) b8 x6 fun c0=>AB true 18 c0 h fun c1=>Call TP 31 [c1] h fun c2 h=>AD .neq c2 (.int .u16 16384) fun c3=>Az c3 false (LH .not b6 fun c6=>AK c6
 (Q (.tuple #[(.int .i64 0),(.bool false)]) h)
 (AD .add a3 (.int .i64 1) fun c9=>r1 b5 c9 h)) (Q (.tuple #[(.int .i64 0),(.bool false)]) h))
 (Q (.tuple #[x6,(.bool true)]) h)
def ABI (Q:Kt)(x2 a1 a2 x6 a3:Value)(h:H):Prop:=Bx (fun r1 x6 a3 h=>Vh Q r1 x2 a1 a2 x6 a3 h) x6 a3 h
def f15 (x0 x1:Value)(h:H)(Q:Kt):Prop:=
 BB 40 (x0:Value).cells h fun x2 h=>Ab x1 fun a2=>ABI Q x2 x1 a2 (.int .i64 0) (.int .i64 0) h
def AHr (Q:Kt)(r:RS):Nat→DJ:=tab [(117,.lp [2,11,12] [6,13] fun s e l h=>Vh Q (u2 s) (e 2) (e 11) (e 12) (gl l 0) (gl l 1) h)]
theorem ACJ (x0 x1:Value)(h:H)(Q:Kt)(x:f15 x0 x1 h Q):Call TP 15 [x0,x1] h Q:=Bb (AHr Q) Tryz.func15 (by kernel_rfl) x
def f31 (x0:Value)(h:H)(Q:Kt):Prop:=
 BB 63 (x0:Value).cells h fun x1 h=>AC 0 x1 fun x3=>AB false 1 x3 h fun x4=>AD .and x4 (.int .u16 61440) fun x5=>Q x5 h
theorem AB9 (x0:Value)(h:H)(Q:Kt)(x:f31 x0 h Q):Call TP 31 [x0] h Q:=Bb nT Tryz.func31 (by kernel_rfl) x
def f27 (x0:Value)(h:H)(Q:Kt):Prop:=
 AD .lss x0 (.int .i64 10) fun x4=>AK x4
 (AD .add (.int .i64 48) x0 fun x6=>AV .u8 x6 fun x7=>AH (.arr 1) 5 (AG TP 5) 1 1 [(0,x7)] h fun x8 h=>HI x8 h fun x9=>Q x9 h)
 (AD .quo x0 (.int .i64 10) fun a1=>AD .rem x0 (.int .i64 10) fun a4=>AD .add (.int .i64 48) a4 fun a5=>AV .u8 a5 fun a6=>((Call TP 27 [a1] h fun a2 h=>AH (.arr 1) 5 (AG TP 5) 1 1 [(0,a6)] h fun a7 h=>HI a7 h fun a8=>AD .add a2 a8 fun a9=>Q a9 h)
 ∧ (AH (.arr 1) 5 (AG TP 5) 1 1 [(0,a6)] h fun a7 h=>HI a7 h fun a8=>Call TP 27 [a1] h fun a2 h=>((HI a7 h fun v=>v=a8)∧AD .add a2 a8 fun a9=>Q a9 h))))
theorem Mw (x0:Value)(h:H)(Q:Kt)(x:f27 x0 h Q):Call TP 27 [x0] h Q:=Bb nT Tryz.func27 (by kernel_rfl) x
def Vf (Q:Kt)(r1:R1)(x8 x9 a0:Value)(h:H):Prop:=
 AD .lss a0 x9 fun a1=>AK a1
 (AI (.slice 1) x8 a0 fun a2=>AB false 1 a2 h fun a3=>Ab a3 fun a5=>AD .gtr a5 (.int .i64 2147483647) fun a6=>AK a6
 (Q (.bool false) h)
 (AD .add a0 (.int .i64 1) fun a7=>r1 a7 h))
 (Q (.bool true) h)
def ABR (Q:Kt)(x8 x9 a0:Value)(h:H):Prop:=A1 (fun r1 a0 h=>Vf Q r1 x8 x9 a0 h) a0 h
def f26 (x0:Value)(h:H)(Q:Kt):Prop:=
 Ab x0 fun x6=>AD .gtr x6 (.int .i64 2147483647) fun x7=>AK x7
 (Q (.bool false) h)
 (Ab x0 fun x9=>ABR Q x0 x9 (.int .i64 0) h)
def AHg (Q:Kt)(r:RS):Nat→DJ:=tab [(117,.lp [8,9] [10] fun s e l h=>Vf Q (u1 s) (e 8) (e 9) (gl l 0) h)]
theorem AC8 (x0:Value)(h:H)(Q:Kt)(x:f26 x0 h Q):Call TP 26 [x0] h Q:=Bb (AHg Q) Tryz.func26 (by kernel_rfl) x
def ACf (Q:Kt)(r1:R1)(x0 a3 n6 n7 n8:Value)(h:H):Prop:=
 AD .lss n8 n7 fun n9=>AK n9
 (AI (.slice 23) n6 n8 fun o0=>AB true 23 o0 h fun o1=>AQ (AG TP 81) 81 h fun a9 h=>AJ 23 a9 o1 h fun h=>AC 0 a9 fun o2=>AB false 1 o2 h fun o3=>AV .i64 o3 fun o4=>AD .sub o4 (.int .i64 12) fun o5=>AD .geq o5 (.int .i64 0) fun o7=>Az o7 true (Ab x0 fun p1=>AD .geq o5 p1 fun p2=>Az p2 false (AC 18 a9 fun p4=>AB false 1 p4 h fun p5=>HI p5 h fun p6=>AI (.slice 1) x0 o5 fun p9=>AB false 1 p9 h fun q0=>HI q0 h fun q1=>AD .neq p6 q1 fun q2=>AK q2
 (Q (.bool false) h)
 (AD .add n8 (.int .i64 1) fun q5=>r1 q5 h)) (Q (.bool false) h)) (AD .add n8 (.int .i64 1) fun q5=>r1 q5 h))
 (AC 0 a3 fun q6=>AB false 1 q6 h fun q7=>Ab q7 fun q8=>Ab x0 fun t0=>AD .add t0 (.int .i64 2) fun t1=>AD .eql q8 t1 fun t2=>Q t2 h)
def ACt (Q:Kt)(x0 a3 n6 n7 n8:Value)(h:H):Prop:=A1 (fun r1 n8 h=>ACf Q r1 x0 a3 n6 n7 n8 h) n8 h
def ABk (Q:Kt)(r2:R1)(x0 a1 a3 j3 j4 j5:Value)(h:H):Prop:=
 AD .lss j5 j4 fun j6=>AK j6
 (AI (.slice 1) j3 j5 fun j8=>AB false 1 j8 h fun j9=>AB true 1 a3 h fun k1=>Call TP 27 [j5] h fun k3 h=>((AB true 1 a3 h fun v=>v=k1)∧AH (.arr 1) 9 (AG TP 9) 1 1 [(0,k3)] h fun k4 h=>((AB true 1 a3 h fun v=>v=k1)∧Call TP 15 [k1,k4] h fun k5 h=>AO k5 0 fun k6=>AO k5 1 fun k7=>LH .not k7 fun k9=>Az k9 false (AC 0 a3 fun m1=>AB false 1 m1 h fun m2=>AI (.slice 18) m2 k6 fun m4=>AC 13 m4 fun m5=>AB false 1 m5 h fun m6=>HI m6 h fun m7=>HI j9 h fun m9=>AD .neq m7 m9 fun n0=>AK n0
 (Q (.bool false) h)
 (AD .add j5 (.int .i64 1) fun n2=>r2 n2 h)) (Q (.bool false) h))))
 (AE a1 fun n4=>AC 0 n4 fun n5=>AB false 1 n5 h fun n6=>Ab n6 fun n7=>ACt Q x0 a3 n6 n7 (.int .i64 0) h)
def ADH (Q:Kt)(x0 a1 a3 j3 j4 j5:Value)(h:H):Prop:=A1 (fun r2 j5 h=>ABk Q r2 x0 a1 a3 j3 j4 j5 h) j5 h
def ADF (Q:Kt)(r3:R2)(x0 x1 d3 d4 x8 d5:Value)(h:H):Prop:=
 AD .lss d5 d4 fun d6=>AK d6
 (AI (.slice 1) d3 d5 fun d8=>AB false 1 d8 h fun d9=>Call TP 27 [d5] h fun g2 h=>AD .add (.string ⟨#[47]⟩) g2 fun g3=>Ab d9 fun g5=>Ae (.struct [(0,1),(1,1),(2,1),(3,1),(4,1),(5,3),(8,3),(11,3),(14,3),(17,1),(18,1),(19,1)]) (AG TP 28) [(1,g5)] fun g6=>Ae (.struct [(0,1),(1,1),(2,1),(3,20),(23,1)]) (AG TP 32) [(0,(.int .i64 0)),(1,g3),(3,g6)] fun g7=>Ae (.struct [(0,1),(1,1),(2,1),(3,20),(23,1)]) (AG TP 32) [(0,(.int .i64 1)),(4,d9)] fun g9=>AH (.arr 24) 32 (AG TP 32) 24 2 [(0,g7),(1,g9)] h fun i0 h=>AM 32 (AG TP 32) 24 232 x8 i0 h fun i1 h=>AD .add d5 (.int .i64 1) fun i2=>r3 i1 i2 h)
 (Call TP 13 [x1,(.int .i64 0),x8] h fun i6 h=>AO i6 0 fun i7=>AO i6 1 fun i8=>LH .not i8 fun j0=>AK j0
 (Q (.bool false) h)
 (Call TP 14 [i7] h fun j2 h=>AQ (AG TP 40) 40 h fun a3 h=>AJ 1 a3 j2 h fun h=>Ab x0 fun j4=>ADH Q x0 i7 a3 x0 j4 (.int .i64 0) h))
def ADN (Q:Kt)(x0 x1 d3 d4 x8 d5:Value)(h:H):Prop:=Bx (fun r3 x8 d5 h=>ADF Q r3 x0 x1 d3 d4 x8 d5 h) x8 d5 h
def AEJ (Q:Kt)(x0 x1:Value)(h:H):Prop:=
 AH (.arr 24) 32 (AG TP 32) 24 0 [] h fun d2 h=>Ab x0 fun d4=>ADN Q x0 x1 x0 d4 d2 (.int .i64 0) h
def AEX (Q:Kt)(r4:R2)(x0 x1 b4 b5 x5 b6:Value)(h:H):Prop:=
 AD .lss b6 b5 fun b7=>AK b7
 (AI (.slice 1) b4 b6 fun b8=>AB false 1 b8 h fun b9=>Ab b9 fun c2=>AD .add x5 c2 fun c3=>AD .add b6 (.int .i64 1) fun c4=>r4 c3 c4 h)
 (Ab x0 fun c6=>AD .gtr c6 (.int .i64 60) fun c7=>Az c7 false (AD .gtr x5 (.int .i64 300000) fun d0=>AK d0
 (Q (.bool true) h)
 (AEJ Q x0 x1 h)) (Q (.bool true) h))
def AEw (Q:Kt)(x0 x1 b4 b5 x5 b6:Value)(h:H):Prop:=Bx (fun r4 x5 b6 h=>AEX Q r4 x0 x1 b4 b5 x5 b6 h) x5 b6 h
def f6 (x0 x1:Value)(h:H)(Q:Kt):Prop:=
 Call TP 26 [x0] h fun b2 h=>LH .not b2 fun b3=>AK b3
 (Q (.bool true) h)
 (Ab x0 fun b5=>AEw Q x0 x1 x0 b5 (.int .i64 0) (.int .i64 0) h)
end
section
variable {h:H} {k:Value→Prop} {kt Q:Kt} {x y z r:Res}
attribute [local irreducible] AK Az AQ BB Ae AY AH AM
def BV:List Bs→Bs→Nat
 | [],_=>0
 | a::l,nm=>if Op.bytesLess a nm=true then BV l nm+1 else 0
theorem EI:∀ (l:List Bs) (nm:Bs),BV l nm≤l.length
 | [],_=>A07 _
 | a::l,nm=>by
  have:=EI l nm
  rw[BV,A19]
  split<;>omega
theorem NX {l:List Bs}{i:Nat}{a:Bs}(h:l[i]? = some a):(strs l)[i]? = some (str a):=Gf h
theorem Ov {l:List Bs}{nm a:Bs}{i:Nat}(h:l[i]? = some a):BV (l.drop i) nm=if Op.bytesLess a nm=true then BV (l.drop (i+1)) nm+1 else 0:=by
 obtain⟨hi,e⟩:=A02.1 h
 rw[A50 hi,BV,e]
section
variable {cs:List Value} {nv kv:Value} {names:List Bs} {nm:Bs} {b2:Nat}
theorem s50 (hcs:cs[16]? = some nv)(d:RdV 1 nv names.length (strs names) x)(hl:names.length<1000000000)(w:AN x h)
  (K:∀ y h,AN (y+x) h→Q (.tuple #[.int .i64 (BV names nm:Nat),.bool (decide (names[BV names nm]? = some nm))]) h):f50 (.agg ⟨cs⟩) (str nm) h Q:=by
 obtain⟨⟨va,vc,hv⟩,_⟩:=d.len
 unfold f50
 refine BJ w fun b2 h w=>?_
 have w:AN (pts b2 (.cells ⟨cs⟩ 63 (0,0))+x) h:=w
 have g16:(⟨cs⟩:Array Value)[16]? = some nv:=by simpa using hcs
 have ff:∀ (o:Nat) (k:Value→Prop),AC o (Pt b2) k=k (.pointer (some ⟨b2,o,none⟩)):=fun o k=>by simp only[go_sem]
 have j1:∀ i,i≤names.length→BV names nm=i→Pc Q (str nm) (Pt b2) (.int .i64 (i:Nat)) h:=by
  intro i hi hp
  unfold Pc
  rw[ff]
  refine AW w g16 ?_
  rw[hv,Aw,AT]
  refine C3 (fun hc=>?_) (fun hc=>?_)
  ·have hil:i<names.length:=by omega
   have hg:names[i]? = some names[i]:=A00 hil
   rw[ff]
   refine AW w g16 ?_
   refine (d.addR:RdV 1 nv names.length (strs names) (_+x)).get w (NX hg) ?_
   rw[NZ]
   have:=K (pts b2 (.cells ⟨cs⟩ 63 (0,0))) h w
   rw[hp,hg] at this
   have e:decide (some names[i]=some nm)=decide (names[i]=nm):=decide_eq_decide.2 (by simp)
   rw[e] at this
   exact this
  ·have:=K (pts b2 (.cells ⟨cs⟩ 63 (0,0))) h w
   rw[hp,A40 (by omega)] at this
   exact this
 unfold AA2
 refine Ba (fun m u h'=>∃ i,m+i=names.length∧u=.int .i64 (i:Nat)∧h'=h∧BV names nm=i+BV (names.drop i) nm) names.length ⟨0,rfl,rfl,rfl,by rw[A68,A29]⟩ ?_
 rintro rec m u h' ⟨i,hi,rfl,rfl,hp⟩ hrec
 unfold W8
 rw[ff]
 refine AW w g16 ?_
 rw[hv,Aw,AT]
 refine C3 (fun hc=>?_) (fun hc=>?_)
 ·have hil:i<names.length:=by omega
  have hg:names[i]? = some names[i]:=A00 hil
  rw[ff]
  refine AW w g16 ?_
  refine (d.addR:RdV 1 nv names.length (strs names) (_+x)).get w (NX hg) ?_
  rw[SC]
  rw[Ov hg] at hp
  cases hb:Op.bytesLess names[i] nm with
  | true=>
   rw[hb,A03 rfl] at hp
   rw[Ak,BN (n:=1),Ci (by omega)]
   exact hrec (m-1) _ _ ⟨i+1,by omega,rfl,rfl,by omega⟩ (by omega)
  | false=>
   rw[hb,A05 (by decide),A58] at hp
   rw[AU]
   exact j1 i (by omega) hp
 ·have:i=names.length:=by omega
  subst this
  rw[B15] at hp
  exact j1 _ (A07 _) hp
def ints (l:List Nat):List Value:=l.map fun n=>.int .i64 (n:Nat)
theorem SD {l:List Nat}{i n:Nat}(h:l[i]? = some n):(ints l)[i]? = some (.int .i64 (n:Nat)):=by unfold ints;rw[A21,h];rfl
def kidL (ks:List (Bs×Nat))(nm:Bs):Option Nat:=match ks[BV (ks.map (·.1)) nm]? with|some e=>if e.1=nm then some e.2 else none|none=>none
variable {ks:List (Bs×Nat)}
theorem s20 (hcs:cs[16]? = some nv)(hcs2:cs[17]? = some kv)(hcl:cs.length=18)(d:RdV 1 nv ks.length (strs (ks.map (·.1))) x)(d2:RdV 1 kv ks.length (ints (ks.map (·.2))) x)(hl:ks.length<1000000000)(w:AN x h)
  (K:∀ y h,AN (y+x) h→Q (match kidL ks nm with|some n=>.tuple #[.int .i64 (n:Nat),.bool true]|none=>.tuple #[.int .i64 0,.bool false]) h):f20 (.agg ⟨cs⟩) (str nm) h Q:=by
 unfold f20
 refine BJ w fun b2 h w=>?_
 have w:AN (pts b2 (.cells ⟨cs⟩ 63 (0,0))+x) h:=w
 have ff:∀ (o:Nat) (k:Value→Prop),AC o (Pt b2) k=k (.pointer (some ⟨b2,o,none⟩)):=fun o k=>by simp only[go_sem]
 refine Cj w hcl ?_
 refine Xl _ _ _ _ (s50 (names:=ks.map (·.1)) (nm:=nm) (x:=pts b2 (.cells ⟨cs⟩ 63 (0,0))+x) hcs (by rw[A25];exact d.addR) (by rw[A25];exact hl) w fun y h w=>?_)
 rw[DA,DH,F1]
 have hle:=EI (ks.map (·.1)) nm
 rw[A21]
 cases hg:ks[BV (ks.map (·.1)) nm]? with
 | none=>
  have hk:kidL ks nm=none:=by unfold kidL;rw[hg]
  rw[hk] at K
  have e:decide ((none:Option (Bs×Nat)).map (·.1)=some nm)=false:=rfl
  rw[e,B44,Ak]
  exact K (y+pts b2 (.cells ⟨cs⟩ 63 (0,0))) h (w.cast (by ac_rfl))
 | some e=>
  have e1:decide ((some e).map (·.1)=some nm)=decide (e.1=nm):=decide_eq_decide.2 (by simp)
  rw[e1]
  by_cases hn:e.1=nm
  ·rw[A04 hn,A91,AU,ff]
   have hk:kidL ks nm=some e.2:=by unfold kidL;rw[hg];exact A03 hn
   have K':=K
   rw[hk] at K'
   have g17:(⟨cs⟩:Array Value)[17]? = some kv:=by simpa using hcs2
   refine AW w g17 ?_
   refine (d2.addR.addR:RdV 1 kv ks.length (ints (ks.map (·.2))) (y+(_+x))).get w (SD (by rw[A21,hg];rfl)) ?_
   exact K' (y+pts b2 (.cells ⟨cs⟩ 63 (0,0))) h (w.cast (by ac_rfl))
  ·rw[A08 hn,B44,Ak]
   have hk:kidL ks nm=none:=by unfold kidL;rw[hg];exact A05 hn
   have K':=K
   rw[hk] at K'
   exact K' (y+pts b2 (.cells ⟨cs⟩ 63 (0,0))) h (w.cast (by ac_rfl))
theorem s31 {m:Nat}{cs:List Value}(hcs:cs[0]? = some (.int .u16 (m:Nat)))(hm:m<65536)(w:AN x h)(K:∀ y h,AN (y+x) h→Q (.int .u16 (kindB m:Nat)) h):f31 (.agg ⟨cs⟩) h Q:=by
 unfold f31
 refine BJ w fun b2 h w=>?_
 have w:AN (pts b2 (.cells ⟨cs⟩ 63 (0,0))+x) h:=w
 have ff:∀ (o:Nat) (k:Value→Prop),AC o (Pt b2) k=k (.pointer (some ⟨b2,o,none⟩)):=fun o k=>by simp only[go_sem]
 have g0:(⟨cs⟩:Array Value)[0]? = some (.int .u16 (m:Nat)):=by simpa using hcs
 rw[ff]
 refine AW w g0 ?_
 rw[Jk hm (by decide)]
 exact K _ h w
def FB (ks:List (Bs×Nat))(nm:Bs)(n:Nat):List (Bs×Nat):=
 ks.take (BV (ks.map (·.1)) nm)++[(nm,n)]++ks.drop (BV (ks.map (·.1)) nm+if (ks.map (·.1))[BV (ks.map (·.1)) nm]? = some nm then 1 else 0)
end
end
section
variable {h:H} {k:Value→Prop} {kt Q:Kt} {x y z r:Res}
attribute [local irreducible] AK Az AQ BB Ae AY AH AM
theorem Lr {α:Type}{f:α→Value}{l:List α}{v:Value}{n i:Nat}{kk:IntKind}(d:RdV 1 v n (l.map f) x)(hi:i≤n)(K:∀ v',RdV 1 v' i ((l.take i).map f) x→k v'):AZ (.slice 1) v none (some (.int kk (i:Int))) k:=by
 refine d.slice (i:=0) (j:=i) rfl BA (A39 _) hi fun v' d'=>K v' ?_
 simp only[B35,A67,A92,A68] at d'
 rw[B11];exact d'
theorem MD {α:Type}{f:α→Value}{l:List α}{v:Value}{n i:Nat}{kk:IntKind}(d:RdV 1 v n (l.map f) x)(hi:i≤n)(K:∀ v',RdV 1 v' (n-i) ((l.drop i).map f) x→k v'):AZ (.slice 1) v (some (.int kk (i:Int))) none k:=by
 have hl:=d.len.2
 refine d.slice (i:=i) (j:=n) BA rfl hi (A07 _) fun v' d'=>K v' ?_
 rw[A67,A67,A43 (by omega)] at d'
 rw[List.map_drop];exact d'
theorem Ko:AG TP 63=some (.agg ⟨[.int .u16 0,.int .u32 0,.int .u32 0,.int .i64 0,.int .i64 0,.int .i64 0,.int .i64 0,.int .i64 0,.int .i64 0,.int .i64 0,.int .i64 0,.int .u32 0,.int .u32 0,.slice none 0 0,str [],.slice none 0 0,.slice none 0 0,.slice none 0 0]⟩):=by kernel_rfl
theorem OT (l:List Nat):(ints l).all Value.oneCell'=true:=by
 unfold ints
 rw[List.all_map,B10]
 intro a _;rfl
theorem XY (ks:List (Bs×Nat))(nm:Bs)(n:Nat):(FB ks nm n).length≤ks.length+1:=by
 have:=EI (ks.map (·.1)) nm
 rw[A25] at this
 unfold FB
 simp only[A01,A20,A27,A57]
 omega
section
variable {cs z18:List Value} {nv kv:Value} {ks:List (Bs×Nat)} {nm:Bs} {b3 b6 i j n:Nat}
theorem AEg {x9 x10:Value}{r9 r10:Res}{ns:List Bs}{is:List Nat}(hcl:cs.length=18)(h16:cs[16]? = some nv)(h17:cs[17]? = some kv)(hone:cs.all Value.oneCell'=true)(hz:z18.length=18)(d:RdV 1 nv ks.length (strs (ks.map (·.1))) x)(d2:RdV 1 kv ks.length (ints (ks.map (·.2))) x)(hl:ks.length<1000000000)
  (hj:j≤ks.length) (hi:i≤ks.length+1) (a9:Vec 9 1 x9 i (strs ns) r9) (a10:Vec 3 1 x10 i (ints is) r10)
  (w:AN (r9+(r10+(pts b3 (.cells ⟨cs⟩ 63 (0,0))+(pts b6 (.cells ⟨z18⟩ 63 (0,0))+x)))) h)
  (K:∀ nv' kv' y h,RdV 1 nv' (i+(ks.length-j)) (strs (ns++(ks.drop j).map (·.1))) y→RdV 1 kv' (i+(ks.length-j)) (ints (is++(ks.drop j).map (·.2))) y→AN (y+x) h→Q (.agg ⟨(cs.set 16 nv').set 17 kv'⟩) h) :
  Ls Q (Pt b3) (Pt b6) (.int .i64 (j:Nat)) x9 x10 h:=by
 have g16:(⟨cs⟩:Array Value)[16]? = some nv:=by simpa using h16
 have g17:(⟨cs⟩:Array Value)[17]? = some kv:=by simpa using h17
 have ff:∀ (b o:Nat) (k:Value→Prop),AC o (Pt b) k=k (.pointer (some ⟨b,o,none⟩)):=fun b o k=>by simp only[go_sem]
 unfold Ls
 rw[ff]
 refine AW w g16 ?_
 refine MD (f:=str) d hj fun s9 e9=>?_
 rw[ff]
 refine AW w g17 ?_
 refine MD (f:=fun n:Nat=>Value.int .i64 (n:Nat)) d2 hj fun s10 e10=>?_
 have e9':RdV 1 s9 (ks.length-j) (strs ((ks.drop j).map (·.1))) x:=by rw[List.map_drop];exact e9
 have e10':RdV 1 s10 (ks.length-j) (ints ((ks.drop j).map (·.2))) x:=by rw[List.map_drop];exact e10
 refine CA a9 e9'.addR.addR.addR w Ho rfl (by omega) (by omega) (Pi _) fun v9 q9 h a9 w=>?_
 refine And.intro (AW w g17 rfl) ?_
 rw[ff]
 have k1:∀ A B C D X:Res,A+(B+(C+(D+X)))=B+(A+(C+(D+X))):=by intros;ac_rfl
 refine CA a10 e10'.addR.addR.addR (w.cast (k1 _ _ _ _ _)) HL rfl (by omega) (by omega) (OT _) fun v10 q10 h a10 w=>?_
 obtain⟨⟨va,vc,hv9⟩,_⟩:=a9.len
 obtain⟨⟨vb,vd,hv10⟩,_⟩:=a10.len
 have ss:∀ (l:List Value) (o:Nat) (u:Value),Ai ⟨l⟩ o [u]=⟨l.set o u⟩:=fun l o u=>by rw[A2];rfl
 refine AL w ⟨cs.set 16 v9⟩ (by rw[hv9];exact ss _ _ _) (by rw[hv9];rfl) (by simp;omega) (by rw[hv9];rfl) fun h w=>?_
 rw[ff]
 refine AL w ⟨(cs.set 16 v9).set 17 v10⟩ (by rw[hv10];exact ss _ _ _) (by rw[hv10];rfl) (by simp;omega) (by rw[hv10];rfl) fun h w=>?_
 have hl2:((cs.set 16 v9).set 17 v10).length=18:=by simp;exact hcl
 refine Cj w hl2 ?_
 have hone2:((cs.set 16 v9).set 17 v10).all Value.oneCell'=true:=by
  rw[B10] at hone ⊢
  intro a ha
  rcases List.mem_or_eq_of_mem_set ha with h1|h1
  ·rcases List.mem_or_eq_of_mem_set h1 with h2|h2
   ·exact hone a h2
   ·rw[h2,hv9];rfl
  ·rw[h1,hv10];rfl
 have hfull:Ai (⟨z18⟩:Array Value) 0 (Value.agg ⟨(cs.set 16 v9).set 17 v10⟩).cells.toList=⟨(cs.set 16 v9).set 17 v10⟩:=Ar (by show ((cs.set 16 v9).set 17 v10).length=z18.toArray.size;rw[A31];omega)
 refine AL w ⟨(cs.set 16 v9).set 17 v10⟩ hfull (by show ((cs.set 16 v9).set 17 v10).toArray.size=18;rw[A31];exact hl2) (by show 0+18≤z18.toArray.size;rw[A31];omega) hone2 fun h w=>?_
 refine Cj w hl2 ?_
 have hs:strs ns++strs ((ks.drop j).map (·.1))=strs (ns++(ks.drop j).map (·.1)):=by unfold strs;rw[A36]
 have hi2:ints is++ints ((ks.drop j).map (·.2))=ints (is++(ks.drop j).map (·.2)):=by unfold ints;rw[A36]
 rw[hs] at a9
 rw[hi2] at a10
 have k2:∀ A B C D X:Res,A+(B+(C+(D+X)))=((A+B)+(C+D))+X:=by intros;ac_rfl
 exact K v9 v10 _ h a9.rdv.addR.addL a10.rdv.addL.addL (w.cast (k2 _ _ _ _ _))
theorem AGV {x9 x10:Value}{r9 r10:Res}{has:Bool}(hcl:cs.length=18)(h16:cs[16]? = some nv)(h17:cs[17]? = some kv)(hone:cs.all Value.oneCell'=true)(hz:z18.length=18)(d:RdV 1 nv ks.length (strs (ks.map (·.1))) x)(d2:RdV 1 kv ks.length (ints (ks.map (·.2))) x)(hl:ks.length<1000000000)
  (hi:i≤ks.length) (hh:has=true→i<ks.length) (a9:Vec 9 1 x9 i (strs ((ks.take i).map (·.1))) r9) (a10:Vec 3 1 x10 i (ints ((ks.take i).map (·.2))) r10)
  (w:AN (r9+(r10+(pts b3 (.cells ⟨cs⟩ 63 (0,0))+(pts b6 (.cells ⟨z18⟩ 63 (0,0))+x)))) h)
  (K:∀ nv' kv' ks' y h,ks'=ks.take i++[(nm,n)]++ks.drop (i+if has=true then 1 else 0)→RdV 1 nv' ks'.length (strs (ks'.map (·.1))) y→RdV 1 kv' ks'.length (ints (ks'.map (·.2))) y→AN (y+x) h→Q (.agg ⟨(cs.set 16 nv').set 17 kv'⟩) h) :
  LO Q (str nm) (.int .i64 (n:Nat)) (Pt b3) (Pt b6) (.int .i64 (i:Nat)) (.bool has) x9 x10 h:=by
 have main:∀ (j:Nat) (v9 v10:Value) (q9 q10:Res) (h:H),j=i+(if has=true then 1 else 0)→Vec 9 1 v9 (i+1) (strs ((ks.take i).map (·.1)++[nm])) q9→Vec 3 1 v10 (i+1) (ints ((ks.take i).map (·.2)++[n])) q10→AN (q9+(q10+(pts b3 (.cells ⟨cs⟩ 63 (0,0))+(pts b6 (.cells ⟨z18⟩ 63 (0,0))+x)))) h→Ls Q (Pt b3) (Pt b6) (.int .i64 (j:Nat)) v9 v10 h:=by
  intro j v9 v10 q9 q10 h hj a9 a10 w
  have hjl:j≤ks.length:=by
   rw[hj]
   split
   ·rename_i hb;have:=hh hb;omega
   ·omega
  have hlen:(ks.take i++[(nm,n)]++ks.drop j).length=i+1+(ks.length-j):=by simp;omega
  have e1:(ks.take i++[(nm,n)]++ks.drop j).map (·.1)=(ks.take i).map (·.1)++[nm]++(ks.drop j).map (·.1):=by rw[A36,A36];rfl
  have e2:(ks.take i++[(nm,n)]++ks.drop j).map (·.2)=(ks.take i).map (·.2)++[n]++(ks.drop j).map (·.2):=by rw[A36,A36];rfl
  refine AEg hcl h16 h17 hone hz d d2 hl hjl (by omega) a9 a10 w fun nv' kv' y h c1 c2 w=>?_
  exact K nv' kv' (ks.take i++[(nm,n)]++ks.drop j) y h (by rw[hj]) (by rw[hlen,e1];exact c1) (by rw[hlen,e2];exact c2) w
 unfold LO
 refine EY a9 w Ho rfl rfl rfl (by omega) (by omega) fun v9 q9 h a9 w=>?_
 have k1:∀ A B C D X:Res,A+(B+(C+(D+X)))=B+(A+(C+(D+X))):=by intros;ac_rfl
 refine EY a10 (w.cast (k1 _ _ _ _ _)) HL rfl rfl rfl (by omega) (by omega) fun v10 q10 h a10 w=>?_
 have a9':Vec 9 1 v9 (i+1) (strs ((ks.take i).map (·.1)++[nm])) q9:=by unfold strs at a9 ⊢;rw[A36];exact a9
 have a10':Vec 3 1 v10 (i+1) (ints ((ks.take i).map (·.2)++[n])) q10:=by unfold ints at a10 ⊢;rw[A36];exact a10
 cases has with
 | true=>
  rw[Ak,BN (n:=1),Ci (by omega)]
  exact main (i+1) _ _ _ _ h rfl a9' a10' (w.cast (k1 _ _ _ _ _))
 | false=>
  rw[AU]
  exact main i _ _ _ _ h rfl a9' a10' (w.cast (k1 _ _ _ _ _))
set_option maxRecDepth 20000 in
theorem s46 (hcl:cs.length=18)(h16:cs[16]? = some nv)(h17:cs[17]? = some kv)(hone:cs.all Value.oneCell'=true)(d:RdV 1 nv ks.length (strs (ks.map (·.1))) x)(d2:RdV 1 kv ks.length (ints (ks.map (·.2))) x)(hl:ks.length<1000000000)(w:AN x h)
  (K:∀ nv' kv' y h,RdV 1 nv' (FB ks nm n).length (strs ((FB ks nm n).map (·.1))) y→RdV 1 kv' (FB ks nm n).length (ints ((FB ks nm n).map (·.2))) y→AN (y+x) h→Q (.agg ⟨(cs.set 16 nv').set 17 kv'⟩) h) :
  f46 (.agg ⟨cs⟩) (str nm) (.int .i64 (n:Nat)) h Q:=by
 unfold f46
 refine BJ w fun b3 h w=>?_
 have w:AN (pts b3 (.cells ⟨cs⟩ 63 (0,0))+x) h:=w
 refine Ah w Ko rfl fun b6 h w=>?_
 obtain⟨z18,hz18⟩:∃ l:List Value,l=[.int .u16 0,.int .u32 0,.int .u32 0,.int .i64 0,.int .i64 0,.int .i64 0,.int .i64 0,.int .i64 0,.int .i64 0,.int .i64 0,.int .i64 0,.int .u32 0,.int .u32 0,.slice none 0 0,str [],.slice none 0 0,.slice none 0 0,.slice none 0 0]:=⟨_,rfl⟩
 rw[←hz18] at w
 have hz:z18.length=18:=by rw[hz18];rfl
 clear hz18
 have g16:(⟨cs⟩:Array Value)[16]? = some nv:=by simpa using h16
 have g17:(⟨cs⟩:Array Value)[17]? = some kv:=by simpa using h17
 have ff:∀ (b o:Nat) (k:Value→Prop),AC o (Pt b) k=k (.pointer (some ⟨b,o,none⟩)):=fun b o k=>by simp only[go_sem]
 refine Cj w hcl ?_
 refine Xl _ _ _ _ (s50 (names:=ks.map (·.1)) (nm:=nm) h16 (by rw[A25];exact d.addR.addR) (by rw[A25];exact hl) w fun y h w=>?_)
 rw[DA,DH]
 obtain⟨i,hi⟩:∃ i,BV (ks.map (·.1)) nm=i:=⟨_,rfl⟩
 obtain⟨has,hhas⟩:∃ has:Bool,decide ((ks.map (·.1))[BV (ks.map (·.1)) nm]? = some nm)=has:=⟨_,rfl⟩
 have hil:i≤ks.length:=by
  have:=EI (ks.map (·.1)) nm
  rw[A25] at this
  omega
 have hh:has=true→i<ks.length:=fun hb=>by
  rw[hb] at hhas
  have h1:=of_decide_eq_true hhas
  have:=(A02.1 h1).1
  rw[A25] at this
  omega
 have hins:FB ks nm n=ks.take i++[(nm,n)]++ks.drop (i+if has=true then 1 else 0):=by
  unfold FB
  rw[hi] at hhas ⊢
  congr 3
  by_cases hc:(ks.map (·.1))[i]? = some nm
  ·rw[A03 hc,←hhas,A03 (A04 hc)]
  ·rw[A05 hc,←hhas,A05 (by simpa using hc)]
 rw[hhas,hi]
 have K2:∀ nv' kv' ks' y' h,ks'=ks.take i++[(nm,n)]++ks.drop (i+if has=true then 1 else 0)→RdV 1 nv' ks'.length (strs (ks'.map (·.1))) y'→RdV 1 kv' ks'.length (ints (ks'.map (·.2))) y'→AN (y'+(y+x)) h→Q (.agg ⟨(cs.set 16 nv').set 17 kv'⟩) h:=fun nv' kv' ks' y' h he c1 c2 w=>by
  rw[←hins] at he
  subst he
  exact K nv' kv' (y'+y) h c1.addL c2.addL (w.cast (Res.assoc _ _ _).symm)
 have k0:∀ Y B6 B3 X:Res,Y+(B6+(B3+X))=B3+(B6+(Y+X)):=by intros;ac_rfl
 have w:=w.cast (k0 _ _ _ _)
 rw[ff]
 refine AW w g16 ?_
 refine Lr (f:=str) (x:=y+x) (d.addR:RdV 1 nv ks.length (strs (ks.map (·.1))) (y+x)) hil fun s9 e9=>?_
 rw[ff]
 refine AW w g17 ?_
 refine Lr (f:=fun n:Nat=>Value.int .i64 (n:Nat)) (x:=y+x) (d2.addR:RdV 1 kv ks.length (ints (ks.map (·.2))) (y+x)) hil fun s10 e10=>?_
 have e9':RdV 1 s9 i (strs ((ks.take i).map (·.1))) (y+x):=by rw[B11];exact e9
 have e10':RdV 1 s10 i (ints ((ks.take i).map (·.2))) (y+x):=by rw[B11];exact e10
 have fin:∀ (v9 v10:Value) (q9 q10:Res) (h:H),Vec 9 1 v9 i (strs ((ks.take i).map (·.1))) q9→Vec 3 1 v10 i (ints ((ks.take i).map (·.2))) q10→AN (q9+(q10+(pts b3 (.cells ⟨cs⟩ 63 (0,0))+(pts b6 (.cells ⟨z18⟩ 63 (0,0))+(y+x))))) h→LO Q (str nm) (.int .i64 (n:Nat)) (Pt b3) (Pt b6) (.int .i64 (i:Nat)) (.bool has) v9 v10 h:=fun v9 v10 q9 q10 h a9 a10 w=>AGV hcl h16 h17 hone hz d.addR d2.addR hl hil hh a9 a10 w K2
 have k1:∀ A B C D X:Res,A+(B+(C+(D+X)))=B+(A+(C+(D+X))):=by intros;ac_rfl
 have one9:=Pi ((ks.take i).map (·.1))
 have one3:=OT ((ks.take i).map (·.2))
 have nil9:∀ l,strs []++strs l=strs l:=fun l=>rfl
 have nil3:∀ l,ints []++ints l=ints l:=fun l=>rfl
 have z0:0+i=i:=A29 i
 refine And.intro ?_ ?_
 ·refine Dg w Ho fun v9 q9 h a9 w=>?_
  refine⟨AW w g16 rfl,AW w g17 rfl,?_,?_⟩
  ·refine CA a9 e9'.addR.addR w Ho rfl (by omega) (by omega) one9 fun v9 q9 h a9 w=>?_
   rw[z0] at a9
   refine⟨AW w g17 rfl,?_⟩
   refine Dg w HL fun v10 q10 h a10 w=>?_
   refine⟨AW w g17 rfl,?_⟩
   refine CA a10 e10'.addR.addR.addR w HL rfl (by omega) (by omega) one3 fun v10 q10 h a10 w=>?_
   rw[z0] at a10
   exact fin _ _ _ _ h a9 a10 (w.cast (k1 _ _ _ _ _))
  ·refine Dg w HL fun v10 q10 h a10 w=>?_
   refine⟨AW w g16 rfl,AW w g17 rfl,?_⟩
   refine CA a9 e9'.addR.addR.addR (w.cast (k1 _ _ _ _ _)) Ho rfl (by omega) (by omega) one9 fun v9 q9 h a9 w=>?_
   rw[z0] at a9
   refine⟨AW w g17 rfl,?_⟩
   refine CA a10 e10'.addR.addR.addR (w.cast (k1 _ _ _ _ _)) HL rfl (by omega) (by omega) one3 fun v10 q10 h a10 w=>?_
   rw[z0] at a10
   exact fin _ _ _ _ h a9 a10 (w.cast (k1 _ _ _ _ _))
 ·refine Dg w HL fun v10 q10 h a10 w=>?_
  refine⟨AW w g16 rfl,AW w g17 rfl,?_⟩
  refine Dg w Ho fun v9 q9 h a9 w=>?_
  refine⟨AW w g16 rfl,AW w g17 rfl,?_⟩
  refine CA a9 e9'.addR.addR.addR w Ho rfl (by omega) (by omega) one9 fun v9 q9 h a9 w=>?_
  rw[z0] at a9
  refine⟨AW w g17 rfl,?_⟩
  refine CA a10 e10'.addR.addR.addR (w.cast (k1 _ _ _ _ _)) HL rfl (by omega) (by omega) one3 fun v10 q10 h a10 w=>?_
  rw[z0] at a10
  exact fin _ _ _ _ h a9 a10 (w.cast (k1 _ _ _ _ _))
end
end
section
variable {h:H} {k:Value→Prop} {kt Q:Kt} {x y z r:Res} {v:VS}
structure TN where
 X:XN
 data:Bs
 link:Bs
 ks:List (Bs×Nat)
def TN.cells (t:TN)(dv xv nv kv:Value):List Value:=
 [.int .u16 (t.X.mode:Nat),.int .u32 (t.X.uid:Nat),.int .u32 (t.X.gid:Nat)]++(BY t.X.at_++BY t.X.ct++BY t.X.mt++BY t.X.cr)++[.int .u32 (t.X.major:Nat),.int .u32 (t.X.minor:Nat),dv,str t.link,xv,nv,kv]
section
variable {t:TN} {dv xv nv kv u:Value}
theorem TN.len:(t.cells dv xv nv kv).length=18:=rfl
theorem TN.g0:(t.cells dv xv nv kv)[0]? = some (.int .u16 (t.X.mode:Nat)):=rfl
theorem TN.g1:(t.cells dv xv nv kv)[1]? = some (.int .u32 (t.X.uid:Nat)):=rfl
theorem TN.g13:(t.cells dv xv nv kv)[13]? = some dv:=rfl
theorem TN.g14:(t.cells dv xv nv kv)[14]? = some (str t.link):=rfl
theorem TN.g16:(t.cells dv xv nv kv)[16]? = some nv:=rfl
theorem TN.g17:(t.cells dv xv nv kv)[17]? = some kv:=rfl
theorem TN.set_ {r':Value}{l':List (Bs×Nat)}:((t.cells dv xv nv kv).set 16 u).set 17 r' = {t with ks:=l' }.cells dv xv u r':=rfl
theorem TN.s13 {l':Bs}:(t.cells dv xv nv kv).set 13 u = {t with data:=l' }.cells u xv nv kv:=rfl
theorem TN.s14 {bs:Bs}:(t.cells dv xv nv kv).set 14 (str bs) = {t with link:=bs}.cells dv xv nv kv:=rfl
theorem TN.one {a b c d:Option Addr}{n1 n2 n3 n4 c1 c2 c3 c4:Nat}:(t.cells (.slice a n1 c1) (.slice b n2 c2) (.slice c n3 c3) (.slice d n4 c4)).all Value.oneCell'=true:=rfl
theorem XN.e8 {X:XN}{cv ev xv:Value}:(⟨X.cells cv ev xv⟩:Array Value).extract 8 (8+2)=⟨BY X.at_⟩:=rfl
theorem XN.e10 {X:XN}{cv ev xv:Value}:(⟨X.cells cv ev xv⟩:Array Value).extract 10 (10+2)=⟨BY X.ct⟩:=rfl
theorem XN.e12 {X:XN}{cv ev xv:Value}:(⟨X.cells cv ev xv⟩:Array Value).extract 12 (12+2)=⟨BY X.mt⟩:=rfl
theorem XN.e14 {X:XN}{cv ev xv:Value}:(⟨X.cells cv ev xv⟩:Array Value).extract 14 (14+2)=⟨BY X.cr⟩:=rfl
theorem XN.g2 {X:XN}{cv ev xv:Value}:(⟨X.cells cv ev xv⟩:Array Value)[2]? = some (.int .u32 (X.uid:Nat)):=rfl
theorem XN.g3 {X:XN}{cv ev xv:Value}:(⟨X.cells cv ev xv⟩:Array Value)[3]? = some (.int .u32 (X.gid:Nat)):=rfl
theorem XN.g16 {X:XN}{cv ev xv:Value}:(⟨X.cells cv ev xv⟩:Array Value)[16]? = some (.int .u32 (X.major:Nat)):=rfl
theorem XN.g17 {X:XN}{cv ev xv:Value}:(⟨X.cells cv ev xv⟩:Array Value)[17]? = some (.int .u32 (X.minor:Nat)):=rfl
theorem Ul {X:XN}:DC (Br (.struct [(0,1),(1,1),(2,1),(3,2),(5,2),(7,2),(9,2),(11,1),(12,1),(13,1),(14,1),(15,1),(16,1),(17,1)])) [.int .u16 0,.int .u32 0,.int .u32 0,.int .i64 0,.int .i64 0,.int .i64 0,.int .i64 0,.int .i64 0,.int .i64 0,.int .i64 0,.int .i64 0,.int .u32 0,.int .u32 0,.slice none 0 0,str [],.slice none 0 0,.slice none 0 0,.slice none 0 0]
  [(0,.int .u16 (X.mode:Nat)),(1,.int .u32 (X.uid:Nat)),(2,.int .u32 (X.gid:Nat)),(3,.agg ⟨BY X.at_⟩),(4,.agg ⟨BY X.ct⟩),(5,.agg ⟨BY X.mt⟩),(6,.agg ⟨BY X.cr⟩),(7,.int .u32 (X.major:Nat)),(8,.int .u32 (X.minor:Nat))]=some ((TN.mk X [] [] []).cells (.slice none 0 0) (.slice none 0 0) (.slice none 0 0) (.slice none 0 0)):=rfl
end
attribute [local irreducible] TN.cells
attribute [local irreducible] AK Az AQ BB Ae AY AH AM VS.cells XN.cells
inductive TreeV (x:Res):List Value→List TN→Prop
 | nil:TreeV x [] []
 | snoc {cs:List Value} {ts:List TN} {t:TN} {dv nv kv:Value}:TreeV x cs ts→RdX x dv t.data→RdV 1 nv t.ks.length (strs (t.ks.map (·.1))) x→RdV 1 kv t.ks.length (ints (t.ks.map (·.2))) x→TreeV x (cs++t.cells dv (.slice none 0 0) nv kv) (ts++[t])
theorem TreeV.mono:∀ {cs:List Value} {ts:List TN},TreeV x cs ts→TreeV (y+x) cs ts
 | _,_,.nil=>.nil
 | _,_,.snoc a b c d=>.snoc a.mono b.addR c.addR d.addR
theorem TreeV.addL {cs:List Value}{ts:List TN}(a:TreeV x cs ts):TreeV (x+y) cs ts:=by rw[Res.comm];exact a.mono
theorem TreeV.len:∀ {cs:List Value} {ts:List TN},TreeV x cs ts→cs.length=ts.length*18
 | _,_,.nil=>rfl
 | _,_,.snoc a _ _ _=>by
  have:=a.len
  rw[A01,A01,this,TN.len,A57];omega
theorem TreeV.get:∀ {cs:List Value} {ts:List TN} {i:Nat} {t:TN},TreeV x cs ts→ts[i]? = some t →
  ∃ dv nv kv,(cs.drop (i*18)).take 18=t.cells dv (.slice none 0 0) nv kv∧RdX x dv t.data∧RdV 1 nv t.ks.length (strs (t.ks.map (·.1))) x∧RdV 1 kv t.ks.length (ints (t.ks.map (·.2))) x
 | _,_,_,_,.nil,e=>by simp at e
 | _,_,i,t,.snoc (cs:=cs) (ts:=ts) (t:=t') (dv:=dv) (nv:=nv) (kv:=kv) a b c d,e=>by
  have hl:=a.len
  rcases A66 i ts.length with h1|h1
  ·rw[A18 h1] at e
   obtain⟨dv,nv,kv,e1,e2⟩:=a.get e
   refine⟨dv,nv,kv,?_,e2⟩
   rw[A52 (by omega),A24 (by rw[A27];omega)]
   exact e1
  ·rw[A17 h1] at e
   have h2:i-ts.length=0:=by
    rcases B25 (i-ts.length) with h3|h3
    ·exact h3
    ·rw[A40 (by simp;omega)] at e;cases e
   rw[h2,A51,A26] at e
   subst e
   refine⟨dv,nv,kv,?_,b,c,d⟩
   have:i*18=cs.length:=by omega
   rw[this,A83,A43 (by rw[TN.len];exact A07 _)]
def GC (os:List AA)(L:List Nat):List Nat:=(os.zipIdx).foldl (fun l p=>l.set p.1.X.num p.2) L
def Bi (N:Nat)(P:List Nat)(ks:List (Bs×Nat))(e:EN):List (Bs×Nat):=if e.1=[46]∨e.1=[46,46]∨N≤e.2.1 then ks else FB ks e.1 (P.getD e.2.1 0)
theorem MY (N:Nat)(P:List Nat)(ks:List (Bs×Nat))(e:EN):(Bi N P ks e).length≤ks.length+1:=by
 unfold Bi
 split
 ·omega
 ·exact XY _ _ _
def JK (N:Nat)(P:List Nat)(o:AA):TN:=⟨o.X,if kindL o.X.mode=1 then o.C else [],if kindL o.X.mode=7 then o.C else [],o.E.foldl (Bi N P) []⟩
section
variable {N b9 b3 b13:Nat} {P:List Nat} {t:TN} {dv nv kv x4:Value} {e:EN} {E:List EN} {rP rA:Res}
theorem AFJ {x2 x3 x44 x45 x46 x100 x101:Value}{rec1 rec2:Value→H→Prop}{i:Nat}(a4:Vec 3 1 x4 N (ints P) rP)(hPN:P.length=N)(hN:N<1000000)(hi:i<100000000)(he:e.2.1<4294967296)(hks:t.ks.length<100000000)
  (hdv:∃ a n c,dv=.slice a n c) (cn:RdV 1 nv t.ks.length (strs (t.ks.map (·.1))) (y+x)) (ck:RdV 1 kv t.ks.length (ints (t.ks.map (·.2))) (y+x))
  (w:AN (pts b13 (.cells ⟨e.cells⟩ 114 (0,0))+(pts b9 (.cells ⟨t.cells dv (.slice none 0 0) nv kv⟩ 63 (0,0))+(rP+(rA+(y+x))))) h)
  (K:∀ nv kv y h,RdV 1 nv (Bi N P t.ks e).length (strs ((Bi N P t.ks e).map (·.1))) (y+x)→RdV 1 kv (Bi N P t.ks e).length (ints ((Bi N P t.ks e).map (·.2))) (y+x)→AN (pts b9 (.cells ⟨{t with ks:=Bi N P t.ks e}.cells dv (.slice none 0 0) nv kv⟩ 63 (0,0))+(rP+(rA+(y+x)))) h→rec2 (.int .i64 (i+1:Nat)) h) :
  KL Q rec1 rec2 x2 x3 x4 (Pt b9) (Pt b13) x44 x45 x46 x100 x101 (.int .i64 (i:Nat)) (.bool (decide (¬(e.1=[46]∨e.1=[46,46]∨N≤e.2.1)))) h:=by
 have ff:∀ (b o:Nat) (k:Value→Prop),AC o (Pt b) k=k (.pointer (some ⟨b,o,none⟩)):=fun b o k=>by simp only[go_sem]
 have f1:∀ k:Value→Prop,AD .add (.int .i64 (i:Nat)) (.int .i64 1) k=k (.int .i64 (i+1:Nat)):=fun k=>by
  rw[BN (n:=1),Ci (by omega)]
 unfold KL
 refine AX (fun hc=>?_) (fun hc=>?_)
 ·have hst:Bi N P t.ks e=FB t.ks e.1 (P.getD e.2.1 0):=A05 hc
  rw[hst] at K
  have hlt:e.2.1<P.length:=by
   rcases A66 e.2.1 P.length with h1|h1
   ·exact h1
   ·exact absurd (.inr (.inr (by omega))) hc
  refine Cj (b:=b9) w TN.len ?_
  rw[ff]
  refine AW w (show (⟨e.cells⟩:Array Value)[0]? = some (str e.1) from rfl) ?_
  rw[ff]
  refine AW w (show (⟨e.cells⟩:Array Value)[1]? = some (.int .u64 (e.2.1:Nat)) from rfl) ?_
  have k1:∀ A B C D:Res,A+(B+(C+D))=C+(A+(B+D)):=by intros;ac_rfl
  have hg:P[e.2.1]? = some (P.getD e.2.1 0):=by rw[A10,A00 hlt];rfl
  refine Bu a4 (w.cast (k1 _ _ _ _)) (SD hg) ?_
  obtain⟨da,dn,dc,hdv⟩:=hdv
  obtain⟨⟨na,nc,hnv⟩,_⟩:=cn.len
  obtain⟨⟨ka,kc,hkv⟩,_⟩:=ck.len
  have k2:∀ A B C D Y X:Res,A+(B+(C+(D+(Y+X))))=(A+(B+(C+D)))+(Y+X):=by intros;ac_rfl
  have k3:∀ Y2 A B C D Y X:Res,Y2+((A+(B+(C+D)))+(Y+X))=B+(C+(D+((Y2+(A+Y))+X))):=by intros;ac_rfl
  refine AB4 _ _ _ _ _ (s46 (ks:=t.ks) (nm:=e.1) (n:=P.getD e.2.1 0) TN.len TN.g16 TN.g17 (by rw[hdv,hnv,hkv];exact TN.one) cn.addR ck.addR (by omega) (w.cast (k2 _ _ _ _ _ _)) fun nv' kv' y' h c1 c2 w=>?_)
  rw[TN.set_ (l':=FB t.ks e.1 (P.getD e.2.1 0))]
  obtain⟨⟨na',nc',hnv'⟩,_⟩:=c1.len
  obtain⟨⟨ka',kc',hkv'⟩,_⟩:=c2.len
  have w:=w.cast (k3 _ _ _ _ _ _ _)
  refine AL w ⟨({t with ks:=FB t.ks e.1 (P.getD e.2.1 0)}:TN).cells dv (.slice none 0 0) nv' kv'⟩ (Ar (by rw[A31,TN.len];exact TN.len)) (by show (List.toArray _).size=18;rw[A31];exact TN.len) (by rw[A31,TN.len];omega) (by rw[hdv,hnv',hkv'];exact TN.one) fun h w=>?_
  rw[f1]
  exact K nv' kv' _ h c1.addL.addL c2.addL.addL w
 ·have hst:Bi N P t.ks e=t.ks:=A03 (Decidable.not_not.1 hc)
  rw[hst] at K
  rw[f1]
  have k4:∀ A B C D Y X:Res,A+(B+(C+(D+(Y+X))))=B+(C+(D+((A+Y)+X))):=by intros;ac_rfl
  exact K nv kv _ h (by rw[Res.assoc];exact cn.addR) (by rw[Res.assoc];exact ck.addR) (w.cast (k4 _ _ _ _ _ _))
end
end
end Go.Proofs.YtollddkkdgoonaaGreatDoor
