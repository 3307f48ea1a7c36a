/- A part of a proof over images that are written and read. No condition; a step. -/
import Derived.Test.YtollddkkdgoonaaGreatDoorM25
namespace Go.Proofs.YtollddkkdgoonaaGreatDoor
open Go
set_option linter.unusedVariables false
set_option linter.unusedSimpArgs false
section
set_option maxRecDepth 100000
def AJW (Q:Kt)(r1:R1)(x0 x1 x7 a3 a4 m7 m8 m9:Value)(h:H):Prop:=
 AD .lss m9 m8 fun n0=>AK n0
 (AI (.slice 1) m7 m9 fun n2=>AB false 1 n2 h fun n3=>AC 0 a3 fun n5=>AB false 1 n5 h fun n6=>AI (.slice 18) n6 a4 fun n8=>AB true 18 n8 h fun n9=>Call TP 20 [n9,n3] h fun o1 h=>AO o1 0 fun o2=>AO o1 1 fun o3=>LH .not o3 fun o5=>Az o5 false (AC 0 a3 fun o7=>AB false 1 o7 h fun o8=>AI (.slice 18) o8 o2 fun p0=>AC 0 p0 fun p1=>AB false 1 p1 h fun p2=>AI (.slice 1) x1 m9 fun p5=>AB false 1 p5 h fun p6=>AD .rem p6 (.int .u8 4) fun p7=>AI (.arr 4 1) x7 p7 fun p8=>AB false 1 p8 h fun p9=>AD .or p9 (.int .u16 384) fun q0=>AD .neq p2 q0 fun q1=>Az q1 false (AC 0 a3 fun q4=>AB false 1 q4 h fun q5=>AI (.slice 18) q5 o2 fun q7=>AC 1 q7 fun q8=>AB false 1 q8 h fun q9=>AV .u32 m9 fun t1=>AD .neq q9 t1 fun t2=>Az t2 false (AC 0 a3 fun t5=>AB false 1 t5 h fun t6=>AI (.slice 18) t6 o2 fun t8=>AC 16 t8 fun t9=>AB false 1 t9 h fun v0=>Ab v0 fun v1=>AC 0 a3 fun v2=>AB false 1 v2 h fun v3=>AI (.slice 18) v3 o2 fun v5=>AC 13 v5 fun v6=>AB false 1 v6 h fun v7=>Ab v7 fun v8=>AD .add v1 v8 fun v9=>AD .gtr v9 (.int .i64 0) fun w0=>AK w0
 (Q (.bool false) h)
 (AD .add m9 (.int .i64 1) fun w2=>r1 w2 h)) (Q (.bool false) h)) (Q (.bool false) h)) (Q (.bool false) h))
 (AC 0 a3 fun w3=>AB false 1 w3 h fun w4=>Ab w4 fun w5=>Ab x0 fun w7=>AD .add w7 (.int .i64 3) fun w8=>AD .eql w5 w8 fun w9=>Q w9 h)
def AJY (Q:Kt)(x0 x1 x7 a3 a4 m7 m8 m9:Value)(h:H):Prop:=A1 (fun r1 m9 h=>AJW Q r1 x0 x1 x7 a3 a4 m7 m8 m9 h) m9 h
def AJb (Q:Kt)(x0 x1 x7 a3 a4:Value)(h:H):Prop:=
 Ab x0 fun m8=>AJY Q x0 x1 x7 a3 a4 x0 m8 (.int .i64 0) h
def AJZ (Q:Kt)(r2:R2)(x0 x1 x2 x7 d2 d3 x8 d4:Value)(h:H):Prop:=
 AD .lss d4 d3 fun d5=>AK d5
 (AI (.slice 1) d2 d4 fun d7=>AB false 1 d7 h fun d8=>AD .add (.string ⟨#[100,47]⟩) d8 fun g1=>AI (.slice 1) x1 d4 fun g4=>AB false 1 g4 h fun g5=>AD .rem g5 (.int .u8 4) fun g6=>AI (.arr 4 1) x7 g6 fun g7=>AB false 1 g7 h fun g8=>AD .or g8 (.int .u16 384) fun g9=>AV .u32 d4 fun i1=>Ae (.struct [(0,1),(1,1),(2,1),(3,1),(4,1),(5,3),(8,3),(11,3),(14,3),(17,1),(18,1),(19,1)]) (AG TP 28) [(2,g9),(3,i1)] fun i2=>Ae (.struct [(0,1),(1,1),(2,1),(3,20),(23,1)]) (AG TP 32) [(0,(.int .i64 0)),(1,g1),(3,i2)] fun i3=>AH (.arr 24) 32 (AG TP 32) 24 1 [(0,i3)] h fun i4 h=>AM 32 (AG TP 32) 24 232 x8 i4 h fun i5 h=>AD .add d4 (.int .i64 1) fun i6=>r2 i5 i6 h)
 (Call TP 13 [x2,(.int .i64 0),x8] h fun j0 h=>AO j0 0 fun j1=>AO j0 1 fun j2=>LH .not j2 fun j4=>AK j4
 (Q (.bool false) h)
 (Call TP 14 [j1] h fun j6 h=>AQ (AG TP 40) 40 h fun a3 h=>AJ 1 a3 j6 h fun h=>AB true 1 a3 h fun j8=>AH (.arr 1) 9 (AG TP 9) 1 1 [(0,(.string ⟨#[100]⟩))] h fun j9 h=>Call TP 15 [j8,j9] h fun k0 h=>AO k0 0 fun k1=>AO k0 1 fun k2=>LH .not k2 fun k4=>Az k4 false (AC 0 a3 fun k6=>AB false 1 k6 h fun k7=>AI (.slice 18) k7 k1 fun k9=>AC 16 k9 fun m0=>AB false 1 m0 h fun m1=>Ab m1 fun m2=>Ab x0 fun m4=>AD .neq m2 m4 fun m5=>AK m5
 (Q (.bool false) h)
 (AJb Q x0 x1 x7 a3 k1 h)) (Q (.bool false) h)))
def AJe (Q:Kt)(x0 x1 x2 x7 d2 d3 x8 d4:Value)(h:H):Prop:=Bx (fun r2 x8 d4 h=>AJZ Q r2 x0 x1 x2 x7 d2 d3 x8 d4 h) x8 d4 h
def AJX (Q:Kt)(x0 x1 x2:Value)(h:H):Prop:=
 Ae (.arr 1) (AG TP 67) [(0,(.int .u16 32768)),(1,(.int .u16 16384)),(2,(.int .u16 8192)),(3,(.int .u16 4096))] fun c8=>AQ (AG TP 67) 67 h fun x7 h=>AJ 4 x7 c8 h fun h=>Ae (.struct [(0,1),(1,1),(2,1),(3,1),(4,1),(5,3),(8,3),(11,3),(14,3),(17,1),(18,1),(19,1)]) (AG TP 28) [(2,(.int .u16 16832))] fun c9=>Ae (.struct [(0,1),(1,1),(2,1),(3,20),(23,1)]) (AG TP 32) [(0,(.int .i64 0)),(1,(.string ⟨#[100]⟩)),(3,c9)] fun d0=>AH (.arr 24) 32 (AG TP 32) 24 1 [(0,d0)] h fun d1 h=>Ab x0 fun d3=>AJe Q x0 x1 x2 x7 x0 d3 d1 (.int .i64 0) h
def AJc (Q:Kt)(x0 x1 x2:Value)(h:H):Prop:=
 Call TP 19 [x0] h fun b9 h=>LH .not b9 fun c0=>Az c0 false (Ab x1 fun c3=>Ab x0 fun c5=>AD .lss c3 c5 fun c6=>AK c6
 (Q (.bool true) h)
 (AJX Q x0 x1 x2 h)) (Q (.bool true) h)
def f4 (x0 x1 x2:Value)(h:H)(Q:Kt):Prop:=
 Call TP 18 [x0] h fun b1 h=>LH .not b1 fun b2=>Az b2 false (Ab x1 fun b5=>AD .gtr b5 (.int .i64 2147483647) fun b6=>AK b6
 (Q (.bool true) h)
 (AJc Q x0 x1 x2 h)) (Q (.bool true) h)
def f4T (Q:Kt)(r:RS):Nat→DJ:=tab [(65525,.lp [0,1,7,13,14,97,98] [99] fun s e l h=>AJW Q (u1 s) (e 0) (e 1) (e 7) (e 13) (e 14) (e 97) (e 98) (gl l 0) h),
 (8190,.jn fun e h=>AJb Q (e 0) (e 1) (e 7) (e 13) (e 14) h),
 (1013,.lp [0,1,2,7,42,43] [8,44] fun s e l h=>AJZ Q (u2 s) (e 0) (e 1) (e 2) (e 7) (e 42) (e 43) (gl l 0) (gl l 1) h),
 (30,.jn fun e h=>AJX Q (e 0) (e 1) (e 2) h),
 (14,.jn fun e h=>AJc Q (e 0) (e 1) (e 2) h)]
theorem AJi (x0 x1 x2:Value)(h:H)(Q:Kt)(x:f4 x0 x1 x2 h Q):Call TP 4 [x0,x1,x2] h Q:=Bb (f4T Q) Tryz.func4 (by kernel_rfl) x
def AJL (Q:Kt)(r1:R1)(x8 x9 a0:Value)(h:H):Prop:=
 AD .lss a0 x9 fun a1=>AK a1
 (AI (.slice 1) x8 a0 fun a2=>AB false 1 a2 h fun a3=>CL a3 fun a5=>AD .gtr a5 (.int .i64 2147483647) fun a6=>AK a6
 (Q (.bool false) h)
 (AD .add a0 (.int .i64 1) fun a7=>r1 a7 h))
 (Q (.bool true) h)
def AJR (Q:Kt)(x8 x9 a0:Value)(h:H):Prop:=A1 (fun r1 a0 h=>AJL Q r1 x8 x9 a0 h) a0 h
def f18 (x0:Value)(h:H)(Q:Kt):Prop:=
 Ab x0 fun x6=>AD .gtr x6 (.int .i64 2147483647) fun x7=>AK x7
 (Q (.bool false) h)
 (Ab x0 fun x9=>AJR Q x0 x9 (.int .i64 0) h)
def AJn (Q:Kt)(r:RS):Nat→DJ:=tab [(117,.lp [8,9] [10] fun s e l h=>AJL Q (u1 s) (e 8) (e 9) (gl l 0) h)]
theorem AJa (x0:Value)(h:H)(Q:Kt)(x:f18 x0 h Q):Call TP 18 [x0] h Q:=Bb (AJn Q) Tryz.func18 (by kernel_rfl) x
def AJM (Q:Kt)(r1:R1)(r2:R1)(x0 x4 x9 a0 a1 x5:Value)(h:H):Prop:=
 CL x4 fun d4=>AD .lss x5 d4 fun d5=>AK d5
 (BQ x4 x5 fun g0=>AD .eql g0 (.int .u8 47) fun g1=>Az g1 false (BQ x4 x5 fun g5=>AD .eql g5 (.int .u8 0) fun g6=>AK g6
 (Q (.bool false) h)
 (AD .add x5 (.int .i64 1) fun d7=>r2 d7 h)) (Q (.bool false) h))
 (AD .add a1 (.int .i64 1) fun g8=>r1 g8 h)
def AJT (Q:Kt)(r1:R1)(x0 x4 x9 a0 a1 x5:Value)(h:H):Prop:=A1 (fun r2 x5 h=>AJM Q r1 r2 x0 x4 x9 a0 a1 x5 h) x5 h
def AJN (Q:Kt)(r1:R1)(x0 x4 x9 a0 a1:Value)(h:H):Prop:=
 AJT Q r1 x0 x4 x9 a0 a1 (.int .i64 0) h
def AJD (Q:Kt)(r1:R1)(x0 x9 a0 a1:Value)(h:H):Prop:=
 AD .lss a1 a0 fun a2=>AK a2
 (AI (.slice 1) x9 a1 fun a4=>AB false 1 a4 h fun a5=>AD .eql a5 (.string ⟨#[]⟩) fun a7=>Az a7 false (CL a5 fun b0=>AD .gtr b0 (.int .i64 255) fun b1=>Az b1 false (AD .eql a5 (.string ⟨#[46]⟩) fun b5=>Az b5 false (AD .eql a5 (.string ⟨#[46,46]⟩) fun b9=>Az b9 false (AD .eql a5 (.string ⟨#[108,111,115,116,43,102,111,117,110,100]⟩) fun c3=>Az c3 false (AZ (.slice 1) x0 none (some a1) fun c8=>Call TP 49 [c8,a5] h fun d0 h=>AK d0
 (Q (.bool false) h)
 (AJN Q r1 x0 a5 x9 a0 a1 h)) (Q (.bool false) h)) (Q (.bool false) h)) (Q (.bool false) h)) (Q (.bool false) h)) (Q (.bool false) h))
 (Q (.bool true) h)
def AJS (Q:Kt)(x0 x9 a0 a1:Value)(h:H):Prop:=A1 (fun r1 a1 h=>AJD Q r1 x0 x9 a0 a1 h) a1 h
def f19 (x0:Value)(h:H)(Q:Kt):Prop:=
 Ab x0 fun x7=>AD .gtr x7 (.int .i64 180) fun x8=>AK x8
 (Q (.bool false) h)
 (Ab x0 fun a0=>AJS Q x0 x0 a0 (.int .i64 0) h)
def AJl (Q:Kt)(r:RS):Nat→DJ:=tab [(59805,.lp [0,4,9,10,11] [5] fun s e l h=>AJM Q (u1 (r 58)) (u1 s) (e 0) (e 4) (e 9) (e 10) (e 11) (gl l 0) h),
 (14950,.jn fun e h=>AJN Q (u1 (r 58)) (e 0) (e 4) (e 9) (e 10) (e 11) h),
 (117,.lp [0,9,10] [11] fun s e l h=>AJD Q (u1 s) (e 0) (e 9) (e 10) (gl l 0) h)]
theorem AJV (x0:Value)(h:H)(Q:Kt)(x:f19 x0 h Q):Call TP 19 [x0] h Q:=Bb (AJl Q) Tryz.func19 (by kernel_rfl) x
def AJI (Q:Kt)(r1:R1)(x1 x7 x8 x9:Value)(h:H):Prop:=
 AD .lss x9 x8 fun a0=>AK a0
 (AI (.slice 1) x7 x9 fun a1=>AB false 1 a1 h fun a2=>AD .eql a2 x1 fun a5=>AK a5
 (Q (.bool true) h)
 (AD .add x9 (.int .i64 1) fun a6=>r1 a6 h))
 (Q (.bool false) h)
def AJU (Q:Kt)(x1 x7 x8 x9:Value)(h:H):Prop:=A1 (fun r1 x9 h=>AJI Q r1 x1 x7 x8 x9 h) x9 h
def f49 (x0 x1:Value)(h:H)(Q:Kt):Prop:=
 Ab x0 fun x8=>AJU Q x1 x0 x8 (.int .i64 0) h
def AJm (Q:Kt)(r:RS):Nat→DJ:=tab [(53,.lp [1,7,8] [9] fun s e l h=>AJI Q (u1 s) (e 1) (e 7) (e 8) (gl l 0) h)]
theorem AJf (x0 x1:Value)(h:H)(Q:Kt)(x:f49 x0 x1 h Q):Call TP 49 [x0,x1] h Q:=Bb (AJm Q) Tryz.func49 (by kernel_rfl) x
end
section
variable {h:H} {k:Value→Prop} {kt Q:Kt} {x y z r:Res} {nv:Value} {l:List Bs}
attribute [local irreducible] AK Az AQ BB Ae AY AH AM
theorem s18 (d:RdV 1 nv l.length (strs l) x)(hn:l.length≤2000000000)(hl:∀ b∈l,b.length≤2000000000)(w:AN x h)(K:Q (.bool true) h):f18 nv h Q:=by
 obtain⟨⟨va,vc,hv⟩,_⟩:=d.len
 have hg:∀ n:Nat,n≤2000000000→∀ k:Value→Prop,AD .gtr (.int .i64 (n:Nat)) (.int .i64 2147483647) k=k (.bool false):=fun n hn k=>by rw[Ao,A08 (by omega)]
 unfold f18
 rw[hv,Aw,hg _ hn,AU,Aw,←hv]
 unfold AJR
 refine Ba (fun mm u h'=>h'=h∧∃ i,mm+i=l.length∧u=.int .i64 (i:Nat)) l.length ⟨rfl,0,rfl,rfl⟩ ?_
 rintro rec mm u h' ⟨rfl,i,hi,rfl⟩ hrec
 unfold AJL
 rw[AT]
 refine AX (fun hc=>?_) (fun hc=>K)
 have hil:i<l.length:=by omega
 refine d.get w (NX (A00 hil)) ?_
 rw[AGz,hg _ (hl _ (Q3 _)),AU,BN (n:=1),Ci (by omega)]
 exact hrec (mm-1) _ _ ⟨rfl,i+1,by omega,rfl⟩ (by omega)
theorem s49 {nm:Bs}(d:RdV 1 nv l.length (strs l) x)(hn:l.length≤2000000000)(w:AN x h)(K:Q (.bool (decide (nm∈l))) h):f49 nv (str nm) h Q:=by
 obtain⟨⟨va,vc,hv⟩,_⟩:=d.len
 unfold f49
 rw[hv,Aw,←hv]
 unfold AJU
 refine Ba (fun mm u h'=>h'=h∧∃ i,mm+i=l.length∧u=.int .i64 (i:Nat)∧nm∉l.take i) l.length ⟨rfl,0,rfl,rfl,by simp⟩ ?_
 rintro rec mm u h' ⟨rfl,i,hi,rfl,hno⟩ hrec
 unfold AJI
 rw[AT]
 refine AX (fun hc=>?_) (fun hc=>?_)
 ·have hil:i<l.length:=by omega
  refine d.get w (NX (A00 hil)) ?_
  rw[NZ]
  refine AX (fun he=>?_) (fun he=>?_)
  ·rw[A04 (by rw[←he];exact Q3 _)] at K
   exact K
  ·rw[BN (n:=1),Ci (by omega)]
   refine hrec (mm-1) _ _ ⟨rfl,i+1,by omega,rfl,?_⟩ (by omega)
   rw[A85,A00 hil,A88]
   rintro (h1|h1)
   ·exact hno h1
   ·simp at h1
    exact he h1.symm
 ·have:i=l.length:=by omega
  subst this
  rw[A38] at hno
  rw[A08 hno] at K
  exact K
structure AJh (l:List Bs) (i:Nat) (nm:Bs):Prop where
 ne:nm≠[]
 len:nm.length≤255
 d1:nm≠[46]
 d2:nm≠[46,46]
 lost:nm≠lostN
 new:nm∉l.take i
 sl:(47:UInt8)∉nm
def AJE (l:List Bs):Prop:=l.length≤180∧∀ (i:Nat) (nm:Bs),l[i]? = some nm→AJh l i nm
theorem s19 (d:RdV 1 nv l.length (strs l) x)(hn:l.length≤2000000000)(hl:∀ b∈l,b.length≤2000000000)(w:AN x h)(K:∀ b:Bool,(b=true→AJE l)→Q (.bool b) h):f19 nv h Q:=by
 obtain⟨⟨va,vc,hv⟩,_⟩:=d.len
 have K0:Q (.bool false) h:=K false (by simp)
 unfold f19
 rw[hv,Aw,Ao]
 refine AX (fun _=>K0) (fun h180=>?_)
 rw[Aw,←hv]
 unfold AJS
 refine Ba (fun mm u h'=>h'=h∧∃ i,mm+i=l.length∧u=.int .i64 (i:Nat)∧∀ (j:Nat) (nm:Bs),j<i→l[j]? = some nm→AJh l j nm) l.length ⟨rfl,0,rfl,rfl,fun j nm hj=>by omega⟩ ?_
 rintro rec mm u h' ⟨rfl,i,hi,rfl,hok⟩ hrec
 unfold AJD
 rw[AT]
 refine AX (fun hc=>?_) (fun hc=>?_)
 ·have hil:i<l.length:=by omega
  obtain⟨nm,hnm⟩:∃ nm,l[i]? = some nm:=⟨_,A00 hil⟩
  have hll:=hl nm (A28 hnm)
  refine d.get w (NX hnm) ?_
  have e0:∀ k:Value→Prop,AD .eql (str nm) (.string ⟨#[]⟩) k=k (.bool (decide (nm=[]))):=fun k=>NZ
  have e1:∀ k:Value→Prop,AD .eql (str nm) (.string ⟨#[46]⟩) k=k (.bool (decide (nm=[46]))):=fun k=>NZ
  have e2:∀ k:Value→Prop,AD .eql (str nm) (.string ⟨#[46,46]⟩) k=k (.bool (decide (nm=[46,46]))):=fun k=>NZ
  have e3:∀ k:Value→Prop,AD .eql (str nm) (.string ⟨#[108,111,115,116,43,102,111,117,110,100]⟩) k=k (.bool (decide (nm=lostN))):=fun k=>NZ
  rw[e0]
  refine J2 (fun n0=>?_) (fun _=>K0)
  rw[AGz,Ao]
  refine J2 (fun n1=>?_) (fun _=>K0)
  rw[e1]
  refine J2 (fun n2=>?_) (fun _=>K0)
  rw[e2]
  refine J2 (fun n3=>?_) (fun _=>K0)
  rw[e3]
  refine J2 (fun n4=>?_) (fun _=>K0)
  refine d.slice (i:=0) (j:=i) rfl BA (A39 _) (by omega) fun v' d'=>?_
  have hst:((strs l).take (i*1)).drop (0*1)=strs (l.take i):=by
   unfold strs
   simp only[A67,A68,B11]
  rw[hst,B35] at d'
  have htl:(l.take i).length=i:=by rw[A20];omega
  refine AJf _ _ _ _ (s49 (l:=l.take i) (by rw[htl];exact d') (by omega) w ?_)
  refine AX (fun _=>K0) (fun n5=>?_)
  unfold AJN
  unfold AJT
  refine Ba (fun m2 u hh=>hh=h'∧∃ j,m2+j=nm.length∧u=.int .i64 (j:Nat)∧(47:UInt8)∉nm.take j) nm.length ⟨rfl,0,rfl,rfl,by simp⟩ ?_
  rintro rec2 m2 u h2 ⟨rfl,j,hj,rfl,hno⟩ hrec2
  unfold AJM
  rw[AGz,AT]
  refine AX (fun hc2=>?_) (fun hc2=>?_)
  ·have hjl:j<nm.length:=by omega
   obtain⟨c,hcb⟩:∃ c,nm[j]? = some c:=⟨_,A00 hjl⟩
   rw[CD hcb]
   have f1:∀ k:Value→Prop,AD .eql (bc c) (.int .u8 47) k=k (.bool (decide (c=47))):=fun k=>by
    show AD .eql (.int .u8 (c.toNat:Nat)) (.int .u8 47) k=_
    rw[Aa]
    congr 2
    have:((c.toNat:Nat):Int)=47↔c=47:=by
     constructor
     ·intro h;apply A97.1;show c.toNat=47;omega
     ·intro h;subst h;rfl
    simp[this]
   rw[f1]
   refine J2 (fun n6=>?_) (fun _=>K0)
   rw[CD hcb]
   have f2:∀ k:Value→Prop,AD .eql (bc c) (.int .u8 0) k=k (.bool (decide (((c.toNat:Nat):Int)=0))):=fun k=>by
    show AD .eql (.int .u8 (c.toNat:Nat)) (.int .u8 0) k=_
    rw[Aa]
   rw[f2]
   refine AX (fun _=>K0) (fun _=>?_)
   rw[BN (n:=1),Ci (by omega)]
   refine hrec2 (m2-1) _ _ ⟨rfl,j+1,by omega,rfl,?_⟩ (by omega)
   rw[A85,hcb,A88]
   rintro (h1|h1)
   ·exact hno h1
   ·simp at h1
    exact n6 h1.symm
  ·have:j=nm.length:=by omega
   subst this
   rw[A38] at hno
   rw[BN (n:=1),Ci (by omega)]
   refine hrec (mm-1) _ _ ⟨rfl,i+1,by omega,rfl,fun j nm2 hj h2=>?_⟩ (by omega)
   by_cases hji:j<i
   ·exact hok j nm2 hji h2
   ·have:j=i:=by omega
    subst this
    rw[hnm,A26] at h2
    subst h2
    exact⟨n0,by omega,n2,n3,n4,n5,hno⟩
 ·exact K true fun _=>⟨by omega,fun j nm h2=>hok j nm (by have:=(A02.1 h2).1;omega) h2⟩
end
section
def AIq (c:UInt8):Nat:=(([32768,16384,8192,4096]:List Nat).getD (c.toNat%4) 0) ||| 384
theorem AIv (c:UInt8):AIq c=33152∨AIq c=16768∨AIq c=8576∨AIq c=4480:=by
 unfold AIq
 have h:c.toNat%4<4:=Nat.mod_lt _ (by omega)
 have:c.toNat%4=0∨c.toNat%4=1∨c.toNat%4=2∨c.toNat%4=3:=by omega
 rcases this with h|h|h|h<;>rw[h]
 ·exact .inl (by decide)
 ·exact .inr (.inl (by decide))
 ·exact .inr (.inr (.inl (by decide)))
 ·exact .inr (.inr (.inr (by decide)))
theorem AJK (c:UInt8):AIq c<65536∧modeK (AIq c)=AIq c:=by
 rcases AIv c with h|h|h|h<;>rw[h]<;>exact⟨by decide,by decide⟩
def AIp (m u:Nat):FL:=⟨[],0,m,u,0,t0,t0,t0,t0,0,0⟩
def AIy:It:=⟨2,[100],AIp 16832 0,[],[100],false⟩
def AIs (i:Nat)(nm:Bs)(c:UInt8):It:=⟨12,nm,AIp (AIq c) i,[],100::47::nm,false⟩
def AIm (ns:List Bs)(ks:Bs):Nat→List It
 | 0=>[AIy]
 | n+1=>AIm ns ks n++[AIs n (ns.getD n []) (ks.getD n 0)]
section
variable {ns:List Bs} {ks:Bs}
theorem AIn:∀ n,(AIm ns ks n).length=n+1
 | 0=>rfl
 | n+1=>by rw[AIm,A01,AIn n];rfl
theorem AIo:∀ n,(AIm ns ks n)[0]? = some AIy
 | 0=>rfl
 | n+1=>by rw[AIm,A18 (by rw[AIn];omega)];exact AIo n
theorem AI0:∀ n j,j<n→(AIm ns ks n)[j+1]? = some (AIs j (ns.getD j []) (ks.getD j 0))
 | n+1,j,h=>by
  rw[AIm]
  by_cases hj:j<n
  ·rw[A18 (by rw[AIn];omega)]
   exact AI0 n j hj
  ·have:j=n:=by omega
   subst this
   rw[A17 (by rw[AIn];exact A07 _),AIn,A87];rfl
theorem AIz {n:Nat}{it:It}(h:it∈AIm ns ks n):it=AIy∨∃ j,j<n∧it=AIs j (ns.getD j []) (ks.getD j 0):=by
 obtain⟨j,hj,e⟩:=B00 h
 rw[AIn] at hj
 have hg:(AIm ns ks n)[j]? = some it:=by rw[A00 (by rw[AIn];exact hj),e]
 cases j with
 | zero=>rw[AIo,A26] at hg;exact .inl hg.symm
 | succ j=>rw[AI0 n j (by omega),A26] at hg;exact .inr ⟨j,by omega,hg.symm⟩
theorem AJG:AIy.isD=true:=by decide
theorem AJF (hc:AJE ns):∀ n,n≤ns.length→A7 (AIm ns ks n)
 | 0,_=>by
  have h0:A7 []:=fun j it h=>by simp at h
  refine h0.snoc (it:=AIy) ⟨⟨[],.root,by decide⟩,by decide,by decide,by decide,by decide,by decide,fun x hx=>by simp at hx,fun _=>by decide,?_,?_,by decide,fun h=>absurd rfl h⟩
  ·exact⟨by decide,by unfold kindOk;decide,Th,Th,Th,Th,by decide⟩
  ·rw[A05 (by decide)];rfl
 | n+1,hn=>by
  rw[AIm]
  refine (AJF hc n (by omega)).snoc ?_
  have hg:ns[n]? = some ns[n]:=A00 (by omega)
  obtain⟨p1,p2,p3,p4,p5,p6,p7⟩:=hc.2 n ns[n] hg
  have hd:ns.getD n []=ns[n]:=by rw[A10,hg];rfl
  rw[hd]
  refine⟨⟨[[100]],?_,?_⟩,?_,?_,p2,p7,⟨p3,p4⟩,?_,(fun h=>by cases h),?_,?_,(by show 0≤_;omega),fun h=>absurd rfl h⟩
  ·exact .down (j:=0) (it:=AIy) (st:=[]) (AIo n) AJG (by decide) .root
  ·have:=(Rv (l:=[[100],ns[n]]) (by
    intro e he
    simp only[A32,B45,or_false] at he
    rcases he with rfl|rfl
    ·exact⟨by decide,by decide,by decide,by decide⟩
    ·exact⟨p1,p3,p4,p7⟩)).1
   exact this
  ·show (100::47::ns[n]).length≤_
   simp only[A19];omega
  ·show 1≤ns[n].length
   exact A99.2 p1
  ·intro x hx hdir he
   rcases AIz hx with rfl|⟨j,hj,rfl⟩
   ·cases hdir
   ·have hgj:ns[j]? = some ns[j]:=A00 (by omega)
    have he2:ns.getD j []=ns[n]:=he
    rw[A10,hgj] at he2
    have he3:ns[j]=ns[n]:=he2
    refine p6 ?_
    rw[←he3]
    exact List.mem_take_iff_getElem.2 ⟨j,by omega,rfl⟩
  ·refine⟨(AJK _).1,?_,Th,Th,Th,Th,by show 0≤_;omega⟩
   show kindOk (kindB (modeK (AIq (ks.getD n 0))))
   rcases AIv (ks.getD n 0) with h|h|h|h<;>rw[h]<;>unfold kindOk<;>decide
  ·show if (AIs n ns[n] (ks.getD n 0)).kd=32768 then 0=([]:Bs).length else ([]:Bs)=[]
   split<;>rfl
theorem AJg {n:Nat}(hn:n≤1000):∀ it∈AIm ns ks n,Y6 it:=fun it h=>by
 rcases AIz h with rfl|⟨j,hj,rfl⟩
 ·exact⟨by decide,by decide,by decide,by decide⟩
 ·exact⟨by show j<_;omega,by show 0<_;omega,by show 0<_;omega,by show 0<_;omega⟩
theorem AIw:∀ n,(CJ 12 12 (AIm ns ks n)).length=n
 | 0=>rfl
 | n+1=>by
  rw[AIm,KA,A01,AIw n,A03 (show (AIs n (ns.getD n []) (List.getD ks n 0)).dir=12 from rfl)];rfl
theorem AIx {c:Nat}(hc:12<c):∀ n,CJ c 12 (AIm ns ks n)=[]
 | 0=>by
  show (if AIy.dir=c then _ else _)=_
  rw[A05 (by show ¬2=c;omega)];rfl
 | n+1=>by
  rw[AIm,KA,AIx hc n,A05 (by show ¬12=c;omega)];rfl
theorem AJH (n:Nat):(esOf (AIm ns ks n) 12).length=n:=by
 unfold esOf kidsOf
 rw[A05 (by omega),A34,AIw]
theorem AJP {c n:Nat}(hc:12<c):esOf (AIm ns ks n) c=[]:=by
 unfold esOf kidsOf
 rw[A05 (by omega),A34,AIx hc]
theorem AI8:∀ n,n≤1000→EW (AIm ns ks n)≤4095*(n+1)
 | 0,_=>by show 0+4095+0≤4095*(0+1);omega
 | n+1,h=>by
  have:=AI8 n (by omega)
  unfold EW at this ⊢
  rw[AIm,A36,B30]
  have e:([AIs n (ns.getD n []) (ks.getD n 0)].map fun it=>it.data.length+4095).sum=4095:=rfl
  have e2:(List.map (fun it=>it.data.length+4095) [AIs n (ns.getD n []) (ks.getD n 0)]).sum=4095:=e
  omega
end
end
section
variable {h:H} {k:Value→Prop} {kt Q:Kt} {x y z r:Res}
attribute [local irreducible] TN.cells XN.cells VS.cells Op1.cells
attribute [local irreducible] AK Az AQ BB Ae AY AH AM
section
variable {fv:Value} {vs:List Value} {fs:List Bs}
theorem AIY {iv:Value}{cs:List Value}{os:List AA}{b13:Nat}{nsv:Value}{n18:Nat}{ns:List Value}(df:RdV 1 fv fs.length vs x)(ff:Na x vs fs)(hl:fs.length≤60)
  (d:VecX 81 23 iv os.length cs x) (ov:OutV x cs os) (hos:∀ o∈os,o.X.num<12∨∃ j,o.X.num=12+j∧fs[j]? = some o.C) (hn:os.length<1000000) (dn:RdV 18 nsv n18 ns x) (hn18:n18=fs.length+2)
  (w:AN (pts b13 (.cells ⟨[nsv]⟩ 40 (0,0))+x) h) (K:∀ y h,AN (y+x) h→Q (.bool true) h):ACt Q fv (Pt b13) iv (.int .i64 (os.length:Nat)) (.int .i64 0) h:=by
 have fp:∀ (b o:Nat) (k:Value→Prop),AC o (Pt b) k=k (.pointer (some ⟨b,o,none⟩)):=fun b o k=>by simp only[go_sem]
 obtain⟨⟨va,vc,hv⟩,_⟩:=df.len
 obtain⟨⟨na,nc,hnv⟩,_⟩:=dn.len
 unfold ACt
 refine Ba (fun mm u h'=>∃ i y,mm+i=os.length∧u=.int .i64 (i:Nat)∧AN (pts b13 (.cells ⟨[nsv]⟩ 40 (0,0))+(y+x)) h') os.length ⟨0,0,rfl,rfl,w.cast (by rw[Res.zero_add])⟩ ?_
 rintro rec mm u h' ⟨i,y,hi,rfl,w⟩ hrec
 unfold ACf
 rw[AT]
 refine AX (fun hc=>?_) (fun hc=>?_)
 ·have hil:i<os.length:=by omega
  obtain⟨o,ho⟩:∃ o,os[i]? = some o:=⟨_,A00 hil⟩
  obtain⟨cv,ev,xv,xas,hcs,b,c,dd,f⟩:=ov.get ho
  obtain⟨ca,cc,hcv⟩:=b.len
  obtain⟨⟨ea,ec,hev⟩,_⟩:=c.len
  obtain⟨⟨xa,xc,hxv⟩,_⟩:=dd.len
  have hone:(o.X.cells cv ev xv).all Value.oneCell'=true:=by rw[hcv,hev,hxv];exact XN.one
  refine (d.addR.addR:VecX 81 23 iv os.length cs _).agg w hil ?_
  rw[hcs]
  refine Ah w Cy rfl fun b8 h w=>?_
  refine AL w ⟨o.X.cells cv ev xv⟩ (Ar (by rw[XN.size_];exact XN.len)) XN.size_ (by rw[XN.size_];omega) hone fun h w=>?_
  have w0:=w
  have k1:∀ B8 B13 Y X:Res,B8+(B13+(Y+X))=B13+((B8+Y)+X):=by intros;ac_rfl
  have w:=w.cast (k1 _ _ _ _)
  have go:rec (.int .i64 (i+1:Nat)) h:=hrec (mm-1) _ _ ⟨i+1,_,by omega,rfl,w⟩ (by omega)
  rw[fp]
  refine AW w XN.g0 ?_
  rw[DO]
  rcases hos o (A28 ho) with hlt|⟨j,hj,hfj⟩
  ·have e1:∀ k:Value→Prop,AD .sub (.int .i64 (IntKind.i64.wrap (o.X.num:Nat))) (.int .i64 12) k=k (.int .i64 ((o.X.num:Int)-12)):=fun k=>by
    rw[Ci (by omega),Bv,Ge (by omega) (by omega)]
   have e2:∀ k:Value→Prop,AD .geq (.int .i64 ((o.X.num:Int)-12)) (.int .i64 0) k=k (.bool false):=fun k=>by
    rw[BD,A08 (by omega)]
   rw[e1,e2,SR,BN (n:=1),Ci (by omega)]
   exact go
  ·have hjl:=(A02.1 hfj).1
   have e2:∀ k:Value→Prop,AD .geq (.int .i64 (j:Nat)) (.int .i64 0) k=k (.bool true):=fun k=>by
    rw[BD,A04 (by omega)]
   have e3:∀ k:Value→Prop,AD .geq (.int .i64 (j:Nat)) (.int .i64 (fs.length:Nat)) k=k (.bool false):=fun k=>by
    rw[BD,A08 (by omega)]
   have e4:∀ k:Value→Prop,AD .neq (str o.C) (str o.C) k=k (.bool false):=fun k=>by
    rw[Fq];simp
   obtain⟨fvv,hfv,rd⟩:=ff.2 j o.C hfj
   rw[hj,Ci (by omega),Ra (n:=12) (by show (12:Int)≤_;omega),show 12+j-12=j by omega,Ci (by omega),e2,Cq,hv,Aw,e3,Cr,←hv,fp]
   refine AW w XN.g18 ?_
   refine b.addR.addR.str w ?_
   refine (df.addR.addR:RdV 1 fv fs.length vs _).get w hfv ?_
   refine rd.addR.addR.str w ?_
   rw[e4,AU,BN (n:=1),Ci (by omega)]
   exact go
 ·have:i=os.length:=by omega
  subst this
  rw[fp]
  refine AW w (show (⟨[nsv]⟩:Array Value)[0]? = some nsv from rfl) ?_
  have e1:∀ k:Value→Prop,AD .eql (.int .i64 (n18:Nat)) (.int .i64 (fs.length+2:Nat)) k=k (.bool true):=fun k=>by
   rw[Aa,hn18];simp
  rw[hnv,Aw,hv,Aw,BN (n:=2),Ci (by omega),e1]
  exact K _ h' (w.cast (Res.assoc _ _ _).symm)
theorem AHK {vb:Nat}{nsv:Value}{ns:List Value}{ts:List TN}{ix:Nat→Nat}{iv:Value}{cs:List Value}{os:List AA}{b13:Nat}(df:RdV 1 fv fs.length vs x)(ff:Na x vs fs)(hl:fs.length≤60)
  (hvb:∀ (k:Value→Prop) (y:Res) (h:H),AN (pts b13 (.cells ⟨[nsv]⟩ 40 (0,0))+(y+x)) h→k iv→AC 0 (Pt vb) fun p=>AB false 1 p h k)
  (d:VecX 81 23 iv os.length cs x) (ov:OutV x cs os) (hos:∀ o∈os,o.X.num<12∨∃ j,o.X.num=12+j∧fs[j]? = some o.C) (hn:os.length<1000000) (dn:RdV 18 nsv ts.length ns x) (hn18:ts.length=fs.length+2)
  (tv:TreeV x ns ts) (hts:∀ t∈ts,t.X.mode<65536∧t.ks.length<1000000000) (fi:∀ i b,fs[i]? = some b→FindP ts 0 [Cn i] (ix i)∧∃ t,ts[ix i]? = some t∧t.data=b)
  (w:AN (pts b13 (.cells ⟨[nsv]⟩ 40 (0,0))+x) h) (K:∀ y h,AN (y+x) h→Q (.bool true) h):ADH Q fv (Pt vb) (Pt b13) fv (.int .i64 (fs.length:Nat)) (.int .i64 0) h:=by
 have fp:∀ (b o:Nat) (k:Value→Prop),AC o (Pt b) k=k (.pointer (some ⟨b,o,none⟩)):=fun b o k=>by simp only[go_sem]
 obtain⟨⟨va,vc,hv⟩,_⟩:=df.len
 obtain⟨⟨ia,ic,hiv⟩,_⟩:=d.rdv.len
 unfold ADH
 refine Ba (fun mm u h'=>∃ i y,mm+i=fs.length∧u=.int .i64 (i:Nat)∧AN (pts b13 (.cells ⟨[nsv]⟩ 40 (0,0))+(y+x)) h') fs.length ⟨0,0,rfl,rfl,w.cast (by rw[Res.zero_add])⟩ ?_
 rintro rec mm u h' ⟨i,y,hi,rfl,w⟩ hrec
 unfold ABk
 rw[AT]
 refine AX (fun hc=>?_) (fun hc=>?_)
 ·have hil:i<fs.length:=by omega
  obtain⟨b,hb⟩:∃ b,fs[i]? = some b:=⟨_,A00 hil⟩
  obtain⟨v,hv1,rd⟩:=ff.2 i b hb
  obtain⟨fi1,t,ht,hd⟩:=fi i b hb
  obtain⟨dv,nv,kv,q1,q2,q3,q4⟩:=tv.get ht
  refine (df.addR.addR:RdV 1 fv fs.length vs _).get w hv1 ?_
  refine Cj w rfl ?_
  refine Mw _ _ _ (s27 i (by omega) _ _ _ w fun y2 h w=>?_)
  have hnl:=GM 6 i (by omega)
  refine And.intro (Cj w rfl rfl) ?_
  refine G5 w Ho rfl rfl rfl fun b9 h w=>?_
  refine And.intro (Cj w rfl rfl) ?_
  have Tf:RdV 1 (.slice (some ⟨b9,0,none⟩) 1 1) [Cn i].length (strs [Cn i]) (pts b9 (.cells ⟨[str (Cn i)]⟩ 9 (0,0))):=.inr ⟨b9,0,1,[str (Cn i)],9,(0,0),0,rfl,(Res.add_zero _).symm,by show 0+1*1≤1;omega,rfl,A07 _⟩
  have k1:∀ B9 Y2 B13 Y X:Res,B9+(Y2+(B13+(Y+X)))=(B9+(Y2+(B13+Y)))+X:=by intros;ac_rfl
  have w':=w.cast (k1 _ _ _ _ _)
  refine ACJ _ _ _ _ (s15 dn.addR tv.mono hts Tf.addL.addL (by show 1<_;omega) fi1 w' fun y3 h w=>?_)
  rw[DA,DH,F1,A91,Cr,fp]
  have k2:∀ Y3 B9 Y2 B13 Y X:Res,Y3+((B9+(Y2+(B13+Y)))+X)=B13+((Y3+(B9+(Y2+Y)))+X):=by intros;ac_rfl
  have w:=w.cast (k2 _ _ _ _ _ _)
  refine AW w (show (⟨[nsv]⟩:Array Value)[0]? = some nsv from rfl) ?_
  have hil2:=(A02.1 ht).1
  have hcell:ns[ix i*18+13]? = some dv:=by
   have:=TN.g13 (t:=t) (dv:=dv) (xv:=.slice none 0 0) (nv:=nv) (kv:=kv)
   rw[←q1] at this
   have h2:((ns.drop (ix i*18)).take 18)[13]? = some dv:=by simpa using this
   rw[A41,A03 (by omega),A53] at h2
   exact h2
  refine (dn.addR.addR:RdV 18 nsv ts.length ns _).cell w hil2 (by omega) hcell ?_
  refine q2.addR.addR.str w ?_
  refine rd.addR.addR.str w ?_
  have e4:∀ k:Value→Prop,AD .neq (str t.data) (str b) k=k (.bool false):=fun k=>by
   rw[Fq,hd];simp
  rw[e4,AU,BN (n:=1),Ci (by omega)]
  exact hrec (mm-1) _ _ ⟨i+1,_,by omega,rfl,w⟩ (by omega)
 ·have:i=fs.length:=by omega
  subst this
  have nf:∀ (k:Value→Prop),(AE (Pt vb) k)=k (Pt vb):=fun k=>by simp only[go_sem]
  rw[nf]
  refine hvb _ y h' w ?_
  rw[hiv,Aw,←hiv]
  refine AIY df.addR ff.addR hl d.addR ov.mono hos hn dn.addR hn18 w fun y2 h w=>?_
  exact K (y2+y) h (w.cast (Res.assoc _ _ _).symm)
end
end
section
variable {h:H} {k:Value→Prop} {kt Q:Kt} {x y z r:Res}
attribute [local irreducible] TN.cells XN.cells VS.cells
attribute [local irreducible] AK Az AQ BB Ae AY AH AM
theorem Xk (l m:List U1):FC (l++m)=FC l++FC m:=by
 unfold FC
 rw[A73]
theorem WZ {sz:Nat}(K:k (.agg ⟨(Me sz 0).cells (.slice none 0 0)⟩)):Ae (.struct [(0,1),(1,1),(2,1),(3,1),(4,1),(5,3),(8,3),(11,3),(14,3),(17,1),(18,1),(19,1)]) (AG TP 28) [(1,.int .i64 (sz:Nat))] k:=
 Au ADo rfl (rs:=(Me sz 0).cells (.slice none 0 0)) rfl K
theorem ACO {nm:Bs}{f:FL}(K:k (.agg ⟨(Op1.create nm f).cells (.slice none 0 0)⟩)):Ae (.struct [(0,1),(1,1),(2,1),(3,20),(23,1)]) (AG TP 32) [(0,.int .i64 0),(1,str nm),(3,.agg ⟨f.cells (.slice none 0 0)⟩)] k:=
 Au Fy rfl (rs:=(Op1.create nm f).cells (.slice none 0 0)) (by kernel_rfl) K
theorem AEK {b:Bs}{v:Value}(hv:v.cells=#[v])(K:k (.agg ⟨(Op1.write b).cells v⟩)):Ae (.struct [(0,1),(1,1),(2,1),(3,20),(23,1)]) (AG TP 32) [(0,.int .i64 1),(4,v)] k:=
 Au Fy rfl (rs:=(Op1.write b).cells v) (by
  have e2:DC (Br (.struct [(0,1),(1,1),(2,1),(3,20),(23,1)])) ((Op1.write b).cells (.slice none 0 0)) [(4,v)]=some ((Op1.write b).cells v):=by
   unfold DC
   simp only[Br,hv]
   rfl
  exact e2) K
attribute [local irreducible] Op1.cells
theorem QJ {fs:List Bs}{b:Bs}(h:b∈fs):b.length≤(fs.map List.length).sum:=by
 induction fs with
 | nil=>simp at h
 | cons a l ih=>
  rw[A33,A75]
  rcases A32.1 h with rfl|h
  ·omega
  ·have:=ih h;omega
theorem YR {fs:List Bs}:EW (Ca fs fs.length)=(fs.map List.length).sum+4095*fs.length:=by
 rw[Sd fs _ (A07 _),A38]
 induction fs with
 | nil=>rfl
 | cons a l ih=>rw[A33,A75,ih,A33,A75,A19];omega
section
variable {fv:Value} {vs:List Value} {fs:List Bs} {inl:Bool}
theorem AH8 {u0:Value}{r0:Res}(df:RdV 1 fv fs.length vs x)(ff:Na x vs fs)(hl:fs.length≤60)(hs:(fs.map List.length).sum≤300000)(g:JX x)(a0:Vec 32 24 u0 0 [] r0)(w:AN (r0+x) h)
  (K:∀ y h,AN (y+x) h→Q (.bool true) h):ADN Q fv (.bool inl) fv (.int .i64 (fs.length:Nat)) u0 (.int .i64 0) h:=by
 have fp:∀ (b o:Nat) (k:Value→Prop),AC o (Pt b) k=k (.pointer (some ⟨b,o,none⟩)):=fun b o k=>by simp only[go_sem]
 have hio:=WC (fs:=fs) (fun b hb=>by have:=QJ hb;omega) fs.length (by omega)
 obtain⟨⟨va,vc,hv⟩,_⟩:=df.len
 unfold ADN
 refine DE (fun mm u0 u1 h'=>∃ i l' r y,mm+i=fs.length∧u1=.int .i64 (i:Nat)∧l'.length=2*i∧Vec 32 24 u0 (2*i) (FC l') r∧l'.map (·.1)=(Ca fs i).flatMap It.ops∧(∀ o∈l',RdX x o.2 o.1.data)∧AN (r+(y+x)) h') fs.length ⟨0,[],r0,0,rfl,rfl,rfl,a0,rfl,by simp,w.cast (by rw[Res.zero_add])⟩ ?_
 rintro rec mm u0 u1 h' ⟨i,l',r,y,hi,rfl,hl',a,hm,hd,w⟩ hrec
 unfold ADF
 rw[AT]
 refine AX (fun hc=>?_) (fun hc=>?_)
 ·have hil:i<fs.length:=by omega
  obtain⟨b,hb⟩:∃ b,fs[i]? = some b:=⟨_,A00 hil⟩
  obtain⟨v,hv1,rd⟩:=ff.2 i b hb
  have hbl:=QJ (A28 hb)
  refine (df.addR.addR:RdV 1 fv fs.length vs _).get w hv1 ?_
  refine Mw _ _ _ (s27 i (by omega) _ _ _ w fun y2 h w=>?_)
  have hnl:=GM 6 i (by omega)
  have e1:∀ k:Value→Prop,AD .add (.string ⟨#[47]⟩) (str (Cn i)) k=k (str (47::Cn i)):=fun k=>H9 (a:=[47]) (by simp;omega)
  obtain⟨ca,cc,hbv⟩:=rd.len
  rw[e1,hbv,Aw,←hbv]
  refine WZ ?_
  refine ACO ?_
  refine AEK (b:=b) (by rw[hbv];rfl) ?_
  refine Qi w Fy (by omega) (by omega) (Op1.cells_len _ _) (Op1.cells_len _ _) fun v2 r2 h d2 w=>?_
  have k1:∀ R2 Y2 R Y X:Res,R2+(Y2+(R+(Y+X)))=R+(R2+((Y2+Y)+X)):=by intros;ac_rfl
  have w:=w.cast (k1 _ _ _ _ _)
  refine CA a (d2.addL) w Fy (by show (List.toArray _).size=24;rw[A31,Op1.cells_len]) (by omega) (by omega) (by
   rw[List.all_append,Op1.cells_one _ _ rd.one_,Op1.cells_one _ _ rfl];rfl) fun u0 r h a w=>?_
  rw[BN (n:=1),Ci (by omega)]
  have k2:∀ R R2 Y X:Res,R+(R2+(Y+X))=R+((R2+Y)+X):=by intros;ac_rfl
  refine hrec (mm-1) _ _ _ ⟨i+1,l'++[(.create (47::Cn i) (Me b.length 0),.slice none 0 0),(.write b,v)],r,_,by omega,rfl,by rw[A01,hl'];simp;omega,?_,?_,?_,w.cast (k2 _ _ _ _)⟩ (by omega)
  ·rw[Xk,show 2*(i+1)=2*i+2 by omega]
   have:FC [(.create (47::Cn i) (Me b.length 0),.slice none 0 0),(.write b,v)]=(Op1.create (47::Cn i) (Me b.length 0)).cells (.slice none 0 0)++(Op1.write b).cells v:=by
    unfold FC
    rw[A37,A37,List.flatMap_nil,A22]
   rw[this];exact a
  ·rw[A36,hm,Ca,A73]
   congr 1
   rw[A10,hb]
   rfl
  ·intro p hp
   rcases A88.1 hp with h1|h1
   ·exact hd p h1
   ·simp only[A32,B45,or_false] at h1
    rcases h1 with rfl|rfl
    ·exact .inl ⟨none,0,rfl,rfl⟩
    ·exact rd
 ·have:i=fs.length:=by omega
  subst this
  have hpl:=C6 fs fs.length
  have hsm:=YR (fs:=fs)
  have st:∀ db,∃ SE S,Steps (l'.map (·.1)) (S2 [] inl EA db) SE∧He SE S∧S.db=db∧Xp (To (Ca fs fs.length)) (BS S):=fun db=>by
   rw[hm]
   exact QD inl db hio (AEy fs _) (by omega) (by omega)
  have hdl:∀ o∈l',o.1.data.length≤100000000:=fun o ho=>by
   have:o.1∈l'.map (·.1):=A35.2 ⟨o,ho,rfl⟩
   rw[hm,A98] at this
   obtain⟨it,h1,h2⟩:=this
   obtain⟨j,hj,rfl⟩:=Fw h1
   have hg:fs[j]? = some fs[j]:=A00 hj
   have:=QJ (A28 hg)
   unfold It.ops Pm at h2
   rw[A10,hg] at h2
   simp only[A32,if_true,B45,or_false,Option.getD_some] at h2
   rcases h2 with h2|h2<;>rw[h2]
   ·show 0≤_;omega
   ·show fs[j].length≤_;omega
  refine AEN _ _ _ _ _ (s13 (x:=r+(y+x)) (l:=l') (by rw[hl'];exact a.rdv.addL) (by omega) (fun o ho=>(hd o ho).addR.addR) hdl st g.addR.addR w fun v os cs z h dv ov ok hP hnum hnn w=>?_)
  rw[DA,DH,F1,A91,AU]
  refine ABt _ _ _ (AHp hio (by omega) hP ok dv.addL ov.addL hnum w fun nsv ns ts ix y2 h tx dn tv hts w=>?_)
  refine Ah w Re rfl fun b13 h w=>?_
  refine AL w ⟨[nsv]⟩ rfl rfl (by simp) (by obtain⟨⟨na,nc,hn⟩,_⟩:=dn.len;rw[hn];rfl) fun h w=>?_
  rw[hv,Aw,←hv]
  obtain⟨io,R,hos,hp,hf,hipg⟩:=hP
  have kx:∀ Y2 V Z R Y X:Res,Y2+(V+(Z+(R+(Y+X))))=(Y2+(V+(Z+(R+Y))))+X:=by intros;ac_rfl
  refine AHK (x:=y2+(v.res+(z+(r+(y+x))))) (ix:=fun i=>ix (12+i)) df.addR.addR.addR.addR.addR ff.addR.addR.addR.addR.addR hl (fun k y h w hk=>by rw[fp];exact AW w VS.g0 hk) dv.addL.addR.addR ov.addL.mono.mono ?_ hnn dn.addL (by rw[tx.len,hpl]) tv hts ?_ w fun y3 h w=>K _ h (w.cast (by rw[kx,←Res.assoc]))
  ·intro o ho
   rw[hos] at ho
   obtain⟨c,hc,rfl⟩:=A35.1 ho
   have hcV:=hp.mem_iff.1 hc
   have f:=hf c hcV
   rw[f.num]
   rcases BE.1 hcV with h|⟨h1,h2⟩
   ·exact .inl (by omega)
   ·by_cases h3:c<12
    ·exact .inl h3
    ·refine .inr ⟨c-12,by omega,?_⟩
     rw[hpl] at h2
     have hg:=Fx fs fs.length (c-12) (by omega)
     have:=(f.it (c-12) _ (by omega) hg).2.2 (Ur fs _ (A28 hg))
     rw[this]
     show _=some (fs.getD (c-12) [])
     rw[A10,A00 (by omega)];rfl
  ·intro i b hb
   have hil:=(A02.1 hb).1
   have hg:=Fx fs fs.length i hil
   obtain⟨t0,ht0,n0⟩:=tx.node 2 (BE.2 (.inl rfl))
   rw[tx.root] at ht0
   obtain⟨d1,d2,d3⟩:=n0.dir (Aj.2 (.inl rfl))
   have hk:=d3 (Cn i,12+i) (Co.2 (.inr ⟨i,_,hg,rfl,rfl⟩))
   refine⟨.cons ht0 hk d1 .nil,?_⟩
   obtain⟨t,ht,nt⟩:=tx.node (12+i) (BE.2 (.inr ⟨by omega,by rw[hpl];omega⟩))
   refine⟨t,ht,?_⟩
   rw[(nt.it i _ rfl hg).2.2,Nl,A03 rfl]
   show fs.getD i []=b
   rw[A10,hb];rfl
theorem s6 (df:RdV 1 fv fs.length vs x)(ff:Na x vs fs)(hl:fs.length≤2000000)(hs:∀ b∈fs,b.length≤2000000)(g:JX x)(w:AN x h)
  (K:∀ y h,AN (y+x) h→Q (.bool true) h):f6 fv (.bool inl) h Q:=by
 obtain⟨⟨va,vc,hv⟩,_⟩:=df.len
 have hK:Q (.bool true) h:=K 0 h (w.cast (Res.zero_add _).symm)
 unfold f6
 refine AC8 _ _ _ (s26 df ff (by omega) (fun b hb=>by have:=hs b hb;omega) w ?_)
 rw[F1,A91,AU,hv,Aw,←hv]
 unfold AEw
 have hsum:∀ l:List Bs,(∀ b∈l,b.length≤2000000)→(l.map List.length).sum≤2000000*l.length:=by
  intro l
  induction l with
  | nil=>intro _;exact A07 _
  | cons a l ih=>
   intro h
   have h1:=ih fun b hb=>h b (A16 _ hb)
   have h2:=h a (A13 ..)
   rw[A33,A75,A19];omega
 refine DE (fun mm u0 u1 h'=>h'=h∧∃ i,mm+i=fs.length∧u0=.int .i64 (((fs.take i).map List.length).sum:Nat)∧u1=.int .i64 (i:Nat)) fs.length ⟨rfl,0,rfl,rfl,rfl⟩ ?_
 rintro rec mm u0 u1 h' ⟨rfl,i,hi,rfl,rfl⟩ hrec
 unfold AEX
 rw[AT]
 refine AX (fun hc=>?_) (fun hc=>?_)
 ·have hil:i<fs.length:=by omega
  obtain⟨b,hb⟩:∃ b,fs[i]? = some b:=⟨_,A00 hil⟩
  obtain⟨v,hv1,rd⟩:=ff.2 i b hb
  obtain⟨ca,cc,hbv⟩:=rd.len
  have h1:=hsum (fs.take i) fun b hb=>hs b (List.mem_of_mem_take hb)
  have h2:=hs b (A28 hb)
  rw[A20] at h1
  refine df.get w hv1 ?_
  rw[hbv,Aw,F2,Ci (by omega),BN (n:=1),Ci (by omega)]
  refine hrec (mm-1) _ _ _ ⟨rfl,i+1,by omega,?_,rfl⟩ (by omega)
  rw[A85,hb,A36,B30]
  simp
 ·have:i=fs.length:=by omega
  subst this
  rw[A38,hv,Aw,Ao]
  by_cases h60:(fs.length:Int)>60
  ·rw[A04 h60,PD];exact hK
  ·rw[A08 h60,Cr,Ao]
   refine AX (fun _=>hK) (fun hsm=>?_)
   unfold AEJ
   refine Dg w Fy fun u0 r0 h a w=>?_
   rw[Aw,←hv]
   exact AH8 df ff (by omega) (by omega) g a w K
end
end
section
variable {h:H} {k:Value→Prop} {kt Q:Kt} {x y z r:Res}
attribute [local irreducible] TN.cells XN.cells VS.cells
attribute [local irreducible] AK Az AQ BB Ae AY AH AM
theorem AJO:AG TP 67=some (.agg ⟨[.int .u16 0,.int .u16 0,.int .u16 0,.int .u16 0]⟩):=by kernel_rfl
def AIr:List Value:=[.int .u16 ((32768:Nat):Int),.int .u16 ((16384:Nat):Int),.int .u16 ((8192:Nat):Int),.int .u16 ((4096:Nat):Int)]
theorem AJC (K:k (.agg ⟨AIr⟩)):Ae (.arr 1) (AG TP 67) [(0,.int .u16 32768),(1,.int .u16 16384),(2,.int .u16 8192),(3,.int .u16 4096)] k:=
 Au AJO rfl (rs:=AIr) (by kernel_rfl) K
theorem AI9 {m u:Nat}(K:k (.agg ⟨(AIp m u).cells (.slice none 0 0)⟩)):Ae (.struct [(0,1),(1,1),(2,1),(3,1),(4,1),(5,3),(8,3),(11,3),(14,3),(17,1),(18,1),(19,1)]) (AG TP 28) [(2,.int .u16 (m:Nat)),(3,.int .u32 (u:Nat))] k:=
 Au ADo rfl (rs:=(AIp m u).cells (.slice none 0 0)) (by kernel_rfl) K
theorem AJB (K:k (.agg ⟨(AIp 16832 0).cells (.slice none 0 0)⟩)):Ae (.struct [(0,1),(1,1),(2,1),(3,1),(4,1),(5,3),(8,3),(11,3),(14,3),(17,1),(18,1),(19,1)]) (AG TP 28) [(2,.int .u16 16832)] k:=
 Au ADo rfl (rs:=(AIp 16832 0).cells (.slice none 0 0)) (by kernel_rfl) K
section
variable {nv kv:Value} {ns:List Bs} {ks:Bs} {inl:Bool} {mb i:Nat} {c:UInt8}
theorem AI7 (w:AN x h)[CO mb x (.cells ⟨AIr⟩ 67 (0,0))](K:k (.int .u16 (AIq c:Nat))):AD .rem (bc c) (.int .u8 4) fun a=>AI (.arr 4 1) (Pt mb) a fun p=>AB false 1 p h fun v=>AD .or v (.int .u16 384) k:=by
 show AD .rem (.int .u8 (c.toNat:Nat)) (.int .u8 4) _
 rw[LI (n:=4) (by decide),Km (Nat.mod_lt _ (by omega))]
 have hlt:c.toNat%4<4:=Nat.mod_lt _ (by omega)
 have hm:∀ m:Nat,m<65536→([32768,16384,8192,4096]:List Nat)[c.toNat%4]? = some m→(⟨AIr⟩:Array Value)[0+c.toNat%4]? = some (.int .u16 (m:Nat))→k (.int .u16 (m ||| 384:Nat))→AB false 1 (.pointer (some ⟨mb,0+c.toNat%4,none⟩)) h fun v=>AD .or v (.int .u16 384) k:=fun m hm _ h1 h2=>by
  rw[AF w,h1]
  show AD .or (.int .u16 (m:Nat)) (.int .u16 384) k
  rw[AIc (b:=384) hm (by decide)]
  exact h2
 have hcases:c.toNat%4=0∨c.toNat%4=1∨c.toNat%4=2∨c.toNat%4=3:=by omega
 unfold AIq at K
 rcases hcases with h0|h0|h0|h0
 ·refine hm 32768 (by omega) (by rw[h0];rfl) (by rw[h0];rfl) ?_
  rw[h0] at K;exact K
 ·refine hm 16384 (by omega) (by rw[h0];rfl) (by rw[h0];rfl) ?_
  rw[h0] at K;exact K
 ·refine hm 8192 (by omega) (by rw[h0];rfl) (by rw[h0];rfl) ?_
  rw[h0] at K;exact K
 ·refine hm 4096 (by omega) (by rw[h0];rfl) (by rw[h0];rfl) ?_
  rw[h0] at K;exact K
end
end
section
variable {h:H} {k:Value→Prop} {kt Q:Kt} {x y z r:Res}
attribute [local irreducible] TN.cells XN.cells VS.cells
attribute [local irreducible] AK Az AQ BB Ae AY AH AM
section
variable {nv kv:Value} {ns:List Bs} {ks:Bs} {inl:Bool} {mb:Nat}
theorem AJk {b13:Nat}{nsv:Value}{nd:List Value}{ts:List TN}{D:Nat}{tD:TN}(dn:RdV 1 nv ns.length (strs ns) x)(hn:ns.length≤180)(dk:RdX x kv ks)(hk:ns.length≤ks.length)[fm:CO mb x (.cells ⟨AIr⟩ 67 (0,0))]
  (d:RdV 18 nsv ts.length nd x) (tv:TreeV x nd ts) (hts:∀ t∈ts,t.X.mode<65536∧t.ks.length<1000000000) (hD:ts[D]? = some tD) (hlen:ts.length=ns.length+3)
  (hkid:∀ (i:Nat) (nm:Bs),ns[i]? = some nm→∃ b t,kidL tD.ks nm=some b∧ts[b]? = some t∧t.X.mode=AIq (ks.getD i 0)∧t.X.uid=i∧t.ks=[]∧t.data=[])
  (w:AN (pts b13 (.cells ⟨[nsv]⟩ 40 (0,0))+x) h) (K:∀ y h,AN (y+x) h→Q (.bool true) h) :
  AJY Q nv kv (Pt mb) (Pt b13) (.int .i64 (D:Nat)) nv (.int .i64 (ns.length:Nat)) (.int .i64 0) h:=by
 have fp:∀ (b o:Nat) (k:Value→Prop),AC o (Pt b) k=k (.pointer (some ⟨b,o,none⟩)):=fun b o k=>by simp only[go_sem]
 obtain⟨⟨va,vc,hv⟩,_⟩:=dn.len
 obtain⟨⟨na,nc,hnv⟩,_⟩:=d.len
 unfold AJY
 refine Ba (fun mm u h'=>∃ i y,mm+i=ns.length∧u=.int .i64 (i:Nat)∧AN (pts b13 (.cells ⟨[nsv]⟩ 40 (0,0))+(y+x)) h') ns.length ⟨0,0,rfl,rfl,w.cast (by rw[Res.zero_add])⟩ ?_
 rintro rec mm u h' ⟨i,y,hi,rfl,w⟩ hrec
 unfold AJW
 rw[AT]
 refine AX (fun hc=>?_) (fun hc=>?_)
 ·have hil:i<ns.length:=by omega
  obtain⟨nm,hnm⟩:∃ nm,ns[i]? = some nm:=⟨_,A00 hil⟩
  obtain⟨b,t,k1,k2,k3,k4,k5,k6⟩:=hkid i nm hnm
  obtain⟨c,hcb⟩:∃ c,ks[i]? = some c:=⟨_,A00 (by omega)⟩
  have hcd:ks.getD i 0=c:=by rw[A10,hcb];rfl
  rw[hcd] at k3
  obtain⟨dvD,nvD,kvD,q1,q2,q3,q4⟩:=tv.get hD
  obtain⟨dv,nv2,kv2,p1,p2,p3,p4⟩:=tv.get k2
  obtain⟨g1,g2⟩:=hts tD (A28 hD)
  have hDl:=(A02.1 hD).1
  have hbl:=(A02.1 k2).1
  have cellT:∀ {j:Nat} {u:Value},j<18→(t.cells dv (.slice none 0 0) nv2 kv2)[j]? = some u→nd[b*18+j]? = some u:=fun {j u} hj hu=>by
   rw[←p1,A41,A03 hj,A53] at hu
   exact hu
  refine (dn.addR.addR:RdV 1 nv ns.length (strs ns) _).get w (NX hnm) ?_
  rw[fp]
  refine AW w (show (⟨[nsv]⟩:Array Value)[0]? = some nsv from rfl) ?_
  refine (d.addR.addR:RdV 18 nsv ts.length nd _).agg w hDl ?_
  rw[q1]
  refine ADr _ _ _ _ (s20 (x:=pts b13 (.cells ⟨[nsv]⟩ 40 (0,0))+(y+x)) TN.g16 TN.g17 TN.len q3.addR.addR q4.addR.addR g2 w fun y2 h w=>?_)
  rw[k1]
  show AO (.tuple #[.int .i64 (b:Nat),.bool true]) 0 _
  rw[DA,DH,F1,A91,Cr]
  have e1:∀ Y2 B Y X:Res,Y2+(B+(Y+X))=B+((Y2+Y)+X):=by intros;ac_rfl
  have w:=w.cast (e1 _ _ _ _)
  rw[fp]
  refine AW w (show (⟨[nsv]⟩:Array Value)[0]? = some nsv from rfl) ?_
  refine (d.addR.addR:RdV 18 nsv ts.length nd _).cell w hbl (by omega) (cellT (by omega) TN.g0) ?_
  refine dk.addR.addR.get w hcb ?_
  refine AI7 (mb:=mb) w ?_
  have n1:∀ k:Value→Prop,AD .neq (.int .u16 (t.X.mode:Nat)) (.int .u16 (AIq c:Nat)) k=k (.bool false):=fun k=>by rw[k3,A3];simp
  rw[n1,Cr,fp]
  refine AW w (show (⟨[nsv]⟩:Array Value)[0]? = some nsv from rfl) ?_
  refine (d.addR.addR:RdV 18 nsv ts.length nd _).cell w hbl (by omega) (cellT (by omega) TN.g1) ?_
  have n2:∀ k:Value→Prop,AD .neq (.int .u32 (t.X.uid:Nat)) (.int .u32 (i:Nat)) k=k (.bool false):=fun k=>by rw[k4,A3];simp
  rw[DO,JR (by omega),n2,Cr,fp]
  refine AW w (show (⟨[nsv]⟩:Array Value)[0]? = some nsv from rfl) ?_
  refine (d.addR.addR:RdV 18 nsv ts.length nd _).cell w hbl (by omega) (cellT (by omega) TN.g16) ?_
  obtain⟨⟨a3,c3,h3⟩,_⟩:=p3.len
  rw[h3,Aw,fp]
  refine AW w (show (⟨[nsv]⟩:Array Value)[0]? = some nsv from rfl) ?_
  refine (d.addR.addR:RdV 18 nsv ts.length nd _).cell w hbl (by omega) (cellT (by omega) TN.g13) ?_
  obtain⟨a4,c4,h4⟩:=p2.len
  have n3:∀ k:Value→Prop,AD .gtr (.int .i64 ((0+0:Nat):Int)) (.int .i64 0) k=k (.bool false):=fun k=>by rw[Ao];rfl
  rw[h4,Aw,k5,k6]
  show AD .add (.int .i64 ((0:Nat):Int)) (.int .i64 ((0:Nat):Int)) _
  rw[F2,Ci (by omega),n3,AU,BN (n:=1),Ci (by omega)]
  exact hrec (mm-1) _ _ ⟨i+1,_,by omega,rfl,w⟩ (by omega)
 ·have:i=ns.length:=by omega
  subst this
  rw[fp]
  refine AW w (show (⟨[nsv]⟩:Array Value)[0]? = some nsv from rfl) ?_
  have e1:∀ k:Value→Prop,AD .eql (.int .i64 (ts.length:Nat)) (.int .i64 (ns.length+3:Nat)) k=k (.bool true):=fun k=>by
   rw[Aa,hlen];simp
  rw[hnv,Aw,hv,Aw,BN (n:=3),Ci (by omega),e1]
  exact K _ h' (w.cast (Res.assoc _ _ _).symm)
end
end
section
variable {h:H} {k:Value→Prop} {kt Q:Kt} {x y z r:Res}
attribute [local irreducible] TN.cells XN.cells VS.cells Op1.cells
attribute [local irreducible] AK Az AQ BB Ae AY AH AM
section
variable {nv kv:Value} {ns:List Bs} {ks:Bs} {inl:Bool} {mb:Nat}
theorem AJQ (n:Nat):(AIm ns ks n).flatMap It.ops=(AIm ns ks n).map fun it=>Op1.create it.path it.f:=by
 have:∀ l:List It,(∀ it∈l,it.w=false)→l.flatMap It.ops=l.map fun it=>Op1.create it.path it.f:=by
  intro l
  induction l with
  | nil=>intro _;rfl
  | cons a l ih=>
   intro h
   have ha:=h a (A13 ..)
   rw[A37,ih fun it hi=>h it (A16 _ hi),A33]
   unfold It.ops
   rw[ha];rfl
 exact this _ fun it h=>by rcases AIz h with rfl|⟨j,_,rfl⟩<;>rfl
theorem AJj {u0:Value}{r0:Res}(dn:RdV 1 nv ns.length (strs ns) x)(hcr:AJE ns)(dk:RdX x kv ks)(hk:ns.length≤ks.length)[fm:CO mb x (.cells ⟨AIr⟩ 67 (0,0))](g:JX x)
  (a0:Vec 32 24 u0 1 (FC [(.create [100] (AIp 16832 0),.slice none 0 0)]) r0) (w:AN (r0+x) h)
  (K:∀ y h,AN (y+x) h→Q (.bool true) h):AJe Q nv kv (.bool inl) (Pt mb) nv (.int .i64 (ns.length:Nat)) u0 (.int .i64 0) h:=by
 have fp:∀ (b o:Nat) (k:Value→Prop),AC o (Pt b) k=k (.pointer (some ⟨b,o,none⟩)):=fun b o k=>by simp only[go_sem]
 have hn:=hcr.1
 have hio:=AJF (ks:=ks) hcr ns.length (A07 _)
 have hio2:=hio
 obtain⟨⟨va,vc,hv⟩,_⟩:=dn.len
 unfold AJe
 refine DE (fun mm u0 u1 h'=>∃ i l' r y,mm+i=ns.length∧u1=.int .i64 (i:Nat)∧l'.length=i+1∧Vec 32 24 u0 (i+1) (FC l') r∧l'.map (·.1)=(AIm ns ks i).map (fun it=>Op1.create it.path it.f)∧(∀ o∈l',o.2=.slice none 0 0∧o.1.data=[])∧AN (r+(y+x)) h') ns.length
  ⟨0,[(.create [100] (AIp 16832 0),.slice none 0 0)],r0,0,rfl,rfl,rfl,a0,rfl,by intro o ho;rw[A78] at ho;subst ho;exact⟨rfl,rfl⟩,w.cast (by rw[Res.zero_add])⟩ ?_
 rintro rec mm u0 u1 h' ⟨i,l',r,y,hi,rfl,hl',a,hm,hd,w⟩ hrec
 unfold AJZ
 rw[AT]
 refine AX (fun hc=>?_) (fun hc=>?_)
 ·have hil:i<ns.length:=by omega
  obtain⟨nm,hnm⟩:∃ nm,ns[i]? = some nm:=⟨_,A00 hil⟩
  have hnl:=(hcr.2 i nm hnm).len
  obtain⟨c,hcb⟩:∃ c,ks[i]? = some c:=⟨_,A00 (by omega)⟩
  have hcd:ks.getD i 0=c:=by rw[A10,hcb];rfl
  have hnd:ns.getD i []=nm:=by rw[A10,hnm];rfl
  refine (dn.addR.addR:RdV 1 nv ns.length (strs ns) _).get w (NX hnm) ?_
  have e1:∀ k:Value→Prop,AD .add (.string ⟨#[100,47]⟩) (str nm) k=k (str (100::47::nm)):=fun k=>H9 (a:=[100,47]) (by simp;omega)
  rw[e1]
  refine dk.addR.addR.get w hcb ?_
  refine AI7 (mb:=mb) w ?_
  rw[DO,JR (by omega)]
  refine AI9 ?_
  refine ACO ?_
  refine CW a w Fy (by show (List.toArray _).size=24;rw[A31,Op1.cells_len]) (Op1.cells_len _ _) (by omega) (by omega) (Op1.cells_one _ _ rfl) fun b9 h w=>?_
  refine B0 a w Fy (by show (List.toArray _).size=24;rw[A31,Op1.cells_len]) (Op1.cells_len _ _) (Op1.cells_one _ _ rfl) (by omega) (by omega) fun u0 r h a w=>?_
  rw[BN (n:=1),Ci (by omega)]
  refine hrec (mm-1) _ _ _ ⟨i+1,l'++[(.create (100::47::nm) (AIp (AIq c) i),.slice none 0 0)],r,y,by omega,rfl,by rw[A01,hl'];rfl,?_,?_,?_,w⟩ (by omega)
  ·rw[Us];exact a
  ·rw[A36,hm,AIm,A36,hnd,hcd];rfl
  ·intro p hp
   rcases A88.1 hp with h1|h1
   ·exact hd p h1
   ·rw[A78] at h1
    subst h1
    exact⟨rfl,rfl⟩
 ·have:i=ns.length:=by omega
  subst this
  have hcl:=AIn (ns:=ns) (ks:=ks) ns.length
  have hsm:=AI8 (ns:=ns) (ks:=ks) ns.length (by omega)
  have st:∀ db,∃ SE S,Steps (l'.map (·.1)) (S2 [] inl EA db) SE∧He SE S∧S.db=db∧Xp (To (AIm ns ks ns.length)) (BS S):=fun db=>by
   rw[hm,←AJQ]
   exact QD inl db hio (AJg (by omega)) (by omega) (by omega)
  refine AEN _ _ _ _ _ (s13 (x:=r+(y+x)) (l:=l') (by rw[hl'];exact a.rdv.addL) (by omega) (fun o ho=>by rw[(hd o ho).1,(hd o ho).2];exact .inl ⟨none,0,rfl,rfl⟩) (fun o ho=>by rw[(hd o ho).2];show 0≤_;omega) st g.addR.addR w fun v os cs z h dv ov ok hP hnum hnn w=>?_)
  rw[DA,DH,F1,A91,AU]
  refine ABt _ _ _ (AHp hio (by omega) hP ok dv.addL ov.addL hnum w fun nsv nd ts ix y2 h tx d18 tv hts w=>?_)
  refine Ah w Re rfl fun b13 h w=>?_
  refine AL w ⟨[nsv]⟩ rfl rfl (by simp) (by obtain⟨⟨na,nc,hn⟩,_⟩:=d18.len;rw[hn];rfl) fun h w=>?_
  refine Cj w rfl ?_
  refine G5 w Ho rfl rfl rfl fun b9 h w=>?_
  obtain⟨t0,ht0,n0⟩:=tx.node 2 (BE.2 (.inl rfl))
  rw[tx.root] at ht0
  obtain⟨d1,d2,d3⟩:=n0.dir (Aj.2 (.inl rfl))
  have hk0:=d3 ([100],12) (Co.2 (.inr ⟨0,AIy,AIo _,rfl,rfl⟩))
  obtain⟨tD,htD,nD⟩:=tx.node 12 (BE.2 (.inr ⟨by omega,by omega⟩))
  have hdD:dirB (AIm ns ks ns.length) 12=true:=Aj.2 (.inr (.inr ⟨0,AIy,AIo _,AJG,rfl⟩))
  obtain⟨b1,b2,b3⟩:=nD.dir hdD
  have fi1:FindP ts 0 [[100]] (ix 12):=.cons ht0 hk0 d1 .nil
  have Tf:RdV 1 (.slice (some ⟨b9,0,none⟩) 1 1) [([100]:Bs)].length (strs [[100]]) (pts b9 (.cells ⟨[str [100]]⟩ 9 (0,0))):=.inr ⟨b9,0,1,[str [100]],9,(0,0),0,rfl,(Res.add_zero _).symm,by show 0+1*1≤1;omega,rfl,A07 _⟩
  have w:AN (pts b9 (.cells ⟨[str [100]]⟩ 9 (0,0))+(pts b13 (.cells ⟨[nsv]⟩ 40 (0,0))+(y2+(v.res+(z+(r+(y+x))))))) h:=w
  have k1:∀ B9 B13 Y X:Res,B9+(B13+(Y+X))=(B9+B13)+(Y+X):=by intros;ac_rfl
  refine ACJ _ _ _ _ (s15 (x:=(pts b9 (.cells ⟨[str [100]]⟩ 9 (0,0))+pts b13 (.cells ⟨[nsv]⟩ 40 (0,0)))+(y2+(v.res+(z+(r+(y+x)))))) d18.addL.addR tv.mono hts Tf.addL.addL (by show 1<_;omega) fi1 (w.cast (k1 _ _ _ _)) fun y3 h w=>?_)
  rw[DA,DH,F1,A91,Cr,fp]
  have k2:∀ Y3 B9 B13 X:Res,Y3+((B9+B13)+X)=B13+((Y3+B9)+X):=by intros;ac_rfl
  have w:=w.cast (k2 _ _ _ _)
  refine AW w (show (⟨[nsv]⟩:Array Value)[0]? = some nsv from rfl) ?_
  obtain⟨dvD,nvD,kvD,q1,q2,q3,q4⟩:=tv.get htD
  have hDl:=(A02.1 htD).1
  have hcell:nd[ix 12*18+16]? = some nvD:=by
   have hu:=TN.g16 (t:=tD) (dv:=dvD) (xv:=.slice none 0 0) (nv:=nvD) (kv:=kvD)
   rw[←q1] at hu
   have h2:((nd.drop (ix 12*18)).take 18)[16]? = some nvD:=by simpa using hu
   rw[A41,A03 (by omega),A53] at h2
   exact h2
  refine (d18.addL.addR.addR:RdV 18 nsv ts.length nd _).cell w hDl (by omega) hcell ?_
  obtain⟨⟨a3,c3,h3⟩,_⟩:=q3.len
  have hes:tD.ks.length=ns.length:=by rw[b2];exact AJH _
  have n1:∀ k:Value→Prop,AD .neq (.int .i64 (ns.length:Nat)) (.int .i64 (ns.length:Nat)) k=k (.bool false):=fun k=>by rw[A3];simp
  rw[h3,Aw,hv,Aw,hes,n1,AU]
  unfold AJb
  rw[Aw,←hv]
  have kx:∀ Y3 B9 Y2 V Z R Y X:Res,(Y3+B9)+(Y2+(V+(Z+(R+(Y+X)))))=((Y3+B9)+(Y2+(V+(Z+(R+Y)))))+X:=by intros;ac_rfl
  refine AJk (x:=(y3+pts b9 (.cells ⟨[str [100]]⟩ 9 (0,0)))+(y2+(v.res+(z+(r+(y+x)))))) (ts:=ts) (tD:=tD) dn.addR.addR.addR.addR.addR.addR hn dk.addR.addR.addR.addR.addR.addR hk d18.addL.addR tv.mono hts htD (by rw[tx.len,hcl]) ?_ w fun y4 h w=>K _ h (w.cast (by rw[kx,←Res.assoc]))
  intro i nm hnm
  have hil:=(A02.1 hnm).1
  have hnd:ns.getD i []=nm:=by rw[A10,hnm];rfl
  have hg:=AI0 (ns:=ns) (ks:=ks) ns.length i hil
  rw[hnd] at hg
  obtain⟨t,ht,nt⟩:=tx.node (12+(i+1)) (BE.2 (.inr ⟨by omega,by omega⟩))
  have hkk:=b3 (nm,12+(i+1)) (Co.2 (.inr ⟨i+1,_,hg,rfl,rfl⟩))
  obtain⟨m1,m2,m3⟩:=nt.it (i+1) _ rfl hg
  refine⟨ix (12+(i+1)),t,hkk,ht,m1.trans (AJK _).2,m2,?_,?_⟩
  ·cases hdb:dirB (AIm ns ks ns.length) (12+(i+1)) with
   | false=>exact nt.nodir hdb
   | true=>
    have hl:=(nt.dir hdb).2.1
    rw[AJP (by omega)] at hl
    exact A69.1 hl
  ·rw[m3];split<;>rfl
theorem s4 (dn:RdV 1 nv ns.length (strs ns) x)(dk:RdX x kv ks)(hn:ns.length≤2000000000)(hl:∀ b∈ns,b.length≤2000000000)(hk:ks.length≤2000000000)(g:JX x)(w:AN x h)
  (K:∀ y h,AN (y+x) h→Q (.bool true) h):f4 nv kv (.bool inl) h Q:=by
 have hK:Q (.bool true) h:=K 0 h (w.cast (Res.zero_add _).symm)
 obtain⟨⟨va,vc,hv⟩,_⟩:=dn.len
 obtain⟨ca,cc,hkv⟩:=dk.len
 unfold f4
 refine AJa _ _ _ (s18 dn hn hl w ?_)
 have e1:∀ k:Value→Prop,AD .gtr (.int .i64 (ks.length:Nat)) (.int .i64 2147483647) k=k (.bool false):=fun k=>by rw[Ao,A08 (by omega)]
 rw[F1,A91,Cr,hkv,Aw,e1,AU,←hkv]
 unfold AJc
 refine AJV _ _ _ (s19 dn hn hl w fun b hb=>?_)
 cases b with
 | false=>rw[F1,B44,PD];exact hK
 | true=>
  have hcr:=hb rfl
  rw[F1,A91,Cr,hkv,Aw,hv,Aw,AT,←hkv,←hv]
  refine AX (fun _=>hK) (fun hlt=>?_)
  unfold AJX
  refine AJC ?_
  refine Ah w AJO rfl fun mb h w=>?_
  refine AL w ⟨AIr⟩ rfl rfl (by simp[AIr]) rfl fun h w=>?_
  refine AJB ?_
  refine ACO (nm:=[100]) ?_
  refine AI6 w Fy (by omega) (by omega) (Op1.cells_len _ _) fun ob h w=>?_
  rw[hv,Aw,←hv]
  have a0:Vec 32 24 (.slice (some ⟨ob,0,none⟩) 1 1) 1 (FC [(.create [100] (AIp 16832 0),.slice none 0 0)]) (pts ob (.cells ⟨(Op1.create [100] (AIp 16832 0)).cells (.slice none 0 0)⟩ 32 (0,0))):=
   .own' (A07 _) (by rw[Op1.cells_len]) (by unfold FC;rw[B04,A43 (by rw[Op1.cells_len];omega)])
  exact AJj (x:=pts mb (.cells ⟨AIr⟩ 67 (0,0))+x) (mb:=mb) dn.addR hcr dk.addR (by omega) g.addR a0 w fun y h w=>K _ h (w.cast (Res.assoc _ _ _).symm)
end
end
end Go.Proofs.YtollddkkdgoonaaGreatDoor
