/- A part of a proof over images that are written and read. No condition; a step. -/
import Derived.Test.YtollddkkdgoonaaGreatDoorM23
namespace Go.Proofs.YtollddkkdgoonaaGreatDoor
open Go
set_option linter.unusedVariables false
set_option linter.unusedSimpArgs false
section
theorem Steps.append:∀ {l m:List Op1} {S S1 S2:PS},Steps l S S1→Steps m S1 S2→Steps (l++m) S S2
 | _,_,_,_,_,.nil,h=>h
 | _,_,_,_,_,.cons h1 h2,h=>.cons h1 (h2.append h)
theorem Nj:Fk EA=1:=by decide
theorem Xn (inl:Bool)(db:Nat):Wr inl [] (S2 [] inl EA db):=by
 have hm:S2 [] inl EA db = {S1 [] inl EA db with M:=D0 (M1 inl) 2 (rootP inl) (newP (dirF 16832) 11 inl) [] lostN}:=by
  unfold S2 PS.made
  simp only
  rw[A05 (by decide)]
  rfl
 have hpos:(1+Fk EA)*4096=8192:=by rw[Nj]
 have hM:(S2 [] inl EA db).M=none::some {rootP inl with kids:=some [(lostN,11)],links:=3}::(List.replicate 8 none++[some {newP (dirF 16832) 11 inl with links:=2}]):=by
  have k:kindB (modeK 16832)=16384:=by decide
  rw[hm]
  show (M1 inl++[some ((newP (dirF 16832) 11 inl).kl (newP (dirF 16832) 11 inl).kids ((if kindB (modeK 16832)=16384 then 1 else 0)+1))]).set 1 (some ((rootP inl).kl (some ([]++[(lostN,(M1 inl).length+1)])) (2+(if kindB (modeK 16832)=16384 then 1 else 0))))=_
  rw[A03 k]
  rfl
 have hp:(S2 [] inl EA db).pos=8192:=by rw[hm];exact hpos
 have hB:(S2 [] inl EA db).B=[]:=by rw[hm];rfl
 have hlk:(newP (dirF 16832) 11 inl).kids=some []:=by
  show (if kindB (modeK 16832)=16384 then some [] else none)=_
  rw[A03 (by decide)]
 have hfl:∀ m,kindB (modeK m)=16384→∀ n,(newP (dirF m) n inl).flags=262144:=fun m h n=>by
  show flK inl (kindB (modeK m)) 0=262144
  unfold flK inlK
  rw[h,A05 (by simp)]
 refine⟨by rw[hm];rfl,by rw[hm];rfl,by rw[hm];rfl,by rw[hm];exact Nj,by rw[hB,hp];simp,by rw[hp],by rw[hp];omega,by rw[hM];rfl,?_,?_,?_,fun j it h=>by simp at h,?_⟩
 ·intro i h
  rw[hM]
  rcases h with rfl|⟨h1,h2⟩
  ·rfl
  ·have:i=2∨i=3∨i=4∨i=5∨i=6∨i=7∨i=8∨i=9:=by omega
   rcases this with rfl|rfl|rfl|rfl|rfl|rfl|rfl|rfl<;>rfl
 ·rw[hM];rfl
 ·rw[hM]
  show some (some {newP (dirF 16832) 11 inl with links:=2})=some (some {newP (dirF 16832) 11 inl with kids:=some [],links:=2})
  rw[←hlk]
 ·rw[hM,hp]
  have e1:exO (some {rootP inl with kids:=some [(lostN,11)],links:=3})=[]:=by
   show (if (rootP inl).flags=786432 then _ else [])=[]
   rw[A05]
   show ¬(newP (dirF 16877) 2 inl).flags=_
   rw[hfl 16877 (by decide)];decide
  have e2:exO (some {newP (dirF 16832) 11 inl with links:=2})=[]:=by
   show (if (newP (dirF 16832) 11 inl).flags=786432 then _ else [])=[]
   rw[A05]
   rw[hfl 16832 (by decide)];decide
  rw[A37,A37,e1,A73,B04,e2]
  exact .refl _
def EW (its:List It):Nat:=(its.map fun it=>it.data.length+4095).sum
theorem Q0 {its:List It}{n:Nat}(h:n<its.length):EW (its.take (n+1))=EW (its.take n)+(its[n].data.length+4095):=by
 unfold EW
 rw[←List.take_append_getElem h,A36,B30]
 simp
theorem Va (its:List It)(n:Nat):EW (its.take n)≤EW its:=by
 have:EW its=EW (its.take n)+EW (its.drop n):=by
  unfold EW
  rw[←B30,←A36,B36]
 omega
section
variable {inl:Bool} {its:List It} {S0:PS}
theorem WY (w:Wr inl [] S0)(h0:S0.pos=8192)(hio:A7 its)(hn:its.length≤5000)(hsum:EW its≤100000000):∀ n,n≤its.length →
  ∃ Sy S',Steps ((its.take n).flatMap It.ops) S0 Sy∧Fin Sy S'∧Wr inl (its.take n) S'∧S'.pos≤8192+EW (its.take n)∧S'.db=S0.db
 | 0,_=>⟨S0,S0,.nil,.none w.cur,w,by rw[h0];omega,rfl⟩
 | n+1,hl=>by
  have hlt:n<its.length:=by omega
  obtain⟨Sy,S',s1,f1,w1,p1,q1⟩:=WY w h0 hio hn hsum n (by omega)
  have hio':A7 (its.take n):=fun j it hj=>by
   have hjl:=(A02.1 hj).1
   rw[A20] at hjl
   rw[A41,A03 (by omega)] at hj
   have:=hio j it hj
   rw[A95,A30 (by omega)]
   exact this
  have hi:=hio n _ (A00 hlt)
  have hs:=Q0 hlt
  have hs2:=Va its (n+1)
  have hbg:=hi.big
  obtain⟨S2,k1,k2,k3,k4⟩:=AAm w1 hio' hi (by rw[A20];omega) (by omega)
  obtain⟨Sz,s2,f2⟩:=k1 Sy f1
  refine⟨Sz,S2,?_,f2,?_,by omega,k4.trans q1⟩
  ·rw[←List.take_append_getElem hlt,A73,B04]
   exact s1.append s2
  ·rw[←List.take_append_getElem hlt];exact k2
end
end
section
def dirB (its:List It)(k:Nat):Bool:=decide (k=2)||decide (k=11)||(decide (12≤k)&&(match its[k-12]? with|some it=>it.isD|none=>false))
def parOf (its:List It)(c:Nat):Nat:=if c<12 then 2 else match its[c-12]? with|some it=>it.dir|none=>2
theorem Aj {its:List It}{k:Nat}:dirB its k=true↔k=2∨k=11∨∃ j it,its[j]? = some it∧it.isD=true∧k=12+j:=by
 unfold dirB
 simp only[B14,A84,A42]
 constructor
 ·rintro ((h|h)|⟨h1,h2⟩)
  ·exact .inl h
  ·exact .inr (.inl h)
  ·cases hg:its[k-12]? with
   | none=>rw[hg] at h2;cases h2
   | some it=>rw[hg] at h2;exact .inr (.inr ⟨k-12,it,hg,h2,by omega⟩)
 ·rintro (h|h|⟨j,it,h1,h2,h3⟩)
  ·exact .inl (.inl h)
  ·exact .inl (.inr h)
  ·refine .inr ⟨by omega,?_⟩
   rw[show k-12=j by omega,h1];exact h2
theorem HY {its:List It}{j:Nat}{it:It}(h:its[j]? = some it):parOf its (12+j)=it.dir:=by
 unfold parOf
 rw[A05 (by omega),show 12+j-12=j by omega,h]
section
variable {its:List It}
theorem Ht (hio:A7 its){c:Nat}(h:2≤c):2≤parOf its c∧parOf its c≤c:=by
 unfold parOf
 split
 ·omega
 ·cases hg:its[c-12]? with
  | none=>exact⟨A07 _,h⟩
  | some it=>
   have:=hio.dir_lt hg
   show 2≤it.dir∧it.dir≤c
   omega
theorem DT (hio:A7 its){c:Nat}{e:Bs×Nat}(he:e∈esOf its c):c<e.2∧parOf its e.2=c∧e.2<12+its.length∧11≤e.2∧2≤c:=by
 rcases Co.1 he with⟨h1,h2⟩|⟨j,it,h1,h2,h3⟩
 ·subst h1 h2
  exact⟨by decide,rfl,by show 11<_;omega,A07 _,A07 _⟩
 ·subst h3
  have:=hio.dir_lt h1
  have:=(A02.1 h1).1
  rw[show (it.nm,12+j).2=12+j from rfl,HY h1]
  omega
def X6 (its:List It):Nat→Nat→Nat
 | 0,k=>k
 | n+1,k=>parOf its (X6 its n k)
theorem Mr (n k:Nat):∀ d,X6 its (n+d) k=X6 its d (X6 its n k)
 | 0=>rfl
 | d+1=>A76 (parOf its) (Mr n k d)
theorem Wf (hio:A7 its){k:Nat}(h:2≤k):∀ n,2≤X6 its n k∧X6 its n k≤k
 | 0=>⟨h,A07 _⟩
 | n+1=>by
  have h1:=Wf hio h n
  have h2:=Ht hio h1.1
  exact⟨h2.1,B28 h2.2 h1.2⟩
theorem XO (hio:A7 its){k a b c n m:Nat}(ha:X6 its n k=a)(hb:X6 its m k=b)(pa:parOf its a=c)(hcb:c<b)(hc:2≤c)(hnm:n≤m):a=b:=by
 obtain⟨d,rfl⟩:=Nat.exists_eq_add_of_le hnm
 rw[Mr,ha] at hb
 cases d with
 | zero=>exact hb
 | succ d=>
  rw[B54 d 1,Mr] at hb
  have e:X6 its 1 a=c:=pa
  rw[e] at hb
  have:=(Wf hio hc d).2
  omega
def Ps (its:List It):Nat→Nat→List Nat
 | 0,_=>[]
 | f+1,c=>c::(esOf its c).flatMap fun e=>if dirB its e.2=true then Ps its f e.2 else []
theorem Fn (hio:A7 its):∀ (f c:Nat),2≤c→c<12+its.length→dirB its c=true→∀ k∈Ps its f c,(∃ n,X6 its n k=c)∧c≤k∧k<12+its.length∧dirB its k=true
 | 0,_,_,_,_,k,h=>by cases h
 | f+1,c,h2,hlt,hd,k,h=>by
  rcases A32.1 h with h1|h1
  ·subst h1;exact⟨⟨0,rfl⟩,A07 _,hlt,hd⟩
  ·obtain⟨e,he,hk⟩:=A98.1 h1
   obtain⟨a1,a2,a3,a4,a5⟩:=DT hio he
   by_cases hb:dirB its e.2=true
   ·rw[A03 hb] at hk
    obtain⟨⟨n,b1⟩,b2,b3,b4⟩:=Fn hio f e.2 (by omega) a3 hb k hk
    exact⟨⟨n+1,by rw[X6,b1];exact a2⟩,by omega,b3,b4⟩
   ·rw[A05 hb] at hk;cases hk
theorem L4 (hio:A7 its):∀ (f c:Nat),2≤c→c<12+its.length→dirB its c=true→(Ps its f c).Nodup
 | 0,_,_,_,_=>.nil
 | f+1,c,h2,hlt,hd=>by
  rw[Ps,A90]
  constructor
  ·intro h
   obtain⟨e,he,hk⟩:=A98.1 h
   obtain⟨a1,a2,a3,a4,a5⟩:=DT hio he
   by_cases hb:dirB its e.2=true
   ·rw[A03 hb] at hk
    have:=(Fn hio f e.2 (by omega) a3 hb c hk).2.1
    omega
   ·rw[A05 hb] at hk;cases hk
  ·unfold List.Nodup
   rw[List.pairwise_flatMap]
   constructor
   ·intro e he
    obtain⟨a1,a2,a3,a4,a5⟩:=DT hio he
    by_cases hb:dirB its e.2=true
    ·rw[A03 hb];exact L4 hio f e.2 (by omega) a3 hb
    ·rw[A05 hb];exact .nil
   ·refine List.Pairwise.imp_of_mem ?_ (IB c)
    intro a b ha hb hlt' x hx y hy hxy
    subst hxy
    obtain⟨a1,a2,a3,a4,a5⟩:=DT hio ha
    obtain⟨b1,b2,b3,b4,b5⟩:=DT hio hb
    by_cases hda:dirB its a.2=true
    ·rw[A03 hda] at hx
     by_cases hdb:dirB its b.2=true
     ·rw[A03 hdb] at hy
      obtain⟨n,hn⟩:=(Fn hio f a.2 (by omega) a3 hda x hx).1
      obtain⟨m,hm⟩:=(Fn hio f b.2 (by omega) b3 hdb x hy).1
      rcases Nat.le_total n m with h|h
      ·have:=XO hio hn hm a2 b1 a5 h;omega
      ·have:=XO hio hm hn b2 a1 a5 h;omega
     ·rw[A05 hdb] at hy;cases hy
    ·rw[A05 hda] at hx;cases hx
theorem K6 (hio:A7 its):∀ (f c d:Nat) (e:Bs×Nat),12+its.length<f+c→d∈Ps its f c→e∈esOf its d→dirB its e.2=true→e.2∈Ps its f c
 | 0,_,_,_,_,h,_,_=>by cases h
 | f+1,c,d,e,hf,h,he,hb=>by
  rcases A32.1 h with h1|h1
  ·subst h1
   refine A16 _ (A98.2 ⟨e,he,?_⟩)
   rw[A03 hb]
   obtain⟨a1,a2,a3,a4,a5⟩:=DT hio he
   cases f with
   | zero=>omega
   | succ f=>exact A13 ..
  ·obtain⟨x,hx,hk⟩:=A98.1 h1
   obtain⟨a1,a2,a3,a4,a5⟩:=DT hio hx
   by_cases hbx:dirB its x.2=true
   ·rw[A03 hbx] at hk
    refine A16 _ (A98.2 ⟨x,hx,?_⟩)
    rw[A03 hbx]
    exact K6 hio f x.2 d e (by omega) hk he hb
   ·rw[A05 hbx] at hk;cases hk
theorem AAt (hio:A7 its){f:Nat}(hf:12+its.length<f):∀ k,dirB its k=true→k∈Ps its f 2:=by
 intro k
 induction k using Nat.strongRecOn with
 | ind k ih=>
  intro hk
  rcases Aj.1 hk with h|h|⟨j,it,h1,h2,h3⟩
  ·subst h
   cases f with
   | zero=>omega
   | succ f=>exact A13 ..
  ·subst h
   have h2:2∈Ps its f 2:=by
    cases f with
    | zero=>omega
    | succ f=>exact A13 ..
   exact K6 hio f 2 2 (lostN,11) (by omega) h2 (Co.2 (.inl ⟨rfl,rfl⟩)) hk
  ·have hlt:=hio.dir_lt h1
   have hd:dirB its it.dir=true:=by
    obtain⟨st,hw,_⟩:=(hio j it h1).way
    rcases hw.cases with⟨h4,_⟩|⟨j',x,e1,e2,e3⟩
    ·exact Aj.2 (.inl h4)
    ·have hl:=(A02.1 e1).1
     rw[A20] at hl
     rw[A41,A03 (by omega)] at e1
     exact Aj.2 (.inr (.inr ⟨j',x,e1,e2,e3⟩))
   have:=ih it.dir (by omega) hd
   subst h3
   exact K6 hio f 2 it.dir (it.nm,12+j) (by omega) this (Co.2 (.inr ⟨j,it,h1,rfl,rfl⟩)) hk
end
end
section
def I8 (its:List It)(c:Nat):List Bs:=(esOf its c).map (·.1)
def enD (M:List (Option PN))(its:List It)(c:Nat):List (Nat×Nat×Bs):=Cf M c (parOf its c) (esOf its c) (I8 its c)
def bsD (M:List (Option PN))(its:List It)(c:Nat):Bs:=Bg (enD M its c)
def dirN (p:PN)(st len:Nat):PN:={p with size:=len,dbs:=extRoot (len/4096) st,flags:=786432,bcnt:=len/4096}
section
variable {inl:Bool} {its:List It} {S1 S:PS} {D:List Nat} {c:Nat}
theorem IX (hio:A7 its)(M:List (Option PN))(c:Nat):enD M its c=(c,EG (modeAt M c),[46])::(parOf its c,EG (modeAt M (parOf its c)),[46,46])::(esOf its c).map fun e=>(e.2,EG (modeAt M e.2),e.1):=by
 unfold enD Cf I8
 rw[B05]
 congr 2
 apply A72
 intro e he
 show FX M (esOf its c) e.1=_
 unfold FX
 rw[IA (C1 hio c) he]
 rfl
theorem W2 (hio:A7 its){e:Bs×Nat}(he:e∈esOf its c):1≤e.1.length∧e.1.length<256:=by
 rcases Co.1 he with⟨h1,h2⟩|⟨j,it,h1,h2,h3⟩
 ·subst h2;decide
 ·subst h3
  have:=(hio j it h1).n1
  have:=(hio j it h1).n2
  show 1≤it.nm.length∧it.nm.length<256
  omega
theorem VX (hio:A7 its)(hn:its.length≤5000)(h2:2≤c)(hc:c<12+its.length)(M:List (Option PN)):∀ e∈enD M its c,ZP e:=by
 rw[IX hio]
 intro e he
 have hp:=Ht hio h2
 rcases A32.1 he with h|h
 ·subst h;exact⟨by show 0<c;omega,by show c<_;omega,M4 _,by show 0<1;omega,by show 1<256;omega⟩
 ·rcases A32.1 h with h|h
  ·subst h;exact⟨by show 0<parOf its c;omega,by show parOf its c<_;omega,M4 _,by show 0<2;omega,by show 2<256;omega⟩
  ·obtain⟨x,hx,rfl⟩:=A35.1 h
   obtain⟨a1,a2,a3,a4,a5⟩:=DT hio hx
   obtain⟨n1,n2⟩:=W2 hio hx
   exact⟨by show 0<x.2;omega,by show x.2<_;omega,M4 _,n1,n2⟩
theorem SU (hio:A7 its)(M:List (Option PN))(c:Nat):(enD M its c).length=(esOf its c).length+2:=by
 rw[IX hio];simp
theorem Jp (hio:A7 its)(hn:its.length≤5000)(h2:2≤c)(hc:c<12+its.length)(M:List (Option PN)):(bsD M its c).length%4096=0∧4096≤(bsD M its c).length∧(bsD M its c).length≤4096*((esOf its c).length+3):=by
 obtain⟨_,a,b,d⟩:=Oo (VX hio hn h2 hc M)
 rw[SU hio] at d
 exact⟨a,b,d⟩
theorem Ji (w:Wr inl its S1){k:Nat}(h:k=2∨11≤k∧k<12+its.length):∃ p,S1.M[k-1]? = some (some p):=by
 rcases h with rfl|⟨h1,h2⟩
 ·exact⟨_,w.root⟩
 ·by_cases h3:k=11
  ·subst h3;exact⟨_,w.lf⟩
  ·obtain⟨p,hp,_⟩:=w.node (k-12) _ (A00 (by omega))
   exact⟨p,by rw[show k-1=11+(k-12) by omega];exact hp⟩
theorem S9 (w:Wr inl its S1)(hio:A7 its)(hc:dirB its c=true):∃ q,DirAt S1 its c q∧q.bcnt=0:=by
 have hroot:∀ m n,kindB (modeK m)=16384→(newP (dirF m) n inl).flags=262144:=fun m n h=>by
  show flK inl (kindB (modeK m)) 0=_
  unfold flK inlK;rw[h,A05 (by simp)]
 rcases Aj.1 hc with rfl|rfl|⟨j,it,h1,h2,rfl⟩
 ·refine⟨_,⟨w.root,F6 inl,?_,?_,by omega,hroot 16877 2 (by decide)⟩,rfl⟩
  ·unfold esOf;rfl
  ·have:=Ff its 2;show 3+dirsOf its 2≤_;omega
 ·refine⟨_,⟨w.lf,?_,?_,?_,by omega,hroot 16832 11 (by decide)⟩,rfl⟩
  ·show kindB (modeK 16832)=16384;decide
  ·show some (kidsOf its 11)=_
   unfold esOf;rw[A05 (by omega),A34]
  ·have:=Ff its 11;show 2+dirsOf its 11≤_;omega
 ·obtain⟨p,hp,he,hh⟩:=w.node j it h1
  have hk:it.kd=16384:=of_decide_eq_true h2
  have hdat:=(hio j it h1).dat
  rw[A05 (by omega)] at hdat
  have hh:=hh.hold
  rw[A05 (by unfold inlK;rw[hk];simp),A03 hdat] at hh
  refine⟨p,⟨by rw[show 12+j-1=11+j by omega];exact hp,?_,?_,?_,by omega,hh.1⟩,hh.2.2⟩
  ·rw[he];exact hk
  ·rw[he]
   show (if it.isD=true then some (kidsOf its (12+j)) else none)=_
   rw[A03 h2]
   unfold esOf
   rw[A05 (by omega),A34]
  ·rw[he]
   show 1+(if it.isD=true then 1+dirsOf its (12+j) else 0)≤_
   have:=Ff its (12+j)
   split<;>omega
structure JU (its:List It) (S1:PS) (D:List Nat) (S:PS):Prop where
 cur:S.cur=none
 same:S.inl=S1.inl∧S.max=S1.max∧S.gd=S1.gd∧S.db=S1.db
 Ble:S.B.length≤S.pos
 Beq:D≠[]→S.B.length=S.pos
 ext:∃ Y,bx S.B S.pos=bx S1.B S1.pos++Y
 al:S.pos%4096=0
 big:8192≤S.pos
 len:S.M.length=S1.M.length
 out:∀ k,k∉D→1≤k→S.M[k-1]? = S1.M[k-1]?
 in_:∀ k∈D,∃ q st,DirAt S1 its k q∧S.M[k-1]? = some (some (dirN q st (bsD S1.M its k).length))∧2≤st∧st*4096+(bsD S1.M its k).length≤S.pos∧((bx S.B S.pos).drop (st*4096)).take (bsD S1.M its k).length=bsD S1.M its k
 own:(S.M.flatMap exO).Perm (blks (S.pos/4096))
 posb:S.pos≤S1.pos+(D.map fun k=>(bsD S1.M its k).length).sum
theorem JU.mode (a:JU its S1 D S)(k:Nat)(h1:1≤k):modeAt S.M k=modeAt S1.M k:=by
 by_cases h:k∈D
 ·obtain⟨q,st,b1,b2,_⟩:=a.in_ k h
  unfold modeAt
  rw[b2,b1.at_];rfl
 ·unfold modeAt
  rw[a.out k h h1]
theorem JU.some_ (a:JU its S1 D S){k:Nat}(h1:1≤k)(h:∃ p,S1.M[k-1]? = some (some p)):∃ p,S.M[k-1]? = some (some p):=by
 by_cases hk:k∈D
 ·obtain⟨q,st,b1,b2,_⟩:=a.in_ k hk
  exact⟨_,b2⟩
 ·rw[a.out k hk h1];exact h
theorem JU.start (w:Wr inl its S1):JU its S1 [] S1:=
 ⟨w.cur,⟨rfl,rfl,rfl,rfl⟩,w.B,fun h=>absurd rfl h,⟨[],(A22 _).symm⟩,w.al,w.big,rfl,fun _ _ _=>rfl,fun _ h=>(by cases h),w.own,by simp⟩
theorem UH {M:List (Option PN)}{i:Nat}{a b:Option PN}(h:M[i]? = some a)(he:exO a=[]):((M.set i b).flatMap exO).Perm (M.flatMap exO++exO b):=by
 induction M generalizing i with
 | nil=>simp at h
 | cons o M ih=>
  cases i with
  | zero=>
   rw[A51,A26] at h
   subst h
   rw[List.set_cons_zero,A37,A37,he,A34]
   exact List.perm_append_comm
  | succ i=>
   rw[A63] at h
   rw[List.set_cons_succ,A37,A37,A12]
   exact (ih h).append_left _
set_option maxRecDepth 20000 in
theorem VF (w:Wr inl its S1)(hio:A7 its)(hn:its.length≤5000)(a:JU its S1 D S)(hc:dirB its c=true)(hcD:c∉D)(h2:2≤c)(hlt:c<12+its.length)(hroom:S.pos≤10000000000) :
  ∃ n np S',F0 S c (parOf its c) n np (esOf its c) (I8 its c)∧Fin (S.dirDone c n (Bg (Cf S.M c (parOf its c) (esOf its c) (I8 its c)))) S'∧JU its S1 (D++[c]) S':=by
 obtain⟨q,hq,hqb⟩:=S9 w hio hc
 have hMc:S.M[c-1]? = some (some q):=by rw[a.out c hcD (by omega)];exact hq.at_
 have hpar:=Ht hio h2
 have hmax:S.max=17179869184:=by rw[a.same.2.1];exact w.max
 have hel:=Hq its c
 have hpp:∃ np,S.M[parOf its c-1]? = some (some np):=by
  refine a.some_ (by omega) (Ji w ?_)
  rcases Aj.1 hc with rfl|rfl|⟨j,it,h1,h2',rfl⟩
  ·exact .inl rfl
  ·exact .inl rfl
  ·rw[HY h1]
   have:=hio.dir_lt h1
   have:=(A02.1 h1).1
   omega
 obtain⟨np,hnp⟩:=hpp
 have henD:Cf S.M c (parOf its c) (esOf its c) (I8 its c)=enD S1.M its c:=by
  show enD S.M its c=enD S1.M its c
  rw[IX hio,IX hio,a.mode c (by omega),a.mode (parOf its c) (by omega)]
  congr 2
  apply A72
  intro e he
  obtain⟨a1,a2,a3,a4,a5⟩:=DT hio he
  rw[a.mode e.2 (by omega)]
 rw[henD]
 obtain⟨l1,l2,l3⟩:=Jp hio hn h2 hlt S1.M
 show ∃ n np S',F0 S c (parOf its c) n np (esOf its c) (I8 its c)∧Fin (S.dirDone c n (bsD S1.M its c)) S'∧JU its S1 (D++[c]) S'
 have hbs:∃ bs,bsD S1.M its c=bs:=⟨_,rfl⟩
 obtain⟨bs,hbs⟩:=hbs
 rw[hbs] at l1 l2 l3 ⊢
 have hal:=a.al
 have hbig:=a.big
 have hbl:bs.length≤30000000:=by omega
 have ctx:F0 S c (parOf its c) q np (esOf its c) (I8 its c):=by
  refine⟨a.cur,by omega,hMc,hq.kids,?_,fun e he=>W2 hio he,by omega,hnp,hq.fl,a.Ble,by rw[hmax];omega,by omega,?_,?_⟩
  ·intro e he
   obtain⟨a1,a2,a3,a4,a5⟩:=DT hio he
   exact⟨by omega,a.some_ (by omega) (Ji w (by omega))⟩
  ·exact AAe (C1 hio c) (IB c)
  ·intro x hx
   obtain⟨e,he,rfl⟩:=A35.1 hx
   exact⟨e.2,IA (C1 hio c) he⟩
 have hBl:(BG S.B S.pos bs).length=S.pos+bs.length:=by rw[J1 a.Ble,A01,Ee a.Ble]
 have hup:Eu (S.pos+bs.length)=S.pos+bs.length:=by unfold Eu;omega
 have hcl:c-1<S.M.length:=(A02.1 hMc).1
 let S':PS:={S with M:=S.M.set (c-1) (some (dirN q (S.pos/4096) bs.length)),B:=bx S.B S.pos++bs,pos:=S.pos+bs.length,cur:=none,dw:=0,dm:=0}
 have hfin:Fin (S.dirDone c q bs) S':=by
  have e1:S.dirDone c q bs = {S with M:=S.M.set (c-1) (some {q with size:=bs.length}),B:=BG S.B S.pos bs,pos:=S.pos+bs.length,cur:=some c,dw:=bs.length,dm:=bs.length}:=by
   unfold PS.dirDone PS.dirOpen PS.wrote
   rw[A29]
  have hget:(S.M.set (c-1) (some {q with size:=bs.length}))[c-1]? = some (some {q with size:=bs.length}):=by
   rw[A54,A03 rfl,A03 hcl]
  rw[e1]
  have f:=Fin.big (S:={S with M:=S.M.set (c-1) (some {q with size:=bs.length}),B:=BG S.B S.pos bs,pos:=S.pos+bs.length,cur:=some c,dw:=bs.length,dm:=bs.length}) (c:=c) rfl (by omega) hget rfl (by show 1≤bs.length;omega) hq.fl (by show bs.length≤S.pos+bs.length;omega) (by show (S.pos+bs.length-bs.length)%4096=0;omega) (by show (BG S.B S.pos bs).length≤S.pos+bs.length;omega) (by show bs.length≤_;omega) (by show S.pos+bs.length+4096≤S.max;omega) (by show q.bcnt<_;omega)
  have e3:({S with M:=S.M.set (c-1) (some {q with size:=bs.length}),B:=BG S.B S.pos bs,pos:=S.pos+bs.length,cur:=some c,dw:=bs.length,dm:=bs.length}:PS).shut c {q with size:=bs.length}=S':=by
   unfold PS.shut PN.ext
   have x1:S.pos+bs.length-bs.length=S.pos:=by omega
   have x2:(S.pos+bs.length-S.pos)/4096=bs.length/4096:=by congr 1;omega
   have x3:q.flags ||| 524288=786432:=by rw[hq.fl];decide
   have x4:q.bcnt+bs.length/4096=bs.length/4096:=by omega
   show ({S with M:=(S.M.set (c-1) (some {q with size:=bs.length})).set (c-1) (some {q with size:=bs.length,dbs:=extRoot ((Eu (S.pos+bs.length)-(S.pos+bs.length-bs.length))/4096) ((S.pos+bs.length-bs.length)/4096),flags:=q.flags ||| 524288,bcnt:=q.bcnt+(Eu (S.pos+bs.length)-(S.pos+bs.length-bs.length))/4096}),B:=I1 (BG S.B S.pos bs) (S.pos+bs.length),pos:=Eu (S.pos+bs.length),cur:=_,dw:=_,dm:=_}:PS)=_
   rw[hup,x1,x2,x3,x4,List.set_set,NB hBl,hup,A87,B50,A22,J1 a.Ble]
   rfl
  rw[←e3]
  exact f
 refine⟨q,np,S',ctx,hfin,?_⟩
 have hB'l:(bx S.B S.pos++bs).length=S.pos+bs.length:=by rw[A01,Ee a.Ble]
 have hbx:bx S'.B S'.pos=bx S.B S.pos++bs:=VA hB'l
 have g1:∀ k,k≠c→1≤k→S'.M[k-1]? = S.M[k-1]?:=fun k hk h1=>by
  show (S.M.set (c-1) _)[k-1]? = _
  rw[A54,A05 (by omega)]
 have g2:S'.M[c-1]? = some (some (dirN q (S.pos/4096) bs.length)):=by
  show (S.M.set (c-1) _)[c-1]? = _
  rw[A54,A03 rfl,A03 hcl]
 refine⟨rfl,a.same,by show (bx S.B S.pos++bs).length≤S.pos+bs.length;omega,fun _=>hB'l,?_,by show (S.pos+bs.length)%4096=0;omega,by show 8192≤S.pos+bs.length;omega,by show (S.M.set _ _).length=_;rw[A89];exact a.len,?_,?_,?_,?_⟩
 ·obtain⟨Y,hY⟩:=a.ext
  exact⟨Y++bs,by rw[hbx,hY,A12]⟩
 ·intro k hk h1
  rw[g1 k (fun e=>hk (by simp[e])) h1]
  exact a.out k (fun h=>hk (A81 _ h)) h1
 ·intro k hk
  by_cases hkc:k=c
  ·subst hkc
   rw[hbs]
   refine⟨q,S.pos/4096,hq,g2,by omega,by show _≤S.pos+bs.length;omega,?_⟩
   rw[hbx]
   have:=Fa (A:=bx S.B S.pos) (X:=bs) (R:=[]) (a:=S.pos/4096*4096) (n:=bs.length) (by rw[Ee a.Ble];omega) rfl
   rw[A22] at this
   exact this
  ·have hkD:k∈D:=by
    rcases A88.1 hk with h|h
    ·exact h
    ·exact absurd (A78.1 h) hkc
   obtain⟨q',st,b1,b2,b3,b4,b5⟩:=a.in_ k hkD
   have h1:1≤k:=b1.d1
   refine⟨q',st,b1,(g1 k hkc h1).trans b2,b3,by show _≤S.pos+bs.length;omega,?_⟩
   have hl:(bx S.B S.pos).length=S.pos:=Ee a.Ble
   rw[hbx,A52 (by omega),A24 (by rw[A27];omega)]
   exact b5
 ·show ((S.M.set (c-1) _).flatMap exO).Perm (blks ((S.pos+bs.length)/4096))
  have hex:exO (some q)=[]:=by
   show Nz q=[]
   unfold Nz;rw[A05];rw[hq.fl];decide
  have hst:leL (extRoot (bs.length/4096) (S.pos/4096)) 20 4=S.pos/4096:=by
   obtain⟨x1,_⟩:=ES (len:=bs.length/4096) (st:=S.pos/4096) (by omega) (by omega)
   have:=x1.st
   rw[EQ (by omega),DQ] at this
   exact this
  have hex2:exO (some (dirN q (S.pos/4096) bs.length))=(List.range ((S.pos+bs.length)/4096-S.pos/4096)).map (S.pos/4096 + ·):=by
   show Nz _=_
   unfold Nz
   rw[A03 (show (dirN q (S.pos/4096) bs.length).flags=786432 from rfl)]
   show (List.range (bs.length/4096)).map (leL (extRoot (bs.length/4096) (S.pos/4096)) 20 4 + ·)=_
   rw[hst]
   congr 2
   omega
  refine (UH hMc hex).trans ?_
  rw[hex2,Kd (a:=S.pos/4096) (b:=(S.pos+bs.length)/4096) (by omega) (by omega)]
  exact a.own.append_right _
 ·show S.pos+bs.length≤_
  have:=a.posb
  rw[A36,B30]
  simp only[A33,B46,A75,List.sum_nil,hbs]
  omega
end
end
section
theorem Ox {S0 S:PS}(f:Fin S0 S){i:Nat}{p:PN}(h:S.M[i]? = some (some p)):∃ p0,S0.M[i]? = some (some p0)∧p0.kids=p.kids∧p0.mode=p.mode:=by
 cases f with
 | none _=>exact⟨p,h,rfl,rfl⟩
 | small _ _ _ _ _=>exact⟨p,h,rfl,rfl⟩
 | big h1 h2 h3 h4 h5 h6 h7 h8 h9 h10 h11 h12=>
  rename_i c n
  have h:(S0.M.set (c-1) (some (n.ext S0.pos S0.dw)))[i]? = some (some p):=h
  rw[A54] at h
  by_cases hc:c-1=i
  ·subst hc
   rw[A03 rfl,A03 (A02.1 h3).1] at h
   have:=A14 (A14 h)
   subst this
   exact⟨n,h3,rfl,rfl⟩
  ·rw[A05 hc] at h
   exact⟨p,h,rfl,rfl⟩
section
variable {inl:Bool} {its:List It} {S1 S:PS} {D:List Nat} {c:Nat}
theorem PR (w:Wr inl its S1){k:Nat}{p:PN}(hk:k=2∨11≤k∧k<12+its.length)(hp:S1.M[k-1]? = some (some p)):kindB p.mode=16384↔dirB its k=true:=by
 rcases hk with rfl|⟨h1,h2⟩
 ·have:=A14 (A14 (hp.symm.trans w.root))
  subst this
  exact⟨fun _=>Aj.2 (.inl rfl),fun _=>F6 inl⟩
 ·by_cases h3:k=11
  ·subst h3
   have:=A14 (A14 (hp.symm.trans w.lf))
   subst this
   exact⟨fun _=>Aj.2 (.inr (.inl rfl)),fun _=>by show kindB (modeK 16832)=16384;decide⟩
  ·obtain⟨j,rfl⟩:∃ j,k=12+j:=⟨k-12,by omega⟩
   have hj:its[j]? = some its[j]:=A00 (by omega)
   obtain⟨p',hp',he,_⟩:=w.node j _ hj
   rw[show 12+j-1=11+j by omega] at hp
   have:=A14 (A14 (hp.symm.trans hp'))
   subst this
   have hm:kindB p.mode=its[j].kd:=by rw[he];rfl
   rw[hm,Aj]
   constructor
   ·intro h;exact .inr (.inr ⟨j,_,hj,A04 h,rfl⟩)
   ·rintro (h|h|⟨j',x,e1,e2,e3⟩)
    ·omega
    ·omega
    ·have:j'=j:=by omega
     subst this
     rw[hj] at e1
     rw[A14 e1]
     exact of_decide_eq_true e2
theorem JU.kids (a:JU its S1 D S)(w:Wr inl its S1)(hio:A7 its)(hc:dirB its c=true):∃ p,S.M[c-1]? = some (some p)∧p.kids=some (esOf its c):=by
 by_cases h:c∈D
 ·obtain⟨q,st,b1,b2,_⟩:=a.in_ c h
  exact⟨_,b2,b1.kids⟩
 ·obtain⟨q,hq,_⟩:=S9 w hio hc
  exact⟨q,by rw[a.out c h hq.d1];exact hq.at_,hq.kids⟩
def ABB (its:List It)(S1:PS)(f:Nat):Prop:=∀ (c:Nat) (D:List Nat) (S0 S:PS),Fin S0 S→JU its S1 D S→12+its.length<f+c→dirB its c=true→2≤c→c<12+its.length→(D++Ps its f c).Nodup→(∀ k∈D,dirB its k=true∧2≤k∧k<12+its.length)→
  ∃ S' S'',RecD f S0 c (parOf its c) S'∧Fin S' S''∧JU its S1 (D++Ps its f c) S''
theorem AIu (w:Wr inl its S1)(hio:A7 its){f:Nat}(ih:ABB its S1 f)(hf:12+its.length<f+1+c)(hc:dirB its c=true)(h2:2≤c)(hlt:c<12+its.length) :
  ∀ (l:List (Bs×Nat)) (D:List Nat) (S0 S:PS),(∀ e∈l,e∈esOf its c)→Fin S0 S→JU its S1 D S→(D++l.flatMap fun e=>if dirB its e.2=true then Ps its f e.2 else []).Nodup→(∀ k∈D,dirB its k=true∧2≤k∧k<12+its.length)→
   ∃ S' S'',Um (RecD f) c (esOf its c) S0 (l.map (·.1)) S'∧Fin S' S''∧JU its S1 (D++l.flatMap fun e=>if dirB its e.2=true then Ps its f e.2 else []) S''
 | [],D,S0,S,_,hfin,a,_,_=>⟨S0,S,rfl,hfin,by rw[List.flatMap_nil,A22];exact a⟩
 | e::l,D,S0,S,hl,hfin,a,hnd,hD=>by
  have he:=hl e (A13 ..)
  obtain⟨a1,a2,a3,a4,a5⟩:=DT hio he
  obtain⟨p,hp,hpk⟩:=a.kids w hio hc
  obtain⟨n,hn,hnk,_⟩:=Ox hfin hp
  obtain⟨p1,hp1⟩:=Ji w (k:=e.2) (.inr ⟨a4,a3⟩)
  obtain⟨pk,hpk'⟩:=a.some_ (k:=e.2) (by omega) ⟨p1,hp1⟩
  obtain⟨nk,hnk1,_,hnk3⟩:=Ox hfin hpk'
  have hmode:nk.mode=p1.mode:=by
   have:=a.mode e.2 (by omega)
   unfold modeAt at this
   rw[hpk',hp1] at this
   exact hnk3.trans this
  have hki:=PR w (k:=e.2) (.inr ⟨a4,a3⟩) hp1
  have hlook:=IA (C1 hio c) he
  rw[A37] at hnd ⊢
  by_cases hb:dirB its e.2=true
  ·rw[A03 hb] at hnd ⊢
   rw[←A12] at hnd ⊢
   obtain⟨T1,T2,r1,f1,a1'⟩:=ih e.2 D S0 S hfin a (by omega) hb (by omega) a3 (A65.1 hnd).1 hD
   rw[a2] at r1
   have hD':∀ k∈D++Ps its f e.2,dirB its k=true∧2≤k∧k<12+its.length:=fun k hk=>by
    rcases A88.1 hk with h|h
    ·exact hD k h
    ·obtain⟨_,b2,b3,b4⟩:=Fn hio f e.2 (by omega) a3 hb k h
     exact⟨b4,by omega,b3⟩
   obtain⟨T3,T4,r2,f2,a2'⟩:=AIu w hio ih hf hc h2 hlt l (D++Ps its f e.2) T1 T2 (fun x hx=>hl x (A16 _ hx)) f1 a1' hnd hD'
   refine⟨T3,T4,⟨n,e.2,nk,hn,hnk.trans hpk,hlook,by omega,hnk1,?_⟩,f2,a2'⟩
   rw[A03 (by rw[hmode];exact hki.2 hb)]
   exact⟨T1,r1,r2⟩
  ·rw[A05 hb,A34] at hnd ⊢
   obtain⟨T3,T4,r2,f2,a2'⟩:=AIu w hio ih hf hc h2 hlt l D S0 S (fun x hx=>hl x (A16 _ hx)) hfin a hnd hD
   refine⟨T3,T4,⟨n,e.2,nk,hn,hnk.trans hpk,hlook,by omega,hnk1,?_⟩,f2,a2'⟩
   rw[A05 (by rw[hmode];exact fun h=>hb (hki.1 h))]
   exact r2
theorem Te (w:Wr inl its S1)(hio:A7 its)(hn:its.length≤5000)(hR:∀ (D:List Nat) (S:PS),JU its S1 D S→D.Nodup→(∀ k∈D,dirB its k=true∧2≤k∧k<12+its.length)→S.pos≤10000000000):∀ f,ABB its S1 f
 | 0=>fun c D S0 S _ _ hf _ _ hlt=>by omega
 | f+1=>fun c D S0 S hfin a hf hc h2 hlt hnd hD=>by
  rw[Ps] at hnd ⊢
  have e1:∀ X:List Nat,D++c::X=(D++[c])++X:=fun X=>by simp
  rw[e1] at hnd ⊢
  have hnd1:(D++[c]).Nodup:=(A65.1 hnd).1
  have hcD:c∉D:=fun h=>(A65.1 hnd1).2.2 c h c (by simp) rfl
  have hD':∀ k∈D++[c],dirB its k=true∧2≤k∧k<12+its.length:=fun k hk=>by
   rcases A88.1 hk with h|h
   ·exact hD k h
   ·rw[A78.1 h];exact⟨hc,h2,hlt⟩
  obtain⟨n,np,T,ctx,f1,a1⟩:=VF w hio hn a hc hcD h2 hlt (hR D S a (A65.1 hnd1).1 hD)
  obtain⟨T1,T2,r,f2,a2⟩:=AIu w hio (Te w hio hn hR f) hf hc h2 hlt (esOf its c) (D++[c]) _ T (fun e he=>he) f1 a1 hnd hD'
  exact⟨T1,T2,⟨S,n,np,esOf its c,I8 its c,hfin,ctx,r⟩,f2,a2⟩
end
end
section
theorem ADe:∀ D:List Nat,(D.map fun _=>0).sum=0
 | []=>rfl
 | _::D=>by rw[A33,A75,ADe D]
theorem Mu (x:Nat):∀ D:List Nat,D.Nodup→(D.map fun c=>if x=c then 1 else 0).sum≤1
 | [],_=>by simp
 | a::D,h=>by
  rw[A90] at h
  rw[A33,A75]
  by_cases hx:x=a
  ·have:(D.map fun c=>if x=c then 1 else 0)=D.map fun _=>0:=by
    apply A72
    intro c hc
    rw[A05]
    intro e
    exact h.1 (by rw[←hx,e];exact hc)
   rw[A03 hx,this,ADe]
   exact A07 _
  ·rw[A05 hx,A29]
   exact Mu x D h.2
theorem OZ (D:List Nat)(hD:D.Nodup):∀ (l:List It) (k:Nat),(D.map fun c=>(CJ c k l).length).sum≤l.length
 | [],k=>by
  have:(D.map fun c=>(CJ c k []).length)=D.map fun _=>0:=by apply A72;intro c _;rfl
  rw[this,ADe];exact A39 _
 | a::l,k=>by
  have e:(D.map fun c=>(CJ c k (a::l)).length).sum=(D.map fun c=>if a.dir=c then 1 else 0).sum+(D.map fun c=>(CJ c (k+1) l).length).sum:=by
   clear hD
   induction D with
   | nil=>rfl
   | cons c D ih=>
    rw[A33,A75,ih,A33,A75,A33,A75,CJ]
    split
    ·rw[A19];omega
    ·omega
  have h1:=Mu a.dir D hD
  have h2:=OZ D hD l (k+1)
  rw[e,A19]
  omega
section
variable {inl:Bool} {its:List It} {S1 S:PS} {D:List Nat} {c:Nat}
theorem WA (D:List Nat)(hD:D.Nodup):(D.map fun c=>(esOf its c).length).sum≤its.length+1:=by
 have e:(D.map fun c=>(esOf its c).length).sum=(D.map fun c=>if 2=c then 1 else 0).sum+(D.map fun c=>(CJ c 12 its).length).sum:=by
  clear hD
  induction D with
  | nil=>rfl
  | cons c D ih=>
   rw[A33,A75,ih,A33,A75,A33,A75]
   unfold esOf kidsOf
   rw[A01]
   by_cases h:c=2
   ·subst h;rw[A03 rfl,A03 rfl,A57];omega
   ·rw[A05 h,A05 fun e=>h e.symm,A61];omega
 have h1:=Mu 2 D hD
 have h2:=OZ D hD its 12
 omega
theorem ABh (hio:A7 its)(hn:its.length≤5000)(D:List Nat)(hD:D.Nodup)(hd:∀ k∈D,dirB its k=true∧2≤k∧k<12+its.length)(M:List (Option PN)):(D.map fun k=>(bsD M its k).length).sum≤4096*(4*its.length+40):=by
 have h1:=WA (its:=its) D hD
 have h2:D.length≤12+its.length:=by
  have:=Sn (V:=List.range (12+its.length)) hD fun k hk=>A96.2 (hd k hk).2.2
  rw[List.length_range] at this
  exact this
 have h3:(D.map fun k=>(bsD M its k).length).sum≤4096*((D.map fun c=>(esOf its c).length).sum+3*D.length):=by
  clear h1 h2 hD
  induction D with
  | nil=>simp
  | cons a D ih=>
   have:=ih fun k hk=>hd k (A16 _ hk)
   obtain⟨d1,d2,d3⟩:=hd a (A13 ..)
   have:=(Jp hio hn d2 d3 M).2.2
   rw[A33,A75,A33,A75,A19]
   omega
 omega
structure Y6 (it:It):Prop where
 uid:it.f.uid<4294967296
 gid:it.f.gid<4294967296
 maj:it.f.dmaj<4294967296
 min:it.f.dmin<4294967296
theorem Mk {t:Tm}(h:t.ok):t.laid<18446744073709551616∧t.laid/4294967296<4000000000:=by
 obtain⟨h1,h2⟩:=h
 unfold Tm.laid Ku
 split
 ·split
  ·omega
  ·have e:t.ns*17179869184%18446744073709551616=t.ns*17179869184:=A23 (by omega)
   have o:=orp (a:=t.sec) (b:=t.ns) (i:=34) (by omega)
   simp only[Nat.reducePow] at o
   rw[e,o]
   omega
 ·omega
structure FinN (p:PN):Prop where
 b:PNb p
 ok:PNok p
 x:xOK p
 d:p.dbs.length<1000000
theorem SX {f:FL}{n:Nat}(hf:FileOK f)(hb:f.uid<4294967296∧f.gid<4294967296∧f.dmaj<4294967296∧f.dmin<4294967296){size links bcnt flags:Nat}{d:Bs}{ks:Option (List (Bs×Nat))}(hs:size<4294967296)(hl:links<65536)(hbc:bcnt<4294967296)(hfl:flags<4294967296)(hd:d.length≤136)(hx:60<d.length→(newP f n inl).xbs.length=104)(hxl:(newP f n inl).xbs.length≤104) :
  FinN {newP f n inl with size:=size,links:=links,bcnt:=bcnt,flags:=flags,dbs:=d,kids:=ks}:=by
 obtain⟨b1,b2,b3,b4⟩:=hb
 have t1:=Mk hf.at_
 have t2:=Mk hf.ct
 have t3:=Mk hf.mt
 have t4:=Mk hf.cr
 have hm:modeK f.mode<65536:=by
  have:=hf.mode
  unfold modeK
  split
  ·exact B01 (n:=16) (by omega) (by omega)
  ·omega
 exact⟨⟨hm,b1,b2,hs,t1.1,t2.1,t3.1,t4.1,hl,hbc,hfl,rfl,t1.2,t2.2,t3.2,t4.2⟩,⟨b1,b2,by show size<_;omega,hxl,b3,b4⟩,fun _ h=>⟨hx h,hd⟩,by show d.length<_;omega⟩
theorem ZW (kd sz:Nat):(xinK inl kd sz).length=if inlK inl kd sz=true then 104 else 0:=by
 unfold xinK
 by_cases h:inlK inl kd sz=true
 ·rw[A03 h,A03 h]
  have hs:sz≤136:=by
   unfold inlK at h
   simp only[A42,A84] at h
   exact h.2
  rw[PU hs]
  exact (NA VG (by simp;omega)).1.len
 ·rw[A05 h,A05 h];rfl
theorem Yo (w:Wr inl its S1)(hio:A7 its)(hib:∀ it∈its,Y6 it)(hc:dirB its c=true){q:PN}(hq:DirAt S1 its c q):∃ f n,q = {newP f n inl with links:=q.links,kids:=q.kids,dbs:=q.dbs,flags:=q.flags,bcnt:=q.bcnt}∧FileOK f∧(f.uid<4294967296∧f.gid<4294967296∧f.dmaj<4294967296∧f.dmin<4294967296)∧kindB (modeK f.mode)=16384:=by
 have hat:=hq.at_
 rcases Aj.1 hc with rfl|rfl|⟨j,it,h1,h2,rfl⟩
 ·have:=A14 (A14 (hat.symm.trans w.root))
  subst this
  exact⟨dirF 16877,2,rfl,Dr,by decide,by decide⟩
 ·have:=A14 (A14 (hat.symm.trans w.lf))
  subst this
  exact⟨dirF 16832,11,rfl,TG,by decide,by decide⟩
 ·obtain⟨p,hp,he,_⟩:=w.node j it h1
  rw[show 12+j-1=11+j by omega] at hat
  have:=A14 (A14 (hat.symm.trans hp))
  subst this
  have hb:=hib it (A28 h1)
  refine⟨it.f,12+j,?_,(hio j it h1).file,⟨hb.uid,hb.gid,hb.maj,hb.min⟩,of_decide_eq_true h2⟩
  exact he.trans (by rw[he];rfl)
structure AIV (inl:Bool) (its:List It) (S1 S:PS) (c:Nat) (p:PN):Prop where
 at_:S.M[c-1]? = some (some p)
 fin:FinN p
 mode:p.mode=modeAt S1.M c
 dir:dirB its c=true→∃ st q,DirAt S1 its c q∧p=dirN q st (bsD S1.M its c).length∧2≤st∧st*4096+(bsD S1.M its c).length≤S.pos∧((bx S.B S.pos).drop (st*4096)).take (bsD S1.M its c).length=bsD S1.M its c∧p.xbs=[]
 item:∀ j it,c=12+j→its[j]? = some it→it.isD=false→p=itP inl its j it p∧HoldI (bx S.B S.pos) S.pos it inl p
set_option maxRecDepth 20000 in
theorem FK (w:Wr inl its S1)(hio:A7 its)(hib:∀ it∈its,Y6 it)(hn:its.length≤2000)(a:JU its S1 D S)(hpb:S.pos≤120000000)(hD:∀ k,k∈D↔dirB its k=true)(hc:c=2∨11≤c∧c<12+its.length):∃ p,AIV inl its S1 S c p:=by
 have hc2:2≤c∧c<12+its.length:=by omega
 by_cases hb:dirB its c=true
 ·obtain⟨q,st,b1,b2,b3,b4,b5⟩:=a.in_ c ((hD c).2 hb)
  obtain⟨f,n,e,hf,hfb,hk⟩:=Yo w hio hib hb b1
  obtain⟨l1,l2,l3⟩:=Jp hio (by omega) hc2.1 hc2.2 S1.M
  have hel:=Hq its c
  have hin:inlK inl (kindB (modeK f.mode)) f.size=false:=by unfold inlK;rw[hk];simp
  have hx:(newP f n inl).xbs=[]:=by
   show xinK inl (kindB (modeK f.mode)) f.size=[]
   unfold xinK;rw[hin];rfl
  have hr:=(ES (len:=(bsD S1.M its c).length/4096) (st:=st) (by omega) (by omega)).2
  have hl:=b1.links
  have hfin:FinN (dirN q st (bsD S1.M its c).length):=by
   rw[e]
   exact SX (inl:=inl) (n:=n) (size:=(bsD S1.M its c).length) (links:=q.links) (bcnt:=(bsD S1.M its c).length/4096) (flags:=786432) (d:=extRoot ((bsD S1.M its c).length/4096) st) (ks:=q.kids) hf hfb (by omega) (by omega) (by omega) (by omega) (by omega) (fun h=>by omega) (by rw[hx];simp)
  refine⟨_,b2,hfin,?_,fun _=>⟨st,q,b1,rfl,b3,b4,b5,?_⟩,?_⟩
  ·unfold modeAt;rw[b1.at_];rfl
  ·show q.xbs=[]
   rw[e];exact hx
  ·intro j it h1 h2 h3
   exfalso
   rcases Aj.1 hb with h|h|⟨j',x,e1,e2,e3⟩
   ·omega
   ·omega
   ·have:j'=j:=by omega
    subst this
    rw[h2] at e1
    rw[A14 e1] at h3
    rw[e2] at h3;cases h3
 ·have hcD:c∉D:=fun h=>hb ((hD c).1 h)
  obtain⟨j,rfl⟩:∃ j,c=12+j:=by
   rcases hc with rfl|⟨h1,h2⟩
   ·exact absurd (Aj.2 (.inl rfl)) hb
   ·by_cases h11:c=11
    ·subst h11;exact absurd (Aj.2 (.inr (.inl rfl))) hb
    ·exact⟨c-12,by omega⟩
  have hj:its[j]? = some its[j]:=A00 (by omega)
  obtain⟨p,hp,he,hh⟩:=w.node j _ hj
  have hat:S.M[12+j-1]? = some (some p):=by
   rw[a.out _ hcD (by omega),show 12+j-1=11+j by omega];exact hp
  obtain⟨Y,hY⟩:=a.ext
  have hpos:S1.pos≤S.pos:=by
   have h1:=A76 List.length hY
   rw[A01,Ee a.Ble,Ee w.B] at h1
   omega
  have hh2:HoldI (bx S.B S.pos) S.pos its[j] inl p:=by
   rw[hY]
   exact hh.app (Ee w.B) hpos
  have hi:=hio j _ hj
  have hib:=hib _ (A28 hj)
  have hdat:=hi.dat
  have hbig:=hi.big
  have hisD:its[j].isD=false:=by
   cases h:its[j].isD with
   | false=>rfl
   | true=>exact absurd (Aj.2 (.inr (.inr ⟨j,_,hj,h,rfl⟩))) hb
  have hsz:szK its[j].kd its[j].f.size<4294967296:=by
   unfold szK
   split
   ·rename_i h;rw[A03 h] at hdat;omega
   ·omega
  have hxl:=ZW (inl:=inl) its[j].kd its[j].f.size
  have hlen1:(newP its[j].f (12+j) inl).xbs.length≤104:=by
   show (xinK inl its[j].kd its[j].f.size).length≤104
   rw[hxl];split<;>omega
  have hfin:FinN p:=by
   have hcase:p.flags<4294967296∧p.bcnt<4294967296∧p.dbs.length≤136∧(60<p.dbs.length→(newP its[j].f (12+j) inl).xbs.length=104):=by
    have hhh:=hh.hold
    by_cases hin:inlK inl its[j].kd its[j].f.size=true
    ·rw[A03 hin] at hhh
     have hin2:=hin
     unfold inlK at hin2
     simp only[A42,A84,beq_iff_eq] at hin2
     rw[A03 hin2.1.2] at hdat
     refine⟨by omega,by omega,by rw[hhh.2.1];omega,fun _=>?_⟩
     show (xinK inl its[j].kd its[j].f.size).length=104
     rw[hxl,A03 hin]
    ·rw[A05 hin] at hhh
     by_cases h0:its[j].data=[]
     ·rw[A03 h0] at hhh
      refine⟨by omega,by omega,by rw[hhh.2.1];simp,fun h=>by rw[hhh.2.1] at h;simp at h⟩
     ·rw[A05 h0] at hhh
      obtain⟨st,c1,c2,c3,c4,c5,c6⟩:=hhh
      have hr:=(ES (len:=p.bcnt) (st:=st) (by omega) (by omega)).2
      rw[←c2] at hr
      exact⟨by omega,by omega,by omega,fun h=>by omega⟩
   obtain⟨c1,c2,c3,c4⟩:=hcase
   have:=SX (inl:=inl) (n:=12+j) (size:=szK its[j].kd its[j].f.size) (links:=1+(if its[j].isD=true then 1+dirsOf its (12+j) else 0)) (bcnt:=p.bcnt) (flags:=p.flags) (d:=p.dbs) (ks:=if its[j].isD=true then some (kidsOf its (12+j)) else none) hi.file ⟨hib.uid,hib.gid,hib.maj,hib.min⟩ hsz (by rw[hisD];simp) c2 c1 c3 c4 hlen1
   rw[he]
   exact this
  refine⟨p,hat,hfin,?_,fun h=>absurd h hb,?_⟩
  ·unfold modeAt
   rw[show 12+j-1=11+j by omega,hp]
  ·intro j' it h1 h2 _
   have:j'=j:=by omega
   subst this
   rw[hj] at h2
   obtain rfl:=A14 h2
   exact⟨he,hh2⟩
end
end
section
def VV (its:List It):List Nat:=2::11::(List.range its.length).map (12 + ·)
section
variable {inl:Bool} {its:List It} {S1 S:PS} {D:List Nat} {c:Nat}
theorem BE:c∈VV its↔c=2∨11≤c∧c<12+its.length:=by
 unfold VV
 rw[A32,A32,A35]
 constructor
 ·rintro (h|h|⟨j,hj,h⟩)
  ·exact .inl h
  ·exact .inr (by omega)
  ·have:=A96.1 hj
   exact .inr (by omega)
 ·rintro (h|⟨h1,h2⟩)
  ·exact .inl h
  ·by_cases h3:c=11
   ·exact .inr (.inl h3)
   ·exact .inr (.inr ⟨c-12,A96.2 (by omega),by omega⟩)
theorem Fb:(VV its).Nodup:=by
 unfold VV
 rw[A90,A90]
 refine⟨?_,?_,?_⟩
 ·rw[A32,A35]
  rintro (h|⟨j,_,h⟩)<;>omega
 ·rw[A35]
  rintro⟨j,_,h⟩;omega
 ·unfold List.Nodup
  rw[B32]
  exact List.nodup_range.imp fun h e=>h (by omega)
theorem Gd (w:Wr inl its S1)(a:JU its S1 D S)(hD:∀ k,k∈D↔dirB its k=true){i:Nat}(h:¬(i+1∈VV its)):S.M[i]?.join=none:=by
 have hD1:i+1∉D:=fun hd=>h (by
  rw[BE]
  rcases Aj.1 ((hD _).1 hd) with h1|h1|⟨j,it,h1,h2,h3⟩
  ·exact .inl h1
  ·exact .inr (by omega)
  ·have:=(A02.1 h1).1
   exact .inr (by omega))
 have e:=a.out (i+1) hD1 (by omega)
 rw[A79] at e
 rw[e]
 rw[BE] at h
 by_cases h1:i=0∨2≤i∧i<10
 ·rw[w.nil i h1];rfl
 ·rw[A40 (by rw[w.len];omega)];rfl
theorem AFH (w:Wr inl its S1)(hio:A7 its)(hib:∀ it∈its,Y6 it)(hn:its.length≤2000)(a:JU its S1 D S)(hpb:S.pos≤120000000)(hD:∀ k,k∈D↔dirB its k=true):ClOK S:=by
 have hlen:S.M.length=11+its.length:=a.len.trans w.len
 obtain⟨i1,i2,i3⟩:=D9 S.M.length
 refine⟨?_,?_,a.al,a.big,by omega,by omega,by omega,by rw[a.same.2.1,w.max];omega,a.same.2.2.1.trans w.gd⟩
 ·intro p hp
  obtain⟨i,hi,e⟩:=B00 hp
  have hg:S.M[i]? = some (some p):=by rw[A00 hi,e]
  have hV:i+1∈VV its:=by
   rcases Decidable.em (i+1∈VV its) with h|h
   ·exact h
   ·have:=Gd w a hD h
    rw[hg] at this;cases this
  obtain⟨p',hp'⟩:=FK w hio hib hn a hpb hD (BE.1 hV)
  have h2:=hp'.at_
  rw[A79,hg] at h2
  have:=A14 (A14 h2)
  subst this
  exact⟨hp'.fin.ok,hp'.fin.x,hp'.fin.d⟩
 ·apply a.Beq
  intro h
  have:=(hD 2).2 (Aj.2 (.inl rfl))
  rw[h] at this;cases this
theorem RU (w:Wr inl its S1)(hio:A7 its)(hib:∀ it∈its,Y6 it)(hn:its.length≤2000)(hp:S1.pos≤50000000) :
  ∃ S D,(∀ Sy,Fin Sy S1→He Sy S)∧JU its S1 D S∧D.Nodup∧(∀ k,k∈D↔dirB its k=true)∧ClOK S∧S.pos≤120000000:=by
 have hR:∀ (D:List Nat) (S:PS),JU its S1 D S→D.Nodup→(∀ k∈D,dirB its k=true∧2≤k∧k<12+its.length)→S.pos≤120000000:=fun D S a hd hk=>by
  have h1:=a.posb
  have h2:=ABh hio (by omega) D hd hk S1.M
  omega
 have hd2:dirB its 2=true:=Aj.2 (.inl rfl)
 have hnd:=L4 hio (13+its.length) 2 (by omega) (by omega) hd2
 have hmem:∀ k,k∈Ps its (13+its.length) 2↔dirB its k=true:=fun k=>⟨fun h=>(Fn hio _ 2 (by omega) (by omega) hd2 k h).2.2.2,AAt hio (by omega) k⟩
 obtain⟨S',S'',r,f,a⟩:=Te w hio (by omega) (fun D S a h1 h2=>B28 (hR D S a h1 h2) (by omega)) (13+its.length) 2 [] S1 S1 (.none w.cur) (.start w) (by omega) hd2 (by omega) (by omega) (by simpa using hnd) (by simp)
 rw[A34] at a
 have hpb:=hR _ _ a hnd fun k hk=>by
  have:=Fn hio _ 2 (by omega) (by omega) hd2 k hk
  exact⟨this.2.2.2,by omega,this.2.2.1⟩
 have cl:=AFH w hio hib hn a hpb hmem
 exact⟨S'',_,fun Sy fy=>⟨⟨S1,S',13+its.length,_,fy,w.root,r,f⟩,cl⟩,a,hnd,hmem,cl,hpb⟩
theorem KY {M:List (Option PN)}:∀ n,n≤M.length→(List.range n).flatMap (fun i=>exO (M[i]?).join)=(M.take n).flatMap exO
 | 0,_=>by simp
 | n+1,h=>by
  have hlt:n<M.length:=by omega
  rw[List.range_succ,A73,B04,KY n (by omega),←List.take_append_getElem hlt,A73,B04,A00 hlt]
  rfl
theorem MB (w:Wr inl its S1)(a:JU its S1 D S)(hD:∀ k,k∈D↔dirB its k=true):((VV its).flatMap fun k=>exO (S.M[k-1]?).join).Perm (blks (S.pos/4096)):=by
 refine List.Perm.trans ?_ a.own
 have hlen:S.M.length=11+its.length:=a.len.trans w.len
 have e:=KY (M:=S.M) S.M.length (A07 _)
 rw[A38] at e
 rw[←e]
 have e2:(List.range S.M.length).flatMap (fun i=>exO (S.M[i]?).join)=((List.range S.M.length).filter fun i=>decide (i+1∈VV its)).flatMap fun i=>exO (S.M[i]?).join:=by
  generalize List.range S.M.length=R
  induction R with
  | nil=>rfl
  | cons i R ih=>
   rw[A37,ih,List.filter_cons]
   by_cases h:i+1∈VV its
   ·rw[A03 (A04 h),A37]
   ·rw[A05 (by simpa using h),Gd w a hD h];rfl
 rw[e2]
 have hp:(VV its).Perm (((List.range S.M.length).filter fun i=>decide (i+1∈VV its)).map (· + 1)):=by
  refine IH _ _ Fb ?_ fun k=>?_
  ·unfold List.Nodup
   rw[B32]
   exact (List.nodup_range.filter _).imp fun h e=>h (by omega)
  ·rw[A35]
   constructor
   ·intro hk
    have h1:=BE.1 hk
    exact⟨k-1,B39.2 ⟨A96.2 (by omega),A04 (by rw[show k-1+1=k by omega];exact hk)⟩,by omega⟩
   ·rintro⟨i,hi,rfl⟩
    exact of_decide_eq_true (B39.1 hi).2
 refine (hp.flatMap_right _).trans ?_
 rw[List.flatMap_map]
 exact .refl _
end
end
section
attribute [local irreducible] BR BS Db
structure IoR (inl:Bool) (its:List It) (S1 S:PS) (I:Bs) (nb c:Nat) (o:AA) (la:List (Bs×Bs)) (cl:List Nat):Prop where
 ino:InoOK I nb (rawL I c) c o.X o.C la cl
 l:o.l=xaOf la
 l0:o.l=[]
 mode:o.X.mode=modeAt S1.M c
 nd:∃ p,S.M[c-1]? = some (some p)∧o.X.links=p.links∧o.X.uid=p.uid∧o.X.gid=p.gid∧cl=exO (some p)
 dir:dirB its c=true→o.X.inl=false∧o.C=bsD S1.M its c∧o.E=(enD S1.M its c).map rdE
 item:∀ j it,c=12+j→its[j]? = some it→it.isD=false→o.C=it.data∧o.E=[]
theorem Hx {m k:Nat}(h:kindB m=k):kindL m=if k=32768 then 1 else if k=16384 then 2 else if k=8192 then 3 else if k=24576 then 4 else if k=4096 then 5 else if k=49152 then 6 else if k=40960 then 7 else 0:=by
 subst h;rfl
theorem Jn {m:Nat}:kindL m=2↔kindB m=16384:=by
 rw[Hx rfl]
 constructor
 ·intro h
  repeat' split at h
  all_goals first|assumption|omega
 ·intro h;rw[h];rfl
theorem MH (m:Nat):EG m=kindL m:=rfl
section
variable {inl:Bool} {its:List It} {S1 S:PS} {D:List Nat} {c:Nat}
set_option maxRecDepth 20000 in
theorem AFd (w:Wr inl its S1)(hio:A7 its)(hib:∀ it∈its,Y6 it)(hn:its.length≤2000)(a:JU its S1 D S)(hpb:S.pos≤120000000)(hD:∀ k,k∈D↔dirB its k=true)(cl:ClOK S)(hc:c∈VV its) :
  ∃ o la bl,IoR inl its S1 S (BS S) (GF S) c o la bl:=by
 have hc':=BE.1 hc
 obtain⟨p,hp⟩:=FK w hio hib hn a hpb hD hc'
 have hlen:S.M.length=11+its.length:=a.len.trans w.len
 obtain⟨i1,i2,i3⟩:=D9 S.M.length
 have e0:BH S=ipgOf S.M.length:=rfl
 have hraw:rawL (BS S) c=BR p:=by
  rw[Tu cl (by omega) (by omega),hp.at_];rfl
 have hvd:GF S=S.pos/4096+ipgOf S.M.length/16+2:=rfl
 have hvl:=cl.vd
 have hBx:bx S.B S.pos=S.B:=VA cl.B
 have hal:=a.al
 have hbig:=a.big
 by_cases hb:dirB its c=true
 ·obtain⟨st,q,b1,b2,b3,b4,b5,b6⟩:=hp.dir hb
  obtain⟨l1,l2,l3⟩:=Jp hio (by omega) (by omega) (by omega) S1.M (c:=c)
  have hk:kindB p.mode=16384:=by rw[b2];exact b1.mode
  have h:=Sv (p:=p) (I:=BS S) (nb:=GF S) (n:=c) (st:=st) (len:=(bsD S1.M its c).length/4096) hp.fin.b (by rw[b2];rfl) (by rw[b2];rfl) b6 (by rw[b2];show _<(bsD S1.M its c).length;omega) (by rw[b2];show (bsD S1.M its c).length≤_;omega) (by rw[b2];rfl) (by omega) (by omega) (by omega) (by omega) (.inl hk) (.inr (.inl (Jn.2 hk)))
  have hC:((BS S).drop (st*4096)).take p.size=bsD S1.M its c:=by
   have:p.size=(bsD S1.M its c).length:=by rw[b2];rfl
   rw[this,Ot cl b3 b4,←hBx]
   exact b5
  rw[hC] at h
  have hx:leL (extRoot ((bsD S1.M its c).length/4096) st) 20 4=st:=by
   obtain⟨x1,_⟩:=ES (len:=(bsD S1.M its c).length/4096) (st:=st) (by omega) (by omega)
   have:=x1.st
   rw[EQ (by omega),DQ] at this
   exact this
  refine⟨⟨_,_,[],(enD S1.M its c).map rdE⟩,_,_,⟨by rw[hraw];exact h,rfl,rfl,hp.mode,⟨p,hp.at_,rfl,rfl,rfl,?_⟩,fun _=>⟨?_,rfl,rfl⟩,?_⟩⟩
  ·show _=Nz p
   unfold Nz
   rw[A03 (by rw[b2];rfl),b2]
   show _=(List.range ((bsD S1.M its c).length/4096)).map (leL (extRoot ((bsD S1.M its c).length/4096) st) 20 4 + ·)
   rw[hx]
  ·show decide (p.flags &&& 268435456≠0)=false
   have hfl:p.flags=786432:=by rw[b2];rfl
   rw[hfl];decide
  ·intro j it h1 h2 h3
   exfalso
   rcases Aj.1 hb with h|h|⟨j',x,e1,e2,e3⟩
   ·omega
   ·omega
   ·have:j'=j:=by omega
    subst this
    rw[h2] at e1
    rw[A14 e1] at h3
    rw[e2] at h3;cases h3
 ·obtain⟨j,rfl⟩:∃ j,c=12+j:=by
   rcases hc' with rfl|⟨h1,h2⟩
   ·exact absurd (Aj.2 (.inl rfl)) hb
   ·by_cases h11:c=11
    ·subst h11;exact absurd (Aj.2 (.inr (.inl rfl))) hb
    ·exact⟨c-12,by omega⟩
  have hj:its[j]? = some its[j]:=A00 (by omega)
  have hisD:its[j].isD=false:=by
   cases h:its[j].isD with
   | false=>rfl
   | true=>exact absurd (Aj.2 (.inr (.inr ⟨j,_,hj,h,rfl⟩))) hb
  obtain⟨he,hh⟩:=hp.item j _ rfl hj hisD
  have hi:=hio j _ hj
  have hdat:=hi.dat
  have hkd:kindB p.mode=its[j].kd:=by rw[he];rfl
  have hsz:p.size=szK its[j].kd its[j].f.size:=by rw[he];rfl
  have hxb:p.xbs=xinK inl its[j].kd its[j].f.size:=by rw[he];rfl
  have hhh:=hh.hold
  have ofItem:∀ {o:AA} {la:List (Bs×Bs)} {bl:List Nat},InoOK (BS S) (GF S) (BR p) (12+j) o.X o.C la bl→o.l=xaOf la→o.l=[]→o.X.mode=p.mode→o.X.links=p.links→o.X.uid=p.uid→o.X.gid=p.gid→bl=Nz p→o.C=its[j].data→o.E=[]→IoR inl its S1 S (BS S) (GF S) (12+j) o la bl:=by
   intro o la bl q1 q2 q3 q4 q5 q6 q7 q8 q9 q10
   refine⟨by rw[hraw];exact q1,q2,q3,q4.trans hp.mode,⟨p,hp.at_,q5,q6,q7,q8⟩,fun h=>absurd h hb,?_⟩
   intro j' it h1 h2 _
   have:j'=j:=by omega
   subst this
   rw[hj] at h2
   obtain rfl:=A14 h2
   exact⟨q9,q10⟩
  by_cases hin:inlK inl its[j].kd its[j].f.size=true
  ·rw[A03 hin] at hhh
   have hin2:=hin
   unfold inlK at hin2
   simp only[A42,A84,beq_iff_eq] at hin2
   rw[A03 hin2.1.2] at hdat
   have hsz2:p.size=its[j].f.size:=by rw[hsz];unfold szK;rw[A03 hin2.1.2]
   have hx2:p.xbs=I0 [Ep (.slice none 0 0) p.size]:=by rw[hxb,hsz2];unfold xinK;rw[A03 hin]
   have hl2:=SQ cl
   have h:=AAs (p:=p) (I:=BS S) (nb:=GF S) (n:=12+j) hp.fin.b hhh.1 (by rw[hhh.2.1];omega) hx2 (by omega) hhh.2.2 (by rw[hkd];exact hin2.1.2) (by omega)
   refine⟨⟨_,_,[],[]⟩,_,_,ofItem h ?_ rfl rfl rfl rfl rfl ?_ hhh.2.1 rfl⟩
   ·show []=xaOf [(sysd,p.dbs.drop 60)]
    unfold xaOf
    rw[List.filter_cons,A05 (by simp)];rfl
   ·unfold Nz;rw[A05 (by rw[hhh.1];decide)]
  ·rw[A05 hin] at hhh
   have hx0:p.xbs=[]:=by rw[hxb];unfold xinK;rw[A05 hin]
   by_cases h0:its[j].data=[]
   ·rw[A03 h0] at hhh
    have hs0:p.size=0:=by
     rw[hsz];unfold szK
     split
     ·rename_i h;rw[A03 h,h0] at hdat;exact hdat
     ·rfl
    have hkk:kindL p.mode=1∨kindL p.mode=3∨kindL p.mode=4∨kindL p.mode=5∨kindL p.mode=6:=by
     have hko:kindOk its[j].kd:=hi.file.kind
     unfold kindOk at hko
     rw[Hx hkd]
     rcases hko with h|h|h|h|h|h
     ·rw[h];exact .inl rfl
     ·have:its[j].isD=true:=A04 h
      rw[hisD] at this;cases this
     ·rw[h];exact .inr (.inr (.inr (.inl rfl)))
     ·rw[h];exact .inr (.inr (.inr (.inr rfl)))
     ·rw[h];exact .inr (.inl rfl)
     ·rw[h];exact .inr (.inr (.inl rfl))
    obtain⟨X',h,hX⟩:=Ub (p:=p) (I:=BS S) (nb:=GF S) (n:=12+j) hp.fin.b hhh.1 hhh.2.1 hx0 hs0 hhh.2.2 hkk
    refine⟨⟨X',[],[],[]⟩,_,_,ofItem h rfl rfl (by show X'.mode=_;rw[hX];rfl) (by show X'.links=_;rw[hX];rfl) (by show X'.uid=_;rw[hX];rfl) (by show X'.gid=_;rw[hX];rfl) ?_ h0.symm rfl⟩
    unfold Nz;rw[A05 (by rw[hhh.1];decide)]
   ·rw[A05 h0] at hhh
    obtain⟨st,c1,c2,c3,c4,c5,c6⟩:=hhh
    have hreg:its[j].kd=32768:=by
     rcases Decidable.em (its[j].kd=32768) with h|h
     ·exact h
     ·rw[A05 h] at hdat;exact absurd hdat h0
    rw[A03 hreg] at hdat
    have hsz2:p.size=its[j].data.length:=by rw[hsz];unfold szK;rw[A03 hreg];exact hdat
    have hpos:0<its[j].data.length:=A99.2 h0
    have hst:st+p.bcnt≤S.pos/4096:=by omega
    have h:=Sv (p:=p) (I:=BS S) (nb:=GF S) (n:=12+j) (st:=st) (len:=p.bcnt) hp.fin.b c1 c2 hx0 (by omega) (by omega) rfl (by omega) (by omega) (by omega) (by omega) (.inr (.inl (by rw[hkd];exact hreg))) (.inl (by rw[Hx hkd,hreg];rfl))
    have hC:((BS S).drop (st*4096)).take p.size=its[j].data:=by
     rw[hsz2,Ot cl c4 (by omega),←hBx]
     exact c6
    rw[hC] at h
    have hx:leL p.dbs 20 4=st:=by
     obtain⟨x1,_⟩:=ES (len:=p.bcnt) (st:=st) (by omega) (by omega)
     have:=x1.st
     rw[EQ (by omega),DQ] at this
     rw[c2]
     exact this
    refine⟨⟨_,_,[],[]⟩,_,_,ofItem h rfl rfl rfl rfl rfl rfl ?_ rfl rfl⟩
    unfold Nz;rw[A03 c1,hx]
end
end
end Go.Proofs.YtollddkkdgoonaaGreatDoor
