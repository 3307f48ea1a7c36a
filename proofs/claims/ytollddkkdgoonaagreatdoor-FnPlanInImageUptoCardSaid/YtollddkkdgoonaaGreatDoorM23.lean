/- A part of a proof over images that are written and read. No condition; a step. -/
import Derived.Test.YtollddkkdgoonaaGreatDoorM22
namespace Go.Proofs.YtollddkkdgoonaaGreatDoor
open Go
set_option linter.unusedVariables false
set_option linter.unusedSimpArgs false
set_option maxRecDepth 100000
section
def A7 (its:List It):Prop:=∀ j it,its[j]? = some it→OO (its.take j) it
theorem A7.snoc {its:List It}{it:It}(h:A7 its)(hi:OO its it):A7 (its++[it]):=by
 intro j x hx
 rcases A66 j its.length with h1|h1
 ·rw[A18 h1] at hx
  rw[A24 (by omega)]
  exact h j x hx
 ·rw[A17 h1] at hx
  have h2:j-its.length=0:=by
   rcases B25 (j-its.length) with h2|h2
   ·exact h2
   ·rw[A40 (by simp;omega)] at hx;cases hx
  rw[h2,A51,A26] at hx
  subst hx
  have:j=its.length:=by omega
  subst this
  rw[B26]
  exact hi
theorem A7.pre {its:List It}{it:It}(h:A7 (its++[it])):A7 its∧OO its it:=by
 constructor
 ·intro j x hx
  have hl:=(A02.1 hx).1
  have:=h j x (by rw[A18 hl];exact hx)
  rw[A24 (by omega)] at this
  exact this
 ·have:=h its.length it (by rw[A17 (A07 _),A87];rfl)
  rw[B26] at this
  exact this
theorem Way.cases {its:List It}{d:Nat}{st:List Bs}(h:Way its d st):(d=2∧st=[])∨∃ j it,its[j]? = some it∧it.isD=true∧d=12+j:=by
 cases h with
 | root=>exact .inl ⟨rfl,rfl⟩
 | down h1 h2 _ _=>exact .inr ⟨_,_,h1,h2,rfl⟩
theorem OO.dir_lt {its:List It}{it:It}(h:OO its it):it.dir<12+its.length∧it.dir≠11∧2≤it.dir∧(it.dir=2∨12≤it.dir):=by
 obtain⟨st,hw,_⟩:=h.way
 rcases hw.cases with⟨h1,_⟩|⟨j,x,h1,_,h3⟩
 ·omega
 ·have:=(A02.1 h1).1
  omega
theorem A7.dir_lt {its:List It}(h:A7 its){j:Nat}{it:It}(hj:its[j]? = some it):it.dir<12+j∧it.dir≠11∧2≤it.dir∧(it.dir=2∨12≤it.dir):=by
 have hl:=(A02.1 hj).1
 have:=(h j it hj).dir_lt
 rw[A20,A30 (by omega)] at this
 exact this
theorem A7.names {its:List It}(h:A7 its):∀ (i j:Nat) (a b:It),its[i]? = some a→its[j]? = some b→i<j→a.dir=b.dir→a.nm≠b.nm:=by
 intro i j a b h1 h2 h3 h4
 refine (h j b h2).new a ?_ h4
 obtain⟨hl,e⟩:=A02.1 h1
 rw[←e]
 exact List.mem_take_iff_getElem.2 ⟨i,by omega,rfl⟩
theorem IA {es:List (Bs×Nat)}(hd:(es.map (·.1)).Nodup){e:Bs×Nat}(he:e∈es):lookE es e.1=some e.2:=by
 induction es with
 | nil=>cases he
 | cons x es ih=>
  rw[A33,A90] at hd
  unfold lookE
  rw[List.find?_cons]
  rcases A32.1 he with h|h
  ·subst h;simp
  ·have hne:(x.1 == e.1)=false:=by
    apply beq_eq_false_iff_ne.2
    intro e1
    exact hd.1 (e1▸A35.2 ⟨e,h,rfl⟩)
   rw[hne]
   exact ih hd.2 h
theorem QO {es:List (Bs×Nat)}{nm:Bs}(h:∀ e∈es,e.1≠nm):lookE es nm=none:=by
 unfold lookE
 have:es.find? (fun p=>p.1 == nm)=none:=by
  rw[List.find?_eq_none]
  intro e he
  simpa using h e he
 rw[this];rfl
def esOf (its:List It)(d:Nat):List (Bs×Nat):=(if d=2 then [(lostN,11)] else [])++kidsOf its d
theorem Co {its:List It}{d:Nat}{e:Bs×Nat}:e∈esOf its d↔(d=2∧e=(lostN,11))∨∃ j it,its[j]? = some it∧it.dir=d∧e=(it.nm,12+j):=by
 unfold esOf kidsOf
 rw[A88,Di]
 by_cases h:d=2
 ·rw[A03 h];simp[h]
 ·rw[A05 h];simp[h]
theorem C1 {its:List It}(h:A7 its)(d:Nat):((esOf its d).map (·.1)).Nodup:=by
 unfold esOf
 rw[A36,A65]
 refine⟨by split<;>simp,I7 d its 12 h.names,?_⟩
 intro a ha b hb hab
 by_cases hd:d=2
 ·rw[A03 hd] at ha
  have:a=lostN:=by simpa using ha
  subst this
  obtain⟨e,he,hee⟩:=A35.1 hb
  obtain⟨j,it,h1,h2,rfl⟩:=Di.1 he
  exact (h j it h1).lost (h2.trans hd) (hee.trans hab.symm)
 ·rw[A05 hd] at ha;simp at ha
theorem IB {its:List It}(d:Nat):(esOf its d).Pairwise fun a b=>a.2<b.2:=by
 unfold esOf
 rw[List.pairwise_append]
 refine⟨by split<;>simp,Ic d its 12,?_⟩
 intro a ha b hb
 by_cases hd:d=2
 ·rw[A03 hd] at ha
  have:a=(lostN,11):=by simpa using ha
  subst this
  obtain⟨j,it,h1,h2,rfl⟩:=Di.1 hb
  show 11<12+j
  omega
 ·rw[A05 hd] at ha;simp at ha
theorem Hq (its:List It)(d:Nat):(esOf its d).length≤its.length+1:=by
 have:=MN d its 12
 unfold esOf kidsOf
 rw[A01]
 split<;>simp<;>omega
theorem KH {M:List (Option PN)}:∀ (st:List Bs) (c:Nat) (e:Bs),walkP M c (st++[e])=(walkP M c st).bind fun d=>D7 M d e
 | [],c,e=>by
  show (D7 M c e).bind (fun d=>walkP M d [])=D7 M c e
  cases D7 M c e<;>rfl
 | a::st,c,e=>by
  show (D7 M c a).bind (fun d=>walkP M d (st++[e]))=((D7 M c a).bind fun d=>walkP M d st).bind _
  cases D7 M c a with
  | none=>rfl
  | some d=>exact KH st d e
section
variable {inl:Bool} {its:List It} {S:PS}
structure DirAt (S:PS) (its:List It) (d:Nat) (q:PN):Prop where
 at_:S.M[d-1]? = some (some q)
 mode:kindB q.mode=16384
 kids:q.kids=some (esOf its d)
 links:q.links≤3+its.length
 d1:1≤d
 fl:q.flags=262144
theorem VI (w:Wr inl its S)(hio:A7 its){d:Nat}{st:List Bs}(hw:Way its d st):∃ q,DirAt S its d q:=by
 rcases hw.cases with⟨rfl,_⟩|⟨j,it,h1,h2,rfl⟩
 ·refine⟨_,w.root,?_,?_,?_,by omega,?_⟩
  ·exact F6 inl
  ·unfold esOf;rfl
  ·have:=Ff its 2;show 3+dirsOf its 2≤_;omega
  ·show flK inl _ _=_;unfold flK inlK;rw[A05];rw[show kindB (modeK (dirF 16877).mode)=16384 by decide];simp
 ·obtain⟨p,hp,he,_⟩:=w.node j it h1
  have hk:it.kd=16384:=of_decide_eq_true h2
  have hfl:p.flags=262144:=by
   rename_i hh
   have:=hh.hold
   rw[A05 (by unfold inlK;rw[hk];simp)] at this
   split at this
   ·exact this.1
   ·rename_i hne
    have:=(hio j it h1).dat
    rw[A05 (by omega)] at this
    exact absurd this hne
  refine⟨p,by rw[show 12+j-1=11+j by omega];exact hp,?_,?_,?_,by omega,hfl⟩
  ·rw[he];exact hk
  ·rw[he]
   show (if it.isD=true then some (kidsOf its (12+j)) else none)=_
   rw[A03 h2]
   unfold esOf
   rw[A05 (by omega),A34]
  ·rw[he]
   show 1+(if it.isD=true then 1+dirsOf its (12+j) else 0)≤_
   have:=Ff its (12+j)
   split<;>omega
theorem Vr (w:Wr inl its S)(hio:A7 its){d:Nat}{st:List Bs}(hw:Way its d st):walkP S.M 2 st=some d:=by
 induction hw with
 | root=>rfl
 | down h1 h2 h3 hw ih=>
  rename_i j it st
  obtain⟨q,hq⟩:=VI w hio hw
  rw[KH,ih]
  show D7 S.M it.dir it.nm=some (12+j)
  unfold D7
  rw[hq.at_]
  show (match q.kids with|some es=>lookE es it.nm|none=>none)=_
  rw[hq.kids]
  exact IA (C1 hio it.dir) (e:=(it.nm,12+j)) (Co.2 (.inr ⟨j,it,h1,rfl,rfl⟩))
def PN.kl (p:PN)(k:Option (List (Bs×Nat)))(l:Nat):PN:={p with kids:=k,links:=l}
def PN.kld (p:PN)(k:Option (List (Bs×Nat)))(l:Nat)(d:Bs)(f b:Nat):PN:={p with kids:=k,links:=l,dbs:=d,flags:=f,bcnt:=b}
theorem FO (it:It)(c:Nat):kidsOf (its++[it]) c=kidsOf its c++if it.dir=c then [(it.nm,12+its.length)] else []:=KA c it its 12
theorem X7 {it:It}{q p':PN}{B':Bs}{pos':Nat}(w:Wr inl its S)(hio:A7 its)(hi:OO its it)(hq:DirAt S its it.dir q)
  (hp:p'=itP inl (its++[it]) its.length it p') (hh:HoldI (bx B' pos') pos' it inl p') (hB:B'.length≤pos') (hle:S.pos≤pos') (hal:pos'%4096=0) {Y:Bs} (hY:bx B' pos'=bx S.B S.pos++Y)
  (hex:Nz p'=(List.range (pos'/4096-S.pos/4096)).map (S.pos/4096 + ·)) :
  Wr inl (its++[it]) {S with M:=(S.M++[some p']).set (it.dir-1) (some {q with kids:=some (esOf its it.dir++[(it.nm,S.M.length+1)]),links:=q.links+(if it.kd=16384 then 1 else 0)}),B:=B',pos:=pos' }:=by
 obtain⟨d1,d2,d3,d4⟩:=hi.dir_lt
 have hlen:=w.len
 have hdl:it.dir-1<S.M.length:=by omega
 have hal0:=w.al
 have hbig:=w.big
 have gt:∀ i,i≠it.dir-1→i<S.M.length→((S.M++[some p']).set (it.dir-1) (some {q with kids:=some (esOf its it.dir++[(it.nm,S.M.length+1)]),links:=q.links+(if it.kd=16384 then 1 else 0)}))[i]? = S.M[i]?:=fun i h1 h2=>by
  rw[A54,A05 (fun e=>h1 e.symm),A18 h2]
 have gd:((S.M++[some p']).set (it.dir-1) (some {q with kids:=some (esOf its it.dir++[(it.nm,S.M.length+1)]),links:=q.links+(if it.kd=16384 then 1 else 0)}))[it.dir-1]? = some (some {q with kids:=some (esOf its it.dir++[(it.nm,S.M.length+1)]),links:=q.links+(if it.kd=16384 then 1 else 0)}):=by
  rw[A54,A03 rfl,A03 (by rw[A01];omega)]
 have hnum:S.M.length+1=12+its.length:=by omega
 have hkd:(if it.kd=16384 then 1 else 0)=if it.isD=true then 1 else 0:=by
  unfold It.isD
  by_cases h:it.kd=16384<;>simp[h]
 refine⟨w.cur,w.inlS,w.max,w.gd,hB,hal,by show 8192≤pos';omega,?_,?_,?_,?_,?_,?_⟩
 ·show ((S.M++[some p']).set _ _).length=_
  rw[A89,A01,A01,hlen];rfl
 ·intro i h
  show ((S.M++[some p']).set _ _)[i]? = _
  rw[gt i (by omega) (by omega)]
  exact w.nil i h
 ·show ((S.M++[some p']).set _ _)[1]? = _
  by_cases h2:it.dir=2
  ·have:=gd
   rw[h2] at this
   rw[h2]
   refine this.trans ?_
   have hqr:q=(rootP inl).kl (some ((lostN,11)::kidsOf its 2)) (3+dirsOf its 2):=by
    have h1:=hq.at_
    rw[h2] at h1
    exact (A14 (A14 (h1.symm.trans w.root)))
   have e1:esOf its 2=(lostN,11)::kidsOf its 2:=by unfold esOf;rw[A03 rfl];rfl
   have e2:dirsOf its 2+(if it.dir=2∧it.isD=true then 1 else 0)=dirsOf its 2+(if it.isD=true then 1 else 0):=by
    by_cases h:it.isD=true
    ·rw[A03 h,A03 ⟨h2,h⟩]
    ·rw[A05 h,A05 fun h'=>h h'.2]
   rw[hnum,hkd,e1]
   show some (some (q.kl (some ((lostN,11)::kidsOf its 2++[(it.nm,12+its.length)])) (q.links+(if it.isD=true then 1 else 0))))=some (some ((rootP inl).kl (some ((lostN,11)::kidsOf (its++[it]) 2)) (3+dirsOf (its++[it]) 2)))
   rw[FO,Du,A03 h2,e2,←B62,hqr]
   rfl
  ·rw[gt 1 (by omega) (by omega),w.root,FO,Du,A05 h2,A05 (fun h=>h2 h.1),A22,A58]
 ·show ((S.M++[some p']).set _ _)[10]? = _
  rw[gt 10 (by omega) (by omega),w.lf,FO,Du,A05 d2,A05 (fun h=>d2 h.1),A22,A58]
 ·intro j x hx
  show ∃ p,((S.M++[some p']).set _ _)[11+j]? = some (some p)∧_∧HoldI (bx B' pos') pos' x inl p
  rcases A66 j its.length with h1|h1
  ·rw[A18 h1] at hx
   obtain⟨p,hp1,hp2,hp3⟩:=w.node j x hx
   have hp3':HoldI (bx B' pos') pos' x inl p:=by
    rw[hY]
    exact hp3.app (Ee w.B) hle
   by_cases hd:it.dir=12+j
   ·have hpq:q=p:=by
     have h2:=hq.at_
     rw[hd,show 12+j-1=11+j by omega,hp1] at h2
     exact (A14 (A14 h2)).symm
    have hxD:x.isD=true:=by
     obtain⟨st,hw,_⟩:=hi.way
     rcases hw.cases with⟨h2,_⟩|⟨j',x',e1,e2,e3⟩
     ·omega
     ·have:j'=j:=by omega
      subst this
      rw[hx] at e1
      rw[A14 e1];exact e2
    have:=gd
    rw[hd,show 12+j-1=11+j by omega] at this
    rw[hd,show 12+j-1=11+j by omega]
    refine⟨_,this,?_,⟨hpq▸hp3'.hold⟩⟩
    rw[hpq]
    have e1:esOf its (12+j)=kidsOf its (12+j):=by unfold esOf;rw[A05 (by omega),A34]
    have e2:p.links=1+(1+dirsOf its (12+j)):=by
     rw[hp2];show 1+(if x.isD=true then _ else 0)=_;rw[A03 hxD]
    have e3:p=(newP x.f (12+j) inl).kld p.kids p.links p.dbs p.flags p.bcnt:=by
     rw[hp2];rfl
    have e4:dirsOf its (12+j)+(if it.dir=12+j∧it.isD=true then 1 else 0)=dirsOf its (12+j)+(if it.isD=true then 1 else 0):=by
     by_cases h:it.isD=true
     ·rw[A03 h,A03 ⟨hd,h⟩]
     ·rw[A05 h,A05 fun h'=>h h'.2]
    rw[e1,hkd,hnum]
    show p.kl (some (kidsOf its (12+j)++[(it.nm,12+its.length)])) (p.links+(if it.isD=true then 1 else 0))=(newP x.f (12+j) inl).kld (if x.isD=true then some (kidsOf (its++[it]) (12+j)) else none) (1+(if x.isD=true then 1+dirsOf (its++[it]) (12+j) else 0)) p.dbs p.flags p.bcnt
    rw[A03 hxD,A03 hxD,FO,Du,A03 hd,e4,e2]
    have e5:1+(1+dirsOf its (12+j))+(if it.isD=true then 1 else 0)=1+(1+(dirsOf its (12+j)+(if it.isD=true then 1 else 0))):=by omega
    rw[e5]
    generalize 1+(1+(dirsOf its (12+j)+(if it.isD=true then 1 else 0)))=L
    generalize some (kidsOf its (12+j)++[(it.nm,12+its.length)])=K
    exact A76 (fun z:PN=>z.kl K L) e3
   ·rw[gt (11+j) (by omega) (by omega)]
    refine⟨p,hp1,hp2.trans ?_,hp3'⟩
    have k1:kidsOf (its++[it]) (12+j)=kidsOf its (12+j):=by rw[FO,A05 hd,A22]
    have k2:dirsOf (its++[it]) (12+j)=dirsOf its (12+j):=by rw[Du,A05 fun h=>hd h.1,A58]
    unfold itP
    rw[k1,k2]
  ·have h2:j=its.length:=by
    have:=(A02.1 hx).1
    rw[A01] at this
    simp at this
    omega
   subst h2
   rw[A17 (A07 _),A87,A51,A26] at hx
   subst hx
   refine⟨p',?_,hp,hh⟩
   rw[A54,A05 (by omega),A17 (by omega),show 11+its.length-S.M.length=0 by omega];rfl
 ·show (((S.M++[some p']).set _ _).flatMap exO).Perm (blks (pos'/4096))
  have fs:∀ K L,((S.M++[some p']).set (it.dir-1) (some (q.kl K L))).flatMap exO=(S.M++[some p']).flatMap exO:=fun K L=>X9 (a:=some q) (by rw[A18 hdl];exact hq.at_) rfl
  have fs2:=fs (some (esOf its it.dir++[(it.nm,S.M.length+1)])) (q.links+(if it.kd=16384 then 1 else 0))
  refine (show _=_ from fs2) ▸ ?_
  rw[A73,B04,Kd (a:=S.pos/4096) (by omega) (by omega)]
  show (S.M.flatMap exO++Nz p').Perm _
  rw[hex]
  exact w.own.append_right _
theorem Tt (hio:A7 its){it:It}(hi:OO its it){p:PN}(h1:p = {newP it.f (12+its.length) inl with links:=(newP it.f (12+its.length) inl).links+1,dbs:=p.dbs,flags:=p.flags,bcnt:=p.bcnt}) :
  p=itP inl (its++[it]) its.length it p:=by
 have hk:kidsOf (its++[it]) (12+its.length)=[]:=by
  have hn:∀ e∈kidsOf (its++[it]) (12+its.length),False:=fun e he=>by
   obtain⟨j,x,e1,e2,_⟩:=Di.1 he
   have:=((hio.snoc hi).dir_lt e1).1
   have:=(A02.1 e1).1
   rw[A01] at this
   simp at this
   omega
  cases hc:kidsOf (its++[it]) (12+its.length) with
  | nil=>rfl
  | cons e l=>exact (hn e (by rw[hc];exact A13 ..)).elim
 have hd:dirsOf (its++[it]) (12+its.length)=0:=by
  unfold dirsOf
  rw[A69,List.filter_eq_nil_iff]
  intro x hx
  obtain⟨j,hj,rfl⟩:=B00 hx
  have:=((hio.snoc hi).dir_lt (A00 hj)).1
  rw[A01] at hj
  simp at hj
  have:¬((its++[it])[j]).dir=12+its.length:=by omega
  simp[this]
 rw[h1]
 unfold itP
 rw[hk,hd]
 show ({newP it.f (12+its.length) inl with kids:=(newP it.f (12+its.length) inl).kids,links:=(newP it.f (12+its.length) inl).links+1,dbs:=_,flags:=_,bcnt:=_}:PN)=_
 unfold newP It.isD It.kd
 by_cases h:kindB (modeK it.f.mode)=16384
 ·simp[h]
 ·simp[h]
end
end
section
theorem ON {α:Type}{l:List α}{i:Nat}{a:α}(h:l[i]? = some a):l.set i a=l:=by
 apply A60
 intro j
 rw[A54]
 by_cases hj:i=j
 ·subst hj
  rw[A03 rfl,A03 (A02.1 h).1,h]
 ·rw[A05 hj]
theorem UC {n:Nat}{m:Bs}(h:m.length=n):setL (List.replicate n 0) 0 m=m:=by
 unfold setL
 rw[B17,A34,h,A59 (by simp),A22]
theorem NB {B:Bs}{p:Nat}(h:B.length=p):I1 B p=B++List.replicate (Eu p-p) 0:=by
 unfold I1
 by_cases hc:Eu p=p
 ·rw[A03 hc,hc,A87,B50,A22]
 ·rw[A05 hc,OV h]
section
variable {inl:Bool} {its:List It} {S:PS}
theorem Mc {it:It}{S0 S1:PS}(h1:Step1 (.create it.path it.f) S0 S1)(hd:it.data=[]):Steps it.ops S0 S1:=by
 unfold It.ops
 cases hw:it.w with
 | false=>exact .cons h1 .nil
 | true=>rw[hd];exact .cons h1 (.cons (.write (.none rfl)) .nil)
theorem AAm {it:It}(w:Wr inl its S)(hio:A7 its)(hi:OO its it)(hn:its.length≤5000)(hroom:S.pos+it.data.length+8192≤17179869184) :
  ∃ S',(∀ Sx,Fin Sx S→∃ Sy,Steps it.ops Sx Sy∧Fin Sy S')∧Wr inl (its++[it]) S'∧S'.pos≤S.pos+it.data.length+4095∧S'.db=S.db:=by
 obtain⟨st,hway,hpath⟩:=hi.way
 obtain⟨q,hq⟩:=VI w hio hway
 obtain⟨d1,d2,d3,d4⟩:=hi.dir_lt
 have hlen:=w.len
 have hdl:it.dir-1<S.M.length:=by omega
 have hal:=w.al
 have hbig:=w.big
 have hmax:=w.max
 have hnum:S.M.length+1=12+its.length:=by omega
 have cr:CrOK S it.path it.f st it.nm it.dir q (esOf its it.dir):=by
  refine⟨w.cur,by omega,⟨_,w.root⟩,hi.pl,hpath,hi.n2,Vr w hio hway,hq.d1,hq.at_,hq.mode,hq.kids,?_,by have:=hq.links;omega,hi.file⟩
  apply QO
  intro e he
  rcases Co.1 he with⟨h1,h2⟩|⟨j,x,h1,h2,h3⟩
  ·rw[h2];exact fun h=>hi.lost h1 h.symm
  ·rw[h3]
   exact hi.new x (A28 h1) h2
 have hinl:=w.inlS
 have hp0:newP it.f (S.M.length+1) S.inl=newP it.f (12+its.length) inl:=by rw[hnum,hinl]
 have hkm:kindB (newP it.f (12+its.length) inl).mode=it.kd:=rfl
 obtain⟨a1,a2,a3⟩:=Lx (M:=S.M) (d:=it.dir) (q:=q) (p:=newP it.f (12+its.length) inl) (p':={newP it.f (12+its.length) inl with links:=(newP it.f (12+its.length) inl).links+1}) (es:=esOf its it.dir) (e:=it.nm) hdl
 have a3:=fun p'=>(Lx (M:=S.M) (d:=it.dir) (q:=q) (p:=newP it.f (12+its.length) inl) (p':=p') (es:=esOf its it.dir) (e:=it.nm) hdl).2.2
 have hmade:∀ Sx,Fin Sx S→Step1 (.create it.path it.f) Sx (S.made it.dir q (esOf its it.dir) it.nm it.f):=fun Sx fx=>.create fx cr
 have hdat:=hi.dat
 have same:∀ p',Nz p'=[]→p' = {newP it.f (12+its.length) inl with links:=(newP it.f (12+its.length) inl).links+1,dbs:=p'.dbs,flags:=p'.flags,bcnt:=p'.bcnt}→HoldI (bx S.B S.pos) S.pos it inl p' →
   Wr inl (its++[it]) {S with M:=(D0 S.M it.dir q (newP it.f (12+its.length) inl) (esOf its it.dir) it.nm).set S.M.length (some p')}:=by
  intro p' he hp hh
  rw[a3 p']
  have:=X7 (B':=S.B) (pos':=S.pos) (Y:=[]) w hio hi hq (Tt hio hi hp) hh w.B (A07 _) hal (A22 _).symm (by rw[A87,he];rfl)
  rw[hkm]
  exact this
 by_cases hkd:it.kd=32768
 ·rw[A03 hkd] at hdat
  have hkd':kindB (modeK it.f.mode)=32768:=hkd
  have hmd:S.made it.dir q (esOf its it.dir) it.nm it.f = {S with M:=D0 S.M it.dir q (newP it.f (12+its.length) inl) (esOf its it.dir) it.nm,cur:=some (12+its.length),dw:=0,dm:=it.f.size}:=by
   unfold PS.made
   simp only
   rw[A03 hkd',hp0,hnum]
  have hc1:(D0 S.M it.dir q (newP it.f (12+its.length) inl) (esOf its it.dir) it.nm)[12+its.length-1]? = some (some {newP it.f (12+its.length) inl with links:=(newP it.f (12+its.length) inl).links+1}):=by
   rw[show 12+its.length-1=S.M.length by omega];exact a1
  by_cases hd0:it.data=[]
  ·have hsz:it.f.size=0:=by rw[hdat,hd0];rfl
   refine⟨{S with M:=D0 S.M it.dir q (newP it.f (12+its.length) inl) (esOf its it.dir) it.nm,cur:=none,dw:=0,dm:=0},fun Sx fx=>⟨_,Mc (hmade Sx fx) hd0,?_⟩,?_,by show S.pos≤_;omega,rfl⟩
   ·rw[hmd]
    exact .small (c:=12+its.length) rfl (by omega) hc1 (by rw[hsz]) (.inl (by rw[hsz]))
   ·have h1:=same {newP it.f (12+its.length) inl with links:=(newP it.f (12+its.length) inl).links+1} ?_ rfl ⟨?_⟩
    ·rw[ON a1] at h1
     obtain⟨b1,b2,b3,b4,b5,b6,b7,b8,b9,b10,b11,b12,b13⟩:=h1
     exact⟨rfl,b2,b3,b4,b5,b6,b7,b8,b9,b10,b11,b12,b13⟩
    ·unfold Nz
     rw[A05]
     show ¬flK inl it.kd it.f.size=786432
     unfold flK;split<;>decide
    ·show if inlK inl it.kd it.f.size=true then flK inl it.kd it.f.size=268697600∧datK inl it.kd it.f.size=it.data∧(0:Nat)=0 else if it.data=[] then flK inl it.kd it.f.size=262144∧datK inl it.kd it.f.size=[]∧(0:Nat)=0 else _
     unfold flK datK
     by_cases hc:inlK inl it.kd it.f.size=true
     ·rw[A03 hc,A03 hc,A03 hc,hsz,hd0];exact⟨rfl,rfl,rfl⟩
     ·rw[A05 hc,A05 hc,A05 hc,A03 hd0];exact⟨rfl,rfl,rfl⟩
  ·have hw:it.w=true:=hi.wr hd0
   have hpos:0<it.data.length:=A99.2 hd0
   have hbg:=hi.big
   have hops:it.ops=[.create it.path it.f,.write it.data]:=by unfold It.ops;rw[hw];rfl
   by_cases hc:inlK inl it.kd it.f.size=true
   ·have hsz:it.f.size≤136:=by
     unfold inlK at hc
     simp only[A42,A84] at hc
     exact hc.2
    have hfl:flK inl (kindB (modeK it.f.mode)) it.f.size=268697600:=A03 hc
    have hdb:datK inl (kindB (modeK it.f.mode)) it.f.size=List.replicate it.f.size 0:=A03 hc
    refine⟨{S with M:=(D0 S.M it.dir q (newP it.f (12+its.length) inl) (esOf its it.dir) it.nm).set S.M.length (some {newP it.f (12+its.length) inl with links:=(newP it.f (12+its.length) inl).links+1,dbs:=it.data}),cur:=none,dw:=0,dm:=0},fun Sx fx=>?_,?_,by show S.pos≤_;omega,rfl⟩
    ·refine⟨_,by rw[hops];exact .cons (hmade Sx fx) (.cons (.write (.inode (c:=12+its.length) (by rw[hmd]) (by omega) (by rw[hmd];exact hc1) hpos hfl (by rw[hmd];show 0+it.data.length≤it.f.size;omega) (by rw[hmd];show it.f.size=(datK inl (kindB (modeK it.f.mode)) it.f.size).length;rw[hdb,A09]) (by show (datK inl (kindB (modeK it.f.mode)) it.f.size).length≤_;rw[hdb,A09];omega))) .nil),?_⟩
     rw[hmd]
     have e2:({S with M:=D0 S.M it.dir q (newP it.f (12+its.length) inl) (esOf its it.dir) it.nm,cur:=some (12+its.length),dw:=0,dm:=it.f.size}:PS).inned (12+its.length) {newP it.f (12+its.length) inl with links:=(newP it.f (12+its.length) inl).links+1} it.data
       = {S with M:=(D0 S.M it.dir q (newP it.f (12+its.length) inl) (esOf its it.dir) it.nm).set S.M.length (some {newP it.f (12+its.length) inl with links:=(newP it.f (12+its.length) inl).links+1,dbs:=it.data}),cur:=some (12+its.length),dw:=it.data.length,dm:=it.f.size}:=by
      unfold PS.inned
      rw[show 12+its.length-1=S.M.length by omega,A29]
      show ({S with M:=(D0 S.M it.dir q (newP it.f (12+its.length) inl) (esOf its it.dir) it.nm).set S.M.length (some {newP it.f (12+its.length) inl with links:=_,dbs:=setL (datK inl (kindB (modeK it.f.mode)) it.f.size) 0 it.data}),cur:=_,dw:=_,dm:=_}:PS)=_
      rw[hdb,UC hdat.symm]
     rw[e2]
     refine .small (c:=12+its.length) (n:={newP it.f (12+its.length) inl with links:=(newP it.f (12+its.length) inl).links+1,dbs:=it.data}) rfl (by omega) ?_ (by show it.data.length=it.f.size;omega) (.inr hfl)
     rw[A54,A03 (by omega),A03 (by omega)]
    ·have h1:=same {newP it.f (12+its.length) inl with links:=(newP it.f (12+its.length) inl).links+1,dbs:=it.data} ?_ rfl ⟨?_⟩
     ·obtain⟨b1,b2,b3,b4,b5,b6,b7,b8,b9,b10,b11,b12,b13⟩:=h1
      exact⟨rfl,b2,b3,b4,b5,b6,b7,b8,b9,b10,b11,b12,b13⟩
     ·unfold Nz
      rw[A05]
      show ¬flK inl (kindB (modeK it.f.mode)) it.f.size=786432
      rw[hfl];decide
     ·rw[A03 hc];exact⟨hfl,rfl,rfl⟩
   ·have hfl:flK inl (kindB (modeK it.f.mode)) it.f.size=262144:=A05 hc
    have hB:=w.B
    let pos1:=S.pos+it.data.length
    have hup:Eu pos1=(S.pos/4096+(it.data.length+4095)/4096)*4096:=by
     show (S.pos+it.data.length+4095)/4096*4096=_;omega
    let len:=(it.data.length+4095)/4096
    let p':PN:={newP it.f (12+its.length) inl with links:=(newP it.f (12+its.length) inl).links+1,dbs:=extRoot len (S.pos/4096),flags:=786432,bcnt:=len}
    have hBl:(BG S.B S.pos it.data).length=pos1:=by
     rw[J1 hB,A01,Ee hB]
    have hB':I1 (BG S.B S.pos it.data) pos1=bx S.B S.pos++(it.data++List.replicate (Eu pos1-pos1) 0):=by
     rw[NB hBl,J1 hB,A12]
    have hup1:pos1≤Eu pos1∧Eu pos1≤pos1+4095∧Eu pos1%4096=0:=by unfold Eu;omega
    have hB'l:(I1 (BG S.B S.pos it.data) pos1).length=Eu pos1:=by
     rw[NB hBl,A01,A09,hBl];omega
    refine⟨{S with M:=(D0 S.M it.dir q (newP it.f (12+its.length) inl) (esOf its it.dir) it.nm).set S.M.length (some p'),B:=I1 (BG S.B S.pos it.data) pos1,pos:=Eu pos1,cur:=none,dw:=0,dm:=0},fun Sx fx=>?_,?_,by show Eu pos1≤_;have:pos1=S.pos+it.data.length:=rfl;omega,rfl⟩
    ·refine⟨_,by rw[hops];exact .cons (hmade Sx fx) (.cons (.write (.disk (c:=12+its.length) (by rw[hmd]) (by omega) (by rw[hmd];exact hc1) hpos hfl (by rw[hmd];show 0+it.data.length≤it.f.size;omega) (by rw[hmd];show it.f.size<_;omega) (by rw[hmd];show S.pos+it.data.length≤S.max;omega))) .nil),?_⟩
     rw[hmd]
     have e2:({S with M:=D0 S.M it.dir q (newP it.f (12+its.length) inl) (esOf its it.dir) it.nm,cur:=some (12+its.length),dw:=0,dm:=it.f.size}:PS).wrote it.data
       = {S with M:=D0 S.M it.dir q (newP it.f (12+its.length) inl) (esOf its it.dir) it.nm,B:=BG S.B S.pos it.data,pos:=pos1,cur:=some (12+its.length),dw:=it.data.length,dm:=it.f.size}:=by
      unfold PS.wrote
      rw[A29]
     rw[e2]
     have f:=Fin.big (S:={S with M:=D0 S.M it.dir q (newP it.f (12+its.length) inl) (esOf its it.dir) it.nm,B:=BG S.B S.pos it.data,pos:=pos1,cur:=some (12+its.length),dw:=it.data.length,dm:=it.f.size}) (c:=12+its.length) rfl (by omega) hc1 (by show it.data.length=it.f.size;omega) (by show 1≤it.f.size;omega) hfl (by show it.data.length≤S.pos+it.data.length;omega) (by show (S.pos+it.data.length-it.data.length)%4096=0;omega) (by show (BG S.B S.pos it.data).length≤pos1;omega) (by show it.data.length≤134000000;omega) (by show S.pos+it.data.length+4096≤S.max;omega) (by show (0:Nat)<1000000;decide)
     have e3:({S with M:=D0 S.M it.dir q (newP it.f (12+its.length) inl) (esOf its it.dir) it.nm,B:=BG S.B S.pos it.data,pos:=pos1,cur:=some (12+its.length),dw:=it.data.length,dm:=it.f.size}:PS).shut (12+its.length) {newP it.f (12+its.length) inl with links:=(newP it.f (12+its.length) inl).links+1}
       = {S with M:=(D0 S.M it.dir q (newP it.f (12+its.length) inl) (esOf its it.dir) it.nm).set S.M.length (some p'),B:=I1 (BG S.B S.pos it.data) pos1,pos:=Eu pos1,cur:=none,dw:=0,dm:=0}:=by
      unfold PS.shut PN.ext
      have x1:pos1-it.data.length=S.pos:=by show S.pos+it.data.length-it.data.length=_;omega
      have x2:(Eu pos1-S.pos)/4096=len:=by show _=(it.data.length+4095)/4096;omega
      have x3:flK inl (kindB (modeK it.f.mode)) it.f.size ||| 524288=786432:=by rw[hfl];decide
      rw[show 12+its.length-1=S.M.length by omega]
      show ({S with M:=(D0 S.M it.dir q (newP it.f (12+its.length) inl) (esOf its it.dir) it.nm).set S.M.length (some {newP it.f (12+its.length) inl with links:=_,dbs:=extRoot ((Eu pos1-(pos1-it.data.length))/4096) ((pos1-it.data.length)/4096),flags:=flK inl (kindB (modeK it.f.mode)) it.f.size ||| 524288,bcnt:=0+(Eu pos1-(pos1-it.data.length))/4096}),B:=_,pos:=_,cur:=_,dw:=_,dm:=_}:PS)=_
      rw[x1,x2,x3,A29]
     rw[←e3]
     exact f
    ·rw[a3 p']
     have hlen2:len=(it.data.length+4095)/4096:=rfl
     have hst:leL (extRoot len (S.pos/4096)) 20 4=S.pos/4096:=by
      obtain⟨x1,_⟩:=ES (len:=len) (st:=S.pos/4096) (by omega) (by omega)
      have:=x1.st
      rw[EQ (by omega),DQ] at this
      exact this
     have hbx:bx (I1 (BG S.B S.pos it.data) pos1) (Eu pos1)=bx S.B S.pos++(it.data++List.replicate (Eu pos1-pos1) 0):=by
      rw[VA hB'l,hB']
     have h1:=X7 (p':=p') (B':=I1 (BG S.B S.pos it.data) pos1) (pos':=Eu pos1) (Y:=it.data++List.replicate (Eu pos1-pos1) 0) w hio hi hq (Tt hio hi rfl) ⟨?_⟩ (by omega) (by have:pos1=S.pos+it.data.length:=rfl;omega) hup1.2.2 hbx ?_
     ·rw[hkm]
      obtain⟨b1,b2,b3,b4,b5,b6,b7,b8,b9,b10,b11,b12,b13⟩:=h1
      exact⟨rfl,b2,b3,b4,b5,b6,b7,b8,b9,b10,b11,b12,b13⟩
     ·rw[A05 hc,A05 hd0]
      refine⟨S.pos/4096,rfl,rfl,rfl,by omega,by show (S.pos/4096+len)*4096≤Eu pos1;omega,?_⟩
      rw[hbx]
      exact Fa (by rw[Ee hB];omega) rfl
     ·unfold Nz
      rw[A03 rfl]
      show (List.range len).map (leL (extRoot len (S.pos/4096)) 20 4 + ·)=_
      rw[hst]
      congr 2
      omega
 ·rw[A05 hkd] at hdat
  have hkd':¬kindB (modeK it.f.mode)=32768:=hkd
  have hmd:S.made it.dir q (esOf its it.dir) it.nm it.f = {S with M:=D0 S.M it.dir q (newP it.f (12+its.length) inl) (esOf its it.dir) it.nm}:=by
   unfold PS.made
   simp only
   rw[A05 hkd',hp0]
  have hni:inlK inl it.kd it.f.size=false:=by
   unfold inlK
   have:(it.kd == 32768)=false:=by simpa using hkd
   rw[this];simp
  refine⟨{S with M:=D0 S.M it.dir q (newP it.f (12+its.length) inl) (esOf its it.dir) it.nm},fun Sx fx=>⟨_,Mc (hmade Sx fx) hdat,?_⟩,?_,by show S.pos≤_;omega,rfl⟩
  ·rw[hmd];exact .none w.cur
  ·have h1:=same {newP it.f (12+its.length) inl with links:=(newP it.f (12+its.length) inl).links+1} ?_ rfl ⟨?_⟩
   ·rw[ON a1] at h1
    exact h1
   ·unfold Nz
    rw[A05]
    show ¬flK inl it.kd it.f.size=786432
    unfold flK;split<;>decide
   ·rw[hni]
    show if false=true then _ else if it.data=[] then flK inl it.kd it.f.size=262144∧datK inl it.kd it.f.size=[]∧(0:Nat)=0 else _
    rw[A05 (by decide),A03 hdat]
    unfold flK datK
    rw[hni]
    exact⟨rfl,rfl,rfl⟩
end
end
section
theorem Steps.append:∀ {l m:List Op1} {S S1 S2:PS},Steps l S S1→Steps m S1 S2→Steps (l++m) S S2
 | _,_,_,_,_,.nil,h=>h
 | _,_,_,_,_,.cons h1 h2,h=>.cons h1 (h2.append h)
theorem Nj:Fk EA=1:=by decide
theorem Xn (inl:Bool)(db:Nat):Wr inl [] (S2 [] inl EA db):=by
 have hm:S2 [] inl EA db = {S1 [] inl EA db with M:=D0 (M1 inl) 2 (rootP inl) (newP (dirF 16832) 11 inl) [] lostN}:=by
  unfold S2 PS.made
  simp only
  rw[A05 (by decide)]
  rfl
 have hpos:(1+Fk EA)*4096=8192:=by rw[Nj]
 have hM:(S2 [] inl EA db).M=none::some {rootP inl with kids:=some [(lostN,11)],links:=3}::(List.replicate 8 none++[some {newP (dirF 16832) 11 inl with links:=2}]):=by
  have k:kindB (modeK 16832)=16384:=by decide
  rw[hm]
  show (M1 inl++[some ((newP (dirF 16832) 11 inl).kl (newP (dirF 16832) 11 inl).kids ((if kindB (modeK 16832)=16384 then 1 else 0)+1))]).set 1 (some ((rootP inl).kl (some ([]++[(lostN,(M1 inl).length+1)])) (2+(if kindB (modeK 16832)=16384 then 1 else 0))))=_
  rw[A03 k]
  rfl
 have hp:(S2 [] inl EA db).pos=8192:=by rw[hm];exact hpos
 have hB:(S2 [] inl EA db).B=[]:=by rw[hm];rfl
 have hlk:(newP (dirF 16832) 11 inl).kids=some []:=by
  show (if kindB (modeK 16832)=16384 then some [] else none)=_
  rw[A03 (by decide)]
 have hfl:∀ m,kindB (modeK m)=16384→∀ n,(newP (dirF m) n inl).flags=262144:=fun m h n=>by
  show flK inl (kindB (modeK m)) 0=262144
  unfold flK inlK
  rw[h,A05 (by simp)]
 refine⟨by rw[hm];rfl,by rw[hm];rfl,by rw[hm];rfl,by rw[hm];exact Nj,by rw[hB,hp];simp,by rw[hp],by rw[hp];omega,by rw[hM];rfl,?_,?_,?_,fun j it h=>by simp at h,?_⟩
 ·intro i h
  rw[hM]
  rcases h with rfl|⟨h1,h2⟩
  ·rfl
  ·have:i=2∨i=3∨i=4∨i=5∨i=6∨i=7∨i=8∨i=9:=by omega
   rcases this with rfl|rfl|rfl|rfl|rfl|rfl|rfl|rfl<;>rfl
 ·rw[hM];rfl
 ·rw[hM]
  show some (some {newP (dirF 16832) 11 inl with links:=2})=some (some {newP (dirF 16832) 11 inl with kids:=some [],links:=2})
  rw[←hlk]
 ·rw[hM,hp]
  have e1:exO (some {rootP inl with kids:=some [(lostN,11)],links:=3})=[]:=by
   show (if (rootP inl).flags=786432 then _ else [])=[]
   rw[A05]
   show ¬(newP (dirF 16877) 2 inl).flags=_
   rw[hfl 16877 (by decide)];decide
  have e2:exO (some {newP (dirF 16832) 11 inl with links:=2})=[]:=by
   show (if (newP (dirF 16832) 11 inl).flags=786432 then _ else [])=[]
   rw[A05]
   rw[hfl 16832 (by decide)];decide
  rw[A37,A37,e1,A73,B04,e2]
  exact .refl _
def EW (its:List It):Nat:=(its.map fun it=>it.data.length+4095).sum
theorem Q0 {its:List It}{n:Nat}(h:n<its.length):EW (its.take (n+1))=EW (its.take n)+(its[n].data.length+4095):=by
 unfold EW
 rw[←List.take_append_getElem h,A36,B30]
 simp
theorem Va (its:List It)(n:Nat):EW (its.take n)≤EW its:=by
 have:EW its=EW (its.take n)+EW (its.drop n):=by
  unfold EW
  rw[←B30,←A36,B36]
 omega
section
variable {inl:Bool} {its:List It} {S0:PS}
theorem WY (w:Wr inl [] S0)(h0:S0.pos=8192)(hio:A7 its)(hn:its.length≤5000)(hsum:EW its≤100000000):∀ n,n≤its.length →
  ∃ Sy S',Steps ((its.take n).flatMap It.ops) S0 Sy∧Fin Sy S'∧Wr inl (its.take n) S'∧S'.pos≤8192+EW (its.take n)∧S'.db=S0.db
 | 0,_=>⟨S0,S0,.nil,.none w.cur,w,by rw[h0];omega,rfl⟩
 | n+1,hl=>by
  have hlt:n<its.length:=by omega
  obtain⟨Sy,S',s1,f1,w1,p1,q1⟩:=WY w h0 hio hn hsum n (by omega)
  have hio':A7 (its.take n):=fun j it hj=>by
   have hjl:=(A02.1 hj).1
   rw[A20] at hjl
   rw[A41,A03 (by omega)] at hj
   have:=hio j it hj
   rw[A95,A30 (by omega)]
   exact this
  have hi:=hio n _ (A00 hlt)
  have hs:=Q0 hlt
  have hs2:=Va its (n+1)
  have hbg:=hi.big
  obtain⟨S2,k1,k2,k3,k4⟩:=AAm w1 hio' hi (by rw[A20];omega) (by omega)
  obtain⟨Sz,s2,f2⟩:=k1 Sy f1
  refine⟨Sz,S2,?_,f2,?_,by omega,k4.trans q1⟩
  ·rw[←List.take_append_getElem hlt,A73,B04]
   exact s1.append s2
  ·rw[←List.take_append_getElem hlt];exact k2
end
end
section
def dirB (its:List It)(k:Nat):Bool:=decide (k=2)||decide (k=11)||(decide (12≤k)&&(match its[k-12]? with|some it=>it.isD|none=>false))
def parOf (its:List It)(c:Nat):Nat:=if c<12 then 2 else match its[c-12]? with|some it=>it.dir|none=>2
theorem Aj {its:List It}{k:Nat}:dirB its k=true↔k=2∨k=11∨∃ j it,its[j]? = some it∧it.isD=true∧k=12+j:=by
 unfold dirB
 simp only[B14,A84,A42]
 constructor
 ·rintro ((h|h)|⟨h1,h2⟩)
  ·exact .inl h
  ·exact .inr (.inl h)
  ·cases hg:its[k-12]? with
   | none=>rw[hg] at h2;cases h2
   | some it=>rw[hg] at h2;exact .inr (.inr ⟨k-12,it,hg,h2,by omega⟩)
 ·rintro (h|h|⟨j,it,h1,h2,h3⟩)
  ·exact .inl (.inl h)
  ·exact .inl (.inr h)
  ·refine .inr ⟨by omega,?_⟩
   rw[show k-12=j by omega,h1];exact h2
theorem HY {its:List It}{j:Nat}{it:It}(h:its[j]? = some it):parOf its (12+j)=it.dir:=by
 unfold parOf
 rw[A05 (by omega),show 12+j-12=j by omega,h]
section
variable {its:List It}
theorem Ht (hio:A7 its){c:Nat}(h:2≤c):2≤parOf its c∧parOf its c≤c:=by
 unfold parOf
 split
 ·omega
 ·cases hg:its[c-12]? with
  | none=>exact⟨A07 _,h⟩
  | some it=>
   have:=hio.dir_lt hg
   show 2≤it.dir∧it.dir≤c
   omega
theorem DT (hio:A7 its){c:Nat}{e:Bs×Nat}(he:e∈esOf its c):c<e.2∧parOf its e.2=c∧e.2<12+its.length∧11≤e.2∧2≤c:=by
 rcases Co.1 he with⟨h1,h2⟩|⟨j,it,h1,h2,h3⟩
 ·subst h1 h2
  exact⟨by decide,rfl,by show 11<_;omega,A07 _,A07 _⟩
 ·subst h3
  have:=hio.dir_lt h1
  have:=(A02.1 h1).1
  rw[show (it.nm,12+j).2=12+j from rfl,HY h1]
  omega
def X6 (its:List It):Nat→Nat→Nat
 | 0,k=>k
 | n+1,k=>parOf its (X6 its n k)
theorem Mr (n k:Nat):∀ d,X6 its (n+d) k=X6 its d (X6 its n k)
 | 0=>rfl
 | d+1=>A76 (parOf its) (Mr n k d)
theorem Wf (hio:A7 its){k:Nat}(h:2≤k):∀ n,2≤X6 its n k∧X6 its n k≤k
 | 0=>⟨h,A07 _⟩
 | n+1=>by
  have h1:=Wf hio h n
  have h2:=Ht hio h1.1
  exact⟨h2.1,B28 h2.2 h1.2⟩
theorem XO (hio:A7 its){k a b c n m:Nat}(ha:X6 its n k=a)(hb:X6 its m k=b)(pa:parOf its a=c)(hcb:c<b)(hc:2≤c)(hnm:n≤m):a=b:=by
 obtain⟨d,rfl⟩:=Nat.exists_eq_add_of_le hnm
 rw[Mr,ha] at hb
 cases d with
 | zero=>exact hb
 | succ d=>
  rw[B54 d 1,Mr] at hb
  have e:X6 its 1 a=c:=pa
  rw[e] at hb
  have:=(Wf hio hc d).2
  omega
def Ps (its:List It):Nat→Nat→List Nat
 | 0,_=>[]
 | f+1,c=>c::(esOf its c).flatMap fun e=>if dirB its e.2=true then Ps its f e.2 else []
theorem Fn (hio:A7 its):∀ (f c:Nat),2≤c→c<12+its.length→dirB its c=true→∀ k∈Ps its f c,(∃ n,X6 its n k=c)∧c≤k∧k<12+its.length∧dirB its k=true
 | 0,_,_,_,_,k,h=>by cases h
 | f+1,c,h2,hlt,hd,k,h=>by
  rcases A32.1 h with h1|h1
  ·subst h1;exact⟨⟨0,rfl⟩,A07 _,hlt,hd⟩
  ·obtain⟨e,he,hk⟩:=A98.1 h1
   obtain⟨a1,a2,a3,a4,a5⟩:=DT hio he
   by_cases hb:dirB its e.2=true
   ·rw[A03 hb] at hk
    obtain⟨⟨n,b1⟩,b2,b3,b4⟩:=Fn hio f e.2 (by omega) a3 hb k hk
    exact⟨⟨n+1,by rw[X6,b1];exact a2⟩,by omega,b3,b4⟩
   ·rw[A05 hb] at hk;cases hk
theorem L4 (hio:A7 its):∀ (f c:Nat),2≤c→c<12+its.length→dirB its c=true→(Ps its f c).Nodup
 | 0,_,_,_,_=>.nil
 | f+1,c,h2,hlt,hd=>by
  rw[Ps,A90]
  constructor
  ·intro h
   obtain⟨e,he,hk⟩:=A98.1 h
   obtain⟨a1,a2,a3,a4,a5⟩:=DT hio he
   by_cases hb:dirB its e.2=true
   ·rw[A03 hb] at hk
    have:=(Fn hio f e.2 (by omega) a3 hb c hk).2.1
    omega
   ·rw[A05 hb] at hk;cases hk
  ·unfold List.Nodup
   rw[List.pairwise_flatMap]
   constructor
   ·intro e he
    obtain⟨a1,a2,a3,a4,a5⟩:=DT hio he
    by_cases hb:dirB its e.2=true
    ·rw[A03 hb];exact L4 hio f e.2 (by omega) a3 hb
    ·rw[A05 hb];exact .nil
   ·refine List.Pairwise.imp_of_mem ?_ (IB c)
    intro a b ha hb hlt' x hx y hy hxy
    subst hxy
    obtain⟨a1,a2,a3,a4,a5⟩:=DT hio ha
    obtain⟨b1,b2,b3,b4,b5⟩:=DT hio hb
    by_cases hda:dirB its a.2=true
    ·rw[A03 hda] at hx
     by_cases hdb:dirB its b.2=true
     ·rw[A03 hdb] at hy
      obtain⟨n,hn⟩:=(Fn hio f a.2 (by omega) a3 hda x hx).1
      obtain⟨m,hm⟩:=(Fn hio f b.2 (by omega) b3 hdb x hy).1
      rcases Nat.le_total n m with h|h
      ·have:=XO hio hn hm a2 b1 a5 h;omega
      ·have:=XO hio hm hn b2 a1 a5 h;omega
     ·rw[A05 hdb] at hy;cases hy
    ·rw[A05 hda] at hx;cases hx
theorem K6 (hio:A7 its):∀ (f c d:Nat) (e:Bs×Nat),12+its.length<f+c→d∈Ps its f c→e∈esOf its d→dirB its e.2=true→e.2∈Ps its f c
 | 0,_,_,_,_,h,_,_=>by cases h
 | f+1,c,d,e,hf,h,he,hb=>by
  rcases A32.1 h with h1|h1
  ·subst h1
   refine A16 _ (A98.2 ⟨e,he,?_⟩)
   rw[A03 hb]
   obtain⟨a1,a2,a3,a4,a5⟩:=DT hio he
   cases f with
   | zero=>omega
   | succ f=>exact A13 ..
  ·obtain⟨x,hx,hk⟩:=A98.1 h1
   obtain⟨a1,a2,a3,a4,a5⟩:=DT hio hx
   by_cases hbx:dirB its x.2=true
   ·rw[A03 hbx] at hk
    refine A16 _ (A98.2 ⟨x,hx,?_⟩)
    rw[A03 hbx]
    exact K6 hio f x.2 d e (by omega) hk he hb
   ·rw[A05 hbx] at hk;cases hk
theorem AAt (hio:A7 its){f:Nat}(hf:12+its.length<f):∀ k,dirB its k=true→k∈Ps its f 2:=by
 intro k
 induction k using Nat.strongRecOn with
 | ind k ih=>
  intro hk
  rcases Aj.1 hk with h|h|⟨j,it,h1,h2,h3⟩
  ·subst h
   cases f with
   | zero=>omega
   | succ f=>exact A13 ..
  ·subst h
   have h2:2∈Ps its f 2:=by
    cases f with
    | zero=>omega
    | succ f=>exact A13 ..
   exact K6 hio f 2 2 (lostN,11) (by omega) h2 (Co.2 (.inl ⟨rfl,rfl⟩)) hk
  ·have hlt:=hio.dir_lt h1
   have hd:dirB its it.dir=true:=by
    obtain⟨st,hw,_⟩:=(hio j it h1).way
    rcases hw.cases with⟨h4,_⟩|⟨j',x,e1,e2,e3⟩
    ·exact Aj.2 (.inl h4)
    ·have hl:=(A02.1 e1).1
     rw[A20] at hl
     rw[A41,A03 (by omega)] at e1
     exact Aj.2 (.inr (.inr ⟨j',x,e1,e2,e3⟩))
   have:=ih it.dir (by omega) hd
   subst h3
   exact K6 hio f 2 it.dir (it.nm,12+j) (by omega) this (Co.2 (.inr ⟨j,it,h1,rfl,rfl⟩)) hk
end
end
section
def I8 (its:List It)(c:Nat):List Bs:=(esOf its c).map (·.1)
def enD (M:List (Option PN))(its:List It)(c:Nat):List (Nat×Nat×Bs):=Cf M c (parOf its c) (esOf its c) (I8 its c)
def bsD (M:List (Option PN))(its:List It)(c:Nat):Bs:=Bg (enD M its c)
def dirN (p:PN)(st len:Nat):PN:={p with size:=len,dbs:=extRoot (len/4096) st,flags:=786432,bcnt:=len/4096}
section
variable {inl:Bool} {its:List It} {S1 S:PS} {D:List Nat} {c:Nat}
theorem IX (hio:A7 its)(M:List (Option PN))(c:Nat):enD M its c=(c,EG (modeAt M c),[46])::(parOf its c,EG (modeAt M (parOf its c)),[46,46])::(esOf its c).map fun e=>(e.2,EG (modeAt M e.2),e.1):=by
 unfold enD Cf I8
 rw[B05]
 congr 2
 apply A72
 intro e he
 show FX M (esOf its c) e.1=_
 unfold FX
 rw[IA (C1 hio c) he]
 rfl
theorem W2 (hio:A7 its){e:Bs×Nat}(he:e∈esOf its c):1≤e.1.length∧e.1.length<256:=by
 rcases Co.1 he with⟨h1,h2⟩|⟨j,it,h1,h2,h3⟩
 ·subst h2;decide
 ·subst h3
  have:=(hio j it h1).n1
  have:=(hio j it h1).n2
  show 1≤it.nm.length∧it.nm.length<256
  omega
theorem VX (hio:A7 its)(hn:its.length≤5000)(h2:2≤c)(hc:c<12+its.length)(M:List (Option PN)):∀ e∈enD M its c,ZP e:=by
 rw[IX hio]
 intro e he
 have hp:=Ht hio h2
 rcases A32.1 he with h|h
 ·subst h;exact⟨by show 0<c;omega,by show c<_;omega,M4 _,by show 0<1;omega,by show 1<256;omega⟩
 ·rcases A32.1 h with h|h
  ·subst h;exact⟨by show 0<parOf its c;omega,by show parOf its c<_;omega,M4 _,by show 0<2;omega,by show 2<256;omega⟩
  ·obtain⟨x,hx,rfl⟩:=A35.1 h
   obtain⟨a1,a2,a3,a4,a5⟩:=DT hio hx
   obtain⟨n1,n2⟩:=W2 hio hx
   exact⟨by show 0<x.2;omega,by show x.2<_;omega,M4 _,n1,n2⟩
theorem SU (hio:A7 its)(M:List (Option PN))(c:Nat):(enD M its c).length=(esOf its c).length+2:=by
 rw[IX hio];simp
theorem Jp (hio:A7 its)(hn:its.length≤5000)(h2:2≤c)(hc:c<12+its.length)(M:List (Option PN)):(bsD M its c).length%4096=0∧4096≤(bsD M its c).length∧(bsD M its c).length≤4096*((esOf its c).length+3):=by
 obtain⟨_,a,b,d⟩:=Oo (VX hio hn h2 hc M)
 rw[SU hio] at d
 exact⟨a,b,d⟩
theorem Ji (w:Wr inl its S1){k:Nat}(h:k=2∨11≤k∧k<12+its.length):∃ p,S1.M[k-1]? = some (some p):=by
 rcases h with rfl|⟨h1,h2⟩
 ·exact⟨_,w.root⟩
 ·by_cases h3:k=11
  ·subst h3;exact⟨_,w.lf⟩
  ·obtain⟨p,hp,_⟩:=w.node (k-12) _ (A00 (by omega))
   exact⟨p,by rw[show k-1=11+(k-12) by omega];exact hp⟩
theorem S9 (w:Wr inl its S1)(hio:A7 its)(hc:dirB its c=true):∃ q,DirAt S1 its c q∧q.bcnt=0:=by
 have hroot:∀ m n,kindB (modeK m)=16384→(newP (dirF m) n inl).flags=262144:=fun m n h=>by
  show flK inl (kindB (modeK m)) 0=_
  unfold flK inlK;rw[h,A05 (by simp)]
 rcases Aj.1 hc with rfl|rfl|⟨j,it,h1,h2,rfl⟩
 ·refine⟨_,⟨w.root,F6 inl,?_,?_,by omega,hroot 16877 2 (by decide)⟩,rfl⟩
  ·unfold esOf;rfl
  ·have:=Ff its 2;show 3+dirsOf its 2≤_;omega
 ·refine⟨_,⟨w.lf,?_,?_,?_,by omega,hroot 16832 11 (by decide)⟩,rfl⟩
  ·show kindB (modeK 16832)=16384;decide
  ·show some (kidsOf its 11)=_
   unfold esOf;rw[A05 (by omega),A34]
  ·have:=Ff its 11;show 2+dirsOf its 11≤_;omega
 ·obtain⟨p,hp,he,hh⟩:=w.node j it h1
  have hk:it.kd=16384:=of_decide_eq_true h2
  have hdat:=(hio j it h1).dat
  rw[A05 (by omega)] at hdat
  have hh:=hh.hold
  rw[A05 (by unfold inlK;rw[hk];simp),A03 hdat] at hh
  refine⟨p,⟨by rw[show 12+j-1=11+j by omega];exact hp,?_,?_,?_,by omega,hh.1⟩,hh.2.2⟩
  ·rw[he];exact hk
  ·rw[he]
   show (if it.isD=true then some (kidsOf its (12+j)) else none)=_
   rw[A03 h2]
   unfold esOf
   rw[A05 (by omega),A34]
  ·rw[he]
   show 1+(if it.isD=true then 1+dirsOf its (12+j) else 0)≤_
   have:=Ff its (12+j)
   split<;>omega
structure JU (its:List It) (S1:PS) (D:List Nat) (S:PS):Prop where
 cur:S.cur=none
 same:S.inl=S1.inl∧S.max=S1.max∧S.gd=S1.gd∧S.db=S1.db
 Ble:S.B.length≤S.pos
 Beq:D≠[]→S.B.length=S.pos
 ext:∃ Y,bx S.B S.pos=bx S1.B S1.pos++Y
 al:S.pos%4096=0
 big:8192≤S.pos
 len:S.M.length=S1.M.length
 out:∀ k,k∉D→1≤k→S.M[k-1]? = S1.M[k-1]?
 in_:∀ k∈D,∃ q st,DirAt S1 its k q∧S.M[k-1]? = some (some (dirN q st (bsD S1.M its k).length))∧2≤st∧st*4096+(bsD S1.M its k).length≤S.pos∧((bx S.B S.pos).drop (st*4096)).take (bsD S1.M its k).length=bsD S1.M its k
 own:(S.M.flatMap exO).Perm (blks (S.pos/4096))
 posb:S.pos≤S1.pos+(D.map fun k=>(bsD S1.M its k).length).sum
theorem JU.mode (a:JU its S1 D S)(k:Nat)(h1:1≤k):modeAt S.M k=modeAt S1.M k:=by
 by_cases h:k∈D
 ·obtain⟨q,st,b1,b2,_⟩:=a.in_ k h
  unfold modeAt
  rw[b2,b1.at_];rfl
 ·unfold modeAt
  rw[a.out k h h1]
theorem JU.some_ (a:JU its S1 D S){k:Nat}(h1:1≤k)(h:∃ p,S1.M[k-1]? = some (some p)):∃ p,S.M[k-1]? = some (some p):=by
 by_cases hk:k∈D
 ·obtain⟨q,st,b1,b2,_⟩:=a.in_ k hk
  exact⟨_,b2⟩
 ·rw[a.out k hk h1];exact h
theorem JU.start (w:Wr inl its S1):JU its S1 [] S1:=
 ⟨w.cur,⟨rfl,rfl,rfl,rfl⟩,w.B,fun h=>absurd rfl h,⟨[],(A22 _).symm⟩,w.al,w.big,rfl,fun _ _ _=>rfl,fun _ h=>(by cases h),w.own,by simp⟩
theorem UH {M:List (Option PN)}{i:Nat}{a b:Option PN}(h:M[i]? = some a)(he:exO a=[]):((M.set i b).flatMap exO).Perm (M.flatMap exO++exO b):=by
 induction M generalizing i with
 | nil=>simp at h
 | cons o M ih=>
  cases i with
  | zero=>
   rw[A51,A26] at h
   subst h
   rw[List.set_cons_zero,A37,A37,he,A34]
   exact List.perm_append_comm
  | succ i=>
   rw[A63] at h
   rw[List.set_cons_succ,A37,A37,A12]
   exact (ih h).append_left _
theorem VF (w:Wr inl its S1)(hio:A7 its)(hn:its.length≤5000)(a:JU its S1 D S)(hc:dirB its c=true)(hcD:c∉D)(h2:2≤c)(hlt:c<12+its.length)(hroom:S.pos≤10000000000) :
  ∃ n np S',F0 S c (parOf its c) n np (esOf its c) (I8 its c)∧Fin (S.dirDone c n (Bg (Cf S.M c (parOf its c) (esOf its c) (I8 its c)))) S'∧JU its S1 (D++[c]) S':=by
 obtain⟨q,hq,hqb⟩:=S9 w hio hc
 have hMc:S.M[c-1]? = some (some q):=by rw[a.out c hcD (by omega)];exact hq.at_
 have hpar:=Ht hio h2
 have hmax:S.max=17179869184:=by rw[a.same.2.1];exact w.max
 have hel:=Hq its c
 have hpp:∃ np,S.M[parOf its c-1]? = some (some np):=by
  refine a.some_ (by omega) (Ji w ?_)
  rcases Aj.1 hc with rfl|rfl|⟨j,it,h1,h2',rfl⟩
  ·exact .inl rfl
  ·exact .inl rfl
  ·rw[HY h1]
   have:=hio.dir_lt h1
   have:=(A02.1 h1).1
   omega
 obtain⟨np,hnp⟩:=hpp
 have henD:Cf S.M c (parOf its c) (esOf its c) (I8 its c)=enD S1.M its c:=by
  show enD S.M its c=enD S1.M its c
  rw[IX hio,IX hio,a.mode c (by omega),a.mode (parOf its c) (by omega)]
  congr 2
  apply A72
  intro e he
  obtain⟨a1,a2,a3,a4,a5⟩:=DT hio he
  rw[a.mode e.2 (by omega)]
 rw[henD]
 obtain⟨l1,l2,l3⟩:=Jp hio hn h2 hlt S1.M
 show ∃ n np S',F0 S c (parOf its c) n np (esOf its c) (I8 its c)∧Fin (S.dirDone c n (bsD S1.M its c)) S'∧JU its S1 (D++[c]) S'
 have hbs:∃ bs,bsD S1.M its c=bs:=⟨_,rfl⟩
 obtain⟨bs,hbs⟩:=hbs
 rw[hbs] at l1 l2 l3 ⊢
 have hal:=a.al
 have hbig:=a.big
 have hbl:bs.length≤30000000:=by omega
 have ctx:F0 S c (parOf its c) q np (esOf its c) (I8 its c):=by
  refine⟨a.cur,by omega,hMc,hq.kids,?_,fun e he=>W2 hio he,by omega,hnp,hq.fl,a.Ble,by rw[hmax];omega,by omega,?_,?_⟩
  ·intro e he
   obtain⟨a1,a2,a3,a4,a5⟩:=DT hio he
   exact⟨by omega,a.some_ (by omega) (Ji w (by omega))⟩
  ·exact AAe (C1 hio c) (IB c)
  ·intro x hx
   obtain⟨e,he,rfl⟩:=A35.1 hx
   exact⟨e.2,IA (C1 hio c) he⟩
 have hBl:(BG S.B S.pos bs).length=S.pos+bs.length:=by rw[J1 a.Ble,A01,Ee a.Ble]
 have hup:Eu (S.pos+bs.length)=S.pos+bs.length:=by unfold Eu;omega
 have hcl:c-1<S.M.length:=(A02.1 hMc).1
 let S':PS:={S with M:=S.M.set (c-1) (some (dirN q (S.pos/4096) bs.length)),B:=bx S.B S.pos++bs,pos:=S.pos+bs.length,cur:=none,dw:=0,dm:=0}
 have hfin:Fin (S.dirDone c q bs) S':=by
  have e1:S.dirDone c q bs = {S with M:=S.M.set (c-1) (some {q with size:=bs.length}),B:=BG S.B S.pos bs,pos:=S.pos+bs.length,cur:=some c,dw:=bs.length,dm:=bs.length}:=by
   unfold PS.dirDone PS.dirOpen PS.wrote
   rw[A29]
  have hget:(S.M.set (c-1) (some {q with size:=bs.length}))[c-1]? = some (some {q with size:=bs.length}):=by
   rw[A54,A03 rfl,A03 hcl]
  rw[e1]
  have f:=Fin.big (S:={S with M:=S.M.set (c-1) (some {q with size:=bs.length}),B:=BG S.B S.pos bs,pos:=S.pos+bs.length,cur:=some c,dw:=bs.length,dm:=bs.length}) (c:=c) rfl (by omega) hget rfl (by show 1≤bs.length;omega) hq.fl (by show bs.length≤S.pos+bs.length;omega) (by show (S.pos+bs.length-bs.length)%4096=0;omega) (by show (BG S.B S.pos bs).length≤S.pos+bs.length;omega) (by show bs.length≤_;omega) (by show S.pos+bs.length+4096≤S.max;omega) (by show q.bcnt<_;omega)
  have e3:({S with M:=S.M.set (c-1) (some {q with size:=bs.length}),B:=BG S.B S.pos bs,pos:=S.pos+bs.length,cur:=some c,dw:=bs.length,dm:=bs.length}:PS).shut c {q with size:=bs.length}=S':=by
   unfold PS.shut PN.ext
   have x1:S.pos+bs.length-bs.length=S.pos:=by omega
   have x2:(S.pos+bs.length-S.pos)/4096=bs.length/4096:=by congr 1;omega
   have x3:q.flags ||| 524288=786432:=by rw[hq.fl];decide
   have x4:q.bcnt+bs.length/4096=bs.length/4096:=by omega
   show ({S with M:=(S.M.set (c-1) (some {q with size:=bs.length})).set (c-1) (some {q with size:=bs.length,dbs:=extRoot ((Eu (S.pos+bs.length)-(S.pos+bs.length-bs.length))/4096) ((S.pos+bs.length-bs.length)/4096),flags:=q.flags ||| 524288,bcnt:=q.bcnt+(Eu (S.pos+bs.length)-(S.pos+bs.length-bs.length))/4096}),B:=I1 (BG S.B S.pos bs) (S.pos+bs.length),pos:=Eu (S.pos+bs.length),cur:=_,dw:=_,dm:=_}:PS)=_
   rw[hup,x1,x2,x3,x4,List.set_set,NB hBl,hup,A87,B50,A22,J1 a.Ble]
   rfl
  rw[←e3]
  exact f
 refine⟨q,np,S',ctx,hfin,?_⟩
 have hB'l:(bx S.B S.pos++bs).length=S.pos+bs.length:=by rw[A01,Ee a.Ble]
 have hbx:bx S'.B S'.pos=bx S.B S.pos++bs:=VA hB'l
 have g1:∀ k,k≠c→1≤k→S'.M[k-1]? = S.M[k-1]?:=fun k hk h1=>by
  show (S.M.set (c-1) _)[k-1]? = _
  rw[A54,A05 (by omega)]
 have g2:S'.M[c-1]? = some (some (dirN q (S.pos/4096) bs.length)):=by
  show (S.M.set (c-1) _)[c-1]? = _
  rw[A54,A03 rfl,A03 hcl]
 refine⟨rfl,a.same,by show (bx S.B S.pos++bs).length≤S.pos+bs.length;omega,fun _=>hB'l,?_,by show (S.pos+bs.length)%4096=0;omega,by show 8192≤S.pos+bs.length;omega,by show (S.M.set _ _).length=_;rw[A89];exact a.len,?_,?_,?_,?_⟩
 ·obtain⟨Y,hY⟩:=a.ext
  exact⟨Y++bs,by rw[hbx,hY,A12]⟩
 ·intro k hk h1
  rw[g1 k (fun e=>hk (by simp[e])) h1]
  exact a.out k (fun h=>hk (A81 _ h)) h1
 ·intro k hk
  by_cases hkc:k=c
  ·subst hkc
   rw[hbs]
   refine⟨q,S.pos/4096,hq,g2,by omega,by show _≤S.pos+bs.length;omega,?_⟩
   rw[hbx]
   have:=Fa (A:=bx S.B S.pos) (X:=bs) (R:=[]) (a:=S.pos/4096*4096) (n:=bs.length) (by rw[Ee a.Ble];omega) rfl
   rw[A22] at this
   exact this
  ·have hkD:k∈D:=by
    rcases A88.1 hk with h|h
    ·exact h
    ·exact absurd (A78.1 h) hkc
   obtain⟨q',st,b1,b2,b3,b4,b5⟩:=a.in_ k hkD
   have h1:1≤k:=b1.d1
   refine⟨q',st,b1,(g1 k hkc h1).trans b2,b3,by show _≤S.pos+bs.length;omega,?_⟩
   have hl:(bx S.B S.pos).length=S.pos:=Ee a.Ble
   rw[hbx,A52 (by omega),A24 (by rw[A27];omega)]
   exact b5
 ·show ((S.M.set (c-1) _).flatMap exO).Perm (blks ((S.pos+bs.length)/4096))
  have hex:exO (some q)=[]:=by
   show Nz q=[]
   unfold Nz;rw[A05];rw[hq.fl];decide
  have hst:leL (extRoot (bs.length/4096) (S.pos/4096)) 20 4=S.pos/4096:=by
   obtain⟨x1,_⟩:=ES (len:=bs.length/4096) (st:=S.pos/4096) (by omega) (by omega)
   have:=x1.st
   rw[EQ (by omega),DQ] at this
   exact this
  have hex2:exO (some (dirN q (S.pos/4096) bs.length))=(List.range ((S.pos+bs.length)/4096-S.pos/4096)).map (S.pos/4096 + ·):=by
   show Nz _=_
   unfold Nz
   rw[A03 (show (dirN q (S.pos/4096) bs.length).flags=786432 from rfl)]
   show (List.range (bs.length/4096)).map (leL (extRoot (bs.length/4096) (S.pos/4096)) 20 4 + ·)=_
   rw[hst]
   congr 2
   omega
  refine (UH hMc hex).trans ?_
  rw[hex2,Kd (a:=S.pos/4096) (b:=(S.pos+bs.length)/4096) (by omega) (by omega)]
  exact a.own.append_right _
 ·show S.pos+bs.length≤_
  have:=a.posb
  rw[A36,B30]
  simp only[A33,B46,A75,List.sum_nil,hbs]
  omega
end
end
section
theorem Ox {S0 S:PS}(f:Fin S0 S){i:Nat}{p:PN}(h:S.M[i]? = some (some p)):∃ p0,S0.M[i]? = some (some p0)∧p0.kids=p.kids∧p0.mode=p.mode:=by
 cases f with
 | none _=>exact⟨p,h,rfl,rfl⟩
 | small _ _ _ _ _=>exact⟨p,h,rfl,rfl⟩
 | big h1 h2 h3 h4 h5 h6 h7 h8 h9 h10 h11 h12=>
  rename_i c n
  have h:(S0.M.set (c-1) (some (n.ext S0.pos S0.dw)))[i]? = some (some p):=h
  rw[A54] at h
  by_cases hc:c-1=i
  ·subst hc
   rw[A03 rfl,A03 (A02.1 h3).1] at h
   have:=A14 (A14 h)
   subst this
   exact⟨n,h3,rfl,rfl⟩
  ·rw[A05 hc] at h
   exact⟨p,h,rfl,rfl⟩
section
variable {inl:Bool} {its:List It} {S1 S:PS} {D:List Nat} {c:Nat}
theorem PR (w:Wr inl its S1){k:Nat}{p:PN}(hk:k=2∨11≤k∧k<12+its.length)(hp:S1.M[k-1]? = some (some p)):kindB p.mode=16384↔dirB its k=true:=by
 rcases hk with rfl|⟨h1,h2⟩
 ·have:=A14 (A14 (hp.symm.trans w.root))
  subst this
  exact⟨fun _=>Aj.2 (.inl rfl),fun _=>F6 inl⟩
 ·by_cases h3:k=11
  ·subst h3
   have:=A14 (A14 (hp.symm.trans w.lf))
   subst this
   exact⟨fun _=>Aj.2 (.inr (.inl rfl)),fun _=>by show kindB (modeK 16832)=16384;decide⟩
  ·obtain⟨j,rfl⟩:∃ j,k=12+j:=⟨k-12,by omega⟩
   have hj:its[j]? = some its[j]:=A00 (by omega)
   obtain⟨p',hp',he,_⟩:=w.node j _ hj
   rw[show 12+j-1=11+j by omega] at hp
   have:=A14 (A14 (hp.symm.trans hp'))
   subst this
   have hm:kindB p.mode=its[j].kd:=by rw[he];rfl
   rw[hm,Aj]
   constructor
   ·intro h;exact .inr (.inr ⟨j,_,hj,A04 h,rfl⟩)
   ·rintro (h|h|⟨j',x,e1,e2,e3⟩)
    ·omega
    ·omega
    ·have:j'=j:=by omega
     subst this
     rw[hj] at e1
     rw[A14 e1]
     exact of_decide_eq_true e2
theorem JU.kids (a:JU its S1 D S)(w:Wr inl its S1)(hio:A7 its)(hc:dirB its c=true):∃ p,S.M[c-1]? = some (some p)∧p.kids=some (esOf its c):=by
 by_cases h:c∈D
 ·obtain⟨q,st,b1,b2,_⟩:=a.in_ c h
  exact⟨_,b2,b1.kids⟩
 ·obtain⟨q,hq,_⟩:=S9 w hio hc
  exact⟨q,by rw[a.out c h hq.d1];exact hq.at_,hq.kids⟩
def ABB (its:List It)(S1:PS)(f:Nat):Prop:=∀ (c:Nat) (D:List Nat) (S0 S:PS),Fin S0 S→JU its S1 D S→12+its.length<f+c→dirB its c=true→2≤c→c<12+its.length→(D++Ps its f c).Nodup→(∀ k∈D,dirB its k=true∧2≤k∧k<12+its.length)→
  ∃ S' S'',RecD f S0 c (parOf its c) S'∧Fin S' S''∧JU its S1 (D++Ps its f c) S''
theorem AJM (w:Wr inl its S1)(hio:A7 its){f:Nat}(ih:ABB its S1 f)(hf:12+its.length<f+1+c)(hc:dirB its c=true)(h2:2≤c)(hlt:c<12+its.length) :
  ∀ (l:List (Bs×Nat)) (D:List Nat) (S0 S:PS),(∀ e∈l,e∈esOf its c)→Fin S0 S→JU its S1 D S→(D++l.flatMap fun e=>if dirB its e.2=true then Ps its f e.2 else []).Nodup→(∀ k∈D,dirB its k=true∧2≤k∧k<12+its.length)→
   ∃ S' S'',Um (RecD f) c (esOf its c) S0 (l.map (·.1)) S'∧Fin S' S''∧JU its S1 (D++l.flatMap fun e=>if dirB its e.2=true then Ps its f e.2 else []) S''
 | [],D,S0,S,_,hfin,a,_,_=>⟨S0,S,rfl,hfin,by rw[List.flatMap_nil,A22];exact a⟩
 | e::l,D,S0,S,hl,hfin,a,hnd,hD=>by
  have he:=hl e (A13 ..)
  obtain⟨a1,a2,a3,a4,a5⟩:=DT hio he
  obtain⟨p,hp,hpk⟩:=a.kids w hio hc
  obtain⟨n,hn,hnk,_⟩:=Ox hfin hp
  obtain⟨p1,hp1⟩:=Ji w (k:=e.2) (.inr ⟨a4,a3⟩)
  obtain⟨pk,hpk'⟩:=a.some_ (k:=e.2) (by omega) ⟨p1,hp1⟩
  obtain⟨nk,hnk1,_,hnk3⟩:=Ox hfin hpk'
  have hmode:nk.mode=p1.mode:=by
   have:=a.mode e.2 (by omega)
   unfold modeAt at this
   rw[hpk',hp1] at this
   exact hnk3.trans this
  have hki:=PR w (k:=e.2) (.inr ⟨a4,a3⟩) hp1
  have hlook:=IA (C1 hio c) he
  rw[A37] at hnd ⊢
  by_cases hb:dirB its e.2=true
  ·rw[A03 hb] at hnd ⊢
   rw[←A12] at hnd ⊢
   obtain⟨T1,T2,r1,f1,a1'⟩:=ih e.2 D S0 S hfin a (by omega) hb (by omega) a3 (A65.1 hnd).1 hD
   rw[a2] at r1
   have hD':∀ k∈D++Ps its f e.2,dirB its k=true∧2≤k∧k<12+its.length:=fun k hk=>by
    rcases A88.1 hk with h|h
    ·exact hD k h
    ·obtain⟨_,b2,b3,b4⟩:=Fn hio f e.2 (by omega) a3 hb k h
     exact⟨b4,by omega,b3⟩
   obtain⟨T3,T4,r2,f2,a2'⟩:=AJM w hio ih hf hc h2 hlt l (D++Ps its f e.2) T1 T2 (fun x hx=>hl x (A16 _ hx)) f1 a1' hnd hD'
   refine⟨T3,T4,⟨n,e.2,nk,hn,hnk.trans hpk,hlook,by omega,hnk1,?_⟩,f2,a2'⟩
   rw[A03 (by rw[hmode];exact hki.2 hb)]
   exact⟨T1,r1,r2⟩
  ·rw[A05 hb,A34] at hnd ⊢
   obtain⟨T3,T4,r2,f2,a2'⟩:=AJM w hio ih hf hc h2 hlt l D S0 S (fun x hx=>hl x (A16 _ hx)) hfin a hnd hD
   refine⟨T3,T4,⟨n,e.2,nk,hn,hnk.trans hpk,hlook,by omega,hnk1,?_⟩,f2,a2'⟩
   rw[A05 (by rw[hmode];exact fun h=>hb (hki.1 h))]
   exact r2
theorem Te (w:Wr inl its S1)(hio:A7 its)(hn:its.length≤5000)(hR:∀ (D:List Nat) (S:PS),JU its S1 D S→D.Nodup→(∀ k∈D,dirB its k=true∧2≤k∧k<12+its.length)→S.pos≤10000000000):∀ f,ABB its S1 f
 | 0=>fun c D S0 S _ _ hf _ _ hlt=>by omega
 | f+1=>fun c D S0 S hfin a hf hc h2 hlt hnd hD=>by
  rw[Ps] at hnd ⊢
  have e1:∀ X:List Nat,D++c::X=(D++[c])++X:=fun X=>by simp
  rw[e1] at hnd ⊢
  have hnd1:(D++[c]).Nodup:=(A65.1 hnd).1
  have hcD:c∉D:=fun h=>(A65.1 hnd1).2.2 c h c (by simp) rfl
  have hD':∀ k∈D++[c],dirB its k=true∧2≤k∧k<12+its.length:=fun k hk=>by
   rcases A88.1 hk with h|h
   ·exact hD k h
   ·rw[A78.1 h];exact⟨hc,h2,hlt⟩
  obtain⟨n,np,T,ctx,f1,a1⟩:=VF w hio hn a hc hcD h2 hlt (hR D S a (A65.1 hnd1).1 hD)
  obtain⟨T1,T2,r,f2,a2⟩:=AJM w hio (Te w hio hn hR f) hf hc h2 hlt (esOf its c) (D++[c]) _ T (fun e he=>he) f1 a1 hnd hD'
  exact⟨T1,T2,⟨S,n,np,esOf its c,I8 its c,hfin,ctx,r⟩,f2,a2⟩
end
end
end Go.Proofs.YtollddkkdgoonaaGreatDoor
