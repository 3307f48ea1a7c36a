/- A part of a proof over images that are written and read. No condition; a step. -/
import Derived.Test.YtollddkkdgoonaaGreatDoorM24
namespace Go.Proofs.YtollddkkdgoonaaGreatDoor
open Go
set_option linter.unusedVariables false
set_option linter.unusedSimpArgs false
section
attribute [local irreducible] BR BS Db
def CR (M:List (Option PN))(its:List It)(c:Nat):List EN:=if dirB its c=true then (esOf its c).map fun e=>(e.1,e.2,EG (modeAt M e.2)) else []
theorem LA (c:Nat)(P:Nat→Bool):∀ (l:List It) (k:Nat),(∀ j it,l[j]? = some it→P (k+j)=it.isD)→((CJ c k l).filter fun e=>P e.2).length=(l.filter fun it=>decide (it.dir=c)&&it.isD).length
 | [],_,_=>rfl
 | a::l,k,h=>by
  have h0:P k=a.isD:=h 0 a rfl
  have ih:=LA c P l (k+1) fun j it hj=>by
   rw[show k+1+j=k+(j+1) by omega]
   exact h (j+1) it (by rw[A63];exact hj)
  rw[CJ,List.filter_cons (p:=fun it:It=>decide (it.dir=c)&&it.isD)]
  by_cases hc:a.dir=c
  ·rw[A03 hc,List.filter_cons]
   have hpk:P ((a.nm,k):Bs×Nat).2=a.isD:=h0
   rw[hpk]
   cases ha:a.isD with
   | true=>simp[hc,ih]
   | false=>simp[ih]
  ·rw[A05 hc,ih]
   simp[hc]
section
variable {inl:Bool} {its:List It} {S1 S:PS} {D:List Nat} {c:Nat}
theorem RZ (hio:A7 its)(c:Nat):((esOf its c).filter fun e=>dirB its e.2).length=(if c=2 then 1 else 0)+dirsOf its c:=by
 unfold esOf kidsOf
 rw[B08,A01,LA c (dirB its) its 12 fun j it hj=>?_]
 ·have e:dirsOf its c=(its.filter fun it=>decide (it.dir=c)&&it.isD).length:=rfl
  rw[←e]
  by_cases h:c=2
  ·rw[A03 h,A03 h]
   have:dirB its 11=true:=Aj.2 (.inr (.inl rfl))
   simp[this]
  ·rw[A05 h,A05 h];rfl
 ·cases h:it.isD with
  | true=>exact Aj.2 (.inr (.inr ⟨j,it,hj,h,rfl⟩))
  | false=>
   cases hb:dirB its (12+j) with
   | false=>rfl
   | true=>
    rcases Aj.1 hb with h1|h1|⟨j',x,e1,e2,e3⟩
    ·omega
    ·omega
    ·have:j'=j:=by omega
     subst this
     rw[hj] at e1
     rw[←A14 e1,h] at e2;cases e2
theorem Dt (w:Wr inl its S1){k:Nat}(hk:k∈VV its):kindL (modeAt S1.M k)=2↔dirB its k=true:=by
 obtain⟨p,hp⟩:=Ji w (BE.1 hk)
 have e:modeAt S1.M k=p.mode:=by unfold modeAt;rw[hp]
 rw[e,Jn]
 exact PR w (BE.1 hk) hp
theorem JY (hio:A7 its)(hc:c∈VV its)(h2:c≠2):dirB its (parOf its c)=true∧(∃ nm,(nm,c)∈esOf its (parOf its c)):=by
 rcases BE.1 hc with h|⟨h1,h3⟩
 ·exact absurd h h2
 ·by_cases h11:c=11
  ·subst h11
   exact⟨Aj.2 (.inl rfl),lostN,Co.2 (.inl ⟨rfl,rfl⟩)⟩
  ·obtain⟨j,rfl⟩:∃ j,c=12+j:=⟨c-12,by omega⟩
   have hj:its[j]? = some its[j]:=A00 (by omega)
   rw[HY hj]
   refine⟨?_,its[j].nm,Co.2 (.inr ⟨j,_,hj,rfl,rfl⟩)⟩
   obtain⟨st,hw,_⟩:=(hio j _ hj).way
   rcases hw.cases with⟨h4,_⟩|⟨j',x,e1,e2,e3⟩
   ·exact Aj.2 (.inl h4)
   ·have hl:=(A02.1 e1).1
    rw[A20] at hl
    rw[A41,A03 (by omega)] at e1
    exact Aj.2 (.inr (.inr ⟨j',x,e1,e2,e3⟩))
theorem TD (hio:A7 its){e:Bs×Nat}(he:e∈esOf its c):(47:UInt8)∉e.1∧e.1≠[46]∧e.1≠[46,46]:=by
 rcases Co.1 he with⟨h1,h2⟩|⟨j,it,h1,h2,h3⟩
 ·subst h2;decide
 ·subst h3
  exact⟨(hio j it h1).ns,(hio j it h1).nd⟩
theorem Ui (hio:A7 its)(M:List (Option PN)):(((VV its).flatMap (CR M its)).map (·.2.1)).Nodup∧∀ k,k∈VV its→k≠2→k∈((VV its).flatMap (CR M its)).map (·.2.1):=by
 constructor
 ·rw[List.map_flatMap]
  unfold List.Nodup
  rw[List.pairwise_flatMap]
  constructor
  ·intro c hc
   unfold CR
   split
   ·rw[B05,B32]
    exact (IB c).imp fun h e=>by
     have:(_:Nat)=_:=e
     simp only[Function.comp] at this
     omega
   ·exact .nil
  ·refine List.Pairwise.imp ?_ Fb
   intro a b hab x hx y hy hxy
   subst hxy
   have key:∀ c,x∈(CR M its c).map (·.2.1)→parOf its x=c:=fun c h=>by
    unfold CR at h
    split at h
    ·rw[B05] at h
     obtain⟨e,he,rfl⟩:=A35.1 h
     exact (DT hio he).2.1
    ·cases h
   exact hab ((key a hx).symm.trans (key b hy))
 ·intro k hk h2
  obtain⟨p1,nm,p2⟩:=JY hio hk h2
  obtain⟨a1,a2,a3,a4,a5⟩:=DT hio p2
  rw[A35]
  refine⟨(nm,k,EG (modeAt M k)),A98.2 ⟨parOf its k,?_,?_⟩,rfl⟩
  ·rw[BE]
   rcases Aj.1 p1 with h|h|⟨j,it,h1,h3,h4⟩
   ·exact .inl h
   ·exact .inr (by omega)
   ·have:=(A02.1 h1).1
    exact .inr (by omega)
  ·unfold CR
   rw[A03 p1]
   exact A35.2 ⟨_,p2,rfl⟩
set_option maxRecDepth 20000 in
theorem Yj (w:Wr inl its S1)(hio:A7 its)(hib:∀ it∈its,Y6 it)(hn:its.length≤2000)(a:JU its S1 D S)(hpb:S.pos≤120000000)(hD:∀ k,k∈D↔dirB its k=true)(cl:ClOK S)(hgrp:(grpL (BS S) (BH S)++blks (S.pos/4096)).Perm (List.range (GF S))) :
  ∃ io la bl,(∀ c∈VV its,IoR inl its S1 S (BS S) (GF S) c (io c) (la c) (bl c))∧GV (BS S) (GF S) (BH S) (VV its) io la bl (parOf its) (CR S1.M its):=by
 have hx:∀ c,∃ x:AA×List (Bs×Bs)×List Nat,c∈VV its→IoR inl its S1 S (BS S) (GF S) c x.1 x.2.1 x.2.2:=fun c=>by
  by_cases hc:c∈VV its
  ·obtain⟨o,la,bl,h⟩:=AFd w hio hib hn a hpb hD cl hc
   exact⟨(o,la,bl),fun _=>h⟩
  ·exact⟨(⟨If,[],[],[]⟩,[],[]),fun h=>absurd h hc⟩
 obtain⟨f,hf⟩:=Classical.axiomOfChoice hx
 have hlen:S.M.length=11+its.length:=a.len.trans w.len
 obtain⟨i1,i2,i3⟩:=D9 S.M.length
 have e0:BH S=ipgOf S.M.length:=rfl
 have h2V:2∈VV its:=BE.2 (.inl rfl)
 have hk2:∀ c∈VV its,(kindL (f c).1.X.mode=2↔dirB its c=true):=fun c hc=>by
  rw[(hf c hc).mode];exact Dt w hc
 have hd2:dirB its 2=true:=Aj.2 (.inl rfl)
 have hrest:∀ c∈VV its,dirB its c=true→(enD S1.M its c).map rdE=([46],c,2)::([46,46],parOf its c,2)::CR S1.M its c:=fun c hc hb=>by
  have hp2:dirB its (parOf its c)=true∧parOf its c∈VV its:=by
   by_cases h2:c=2
   ·subst h2;exact⟨hd2,h2V⟩
   ·have h1:=(JY hio hc h2).1
    refine⟨h1,BE.2 ?_⟩
    rcases Aj.1 h1 with h|h|⟨j,it,h3,h4,h5⟩
    ·exact .inl h
    ·exact .inr (by omega)
    ·have:=(A02.1 h3).1
     exact .inr (by omega)
  rw[IX hio,A33,A33,B05]
  unfold CR
  rw[A03 hb,MH,MH,(Dt w hc).2 hb,(Dt w hp2.2).2 hp2.1]
  rfl
 have hkid:∀ c∈VV its,∀ e∈CR S1.M its c,dirB its c=true∧∃ x∈esOf its c,e=(x.1,x.2,EG (modeAt S1.M x.2)):=fun c _ e he=>by
  unfold CR at he
  split at he
  ·rename_i hb
   obtain⟨x,hx,rfl⟩:=A35.1 he
   exact⟨hb,x,hx,rfl⟩
  ·cases he
 have hcl:((VV its).flatMap fun c=>(f c).2.2).Perm (blks (S.pos/4096)):=by
  refine List.Perm.trans ?_ (MB w a hD)
  have:(VV its).flatMap (fun c=>(f c).2.2)=(VV its).flatMap fun k=>exO (S.M[k-1]?).join:=by
   have key:∀ V:List Nat,(∀ c∈V,c∈VV its)→V.flatMap (fun c=>(f c).2.2)=V.flatMap fun k=>exO (S.M[k-1]?).join:=by
    intro V
    induction V with
    | nil=>intro _;rfl
    | cons c V ih=>
     intro h
     rw[A37,A37,ih fun k hk=>h k (A16 _ hk)]
     obtain⟨p,h1,_,_,_,h2⟩:=(hf c (h c (A13 ..))).nd
     rw[h1,h2];rfl
   exact key _ fun _ h=>h
  rw[this]
 have hall:=(hcl.append_left (grpL (BS S) (BH S))).trans hgrp
 refine⟨fun c=>(f c).1,fun c=>(f c).2.1,fun c=>(f c).2.2,hf,?_⟩
 refine⟨Fb,h2V,?_,fun c hc=>(hf c hc).ino,fun c hc=>(hf c hc).l,?_,?_,⟨(hk2 2 h2V).2 hd2,rfl⟩,?_,?_,?_,?_,?_,hall.nodup_iff.2 List.nodup_range,fun n hn=>A96.1 (hall.mem_iff.1 hn),?_,?_⟩
 ·intro c hc
  have:=BE.1 hc
  omega
 ·intro c hc hk
  have hb:¬dirB its c=true:=fun h=>hk ((hk2 c hc).2 h)
  refine⟨?_,by unfold CR;rw[A05 hb]⟩
  obtain⟨j,rfl⟩:∃ j,c=12+j:=by
   rcases BE.1 hc with rfl|⟨h1,h2⟩
   ·exact absurd hd2 hb
   ·by_cases h11:c=11
    ·subst h11;exact absurd (Aj.2 (.inr (.inl rfl))) hb
    ·exact⟨c-12,by omega⟩
  have:=BE.1 hc
  have hj:its[j]? = some its[j]:=A00 (by omega)
  have hisD:its[j].isD=false:=by
   cases h:its[j].isD with
   | false=>rfl
   | true=>exact absurd (Aj.2 (.inr (.inr ⟨j,_,hj,h,rfl⟩))) hb
  exact ((hf _ hc).item j _ rfl hj hisD).2
 ·intro c hc hk
  have hb:=(hk2 c hc).1 hk
  obtain⟨g1,g2,g3⟩:=(hf c hc).dir hb
  have hcV:=BE.1 hc
  obtain⟨d1,d2,d3,d4⟩:=Oo (VX hio (by omega) (by omega) (by omega) S1.M (c:=c))
  have hel:=Hq its c
  rw[SU hio] at d4
  refine⟨g1,by rw[g2,g3];exact d1,?_,?_,by rw[g3];exact hrest c hc hb⟩
  ·rw[g2]
   show (Bg (enD S1.M its c)).length<10000000
   omega
  ·rw[g3,hrest c hc hb]
   have hr:CR S1.M its c=(esOf its c).map fun e=>(e.1,e.2,EG (modeAt S1.M e.2)):=by unfold CR;rw[A03 hb]
   have hnd:((([46],c,2)::([46,46],parOf its c,2)::CR S1.M its c:List EN).map (·.1)).Nodup:=by
    rw[hr,A33,A33,B05,A90,A90]
    have hm:∀ nm,nm∈(esOf its c).map ((fun e:EN=>e.1)∘fun e=>(e.1,e.2,EG (modeAt S1.M e.2)))→∃ e∈esOf its c,nm=e.1:=fun nm h=>by
     obtain⟨e,he,h⟩:=A35.1 h
     exact⟨e,he,h.symm⟩
    refine⟨?_,?_,C1 hio c⟩
    ·rw[A32]
     rintro (h|h)
     ·cases h
     ·obtain⟨e,he,h⟩:=hm _ h
      exact (TD hio he).2.1 h.symm
    ·intro h
     obtain⟨e,he,h⟩:=hm _ h
     exact (TD hio he).2.2 h.symm
   refine⟨?_,?_,?_⟩
   ·intro i j p q h1 h2 h3 he
    have hi:((([46],c,2)::([46,46],parOf its c,2)::CR S1.M its c:List EN).map (·.1))[i]? = some p.1:=by rw[A21,h1];rfl
    have hj:((([46],c,2)::([46,46],parOf its c,2)::CR S1.M its c:List EN).map (·.1))[j]? = some q.1:=by rw[A21,h2];rfl
    unfold List.Nodup at hnd
    rw[List.pairwise_iff_getElem] at hnd
    obtain⟨hil,hie⟩:=A02.1 hi
    obtain⟨hjl,hje⟩:=A02.1 hj
    exact hnd j i hjl hil h3 (by rw[hje,hie,he])
   ·intro p hp
    rcases A32.1 hp with h|h
    ·subst h;show (47:UInt8)∉[46];decide
    ·rcases A32.1 h with h|h
     ·subst h;show (47:UInt8)∉[46,46];decide
     ·rw[hr] at h
      obtain⟨e,he,rfl⟩:=A35.1 h
      exact (TD hio he).1
   ·intro p hp
    rcases A32.1 hp with h|h
    ·subst h;show 1<1000;omega
    ·rcases A32.1 h with h|h
     ·subst h;show 2<1000;omega
     ·rw[hr] at h
      obtain⟨e,he,rfl⟩:=A35.1 h
      have:=(W2 hio he).2
      show e.1.length<1000
      omega
 ·intro c hc e he
  obtain⟨hb,x,hx,rfl⟩:=hkid c hc e he
  obtain⟨a1,a2,a3,a4,a5⟩:=DT hio hx
  have hxV:x.2∈VV its:=BE.2 (.inr ⟨a4,a3⟩)
  exact⟨hxV,a4,by rw[(hf x.2 hxV).mode];exact MH _⟩
 ·intro c hc e he _
  obtain⟨hb,x,hx,rfl⟩:=hkid c hc e he
  exact (DT hio hx).2.1
 ·intro c hc
  refine List.Pairwise.filter _ ?_
  unfold CR
  split
  ·rw[B32]
   exact (IB c).imp fun h=>Nat.ne_of_lt h
  ·exact .nil
 ·intro c hc h2
  obtain⟨p1,nm,p2⟩:=JY hio hc h2
  obtain⟨a1,a2,a3,a4,a5⟩:=DT hio p2
  refine⟨parOf its c,BE.2 ?_,⟨(nm,c,EG (modeAt S1.M c)),?_,rfl⟩,fun _=>a1⟩
  ·rcases Aj.1 p1 with h|h|⟨j,it,h3,h4,h5⟩
   ·exact .inl h
   ·exact .inr (by omega)
   ·have:=(A02.1 h3).1
    exact .inr (by omega)
  ·unfold CR
   rw[A03 p1]
   exact A35.2 ⟨_,p2,rfl⟩
 ·intro c hc
  obtain⟨p,n1,n2,_⟩:=(hf c hc).nd
  rw[n2]
  by_cases hb:dirB its c=true
  ·rw[A03 ((hk2 c hc).2 hb)]
   have hfl:((CR S1.M its c).filter fun e=>decide (e.2.2=2)).length=((esOf its c).filter fun e=>dirB its e.2).length:=by
    unfold CR
    rw[A03 hb,List.filter_map,A25]
    congr 1
    apply List.filter_congr
    intro e he
    obtain⟨a1,a2,a3,a4,a5⟩:=DT hio he
    have:=Dt w (k:=e.2) (BE.2 (.inr ⟨a4,a3⟩))
    show decide (EG (modeAt S1.M e.2)=2)=dirB its e.2
    rw[MH]
    cases hd:dirB its e.2 with
    | true=>exact A04 (this.2 hd)
    | false=>exact A08 fun h=>by rw[this.1 h] at hd;cases hd
   rw[hfl,RZ hio]
   obtain⟨q,st,b1,b2,_⟩:=a.in_ c ((hD c).2 hb)
   rw[n1] at b2
   have hpl:p.links=q.links:=by rw[A14 (A14 b2)];rfl
   rw[hpl]
   have hat:=b1.at_
   rcases Aj.1 hb with rfl|rfl|⟨j,it,h1,h3,rfl⟩
   ·have:=A14 (A14 (hat.symm.trans w.root))
    rw[this]
    show 3+dirsOf its 2=1+dirsOf its 2+2
    omega
   ·have:=A14 (A14 (hat.symm.trans w.lf))
    rw[this]
    show 2+dirsOf its 11=0+dirsOf its 11+2
    omega
   ·obtain⟨p',hp',he,_⟩:=w.node j it h1
    rw[show 12+j-1=11+j by omega] at hat
    have:=A14 (A14 (hat.symm.trans hp'))
    rw[this,he]
    show 1+(if it.isD=true then 1+dirsOf its (12+j) else 0)=(if 12+j=2 then 1 else 0)+dirsOf its (12+j)+2
    rw[A03 h3,A05 (by omega)]
    omega
  ·rw[A05 fun h=>hb ((hk2 c hc).1 h)]
   obtain⟨r1,r2⟩:=Ui hio S1.M
   have hc2:c≠2:=fun h=>hb (by rw[h];exact hd2)
   rw[r1.count,A03 (r2 c hc hc2)]
   obtain⟨p',hp'⟩:=FK w hio hib hn a hpb hD (BE.1 hc)
   have:=hp'.at_
   rw[n1] at this
   have:=A14 (A14 this)
   subst this
   obtain⟨j,rfl⟩:∃ j,c=12+j:=by
    rcases BE.1 hc with rfl|⟨h1,h2⟩
    ·exact absurd hd2 hb
    ·by_cases h11:c=11
     ·subst h11;exact absurd (Aj.2 (.inr (.inl rfl))) hb
     ·exact⟨c-12,by omega⟩
   have:=BE.1 hc
   have hj:its[j]? = some its[j]:=A00 (by omega)
   have hisD:its[j].isD=false:=by
    cases h:its[j].isD with
    | false=>rfl
    | true=>exact absurd (Aj.2 (.inr (.inr ⟨j,_,hj,h,rfl⟩))) hb
   rw[(hp'.item j _ rfl hj hisD).1]
   show 1+(if its[j].isD=true then 1+dirsOf its (12+j) else 0)=1
   rw[hisD];simp
 ·unfold VV
  simp
  omega
 ·have h1:=WA (its:=its) (VV its) Fb
  have h2:((VV its).map fun c=>(CR S1.M its c).length).sum≤((VV its).map fun c=>(esOf its c).length).sum:=by
   generalize VV its=V
   induction V with
   | nil=>exact A07 _
   | cons c V ih=>
    rw[A33,A75,A33,A75]
    have:(CR S1.M its c).length≤(esOf its c).length:=by
     unfold CR
     split
     ·rw[A25];exact A07 _
     ·exact A39 _
    omega
  omega
end
end
section
attribute [local irreducible] BR BS Db
theorem Sa {l:List Bool}{c:Nat}(hc:c<l.length):∀ n,n<l.length→((usd n l).getD c false=true↔1≤c∧c≤n∨l.getD c false=true)
 | 0,_=>by
  show l.getD c false=true↔_
  constructor
  ·exact .inr
  ·rintro (h|h)
   ·omega
   ·exact h
 | n+1,hn=>by
  rw[usd,DV (by rw[J0];exact hn)]
  by_cases h:n+1=c
  ·rw[A03 h];simp;omega
  ·rw[A05 h,Sa hc n (by omega)]
   constructor
   ·rintro (h1|h1)
    ·exact .inl (by omega)
    ·exact .inr h1
   ·rintro (h1|h1)
    ·exact .inl (by omega)
    ·exact .inr h1
theorem SP {c:Nat}:∀ (os:List AA) (U:List Bool),(∀ o∈os,o.X.num<U.length)→((mkU U os).getD c false=true↔(∃ o∈os,o.X.num=c)∨U.getD c false=true)
 | [],U,_=>by show U.getD c false=true↔_;simp
 | o::os,U,h=>by
  show (mkU (U.set o.X.num true) os).getD c false=true↔_
  rw[SP os (U.set o.X.num true) (fun x hx=>by rw[A89];exact h x (A16 _ hx)),DV (h o (A13 ..))]
  by_cases hc:o.X.num=c
  ·rw[A03 hc]
   exact⟨fun _=>.inl ⟨o,A13 ..,hc⟩,fun _=>.inr rfl⟩
  ·rw[A05 hc]
   constructor
   ·rintro (⟨x,hx,h1⟩|h1)
    ·exact .inl ⟨x,A16 _ hx,h1⟩
    ·exact .inr h1
   ·rintro (⟨x,hx,h1⟩|h1)
    ·rcases A32.1 hx with h2|h2
     ·subst h2;exact absurd h1 hc
     ·exact .inl ⟨x,h2,h1⟩
    ·exact .inr h1
theorem Vg (f:Nat→Bool):∀ n,Dc f n=cntN f n
 | 0=>rfl
 | n+1=>by
  rw[Dc,Df,Vg f n]
  cases f n<;>simp
theorem OI (f:Nat→Bool):∀ n,cntN f n+cntN (fun i=>!f i) n=n
 | 0=>rfl
 | n+1=>by
  have:=OI f n
  rw[Df,Df]
  cases f n<;>simp<;>omega
theorem Tv (g:Nat→Bool)(n:Nat):∀ m,n≤m→cntN (fun i=>decide (i<n)&&g i) m=cntN g n
 | 0,h=>by
  have:n=0:=by omega
  subst this;rfl
 | m+1,h=>by
  rw[Df]
  by_cases hn:n=m+1
  ·subst hn
   rw[Df]
   have:cntN (fun i=>decide (i<m+1)&&g i) m=cntN g m:=by
    unfold cntN
    congr 1
    apply List.filter_congr
    intro i hi
    have:=A96.1 hi
    have:i<m+1:=by omega
    simp[this]
   rw[this]
   simp
  ·rw[Tv g n m (by omega)]
   have:¬m<n:=by omega
   simp[this]
theorem Py {f g:Nat→Bool}{n:Nat}(h:∀ i,i<n→f i=g i):cntN f n=cntN g n:=by
 unfold cntN
 congr 1
 exact List.filter_congr fun i hi=>h i (A96.1 hi)
theorem Lz {f:Nat→Bool}{n:Nat}(h:∀ i,i<n→f i=false):cntN f n=0:=by
 unfold cntN
 rw[A69,List.filter_eq_nil_iff]
 intro i hi
 rw[h i (A96.1 hi)]
 decide
theorem Wy {S:PS}(c:ClOK S):(grpL (BS S) (BH S)++blks (S.pos/4096)).Perm (List.range (GF S)):=by
 obtain⟨g0,g1,g2⟩:=RX c
 have hb:=c.big
 obtain⟨i1,_,_⟩:=D9 S.M.length
 have e0:BH S=ipgOf S.M.length:=rfl
 have e1:E7 S=S.pos/4096:=rfl
 have e2:GF S=S.pos/4096+ipgOf S.M.length/16+2:=rfl
 unfold grpL
 unfold itL at g0
 rw[g0,g1,g2]
 have hr:List.range (GF S)=[0,1]++blks (S.pos/4096)++(List.range (BH S/16)).map (E7 S + ·)++[E7 S+BH S/16,E7 S+BH S/16+1]:=by
  have h1:List.range (GF S)=[0,1]++blks (GF S):=by
   unfold blks
   have:GF S=2+(GF S-2):=by omega
   rw[this,List.range_add]
   congr 1
   rw[show 2+(GF S-2)-2=GF S-2 by omega]
   apply A72
   intro i _
   omega
  rw[h1,Kd (a:=S.pos/4096) (b:=GF S) (by omega) (by omega)]
  have h2:GF S-S.pos/4096=BH S/16+2:=by omega
  rw[h2,List.range_add,A36,B05]
  simp only[A12]
  congr 3
 rw[hr]
 simp only[A12]
 refine List.Perm.append_left _ ?_
 refine List.perm_append_comm.trans ((List.perm_append_comm.append_right _).trans ?_)
 rw[A12]
section
variable {inl:Bool} {its:List It} {S1 S:PS} {D:List Nat}
set_option maxRecDepth 20000 in
theorem X4 (w:Wr inl its S1)(hio:A7 its)(hib:∀ it∈its,Y6 it)(hn:its.length≤2000)(a:JU its S1 D S)(hpb:S.pos≤120000000)(hD:∀ k,k∈D↔dirB its k=true)(cl:ClOK S) :
  ∃ (io:Nat→AA) (la:Nat→List (Bs×Bs)) (bl:Nat→List Nat) (R:List Nat) (T:TS) (k:Nat) (o0 o':Bs),(∀ c∈VV its,IoR inl its S1 S (BS S) (GF S) c (io c) (la c) (bl c))∧(2::R).Perm (VV its)∧PH (BS S) (GF S) (BH S) o0 o' T ((2::R).map io) k:=by
 have hgrp:=Wy cl
 obtain⟨io,la,bl,hf,t⟩:=Yj w hio hib hn a hpb hD cl hgrp
 have hlen:S.M.length=11+its.length:=a.len.trans w.len
 obtain⟨i1,i2,i3⟩:=D9 S.M.length
 have e0:BH S=ipgOf S.M.length:=rfl
 have e1:E7 S=S.pos/4096:=rfl
 have e2:GF S=S.pos/4096+ipgOf S.M.length/16+2:=rfl
 have hvl:=cl.vd
 have hal:=cl.al
 have hbig:=cl.big
 have hil:=SQ cl
 obtain⟨t0,t1,t2⟩:=RX cl
 have hit:itL (BS S)*4096+BH S*256≤(BS S).length:=by rw[t0,hil];omega
 obtain⟨R,T,k,hp,wk⟩:=Up t hit
 refine⟨io,la,bl,R,T,k,Pq (grpL (BS S) (BH S)) (List.replicate (GF S) 0),Pq (grpL (BS S) (BH S)++(2::R).flatMap bl) (List.replicate (GF S) 0),hf,hp,?_⟩
 have hfi:fiS S=cntN (fun i=>!A8 (OJ S) i) (BH S):=by
  have h1:=OI (A8 (OJ S)) (BH S)
  rw[←Vg] at h1
  show BH S-Dc (A8 (OJ S)) (BH S)=_
  omega
 have hfl:fiS S≤BH S:=Nat.sub_le _ _
 have hinc:IY S.inl=578∨IY S.inl=33346:=by unfold IY;split<;>simp
 obtain⟨sb,s12,s344,s16⟩:=AGu (ipg:=BH S) (vd:=GF S) (fi:=fiS S) (inc:=IY S.inl) (by omega) (by omega) (by omega) hinc
 have hsb:=AC2 cl
 rw[←hsb] at sb s12 s344 s16
 have hgn:∀ n∈grpL (BS S) (BH S),n<GF S:=fun n hn=>A96.1 (hgrp.mem_iff.1 (A81 _ hn))
 have hgd:(grpL (BS S) (BH S)).Nodup:=(A65.1 (hgrp.nodup_iff.2 List.nodup_range)).1
 refine⟨hil,by omega,by omega,by omega,by omega,by omega,sb,?_,wk,?_,?_⟩
 ·refine NV _ _ hgd fun n hn=>?_
  have:=hgn n hn
  simp[this]
 ·intro o ho
  obtain⟨c,hc,rfl⟩:=A35.1 ho
  have hcV:=hp.mem_iff.1 hc
  obtain⟨m1,m2⟩:=EU (t.ino c hcV)
  obtain⟨r1,r2⟩:=t.rng c hcV
  exact⟨by rw[m2];exact r1,by rw[m2];exact r2,m1⟩
 ·
  have hnum:∀ c∈VV its,(io c).X.num=c:=fun c hc=>(EU (t.ino c hc)).2
  have hU:∀ i,i<BH S→(mkU (usd 10 (List.replicate (BH S+1) false)) ((2::R).map io)).getD (i+1) false=A8 (OJ S) i:=fun i hi=>by
   have hj:(OJ S)[i]?.join.isSome=true↔i+1∈VV its:=by
    have e:(OJ S)[i]? = (S.M[i]?).map (Option.map FY):=A21 ..
    rw[e]
    constructor
    ·intro h
     rcases Decidable.em (i+1∈VV its) with h1|h1
     ·exact h1
     ·have h2:=Gd w a hD h1
      cases hm:S.M[i]? with
      | none=>rw[hm] at h;cases h
      | some o=>rw[hm] at h h2;have h2:o=none:=h2;subst h2;cases h
    ·intro h
     obtain⟨p,hp'⟩:=FK w hio hib hn a hpb hD (BE.1 h)
     have:=hp'.at_
     rw[A79] at this
     rw[this];rfl
   have hl:∀ o∈(2::R).map io,o.X.num<(usd 10 (List.replicate (BH S+1) false)).length:=fun o ho=>by
    obtain⟨c,hc,rfl⟩:=A35.1 ho
    have hcV:=hp.mem_iff.1 hc
    rw[hnum c hcV,J0,A09]
    have:=(t.rng c hcV).2
    omega
   have h1:=SP (c:=i+1) ((2::R).map io) (usd 10 (List.replicate (BH S+1) false)) hl
   have h2:=Sa (l:=List.replicate (BH S+1) false) (c:=i+1) (by rw[A09];omega) 10 (by rw[A09];omega)
   have h3:(List.replicate (BH S+1) false).getD (i+1) false=false:=by
    rw[A10,B18]
    split<;>rfl
   have h4:(∃ o∈(2::R).map io,o.X.num=i+1)↔i+1∈VV its:=by
    constructor
    ·rintro⟨o,ho,h⟩
     obtain⟨c,hc,rfl⟩:=A35.1 ho
     have hcV:=hp.mem_iff.1 hc
     rw[hnum c hcV] at h
     rw[←h];exact hcV
    ·intro h
     exact⟨io (i+1),A35.2 ⟨i+1,hp.mem_iff.2 h,rfl⟩,hnum _ h⟩
   have h5:(A8 (OJ S) i=true)↔i<10∨i+1∈VV its:=by
    unfold A8
    rw[B14,A84,hj]
   rw[h4,h2,h3] at h1
   cases hu:A8 (OJ S) i with
   | true=>
    rw[hu] at h5
    exact h1.2 (by
     rcases h5.1 rfl with h|h
     ·exact .inr (.inl (by omega))
     ·exact .inl h)
   | false=>
    rw[hu] at h5
    cases hm:(mkU (usd 10 (List.replicate (BH S+1) false)) ((2::R).map io)).getD (i+1) false with
    | false=>rfl
    | true=>
     exfalso
     rw[hm] at h1
     have:¬(i<10∨i+1∈VV its):=fun h=>by cases h5.2 h
     rcases h1.1 rfl with h|h|h
     ·exact this (.inr h)
     ·exact this (.inl (by omega))
     ·cases h
  have hbl:((2::R).flatMap bl).Perm ((VV its).flatMap bl):=hp.flatMap_right _
  have hmk:∀ i,mkB (GF S) (Pq (grpL (BS S) (BH S)++(2::R).flatMap bl) (List.replicate (GF S) 0)) i=true:=fun i=>by
   unfold mkB
   by_cases hi:GF S≤i
   ·rw[A04 hi,Bool.true_or]
   ·have hall:∀ n∈grpL (BS S) (BH S)++(2::R).flatMap bl,n<(List.replicate (GF S) (0:UInt8)).length:=fun n hn=>by
     rw[A09]
     exact t.blt n (((hbl.append_left _).mem_iff).1 hn)
    have hmem:i∈grpL (BS S) (BH S)++(2::R).flatMap bl:=by
     have hcov:((VV its).flatMap bl).Perm (blks (S.pos/4096)):=by
      refine List.Perm.trans ?_ (MB w a hD)
      have key:∀ V:List Nat,(∀ c∈V,c∈VV its)→V.flatMap bl=V.flatMap fun k=>exO (S.M[k-1]?).join:=by
       intro V
       induction V with
       | nil=>intro _;rfl
       | cons c V ih=>
        intro h
        rw[A37,A37,ih fun k hk=>h k (A16 _ hk)]
        obtain⟨p,h1,_,_,_,h2⟩:=(hf c (h c (A13 ..))).nd
        rw[h1,h2];rfl
      rw[key _ fun _ h=>h]
     have:=(((hbl.trans hcov).append_left (grpL (BS S) (BH S))).trans hgrp).mem_iff (a:=i)
     exact this.2 (A96.2 (by omega))
    rw[A10,NU _ _ _ hall (by rw[A09];omega),A03 hmem]
    simp
  obtain⟨b1,b2⟩:=ADR cl
  obtain⟨_,_,_,d12,d14,d16⟩:=WR (f:=Xq S)
  have hdsc:=S7 cl
  have hcnt:cntN (fun i=>decide (i<BH S) && !(mkU (usd 10 (List.replicate (BH S+1) false)) ((2::R).map io)).getD (i+1) false) 32768=fiS S:=by
   rw[Tv _ _ _ (by omega),hfi]
   exact Py fun i hi=>by rw[hU i hi]
  refine⟨by rw[t1];omega,by rw[t2];omega,?_,?_,?_,?_,?_,?_,?_,s344,?_,sb.s84⟩
  ·intro i hi
   rw[t1,b1,Xz (by omega),Wo (by omega),hmk]
   unfold FD
   rw[A04 hi,Bool.true_or]
  ·intro i hi
   rw[t2,b2,Xs,Wo (by omega),hU i hi]
   unfold FD A8
   rw[A08 (by omega:¬8*4096+i<32768),Bool.false_or,A04 (by omega:8*4096+i<32768+BH S),Bool.true_and,show 8*4096+i-32768=i by omega]
  ·intro i hi hu
   rw[hU i hi] at hu
   have hnV:i+1∉VV its:=fun h=>by
    obtain⟨p,hp'⟩:=FK w hio hib hn a hpb hD (BE.1 h)
    have:=hp'.at_
    rw[A79] at this
    unfold A8 at hu
    have e:(OJ S)[i]? = (S.M[i]?).map (Option.map FY):=A21 ..
    rw[e,this] at hu
    simp at hu
   rw[Tu cl (by omega) (by omega),A79,Gd w a hD hnV]
   exact⟨FJ,FJ⟩
  ·exact (hdsc▸d12:leL (dscL (BS S)) 12 2=0).trans (Lz fun i _=>by rw[hmk];rfl).symm
  ·rw[hdsc,d14,hcnt]
   show fiS S%65536=fiS S
   omega
  ·rw[hdsc,d16]
   have hle:=HS (CS (OJ S)) (BH S)
   show Dc (CS (OJ S)) (BH S)%65536=_
   rw[A23 (by omega),Vg]
   unfold cntN cntD
   have hdir:∀ i,CS (OJ S) i=(decide (i+1∈VV its)&&dirB its (i+1)):=fun i=>by
    unfold CS
    have e:(OJ S)[i]? = (S.M[i]?).map (Option.map FY):=A21 ..
    rw[e]
    by_cases hV:i+1∈VV its
    ·obtain⟨p,hp'⟩:=FK w hio hib hn a hpb hD (BE.1 hV)
     have h1:=hp'.at_
     rw[A79] at h1
     rw[h1,A04 hV,Bool.true_and]
     have h2:=Dt w hV
     rw[←hp'.mode,Jn] at h2
     show (kindB p.mode == 16384)=dirB its (i+1)
     cases hd:dirB its (i+1) with
     | true=>rw[h2.2 hd];rfl
     | false=>
      apply beq_eq_false_iff_ne.2
      intro h
      rw[h2.1 h] at hd;cases hd
    ·rw[A08 hV,Bool.false_and]
     have h2:=Gd w a hD hV
     cases hm:S.M[i]? with
     | none=>rfl
     | some o=>rw[hm] at h2;have h2:o=none:=h2;subst h2;rfl
   have h1:(((2::R).map io).filter fun o=>decide (kindL o.X.mode=2)).length=((2::R).filter fun c=>dirB its c).length:=by
    have h2:(2::R).filter ((fun o:AA=>decide (kindL o.X.mode=2))∘io)=(2::R).filter fun c=>dirB its c:=by
     refine List.filter_congr fun c hc=>?_
     have hcV:=hp.mem_iff.1 hc
     have:=Dt w hcV
     rw[←(hf c hcV).mode] at this
     show decide (kindL (io c).X.mode=2)=dirB its c
     cases hd:dirB its c with
     | true=>exact A04 (this.2 hd)
     | false=>exact A08 fun h=>by rw[this.1 h] at hd;cases hd
    rw[List.filter_map,A25,h2]
   rw[h1,(hp.filter _).length_eq]
   have h2:(((List.range (BH S)).filter (CS (OJ S))).map (· + 1)).Perm ((VV its).filter fun c=>dirB its c):=by
    refine IH _ _ ?_ (Fb.filter _) fun c=>?_
    ·unfold List.Nodup
     rw[B32]
     exact (List.nodup_range.filter _).imp fun h e=>h (by omega)
    ·rw[A35,B39]
     constructor
     ·rintro⟨i,hi,rfl⟩
      have:=(B39.1 hi).2
      rw[hdir,A42,A84] at this
      exact this
     ·rintro⟨h3,h4⟩
      have:=t.rng c h3
      refine⟨c-1,B39.2 ⟨A96.2 (by omega),?_⟩,by omega⟩
      rw[hdir,show c-1+1=c by omega,h4,A04 h3];rfl
   have:=h2.length_eq
   rw[A25] at this
   exact this
  ·exact s12.trans (Lz fun i _=>by rw[hmk];rfl).symm
  ·exact s16.trans hcnt.symm
end
end
theorem X8:∀ a:Bs,Op.bytesLess a a=false
 | []=>rfl
 | c::a=>by simp[Op.bytesLess,X8 a]
theorem YF:∀ a b:Bs,a≠b→Op.bytesLess a b=true∨Op.bytesLess b a=true
 | [],[],h=>absurd rfl h
 | [],_::_,_=>.inl rfl
 | _::_,[],_=>.inr rfl
 | c::a,d::b,h=>by
  simp only[Op.bytesLess,B14,A84,A42,beq_iff_eq]
  by_cases hcd:c=d
  ·subst hcd
   have:a≠b:=fun e=>h (by rw[e])
   rcases YF a b this with h1|h1
   ·exact .inl (.inr ⟨rfl,h1⟩)
   ·exact .inr (.inr ⟨rfl,h1⟩)
  ·have h1:c.toNat≠d.toNat:=fun e=>hcd (A97.1 e)
   rcases A66 c.toNat d.toNat with h2|h2
   ·exact .inl (.inl (B40.2 h2))
   ·exact .inr (.inl (B40.2 (by omega)))
theorem ABM:∀ a b c:Bs,Op.bytesLess a b=true→Op.bytesLess b c=true→Op.bytesLess a c=true
 | a,[],_,h,_=>by simp[Op.bytesLess] at h
 | _,b::l,[],_,h=>by simp[Op.bytesLess] at h
 | [],_::_,_::_,_,_=>rfl
 | x::a,y::b,z::c,h1,h2=>by
  simp only[Op.bytesLess,B14,A84,A42,beq_iff_eq] at h1 h2 ⊢
  rcases h1 with h1|⟨h1,h1'⟩
  ·rcases h2 with h2|⟨h2,_⟩
   ·refine .inl (B40.2 ?_)
    have:=B40.1 h1
    have:=B40.1 h2
    omega
   ·subst h2;exact .inl h1
  ·subst h1
   rcases h2 with h2|⟨h2,h2'⟩
   ·exact .inl h2
   ·exact .inr ⟨h2,ABM a b c h1' h2'⟩
def Rx (ks:List (Bs×Nat)):Prop:=ks.Pairwise fun a b=>Op.bytesLess a.1 b.1=true
theorem GT:∀ (l:List Bs) (nm:Bs),(∀ a∈l.take (BV l nm),Op.bytesLess a nm=true)∧(∀ a,l[BV l nm]? = some a→Op.bytesLess a nm=false)
 | [],nm=>⟨by simp,by simp⟩
 | a::l,nm=>by
  obtain⟨h1,h2⟩:=GT l nm
  rw[BV]
  by_cases hc:Op.bytesLess a nm=true
  ·rw[A03 hc]
   refine⟨fun b hb=>?_,fun b hb=>h2 b (by rw[A63] at hb;exact hb)⟩
   rw[B12,A32] at hb
   rcases hb with h|h
   ·rw[h];exact hc
   ·exact h1 b h
  ·rw[A05 hc]
   refine⟨by simp,fun b hb=>?_⟩
   rw[A51,A26] at hb
   subst hb
   simpa using hc
theorem Xy {l:List Bs}{nm:Bs}{i:Nat}(hs:l.Pairwise fun a b=>Op.bytesLess a b=true)(hi:l[i]? = some nm):BV l nm=i:=by
 obtain⟨h1,h2⟩:=GT l nm
 obtain⟨hil,he⟩:=A02.1 hi
 have hle:=EI l nm
 rw[List.pairwise_iff_getElem] at hs
 rcases Nat.lt_trichotomy (BV l nm) i with h|h|h
 ·have:=h2 _ (A00 (by omega:BV l nm<l.length))
  have h3:=hs (BV l nm) i (by omega) hil h
  rw[he,this] at h3;cases h3
 ·exact h
 ·have:nm∈l.take (BV l nm):=by
   exact List.mem_take_iff_getElem.2 ⟨i,by omega,he⟩
  have:=h1 nm this
  rw[X8] at this;cases this
theorem AAU {ks:List (Bs×Nat)}{nm:Bs}{n:Nat}(hs:Rx ks)(h:(nm,n)∈ks):kidL ks nm=some n:=by
 obtain⟨i,hi,he⟩:=B00 h
 have hg:ks[i]? = some (nm,n):=by rw[A00 hi,he]
 have hp:BV (ks.map (·.1)) nm=i:=Xy (by rw[B32];exact hs) (by rw[A21,hg];rfl)
 unfold kidL
 rw[hp,hg]
 exact A03 rfl
theorem AAN {ks:List (Bs×Nat)}{nm:Bs}{n:Nat}(hs:Rx ks)(hn:∀ e∈ks,e.1≠nm):Rx (FB ks nm n)∧(FB ks nm n).Perm ((nm,n)::ks):=by
 obtain⟨h1,h2⟩:=GT (ks.map (·.1)) nm
 have hle:=EI (ks.map (·.1)) nm
 rw[A25] at hle
 have hno:¬(ks.map (·.1))[BV (ks.map (·.1)) nm]? = some nm:=fun h=>by
  obtain⟨hi,he⟩:=A02.1 h
  rw[List.getElem_map] at he
  exact hn _ (Q3 _) he
 unfold FB
 rw[A05 hno,A58]
 obtain⟨i,hi⟩:∃ i,BV (ks.map (·.1)) nm=i:=⟨_,rfl⟩
 rw[hi] at h1 h2 hle ⊢
 have hsp:ks=ks.take i++ks.drop i:=(B36 i ks).symm
 have hs':=hs
 unfold Rx at hs'
 rw[hsp,List.pairwise_append] at hs'
 have hlo:∀ a∈ks.take i,Op.bytesLess a.1 nm=true:=fun a ha=>h1 a.1 (by rw[←B11];exact A35.2 ⟨a,ha,rfl⟩)
 have hhi:∀ a∈ks.drop i,Op.bytesLess nm a.1=true:=fun a ha=>by
  cases hd:ks.drop i with
  | nil=>rw[hd] at ha;cases ha
  | cons b r=>
   have hb:ks[i]? = some b:=by
    have:(ks.drop i)[0]? = some b:=by rw[hd];rfl
    rw[A53] at this;exact this
   have hbm:b∈ks:=A28 hb
   have hb1:=h2 b.1 (by rw[A21,hb];rfl)
   have hb2:Op.bytesLess nm b.1=true:=(YF nm b.1 fun e=>hn b hbm e.symm).resolve_right (by rw[hb1];decide)
   rw[hd] at ha
   rcases A32.1 ha with h|h
   ·rw[h];exact hb2
   ·have h3:=hs'.2.1
    rw[hd,B16] at h3
    exact ABM _ _ _ hb2 (h3.1 a h)
 constructor
 ·unfold Rx
  rw[A12,List.pairwise_append]
  refine⟨hs'.1,?_,?_⟩
  ·show ((nm,n)::ks.drop i).Pairwise _
   rw[B16]
   exact⟨hhi,hs'.2.1⟩
  ·intro a ha b hb
   rcases A32.1 hb with h|h
   ·rw[h];exact hlo a ha
   ·exact hs'.2.2 a ha b h
 ·rw[A12]
  refine List.perm_middle.trans (List.Perm.cons _ ?_)
  show (ks.take i++ks.drop i).Perm ks
  rw[B36]
theorem Tg:∀ (L ks:List (Bs×Nat)),Rx ks→((ks++L).map (·.1)).Nodup→Rx (L.foldl (fun ks e=>FB ks e.1 e.2) ks)∧(L.foldl (fun ks e=>FB ks e.1 e.2) ks).Perm (ks++L)
 | [],ks,hs,_=>⟨hs,by rw[A22];exact .refl _⟩
 | e::L,ks,hs,hd=>by
  have hn:∀ x∈ks,x.1≠e.1:=fun x hx he=>by
   rw[A36,A65] at hd
   exact hd.2.2 x.1 (A35.2 ⟨x,hx,rfl⟩) e.1 (A35.2 ⟨e,A13 ..,rfl⟩) he
  obtain⟨h1,h2⟩:=AAN (n:=e.2) hs hn
  have hp:(FB ks e.1 e.2++L).Perm (ks++e::L):=(h2.append_right L).trans List.perm_middle.symm
  obtain⟨h3,h4⟩:=Tg L (FB ks e.1 e.2) h1 ((hp.map (·.1)).nodup_iff.2 hd)
  exact⟨h3,h4.trans hp⟩
section
attribute [local irreducible] BR BS Db
structure IoX (its:List It) (c:Nat) (o:AA):Prop where
 num:o.X.num=c
 l0:o.l=[]
 mode:o.X.mode<65536
 it:∀ j it,c=12+j→its[j]? = some it→o.X.mode=modeK it.f.mode∧o.X.uid=it.f.uid∧(it.isD=false→o.C=it.data)
 dir:dirB its c=true→kindB o.X.mode=16384∧∃ kd:Nat→Nat,o.E=([46],c,2)::([46,46],parOf its c,2)::(esOf its c).map fun e=>(e.1,e.2,kd e.2)
 nodir:dirB its c=false→o.E=[]
def To (its:List It)(os:List AA)(ipg:Nat):Prop:=∃ (io:Nat→AA) (R:List Nat),os=(2::R).map io∧(2::R).Perm (VV its)∧(∀ c∈VV its,IoX its c (io c))∧11+its.length≤ipg
theorem Wt {its:List It}{c:Nat}(h:¬dirB its c=true)(hc:c∈VV its):∃ j,c=12+j∧∃ it,its[j]? = some it∧it.isD=false:=by
 rcases BE.1 hc with rfl|⟨h1,h2⟩
 ·exact absurd (Aj.2 (.inl rfl)) h
 ·by_cases h11:c=11
  ·subst h11;exact absurd (Aj.2 (.inr (.inl rfl))) h
  ·obtain⟨j,rfl⟩:∃ j,c=12+j:=⟨c-12,by omega⟩
   have hj:its[j]? = some its[j]:=A00 (by omega)
   refine⟨j,rfl,_,hj,?_⟩
   cases hd:its[j].isD with
   | false=>rfl
   | true=>exact absurd (Aj.2 (.inr (.inr ⟨j,_,hj,hd,rfl⟩))) h
theorem QD {its:List It}(inl:Bool)(db:Nat)(hio:A7 its)(hib:∀ it∈its,Y6 it)(hn:its.length≤2000)(hsum:EW its≤40000000) :
  ∃ SE S,Steps (its.flatMap It.ops) (S2 [] inl EA db) SE∧He SE S∧S.db=db∧Xp (To its) (BS S):=by
 have w0:=Xn inl db
 have hm:S2 [] inl EA db = {S1 [] inl EA db with M:=D0 (M1 inl) 2 (rootP inl) (newP (dirF 16832) 11 inl) [] lostN}:=by
  unfold S2 PS.made
  simp only
  rw[A05 (by decide)]
  rfl
 have hpos:(S2 [] inl EA db).pos=8192:=by
  rw[hm]
  show (1+Fk EA)*4096=8192
  rw[Nj]
 have hdb:(S2 [] inl EA db).db=db:=by rw[hm];rfl
 obtain⟨SE,S1,st,fi,w,hp,hd1⟩:=WY w0 hpos hio (by omega) (by omega) its.length (A07 _)
 rw[A38] at st w hp
 obtain⟨S,D,cl,a,hnd,hD,clok,hpb⟩:=RU w hio hib hn (by omega)
 refine⟨SE,S,st,cl SE fi,a.same.2.2.2.trans (hd1.trans hdb),?_⟩
 obtain⟨io,la,bl,R,T,k,o0,o',hf,hperm,hi⟩:=X4 w hio hib hn a hpb hD clok
 obtain⟨i1,i2,i3⟩:=D9 S.M.length
 have hlen:S.M.length=11+its.length:=a.len.trans w.len
 refine⟨_,_,_,_,_,_,_,hi,io,R,rfl,hperm,fun c hc=>?_,by show 11+its.length≤ipgOf S.M.length;omega⟩
 have f:=hf c hc
 obtain⟨m1,m2⟩:=EU f.ino
 have hcV:=BE.1 hc
 have hkind:=Dt w hc
 refine⟨m2,f.l0,m1,?_,?_,?_⟩
 ·intro j it h1 h2
  subst h1
  obtain⟨p,hp1,hp2,_⟩:=w.node j it h2
  have hmode:modeAt S1.M (12+j)=modeK it.f.mode:=by
   unfold modeAt
   rw[show 12+j-1=11+j by omega,hp1,hp2];rfl
  refine⟨f.mode.trans hmode,?_,fun h3=>(f.item j it rfl h2 h3).1⟩
  obtain⟨p',q1,_,q3,_⟩:=f.nd
  rw[q3]
  by_cases hb:dirB its (12+j)=true
  ·obtain⟨q,st',b1,b2,_⟩:=a.in_ _ ((hD _).2 hb)
   rw[q1] at b2
   have e1:=A14 (A14 b2)
   have e2:=b1.at_
   rw[show 12+j-1=11+j by omega,hp1] at e2
   have e3:=A14 (A14 e2)
   rw[e1]
   show q.uid=_
   rw[←e3,hp2];rfl
  ·have hcD:12+j∉D:=fun h=>hb ((hD _).1 h)
   have:=a.out _ hcD (by omega)
   rw[q1,show 12+j-1=11+j by omega,hp1] at this
   rw[A14 (A14 this),hp2];rfl
 ·intro hb
  have h1:=(f.dir hb).2.2
  refine⟨Jn.1 (by rw[f.mode];exact hkind.2 hb),fun k=>EG (modeAt S1.M k),?_⟩
  rw[h1,IX hio,A33,A33,B05]
  have hpar:dirB its (parOf its c)=true∧parOf its c∈VV its:=by
   by_cases h2:c=2
   ·subst h2;exact⟨Aj.2 (.inl rfl),BE.2 (.inl rfl)⟩
   ·have h1:=(JY hio hc h2).1
    refine⟨h1,BE.2 ?_⟩
    rcases Aj.1 h1 with h|h|⟨j,it,h3,h4,h5⟩
    ·exact .inl h
    ·exact .inr (by omega)
    ·have:=(A02.1 h3).1
     exact .inr (by omega)
  rw[MH,MH,hkind.2 hb,(Dt w hpar.2).2 hpar.1]
  rfl
 ·intro hb
  obtain⟨j,rfl,it,h1,h2⟩:=Wt (by rw[hb];decide) hc
  exact (f.item j it rfl h1 h2).2
theorem ZL {os:List AA}{L:List Nat}(hn:(os.map fun o=>o.X.num).Nodup)(hl:∀ o∈os,o.X.num<L.length):∀ m,m≤os.length→∀ i o,i<m→os[i]? = some o→(GC (os.take m) L).getD o.X.num 0=i:=by
 intro m
 induction m with
 | zero=>intro _ i o h;omega
 | succ m ih=>
  intro hm i o hi ho
  have hom:os[m]? = some os[m]:=A00 (by omega)
  have hlen:(GC (os.take m) L).length=L.length:=Im _ _
  rw[KZ hom,DV (by rw[hlen];exact hl _ (Q3 _))]
  by_cases him:i=m
  ·subst him
   rw[hom] at ho
   rw[A03 (by rw[A14 ho])]
  ·rw[A05,ih (by omega) i o (by omega) ho]
   intro e
   unfold List.Nodup at hn
   rw[List.pairwise_iff_getElem] at hn
   obtain⟨hil,he⟩:=A02.1 ho
   refine hn i m (by rw[A25];exact hil) (by rw[A25];omega) (by omega) ?_
   rw[List.getElem_map,List.getElem_map,he,e]
structure NodeX (its:List It) (ix:Nat→Nat) (c:Nat) (t:TN):Prop where
 mode:t.X.mode<65536
 it:∀ j it,c=12+j→its[j]? = some it→t.X.mode=modeK it.f.mode∧t.X.uid=it.f.uid∧t.data=if it.kd=32768 then it.data else []
 dir:dirB its c=true→kindB t.X.mode=16384∧t.ks.length=(esOf its c).length∧∀ e∈esOf its c,kidL t.ks e.1=some (ix e.2)
 nodir:dirB its c=false→t.ks=[]
structure ABG (its:List It) (ts:List TN) (ix:Nat→Nat):Prop where
 len:ts.length=its.length+2
 root:ix 2=0
 node:∀ c∈VV its,∃ t,ts[ix c]? = some t∧NodeX its ix c t
theorem AET {its:List It}{os:List AA}{ipg:Nat}(hio:A7 its)(p:To its os ipg):ABG its (os.map (JK (ipg+1) (FE ipg os))) (fun c=>(FE ipg os).getD c 0):=by
 obtain⟨io,R,hos,hp,hf,hipg⟩:=p
 have hnums:(os.map fun o=>o.X.num)=2::R:=by
  rw[hos,B05]
  have:∀ l:List Nat,(∀ c∈l,c∈VV its)→l.map ((fun o:AA=>o.X.num)∘io)=l:=by
   intro l
   induction l with
   | nil=>intro _;rfl
   | cons c l ih=>
    intro h
    rw[A33,ih fun k hk=>h k (A16 _ hk)]
    show (io c).X.num::l=_
    rw[(hf c (h c (A13 ..))).num]
  exact this _ fun c hc=>hp.mem_iff.1 hc
 have hnd:(os.map fun o=>o.X.num).Nodup:=by rw[hnums];exact hp.nodup_iff.2 Fb
 have hlt:∀ o∈os,o.X.num<(List.replicate (ipg+1) 0).length:=fun o ho=>by
  have:o.X.num∈2::R:=by rw[←hnums];exact A35.2 ⟨o,ho,rfl⟩
  have:=BE.1 (hp.mem_iff.1 this)
  rw[A09];omega
 have hix:∀ i c,(2::R)[i]? = some c→(FE ipg os).getD c 0=i:=fun i c hi=>by
  have hil:=(A02.1 hi).1
  have ho:os[i]? = some (io c):=by rw[hos,A21,hi];rfl
  have:=ZL hnd hlt os.length (A07 _) i (io c) (by rw[hos,A25];exact hil) ho
  rw[A38,(hf c (hp.mem_iff.1 (A28 hi))).num] at this
  exact this
 refine⟨?_,hix 0 2 rfl,fun c hc=>?_⟩
 ·rw[A25,hos,A25,hp.length_eq]
  unfold VV;simp
 ·obtain⟨i,hi,he⟩:=B00 (hp.mem_iff.2 hc)
  have hg:(2::R)[i]? = some c:=by rw[A00 hi,he]
  have ho:os[i]? = some (io c):=by rw[hos,A21,hg];rfl
  have f:=hf c hc
  refine⟨JK (ipg+1) (FE ipg os) (io c),by rw[hix i c hg,A21,ho];rfl,f.mode,?_,?_,?_⟩
  ·intro j it h1 h2
   obtain⟨a1,a2,a3⟩:=f.it j it h1 h2
   refine⟨a1,a2,?_⟩
   show (if kindL (io c).X.mode=1 then (io c).C else [])=_
   have hkd:kindB (io c).X.mode=it.kd:=by rw[a1]
   by_cases h3:it.kd=32768
   ·rw[A03 h3,A03 (by rw[Hx hkd,h3];rfl),a3]
    unfold It.isD
    rw[h3];rfl
   ·rw[A05 h3,A05]
    intro h
    rw[Hx hkd] at h
    repeat' split at h
    all_goals omega
  ·intro hb
   obtain⟨d1,kd,d2⟩:=f.dir hb
   refine⟨d1,?_⟩
   have hks:(JK (ipg+1) (FE ipg os) (io c)).ks=((esOf its c).map fun e=>(e.1,(FE ipg os).getD e.2 0)).foldl (fun ks e=>FB ks e.1 e.2) []:=by
    show (io c).E.foldl (Bi (ipg+1) (FE ipg os)) []=_
    rw[d2,A71,A71]
    have s1:∀ ks c,Bi (ipg+1) (FE ipg os) ks ([46],c,2)=ks:=fun ks c=>A03 (.inl rfl)
    have s2:∀ ks c,Bi (ipg+1) (FE ipg os) ks ([46,46],c,2)=ks:=fun ks c=>A03 (.inr (.inl rfl))
    rw[s1,s2]
    have hes:∀ e∈esOf its c,(e.1≠[46]∧e.1≠[46,46])∧e.2<ipg+1:=fun e he=>by
     obtain⟨a1,a2,a3,a4,a5⟩:=DT hio he
     exact⟨(TD hio he).2,by omega⟩
    revert hes
    generalize esOf its c=es
    generalize ([]:List (Bs×Nat))=ks
    induction es generalizing ks with
    | nil=>intro _;rfl
    | cons e es ih=>
     intro h
     rw[A33,A71,A33,A71]
     obtain⟨⟨n1,n2⟩,n3⟩:=h e (A13 ..)
     have:Bi (ipg+1) (FE ipg os) ks (e.1,e.2,kd e.2)=FB ks e.1 ((FE ipg os).getD e.2 0):=by
      unfold Bi
      rw[A05]
      rintro (h1|h1|h1)
      ·exact n1 h1
      ·exact n2 h1
      ·have:ipg+1≤e.2:=h1
       omega
     rw[this]
     exact ih _ fun x hx=>h x (A16 _ hx)
   have hnames:((([]:List (Bs×Nat))++(esOf its c).map fun e=>(e.1,(FE ipg os).getD e.2 0)).map (·.1)).Nodup:=by
    rw[A34,B05]
    exact C1 hio c
   obtain⟨q1,q2⟩:=Tg ((esOf its c).map fun e=>(e.1,(FE ipg os).getD e.2 0)) [] .nil hnames
   rw[←hks] at q1 q2
   refine⟨by rw[q2.length_eq];simp,fun e he=>AAU q1 (q2.mem_iff.2 ?_)⟩
   rw[A34]
   exact A35.2 ⟨e,he,rfl⟩
  ·intro hb
   show (io c).E.foldl (Bi (ipg+1) (FE ipg os)) []=_
   rw[f.nodir hb];rfl
end
def YC (e:Bs):Prop:=e≠[]∧e≠[46]∧e≠[46,46]∧(47:UInt8)∉e
theorem I9:∀ (e:Bs),(47:UInt8)∉e→elems e=[e]
 | [],_=>rfl
 | b::l,h=>by
  have hb:b≠47:=fun e=>h (by rw[e];exact A13 ..)
  rw[elems,A05 hb,I9 l fun hm=>h (A16 _ hm)]
theorem L8:∀ (e r:Bs),(47:UInt8)∉e→elems (e++47::r)=e::elems r
 | [],r,_=>by rw[A34,elems,A03 rfl]
 | b::l,r,h=>by
  have hb:b≠47:=fun e=>h (by rw[e];exact A13 ..)
  rw[A82,elems,A05 hb,L8 l r fun hm=>h (A16 _ hm)]
theorem KM:∀ (l:List Bs),l≠[]→(∀ e∈l,(47:UInt8)∉e)→elems (joinL l)=l
 | [],h,_=>absurd rfl h
 | [e],_,h=>I9 e (h e (A13 ..))
 | e::f::r,_,h=>by
  rw[joinL,L8 e _ (h e (A13 ..)),KM (f::r) (by simp) fun x hx=>h x (A16 _ hx)]
theorem PC:∀ (l st:List Bs),(∀ e∈l,YC e)→l.foldl meet st=st++l
 | [],st,_=>(A22 _).symm
 | e::l,st,h=>by
  obtain⟨h1,h2,h3,_⟩:=h e (A13 ..)
  have:meet st e=st++[e]:=by
   unfold meet
   rw[A05 (by simp[h1,h2]),A05 h3]
  rw[A71,this,PC l _ fun x hx=>h x (A16 _ hx),A12];rfl
theorem Rv {l:List Bs}(h:∀ e∈l,YC e):cleanR (joinL l)=l∧cleanR (47::joinL l)=l:=by
 have e0:∀ p:Bs,cleanR (47::p)=cleanR p:=fun p=>by
  unfold cleanR
  rw[elems,A03 rfl,A71]
  have:meet [] []=[]:=A03 (.inl rfl)
  rw[this]
 refine⟨?_,(e0 _).trans ?_⟩
 all_goals
  cases hl:l with
  | nil=>rfl
  | cons a r=>
   rw[←hl]
   unfold cleanR
   rw[KM l (by rw[hl];simp) fun e he=>(h e he).2.2.2,PC l [] h,A34]
def AFf (l:Bs):Nat:=l.foldl (fun a c=>a*10+(c.toNat-48)) 0
theorem OR (n:Nat):AFf (Cn n)=n:=by
 induction n using Nat.strongRecOn with
 | ind n ih=>
  by_cases hc:n<10
  ·rw[IC hc]
   show 0*10+((UInt8.ofNat (48+n)).toNat-48)=n
   rw[B09]
   omega
  ·rw[Hn hc]
   unfold AFf at ih ⊢
   rw[B19,ih (n/10) (by omega)]
   show n/10*10+((UInt8.ofNat (48+n%10)).toNat-48)=n
   rw[B09]
   omega
theorem WV {a b:Nat}(h:Cn a=Cn b):a=b:=by rw[←OR a,h,OR]
theorem Vj (n:Nat):Cn n≠[]∧∀ c∈Cn n,48≤c.toNat∧c.toNat<58:=by
 induction n using Nat.strongRecOn with
 | ind n ih=>
  by_cases hc:n<10
  ·rw[IC hc]
   refine⟨by simp,fun c h=>?_⟩
   rw[A78] at h
   subst h
   rw[B09]
   omega
  ·rw[Hn hc]
   refine⟨by simp,fun c h=>?_⟩
   rcases A88.1 h with h1|h1
   ·exact (ih (n/10) (by omega)).2 c h1
   ·rw[A78] at h1
    subst h1
    rw[B09]
    omega
theorem Ry (n:Nat):YC (Cn n)∧Cn n≠lostN:=by
 obtain⟨h1,h2⟩:=Vj n
 have hno:∀ c:UInt8,c.toNat<48∨58≤c.toNat→c∉Cn n:=fun c hc hm=>by
  have:=h2 c hm;omega
 refine⟨⟨h1,fun e=>hno 46 (by decide) (by rw[e];decide),fun e=>hno 46 (by decide) (by rw[e];decide),hno 47 (by decide)⟩,fun e=>hno 108 (by decide) (by rw[e];decide)⟩
def Me (sz m:Nat):FL:=⟨[],sz,m,0,0,t0,t0,t0,t0,0,0⟩
theorem Th:t0.ok:=⟨by decide,by decide⟩
def Pm (i:Nat)(b:Bs):It:=⟨2,Cn i,Me b.length 0,b,47::Cn i,true⟩
def Ca (fs:List Bs):Nat→List It
 | 0=>[]
 | n+1=>Ca fs n++[Pm n (fs.getD n [])]
theorem C6 (fs:List Bs):∀ n,(Ca fs n).length=n
 | 0=>rfl
 | n+1=>by rw[Ca,A01,C6 fs n];rfl
theorem Fx (fs:List Bs):∀ n j,j<n→(Ca fs n)[j]? = some (Pm j (fs.getD j []))
 | n+1,j,h=>by
  rw[Ca]
  by_cases hj:j<n
  ·rw[A18 (by rw[C6];exact hj)]
   exact Fx fs n j hj
  ·have:j=n:=by omega
   subst this
   rw[A17 (by rw[C6];exact A07 _),C6,A87];rfl
theorem Fw {fs:List Bs}{n:Nat}{it:It}(h:it∈Ca fs n):∃ j,j<n∧it=Pm j (fs.getD j []):=by
 obtain⟨j,hj,e⟩:=B00 h
 rw[C6] at hj
 have:=Fx fs n j hj
 rw[A00 (by rw[C6];exact hj),A26] at this
 exact⟨j,hj,e.symm.trans this⟩
theorem Nl (i:Nat)(b:Bs):(Pm i b).kd=32768:=by show kindB (modeK 0)=32768;decide
theorem WC {fs:List Bs}(hb:∀ b∈fs,b.length≤2000000):∀ n,n≤1000→A7 (Ca fs n)
 | 0,_=>fun j it h=>by simp[Ca] at h
 | n+1,hn=>by
  rw[Ca]
  refine (WC hb n (by omega)).snoc ?_
  obtain⟨⟨p1,p2,p3,p4⟩,p5⟩:=Ry n
  have hl:=GM 4 n (by omega)
  have hlen:(fs.getD n []).length≤2000000:=by
   rw[A10]
   cases hg:fs[n]? with
   | none=>simp
   | some b=>exact hb b (A28 hg)
  refine⟨⟨[],.root,?_⟩,?_,?_,?_,p4,⟨p2,p3⟩,?_,fun _=>p5,?_,?_,hlen,fun _=>rfl⟩
  ·have:=(Rv (l:=[Cn n]) (by intro e he;rw[A78] at he;subst he;exact⟨p1,p2,p3,p4⟩)).2
   exact this
  ·show (47::Cn n).length≤100000
   rw[A19];omega
  ·show 1≤(Cn n).length
   exact A99.2 p1
  ·show (Cn n).length≤255
   omega
  ·intro x hx _ he
   obtain⟨j,hj,rfl⟩:=Fw hx
   have:j=n:=WV he
   omega
  ·exact⟨by show 0<65536;decide,.inl (Nl n _),Th,Th,Th,Th,by show (fs.getD n []).length≤_;omega⟩
  ·rw[Nl,A03 rfl];rfl
theorem AEy (fs:List Bs)(n:Nat):∀ it∈Ca fs n,Y6 it:=fun it h=>by
 obtain⟨j,_,rfl⟩:=Fw h
 exact⟨by show 0<_;decide,by show 0<_;decide,by show 0<_;decide,by show 0<_;decide⟩
theorem Sd (fs:List Bs):∀ n,n≤fs.length→EW (Ca fs n)=((fs.take n).map fun b=>b.length+4095).sum
 | 0,_=>rfl
 | n+1,hn=>by
  have ih:=Sd fs n (by omega)
  have hg:fs[n]? = some fs[n]:=A00 (by omega)
  unfold EW at ih ⊢
  rw[Ca,A36,B30,ih,A85,hg,A36,B30]
  congr 1
  rw[A10,hg]
  rfl
theorem Ur (fs:List Bs)(n:Nat){it:It}(h:it∈Ca fs n):it.isD=false:=by
 obtain⟨j,_,rfl⟩:=Fw h
 unfold It.isD
 rw[Nl];rfl
section
variable {h:H} {k:Value→Prop} {kt Q:Kt} {x y z r:Res}
attribute [local irreducible] AK Az AQ BB Ae AY AH AM
theorem Ki:∀ (vs A B:List Value),vs.length≤B.length→GE (A++B) A.length vs=A++vs++B.drop vs.length
 | [],A,B,_=>by simp[GE]
 | v::vs,A,[],h=>by simp at h
 | v::vs,A,b::B,h=>by
  have e1:(A++b::B).set A.length v=(A++[v])++B:=by
   rw[List.set_append,A05 (by omega),A87];simp
  have:=Ki vs (A++[v]) B (by simp at h;omega)
  rw[A01,A57] at this
  rw[GE,e1,this]
  simp
section
variable {T:TypeId} {zt:Option Value} {zv:Value} {sz:Nat} {e1 e2:List Value}
theorem AI6 (w:AN x h)(hz:zt=some zv)(hs:0<sz)(hs2:sz≤1000)(h1:e1.length=sz)(K:∀ b h,AN (pts b (.cells ⟨e1⟩ T (0,0))+x) h→kt (.slice (some ⟨b,0,none⟩) 1 1) h):AH (.arr sz) T zt sz 1 [(0,.agg ⟨e1⟩)] h kt:=by
 unfold AH
 refine⟨zv,⟨e1⟩,hz,by omega,?_,fun b h' ex hb' ho'=>K b h' (w.new ex hb' ho')⟩
 rw[A05 (by omega),B34]
 have hl:(Ax zv.cells sz).toList.length=sz:=by unfold Ax;simp
 refine Es _ (Ax zv.cells sz).toList _ ?_
 unfold DC
 simp only[Br,A92,A29]
 rw[A05 (by rw[hl];show ¬(e1.length≠sz∨_);omega)]
 have:=Ki e1 [] (Ax zv.cells sz).toList (by omega)
 rw[A34,A61,List.drop_of_length_le (by omega),A22,A34] at this
 unfold DC
 exact A76 some this
theorem Qi (w:AN x h)(hz:zt=some zv)(hs:0<sz)(hs2:sz≤1000)(h1:e1.length=sz)(h2:e2.length=sz)(K:∀ v r h,RdV sz v 2 (e1++e2) r→AN (r+x) h→kt v h):AH (.arr sz) T zt sz 2 [(0,.agg ⟨e1⟩),(1,.agg ⟨e2⟩)] h kt:=by
 unfold AH
 refine⟨zv,⟨e1++e2⟩,hz,by omega,?_,fun b h' ex hb' ho'=>K _ _ h' (.inr ⟨b,0,2,e1++e2,T,_,0,rfl,(Res.add_zero _).symm,by rw[A01];omega,by rw[A68,A43 (by rw[A01];omega)],A07 _⟩) (w.new ex hb' ho')⟩
 rw[A05 (by omega)]
 have hl:(Ax zv.cells (2*sz)).toList.length=2*sz:=by unfold Ax;simp
 refine Es _ (Ax zv.cells (2*sz)).toList _ ?_
 unfold DC
 simp only[Br,A92,A29]
 rw[A05 (by rw[hl];show ¬(e1.length≠sz∨_);omega)]
 have:=Ki e1 [] (Ax zv.cells (2*sz)).toList (by omega)
 rw[A34,A61,A34] at this
 show DC _ (GE (Ax zv.cells (2*sz)).toList 0 e1) _=_
 rw[this]
 unfold DC
 simp only[Br,B34]
 rw[A05 (by rw[A01,A27,hl];show ¬(e2.length≠sz∨_);omega)]
 have t2:=Ki e2 e1 ((Ax zv.cells (2*sz)).toList.drop e1.length) (by rw[A27];omega)
 rw[h1] at t2
 unfold DC
 show some (GE _ sz e2)=_
 rw[h1,t2,List.drop_of_length_le (by rw[A27];omega),A22]
end
theorem AHp {its:List It}{v:VS}{os:List AA}{cs:List Value}(hio:A7 its)(hn:its.length≤2000)(p:To its os v.ipg)(ok:v.OK x)(d:VecX 81 23 v.iv os.length cs x)(ov:OutV x cs os)(hnum:∀ o∈os,1≤o.X.num∧o.X.num≤v.ipg∧o.X.mode<65536)(w:AN (v.res+x) h)
  (K:∀ nsv ns ts ix y h,ABG its ts ix→RdV 18 nsv ts.length ns y→TreeV (y+(v.res+x)) ns ts→(∀ t∈ts,t.X.mode<65536∧t.ks.length<1000000000)→AN (y+(v.res+x)) h→Q (.agg ⟨[nsv]⟩) h):f14 (Pt v.vb) h Q:=by
 obtain⟨io,R,hos,hp,hf,hipg⟩:=id p
 have hfo:∀ o∈os,∃ c,c∈VV its∧IoX its c o:=fun o ho=>by
  rw[hos] at ho
  obtain⟨c,hc,rfl⟩:=A35.1 ho
  exact⟨c,hp.mem_iff.1 hc,hf c (hp.mem_iff.1 hc)⟩
 have hE:∀ o∈os,o.l=[]∧o.E.length<10000000∧∀ e∈o.E,e.2.1<4294967296:=fun o ho=>by
  obtain⟨c,hc,f⟩:=hfo o ho
  refine⟨f.l0,?_⟩
  have hcb:c<12+2000:=by rcases BE.1 hc with h|⟨_,h⟩<;>omega
  cases hd:dirB its c with
  | false=>rw[f.nodir hd];exact⟨by show 0<_;decide,fun e he=>absurd he (by simp)⟩
  | true=>
   obtain⟨_,kd,e⟩:=f.dir hd
   have:=Hq its c
   rw[e]
   refine⟨by simp;omega,fun e he=>?_⟩
   simp only[A32,A35] at he
   rcases he with rfl|rfl|⟨e,he,rfl⟩
   ·show c<_;omega
   ·show parOf its c<_
    have:=Ht hio (c:=c) (by rcases BE.1 hc with h|⟨h,_⟩<;>omega)
    omega
   ·obtain⟨a1,a2,a3,a4,a5⟩:=DT hio he
    show e.2<_;omega
 have hlos:os.length=its.length+2:=by
  rw[hos,A25,hp.length_eq];unfold VV;simp
 refine s14 ok d ov (by omega) (fun o ho=>⟨(hnum o ho).2.2,hE o ho⟩) (fun o ho=>(hnum o ho).2.1) w fun nsv ns y h d tv w=>?_
 refine K nsv ns _ _ y h (AET hio p) (by rw[A25];exact d) tv (fun t ht=>?_) w
 obtain⟨o,ho,rfl⟩:=A35.1 ht
 refine⟨(hnum o ho).2.2,?_⟩
 have:=(hE o ho).2.1
 have:∀ (E:List EN) (ks:List (Bs×Nat)),(E.foldl (Bi (v.ipg+1) (FE v.ipg os)) ks).length≤ks.length+E.length:=by
  intro E
  induction E with
  | nil=>intro ks;exact A07 _
  | cons e E ih=>
   intro ks
   have h1:=ih (Bi (v.ipg+1) (FE v.ipg os) ks e)
   have h2:=MY (v.ipg+1) (FE v.ipg os) ks e
   rw[A71,A19];omega
 have:=this o.E []
 show (o.E.foldl _ []).length<_
 simp at this
 omega
theorem ADo:AG TP 28=some (.agg ⟨FL0.cells (.slice none 0 0)⟩):=by kernel_rfl
end
end Go.Proofs.YtollddkkdgoonaaGreatDoor
