/- A part of a proof over images that are written and read. No condition; a step. -/
import Derived.Test.YtollddkkdgoonaaGreatDoorM25
namespace Go.Proofs.YtollddkkdgoonaaGreatDoor
open Go
set_option linter.unusedVariables false
set_option linter.unusedSimpArgs false
section
def VV (its:List It):List Nat:=2::11::(List.range its.length).map (12 + ·)
section
variable {inl:Bool} {its:List It} {S1 S:PS} {D:List Nat} {c:Nat}
theorem BE:c∈VV its↔c=2∨11≤c∧c<12+its.length:=by
 unfold VV
 rw[List.mem_cons,List.mem_cons,List.mem_map]
 constructor
 ·rintro (h|h|⟨j,hj,h⟩)
  ·exact .inl h
  ·exact .inr (by omega)
  ·have:=List.mem_range.1 hj
   exact .inr (by omega)
 ·rintro (h|⟨h1,h2⟩)
  ·exact .inl h
  ·by_cases h3:c=11
   ·exact .inr (.inl h3)
   ·exact .inr (.inr ⟨c-12,List.mem_range.2 (by omega),by omega⟩)
theorem Fb:(VV its).Nodup:=by
 unfold VV
 rw[List.nodup_cons,List.nodup_cons]
 refine⟨?_,?_,?_⟩
 ·rw[List.mem_cons,List.mem_map]
  rintro (h|⟨j,_,h⟩)<;>omega
 ·rw[List.mem_map]
  rintro⟨j,_,h⟩;omega
 ·unfold List.Nodup
  rw[List.pairwise_map]
  exact List.nodup_range.imp fun h e=>h (by omega)
theorem Gd (w:Wr inl its S1)(a:JU its S1 D S)(hD:∀ k,k∈D↔dirB its k=true){i:Nat}(h:¬(i+1∈VV its)):S.M[i]?.join=none:=by
 have hD1:i+1∉D:=fun hd=>h (by
  rw[BE]
  rcases Aj.1 ((hD _).1 hd) with h1|h1|⟨j,it,h1,h2,h3⟩
  ·exact .inl h1
  ·exact .inr (by omega)
  ·have:=(List.getElem?_eq_some_iff.1 h1).1
   exact .inr (by omega))
 have e:=a.out (i+1) hD1 (by omega)
 rw[Nat.add_sub_cancel] at e
 rw[e]
 rw[BE] at h
 by_cases h1:i=0∨2≤i∧i<10
 ·rw[w.nil i h1];rfl
 ·rw[List.getElem?_eq_none (by rw[w.len];omega)];rfl
theorem AFH (w:Wr inl its S1)(hio:A7 its)(hib:∀ it∈its,Y6 it)(hn:its.length≤2000)(a:JU its S1 D S)(hpb:S.pos≤120000000)(hD:∀ k,k∈D↔dirB its k=true):ClOK S:=by
 have hlen:S.M.length=11+its.length:=a.len.trans w.len
 obtain⟨i1,i2,i3⟩:=D9 S.M.length
 refine⟨?_,?_,a.al,a.big,by omega,by omega,by omega,by rw[a.same.2.1,w.max];omega,a.same.2.2.1.trans w.gd⟩
 ·intro p hp
  obtain⟨i,hi,e⟩:=List.getElem_of_mem hp
  have hg:S.M[i]? = some (some p):=by rw[List.getElem?_eq_getElem hi,e]
  have hV:i+1∈VV its:=by
   rcases Decidable.em (i+1∈VV its) with h|h
   ·exact h
   ·have:=Gd w a hD h
    rw[hg] at this;cases this
  obtain⟨p',hp'⟩:=FK w hio hib hn a hpb hD (BE.1 hV)
  have h2:=hp'.at_
  rw[Nat.add_sub_cancel,hg] at h2
  have:=Option.some.inj (Option.some.inj h2)
  subst this
  exact⟨hp'.fin.ok,hp'.fin.x,hp'.fin.d⟩
 ·apply a.Beq
  intro h
  have:=(hD 2).2 (Aj.2 (.inl rfl))
  rw[h] at this;cases this
theorem RU (w:Wr inl its S1)(hio:A7 its)(hib:∀ it∈its,Y6 it)(hn:its.length≤2000)(hp:S1.pos≤50000000) :
  ∃ S D,(∀ Sy,Fin Sy S1→He Sy S)∧JU its S1 D S∧D.Nodup∧(∀ k,k∈D↔dirB its k=true)∧ClOK S∧S.pos≤120000000:=by
 have hR:∀ (D:List Nat) (S:PS),JU its S1 D S→D.Nodup→(∀ k∈D,dirB its k=true∧2≤k∧k<12+its.length)→S.pos≤120000000:=fun D S a hd hk=>by
  have h1:=a.posb
  have h2:=ABh hio (by omega) D hd hk S1.M
  omega
 have hd2:dirB its 2=true:=Aj.2 (.inl rfl)
 have hnd:=L4 hio (13+its.length) 2 (by omega) (by omega) hd2
 have hmem:∀ k,k∈Ps its (13+its.length) 2↔dirB its k=true:=fun k=>⟨fun h=>(Fn hio _ 2 (by omega) (by omega) hd2 k h).2.2.2,AAt hio (by omega) k⟩
 obtain⟨S',S'',r,f,a⟩:=Te w hio (by omega) (fun D S a h1 h2=>Nat.le_trans (hR D S a h1 h2) (by omega)) (13+its.length) 2 [] S1 S1 (.none w.cur) (.start w) (by omega) hd2 (by omega) (by omega) (by simpa using hnd) (by simp)
 rw[List.nil_append] at a
 have hpb:=hR _ _ a hnd fun k hk=>by
  have:=Fn hio _ 2 (by omega) (by omega) hd2 k hk
  exact⟨this.2.2.2,by omega,this.2.2.1⟩
 have cl:=AFH w hio hib hn a hpb hmem
 exact⟨S'',_,fun Sy fy=>⟨⟨S1,S',13+its.length,_,fy,w.root,r,f⟩,cl⟩,a,hnd,hmem,cl,hpb⟩
theorem KY {M:List (Option PN)}:∀ n,n≤M.length→(List.range n).flatMap (fun i=>exO (M[i]?).join)=(M.take n).flatMap exO
 | 0,_=>by simp
 | n+1,h=>by
  have hlt:n<M.length:=by omega
  rw[List.range_succ,List.flatMap_append,List.flatMap_singleton,KY n (by omega),←List.take_append_getElem hlt,List.flatMap_append,List.flatMap_singleton,List.getElem?_eq_getElem hlt]
  rfl
theorem MB (w:Wr inl its S1)(a:JU its S1 D S)(hD:∀ k,k∈D↔dirB its k=true):((VV its).flatMap fun k=>exO (S.M[k-1]?).join).Perm (blks (S.pos/4096)):=by
 refine List.Perm.trans ?_ a.own
 have hlen:S.M.length=11+its.length:=a.len.trans w.len
 have e:=KY (M:=S.M) S.M.length (Nat.le_refl _)
 rw[List.take_length] at e
 rw[←e]
 have e2:(List.range S.M.length).flatMap (fun i=>exO (S.M[i]?).join)=((List.range S.M.length).filter fun i=>decide (i+1∈VV its)).flatMap fun i=>exO (S.M[i]?).join:=by
  generalize List.range S.M.length=R
  induction R with
  | nil=>rfl
  | cons i R ih=>
   rw[List.flatMap_cons,ih,List.filter_cons]
   by_cases h:i+1∈VV its
   ·rw[if_pos (decide_eq_true h),List.flatMap_cons]
   ·rw[if_neg (by simpa using h),Gd w a hD h];rfl
 rw[e2]
 have hp:(VV its).Perm (((List.range S.M.length).filter fun i=>decide (i+1∈VV its)).map (· + 1)):=by
  refine IH _ _ Fb ?_ fun k=>?_
  ·unfold List.Nodup
   rw[List.pairwise_map]
   exact (List.nodup_range.filter _).imp fun h e=>h (by omega)
  ·rw[List.mem_map]
   constructor
   ·intro hk
    have h1:=BE.1 hk
    exact⟨k-1,List.mem_filter.2 ⟨List.mem_range.2 (by omega),decide_eq_true (by rw[show k-1+1=k by omega];exact hk)⟩,by omega⟩
   ·rintro⟨i,hi,rfl⟩
    exact of_decide_eq_true (List.mem_filter.1 hi).2
 refine (hp.flatMap_right _).trans ?_
 rw[List.flatMap_map]
 exact .refl _
end
end
section
attribute [local irreducible] BR BS Db
structure IoR (inl:Bool) (its:List It) (S1 S:PS) (I:Bs) (nb c:Nat) (o:AA) (la:List (Bs×Bs)) (cl:List Nat):Prop where
 ino:InoOK I nb (rawL I c) c o.X o.C la cl
 l:o.l=xaOf la
 l0:o.l=[]
 mode:o.X.mode=modeAt S1.M c
 nd:∃ p,S.M[c-1]? = some (some p)∧o.X.links=p.links∧o.X.uid=p.uid∧o.X.gid=p.gid∧cl=exO (some p)
 dir:dirB its c=true→o.X.inl=false∧o.C=bsD S1.M its c∧o.E=(enD S1.M its c).map rdE
 item:∀ j it,c=12+j→its[j]? = some it→it.isD=false→o.C=it.data∧o.E=[]
theorem Hx {m k:Nat}(h:kindB m=k):kindL m=if k=32768 then 1 else if k=16384 then 2 else if k=8192 then 3 else if k=24576 then 4 else if k=4096 then 5 else if k=49152 then 6 else if k=40960 then 7 else 0:=by
 subst h;rfl
theorem Jn {m:Nat}:kindL m=2↔kindB m=16384:=by
 rw[Hx rfl]
 constructor
 ·intro h
  repeat' split at h
  all_goals first|assumption|omega
 ·intro h;rw[h];rfl
theorem MH (m:Nat):EG m=kindL m:=rfl
section
variable {inl:Bool} {its:List It} {S1 S:PS} {D:List Nat} {c:Nat}
set_option maxRecDepth 20000 in
theorem AFd (w:Wr inl its S1)(hio:A7 its)(hib:∀ it∈its,Y6 it)(hn:its.length≤2000)(a:JU its S1 D S)(hpb:S.pos≤120000000)(hD:∀ k,k∈D↔dirB its k=true)(cl:ClOK S)(hc:c∈VV its) :
  ∃ o la bl,IoR inl its S1 S (BS S) (GF S) c o la bl:=by
 have hc':=BE.1 hc
 obtain⟨p,hp⟩:=FK w hio hib hn a hpb hD hc'
 have hlen:S.M.length=11+its.length:=a.len.trans w.len
 obtain⟨i1,i2,i3⟩:=D9 S.M.length
 have e0:BH S=ipgOf S.M.length:=rfl
 have hraw:rawL (BS S) c=BR p:=by
  rw[Tu cl (by omega) (by omega),hp.at_];rfl
 have hvd:GF S=S.pos/4096+ipgOf S.M.length/16+2:=rfl
 have hvl:=cl.vd
 have hBx:bx S.B S.pos=S.B:=VA cl.B
 have hal:=a.al
 have hbig:=a.big
 by_cases hb:dirB its c=true
 ·obtain⟨st,q,b1,b2,b3,b4,b5,b6⟩:=hp.dir hb
  obtain⟨l1,l2,l3⟩:=Jp hio (by omega) (by omega) (by omega) S1.M (c:=c)
  have hk:kindB p.mode=16384:=by rw[b2];exact b1.mode
  have h:=Sv (p:=p) (I:=BS S) (nb:=GF S) (n:=c) (st:=st) (len:=(bsD S1.M its c).length/4096) hp.fin.b (by rw[b2];rfl) (by rw[b2];rfl) b6 (by rw[b2];show _<(bsD S1.M its c).length;omega) (by rw[b2];show (bsD S1.M its c).length≤_;omega) (by rw[b2];rfl) (by omega) (by omega) (by omega) (by omega) (.inl hk) (.inr (.inl (Jn.2 hk)))
  have hC:((BS S).drop (st*4096)).take p.size=bsD S1.M its c:=by
   have:p.size=(bsD S1.M its c).length:=by rw[b2];rfl
   rw[this,Ot cl b3 b4,←hBx]
   exact b5
  rw[hC] at h
  have hx:leL (extRoot ((bsD S1.M its c).length/4096) st) 20 4=st:=by
   obtain⟨x1,_⟩:=ES (len:=(bsD S1.M its c).length/4096) (st:=st) (by omega) (by omega)
   have:=x1.st
   rw[EQ (by omega),DQ] at this
   exact this
  refine⟨⟨_,_,[],(enD S1.M its c).map rdE⟩,_,_,⟨by rw[hraw];exact h,rfl,rfl,hp.mode,⟨p,hp.at_,rfl,rfl,rfl,?_⟩,fun _=>⟨?_,rfl,rfl⟩,?_⟩⟩
  ·show _=Nz p
   unfold Nz
   rw[if_pos (by rw[b2];rfl),b2]
   show _=(List.range ((bsD S1.M its c).length/4096)).map (leL (extRoot ((bsD S1.M its c).length/4096) st) 20 4 + ·)
   rw[hx]
  ·show decide (p.flags &&& 268435456≠0)=false
   have hfl:p.flags=786432:=by rw[b2];rfl
   rw[hfl];decide
  ·intro j it h1 h2 h3
   exfalso
   rcases Aj.1 hb with h|h|⟨j',x,e1,e2,e3⟩
   ·omega
   ·omega
   ·have:j'=j:=by omega
    subst this
    rw[h2] at e1
    rw[Option.some.inj e1] at h3
    rw[e2] at h3;cases h3
 ·obtain⟨j,rfl⟩:∃ j,c=12+j:=by
   rcases hc' with rfl|⟨h1,h2⟩
   ·exact absurd (Aj.2 (.inl rfl)) hb
   ·by_cases h11:c=11
    ·subst h11;exact absurd (Aj.2 (.inr (.inl rfl))) hb
    ·exact⟨c-12,by omega⟩
  have hj:its[j]? = some its[j]:=List.getElem?_eq_getElem (by omega)
  have hisD:its[j].isD=false:=by
   cases h:its[j].isD with
   | false=>rfl
   | true=>exact absurd (Aj.2 (.inr (.inr ⟨j,_,hj,h,rfl⟩))) hb
  obtain⟨he,hh⟩:=hp.item j _ rfl hj hisD
  have hi:=hio j _ hj
  have hdat:=hi.dat
  have hkd:kindB p.mode=its[j].kd:=by rw[he];rfl
  have hsz:p.size=szK its[j].kd its[j].f.size:=by rw[he];rfl
  have hxb:p.xbs=xinK inl its[j].kd its[j].f.size:=by rw[he];rfl
  have hhh:=hh.hold
  have ofItem:∀ {o:AA} {la:List (Bs×Bs)} {bl:List Nat},InoOK (BS S) (GF S) (BR p) (12+j) o.X o.C la bl→o.l=xaOf la→o.l=[]→o.X.mode=p.mode→o.X.links=p.links→o.X.uid=p.uid→o.X.gid=p.gid→bl=Nz p→o.C=its[j].data→o.E=[]→IoR inl its S1 S (BS S) (GF S) (12+j) o la bl:=by
   intro o la bl q1 q2 q3 q4 q5 q6 q7 q8 q9 q10
   refine⟨by rw[hraw];exact q1,q2,q3,q4.trans hp.mode,⟨p,hp.at_,q5,q6,q7,q8⟩,fun h=>absurd h hb,?_⟩
   intro j' it h1 h2 _
   have:j'=j:=by omega
   subst this
   rw[hj] at h2
   obtain rfl:=Option.some.inj h2
   exact⟨q9,q10⟩
  by_cases hin:inlK inl its[j].kd its[j].f.size=true
  ·rw[if_pos hin] at hhh
   have hin2:=hin
   unfold inlK at hin2
   simp only[Bool.and_eq_true,decide_eq_true_eq,beq_iff_eq] at hin2
   rw[if_pos hin2.1.2] at hdat
   have hsz2:p.size=its[j].f.size:=by rw[hsz];unfold szK;rw[if_pos hin2.1.2]
   have hx2:p.xbs=I0 [Ep (.slice none 0 0) p.size]:=by rw[hxb,hsz2];unfold xinK;rw[if_pos hin]
   have hl2:=SQ cl
   have h:=AAs (p:=p) (I:=BS S) (nb:=GF S) (n:=12+j) hp.fin.b hhh.1 (by rw[hhh.2.1];omega) hx2 (by omega) hhh.2.2 (by rw[hkd];exact hin2.1.2) (by omega)
   refine⟨⟨_,_,[],[]⟩,_,_,ofItem h ?_ rfl rfl rfl rfl rfl ?_ hhh.2.1 rfl⟩
   ·show []=xaOf [(sysd,p.dbs.drop 60)]
    unfold xaOf
    rw[List.filter_cons,if_neg (by simp)];rfl
   ·unfold Nz;rw[if_neg (by rw[hhh.1];decide)]
  ·rw[if_neg hin] at hhh
   have hx0:p.xbs=[]:=by rw[hxb];unfold xinK;rw[if_neg hin]
   by_cases h0:its[j].data=[]
   ·rw[if_pos h0] at hhh
    have hs0:p.size=0:=by
     rw[hsz];unfold szK
     split
     ·rename_i h;rw[if_pos h,h0] at hdat;exact hdat
     ·rfl
    have hkk:kindL p.mode=1∨kindL p.mode=3∨kindL p.mode=4∨kindL p.mode=5∨kindL p.mode=6:=by
     have hko:kindOk its[j].kd:=hi.file.kind
     unfold kindOk at hko
     rw[Hx hkd]
     rcases hko with h|h|h|h|h|h
     ·rw[h];exact .inl rfl
     ·have:its[j].isD=true:=decide_eq_true h
      rw[hisD] at this;cases this
     ·rw[h];exact .inr (.inr (.inr (.inl rfl)))
     ·rw[h];exact .inr (.inr (.inr (.inr rfl)))
     ·rw[h];exact .inr (.inl rfl)
     ·rw[h];exact .inr (.inr (.inl rfl))
    obtain⟨X',h,hX⟩:=Ub (p:=p) (I:=BS S) (nb:=GF S) (n:=12+j) hp.fin.b hhh.1 hhh.2.1 hx0 hs0 hhh.2.2 hkk
    refine⟨⟨X',[],[],[]⟩,_,_,ofItem h rfl rfl (by show X'.mode=_;rw[hX];rfl) (by show X'.links=_;rw[hX];rfl) (by show X'.uid=_;rw[hX];rfl) (by show X'.gid=_;rw[hX];rfl) ?_ h0.symm rfl⟩
    unfold Nz;rw[if_neg (by rw[hhh.1];decide)]
   ·rw[if_neg h0] at hhh
    obtain⟨st,c1,c2,c3,c4,c5,c6⟩:=hhh
    have hreg:its[j].kd=32768:=by
     rcases Decidable.em (its[j].kd=32768) with h|h
     ·exact h
     ·rw[if_neg h] at hdat;exact absurd hdat h0
    rw[if_pos hreg] at hdat
    have hsz2:p.size=its[j].data.length:=by rw[hsz];unfold szK;rw[if_pos hreg];exact hdat
    have hpos:0<its[j].data.length:=List.length_pos_iff.2 h0
    have hst:st+p.bcnt≤S.pos/4096:=by omega
    have h:=Sv (p:=p) (I:=BS S) (nb:=GF S) (n:=12+j) (st:=st) (len:=p.bcnt) hp.fin.b c1 c2 hx0 (by omega) (by omega) rfl (by omega) (by omega) (by omega) (by omega) (.inr (.inl (by rw[hkd];exact hreg))) (.inl (by rw[Hx hkd,hreg];rfl))
    have hC:((BS S).drop (st*4096)).take p.size=its[j].data:=by
     rw[hsz2,Ot cl c4 (by omega),←hBx]
     exact c6
    rw[hC] at h
    have hx:leL p.dbs 20 4=st:=by
     obtain⟨x1,_⟩:=ES (len:=p.bcnt) (st:=st) (by omega) (by omega)
     have:=x1.st
     rw[EQ (by omega),DQ] at this
     rw[c2]
     exact this
    refine⟨⟨_,_,[],[]⟩,_,_,ofItem h rfl rfl rfl rfl rfl rfl ?_ rfl rfl⟩
    unfold Nz;rw[if_pos c1,hx]
end
end
section
attribute [local irreducible] BR BS Db
def CR (M:List (Option PN))(its:List It)(c:Nat):List EN:=if dirB its c=true then (esOf its c).map fun e=>(e.1,e.2,EG (modeAt M e.2)) else []
theorem LA (c:Nat)(P:Nat→Bool):∀ (l:List It) (k:Nat),(∀ j it,l[j]? = some it→P (k+j)=it.isD)→((CJ c k l).filter fun e=>P e.2).length=(l.filter fun it=>decide (it.dir=c)&&it.isD).length
 | [],_,_=>rfl
 | a::l,k,h=>by
  have h0:P k=a.isD:=h 0 a rfl
  have ih:=LA c P l (k+1) fun j it hj=>by
   rw[show k+1+j=k+(j+1) by omega]
   exact h (j+1) it (by rw[List.getElem?_cons_succ];exact hj)
  rw[CJ,List.filter_cons (p:=fun it:It=>decide (it.dir=c)&&it.isD)]
  by_cases hc:a.dir=c
  ·rw[if_pos hc,List.filter_cons]
   have hpk:P ((a.nm,k):Bs×Nat).2=a.isD:=h0
   rw[hpk]
   cases ha:a.isD with
   | true=>simp[hc,ih]
   | false=>simp[ih]
  ·rw[if_neg hc,ih]
   simp[hc]
section
variable {inl:Bool} {its:List It} {S1 S:PS} {D:List Nat} {c:Nat}
theorem RZ (hio:A7 its)(c:Nat):((esOf its c).filter fun e=>dirB its e.2).length=(if c=2 then 1 else 0)+dirsOf its c:=by
 unfold esOf kidsOf
 rw[List.filter_append,List.length_append,LA c (dirB its) its 12 fun j it hj=>?_]
 ·have e:dirsOf its c=(its.filter fun it=>decide (it.dir=c)&&it.isD).length:=rfl
  rw[←e]
  by_cases h:c=2
  ·rw[if_pos h,if_pos h]
   have:dirB its 11=true:=Aj.2 (.inr (.inl rfl))
   simp[this]
  ·rw[if_neg h,if_neg h];rfl
 ·cases h:it.isD with
  | true=>exact Aj.2 (.inr (.inr ⟨j,it,hj,h,rfl⟩))
  | false=>
   cases hb:dirB its (12+j) with
   | false=>rfl
   | true=>
    rcases Aj.1 hb with h1|h1|⟨j',x,e1,e2,e3⟩
    ·omega
    ·omega
    ·have:j'=j:=by omega
     subst this
     rw[hj] at e1
     rw[←Option.some.inj e1,h] at e2;cases e2
theorem Dt (w:Wr inl its S1){k:Nat}(hk:k∈VV its):kindL (modeAt S1.M k)=2↔dirB its k=true:=by
 obtain⟨p,hp⟩:=Ji w (BE.1 hk)
 have e:modeAt S1.M k=p.mode:=by unfold modeAt;rw[hp]
 rw[e,Jn]
 exact PR w (BE.1 hk) hp
theorem JY (hio:A7 its)(hc:c∈VV its)(h2:c≠2):dirB its (parOf its c)=true∧(∃ nm,(nm,c)∈esOf its (parOf its c)):=by
 rcases BE.1 hc with h|⟨h1,h3⟩
 ·exact absurd h h2
 ·by_cases h11:c=11
  ·subst h11
   exact⟨Aj.2 (.inl rfl),lostN,Co.2 (.inl ⟨rfl,rfl⟩)⟩
  ·obtain⟨j,rfl⟩:∃ j,c=12+j:=⟨c-12,by omega⟩
   have hj:its[j]? = some its[j]:=List.getElem?_eq_getElem (by omega)
   rw[HY hj]
   refine⟨?_,its[j].nm,Co.2 (.inr ⟨j,_,hj,rfl,rfl⟩)⟩
   obtain⟨st,hw,_⟩:=(hio j _ hj).way
   rcases hw.cases with⟨h4,_⟩|⟨j',x,e1,e2,e3⟩
   ·exact Aj.2 (.inl h4)
   ·have hl:=(List.getElem?_eq_some_iff.1 e1).1
    rw[List.length_take] at hl
    rw[List.getElem?_take,if_pos (by omega)] at e1
    exact Aj.2 (.inr (.inr ⟨j',x,e1,e2,e3⟩))
theorem TD (hio:A7 its){e:Bs×Nat}(he:e∈esOf its c):(47:UInt8)∉e.1∧e.1≠[46]∧e.1≠[46,46]:=by
 rcases Co.1 he with⟨h1,h2⟩|⟨j,it,h1,h2,h3⟩
 ·subst h2;decide
 ·subst h3
  exact⟨(hio j it h1).ns,(hio j it h1).nd⟩
theorem Ui (hio:A7 its)(M:List (Option PN)):(((VV its).flatMap (CR M its)).map (·.2.1)).Nodup∧∀ k,k∈VV its→k≠2→k∈((VV its).flatMap (CR M its)).map (·.2.1):=by
 constructor
 ·rw[List.map_flatMap]
  unfold List.Nodup
  rw[List.pairwise_flatMap]
  constructor
  ·intro c hc
   unfold CR
   split
   ·rw[List.map_map,List.pairwise_map]
    exact (IB c).imp fun h e=>by
     have:(_:Nat)=_:=e
     simp only[Function.comp] at this
     omega
   ·exact .nil
  ·refine List.Pairwise.imp ?_ Fb
   intro a b hab x hx y hy hxy
   subst hxy
   have key:∀ c,x∈(CR M its c).map (·.2.1)→parOf its x=c:=fun c h=>by
    unfold CR at h
    split at h
    ·rw[List.map_map] at h
     obtain⟨e,he,rfl⟩:=List.mem_map.1 h
     exact (DT hio he).2.1
    ·cases h
   exact hab ((key a hx).symm.trans (key b hy))
 ·intro k hk h2
  obtain⟨p1,nm,p2⟩:=JY hio hk h2
  obtain⟨a1,a2,a3,a4,a5⟩:=DT hio p2
  rw[List.mem_map]
  refine⟨(nm,k,EG (modeAt M k)),List.mem_flatMap.2 ⟨parOf its k,?_,?_⟩,rfl⟩
  ·rw[BE]
   rcases Aj.1 p1 with h|h|⟨j,it,h1,h3,h4⟩
   ·exact .inl h
   ·exact .inr (by omega)
   ·have:=(List.getElem?_eq_some_iff.1 h1).1
    exact .inr (by omega)
  ·unfold CR
   rw[if_pos p1]
   exact List.mem_map.2 ⟨_,p2,rfl⟩
set_option maxRecDepth 20000 in
theorem Yj (w:Wr inl its S1)(hio:A7 its)(hib:∀ it∈its,Y6 it)(hn:its.length≤2000)(a:JU its S1 D S)(hpb:S.pos≤120000000)(hD:∀ k,k∈D↔dirB its k=true)(cl:ClOK S)(hgrp:(grpL (BS S) (BH S)++blks (S.pos/4096)).Perm (List.range (GF S))) :
  ∃ io la bl,(∀ c∈VV its,IoR inl its S1 S (BS S) (GF S) c (io c) (la c) (bl c))∧GV (BS S) (GF S) (BH S) (VV its) io la bl (parOf its) (CR S1.M its):=by
 have hx:∀ c,∃ x:AA×List (Bs×Bs)×List Nat,c∈VV its→IoR inl its S1 S (BS S) (GF S) c x.1 x.2.1 x.2.2:=fun c=>by
  by_cases hc:c∈VV its
  ·obtain⟨o,la,bl,h⟩:=AFd w hio hib hn a hpb hD cl hc
   exact⟨(o,la,bl),fun _=>h⟩
  ·exact⟨(⟨If,[],[],[]⟩,[],[]),fun h=>absurd h hc⟩
 obtain⟨f,hf⟩:=Classical.axiomOfChoice hx
 have hlen:S.M.length=11+its.length:=a.len.trans w.len
 obtain⟨i1,i2,i3⟩:=D9 S.M.length
 have e0:BH S=ipgOf S.M.length:=rfl
 have h2V:2∈VV its:=BE.2 (.inl rfl)
 have hk2:∀ c∈VV its,(kindL (f c).1.X.mode=2↔dirB its c=true):=fun c hc=>by
  rw[(hf c hc).mode];exact Dt w hc
 have hd2:dirB its 2=true:=Aj.2 (.inl rfl)
 have hrest:∀ c∈VV its,dirB its c=true→(enD S1.M its c).map rdE=([46],c,2)::([46,46],parOf its c,2)::CR S1.M its c:=fun c hc hb=>by
  have hp2:dirB its (parOf its c)=true∧parOf its c∈VV its:=by
   by_cases h2:c=2
   ·subst h2;exact⟨hd2,h2V⟩
   ·have h1:=(JY hio hc h2).1
    refine⟨h1,BE.2 ?_⟩
    rcases Aj.1 h1 with h|h|⟨j,it,h3,h4,h5⟩
    ·exact .inl h
    ·exact .inr (by omega)
    ·have:=(List.getElem?_eq_some_iff.1 h3).1
     exact .inr (by omega)
  rw[IX hio,List.map_cons,List.map_cons,List.map_map]
  unfold CR
  rw[if_pos hb,MH,MH,(Dt w hc).2 hb,(Dt w hp2.2).2 hp2.1]
  rfl
 have hkid:∀ c∈VV its,∀ e∈CR S1.M its c,dirB its c=true∧∃ x∈esOf its c,e=(x.1,x.2,EG (modeAt S1.M x.2)):=fun c _ e he=>by
  unfold CR at he
  split at he
  ·rename_i hb
   obtain⟨x,hx,rfl⟩:=List.mem_map.1 he
   exact⟨hb,x,hx,rfl⟩
  ·cases he
 have hcl:((VV its).flatMap fun c=>(f c).2.2).Perm (blks (S.pos/4096)):=by
  refine List.Perm.trans ?_ (MB w a hD)
  have:(VV its).flatMap (fun c=>(f c).2.2)=(VV its).flatMap fun k=>exO (S.M[k-1]?).join:=by
   have key:∀ V:List Nat,(∀ c∈V,c∈VV its)→V.flatMap (fun c=>(f c).2.2)=V.flatMap fun k=>exO (S.M[k-1]?).join:=by
    intro V
    induction V with
    | nil=>intro _;rfl
    | cons c V ih=>
     intro h
     rw[List.flatMap_cons,List.flatMap_cons,ih fun k hk=>h k (List.mem_cons_of_mem _ hk)]
     obtain⟨p,h1,_,_,_,h2⟩:=(hf c (h c (List.mem_cons_self ..))).nd
     rw[h1,h2];rfl
   exact key _ fun _ h=>h
  rw[this]
 have hall:=(hcl.append_left (grpL (BS S) (BH S))).trans hgrp
 refine⟨fun c=>(f c).1,fun c=>(f c).2.1,fun c=>(f c).2.2,hf,?_⟩
 refine⟨Fb,h2V,?_,fun c hc=>(hf c hc).ino,fun c hc=>(hf c hc).l,?_,?_,⟨(hk2 2 h2V).2 hd2,rfl⟩,?_,?_,?_,?_,?_,hall.nodup_iff.2 List.nodup_range,fun n hn=>List.mem_range.1 (hall.mem_iff.1 hn),?_,?_⟩
 ·intro c hc
  have:=BE.1 hc
  omega
 ·intro c hc hk
  have hb:¬dirB its c=true:=fun h=>hk ((hk2 c hc).2 h)
  refine⟨?_,by unfold CR;rw[if_neg hb]⟩
  obtain⟨j,rfl⟩:∃ j,c=12+j:=by
   rcases BE.1 hc with rfl|⟨h1,h2⟩
   ·exact absurd hd2 hb
   ·by_cases h11:c=11
    ·subst h11;exact absurd (Aj.2 (.inr (.inl rfl))) hb
    ·exact⟨c-12,by omega⟩
  have:=BE.1 hc
  have hj:its[j]? = some its[j]:=List.getElem?_eq_getElem (by omega)
  have hisD:its[j].isD=false:=by
   cases h:its[j].isD with
   | false=>rfl
   | true=>exact absurd (Aj.2 (.inr (.inr ⟨j,_,hj,h,rfl⟩))) hb
  exact ((hf _ hc).item j _ rfl hj hisD).2
 ·intro c hc hk
  have hb:=(hk2 c hc).1 hk
  obtain⟨g1,g2,g3⟩:=(hf c hc).dir hb
  have hcV:=BE.1 hc
  obtain⟨d1,d2,d3,d4⟩:=Oo (VX hio (by omega) (by omega) (by omega) S1.M (c:=c))
  have hel:=Hq its c
  rw[SU hio] at d4
  refine⟨g1,by rw[g2,g3];exact d1,?_,?_,by rw[g3];exact hrest c hc hb⟩
  ·rw[g2]
   show (Bg (enD S1.M its c)).length<10000000
   omega
  ·rw[g3,hrest c hc hb]
   have hr:CR S1.M its c=(esOf its c).map fun e=>(e.1,e.2,EG (modeAt S1.M e.2)):=by unfold CR;rw[if_pos hb]
   have hnd:((([46],c,2)::([46,46],parOf its c,2)::CR S1.M its c:List EN).map (·.1)).Nodup:=by
    rw[hr,List.map_cons,List.map_cons,List.map_map,List.nodup_cons,List.nodup_cons]
    have hm:∀ nm,nm∈(esOf its c).map ((fun e:EN=>e.1)∘fun e=>(e.1,e.2,EG (modeAt S1.M e.2)))→∃ e∈esOf its c,nm=e.1:=fun nm h=>by
     obtain⟨e,he,h⟩:=List.mem_map.1 h
     exact⟨e,he,h.symm⟩
    refine⟨?_,?_,C1 hio c⟩
    ·rw[List.mem_cons]
     rintro (h|h)
     ·cases h
     ·obtain⟨e,he,h⟩:=hm _ h
      exact (TD hio he).2.1 h.symm
    ·intro h
     obtain⟨e,he,h⟩:=hm _ h
     exact (TD hio he).2.2 h.symm
   refine⟨?_,?_,?_⟩
   ·intro i j p q h1 h2 h3 he
    have hi:((([46],c,2)::([46,46],parOf its c,2)::CR S1.M its c:List EN).map (·.1))[i]? = some p.1:=by rw[List.getElem?_map,h1];rfl
    have hj:((([46],c,2)::([46,46],parOf its c,2)::CR S1.M its c:List EN).map (·.1))[j]? = some q.1:=by rw[List.getElem?_map,h2];rfl
    unfold List.Nodup at hnd
    rw[List.pairwise_iff_getElem] at hnd
    obtain⟨hil,hie⟩:=List.getElem?_eq_some_iff.1 hi
    obtain⟨hjl,hje⟩:=List.getElem?_eq_some_iff.1 hj
    exact hnd j i hjl hil h3 (by rw[hje,hie,he])
   ·intro p hp
    rcases List.mem_cons.1 hp with h|h
    ·subst h;show (47:UInt8)∉[46];decide
    ·rcases List.mem_cons.1 h with h|h
     ·subst h;show (47:UInt8)∉[46,46];decide
     ·rw[hr] at h
      obtain⟨e,he,rfl⟩:=List.mem_map.1 h
      exact (TD hio he).1
   ·intro p hp
    rcases List.mem_cons.1 hp with h|h
    ·subst h;show 1<1000;omega
    ·rcases List.mem_cons.1 h with h|h
     ·subst h;show 2<1000;omega
     ·rw[hr] at h
      obtain⟨e,he,rfl⟩:=List.mem_map.1 h
      have:=(W2 hio he).2
      show e.1.length<1000
      omega
 ·intro c hc e he
  obtain⟨hb,x,hx,rfl⟩:=hkid c hc e he
  obtain⟨a1,a2,a3,a4,a5⟩:=DT hio hx
  have hxV:x.2∈VV its:=BE.2 (.inr ⟨a4,a3⟩)
  exact⟨hxV,a4,by rw[(hf x.2 hxV).mode];exact MH _⟩
 ·intro c hc e he _
  obtain⟨hb,x,hx,rfl⟩:=hkid c hc e he
  exact (DT hio hx).2.1
 ·intro c hc
  refine List.Pairwise.filter _ ?_
  unfold CR
  split
  ·rw[List.pairwise_map]
   exact (IB c).imp fun h=>Nat.ne_of_lt h
  ·exact .nil
 ·intro c hc h2
  obtain⟨p1,nm,p2⟩:=JY hio hc h2
  obtain⟨a1,a2,a3,a4,a5⟩:=DT hio p2
  refine⟨parOf its c,BE.2 ?_,⟨(nm,c,EG (modeAt S1.M c)),?_,rfl⟩,fun _=>a1⟩
  ·rcases Aj.1 p1 with h|h|⟨j,it,h3,h4,h5⟩
   ·exact .inl h
   ·exact .inr (by omega)
   ·have:=(List.getElem?_eq_some_iff.1 h3).1
    exact .inr (by omega)
  ·unfold CR
   rw[if_pos p1]
   exact List.mem_map.2 ⟨_,p2,rfl⟩
 ·intro c hc
  obtain⟨p,n1,n2,_⟩:=(hf c hc).nd
  rw[n2]
  by_cases hb:dirB its c=true
  ·rw[if_pos ((hk2 c hc).2 hb)]
   have hfl:((CR S1.M its c).filter fun e=>decide (e.2.2=2)).length=((esOf its c).filter fun e=>dirB its e.2).length:=by
    unfold CR
    rw[if_pos hb,List.filter_map,List.length_map]
    congr 1
    apply List.filter_congr
    intro e he
    obtain⟨a1,a2,a3,a4,a5⟩:=DT hio he
    have:=Dt w (k:=e.2) (BE.2 (.inr ⟨a4,a3⟩))
    show decide (EG (modeAt S1.M e.2)=2)=dirB its e.2
    rw[MH]
    cases hd:dirB its e.2 with
    | true=>exact decide_eq_true (this.2 hd)
    | false=>exact decide_eq_false fun h=>by rw[this.1 h] at hd;cases hd
   rw[hfl,RZ hio]
   obtain⟨q,st,b1,b2,_⟩:=a.in_ c ((hD c).2 hb)
   rw[n1] at b2
   have hpl:p.links=q.links:=by rw[Option.some.inj (Option.some.inj b2)];rfl
   rw[hpl]
   have hat:=b1.at_
   rcases Aj.1 hb with rfl|rfl|⟨j,it,h1,h3,rfl⟩
   ·have:=Option.some.inj (Option.some.inj (hat.symm.trans w.root))
    rw[this]
    show 3+dirsOf its 2=1+dirsOf its 2+2
    omega
   ·have:=Option.some.inj (Option.some.inj (hat.symm.trans w.lf))
    rw[this]
    show 2+dirsOf its 11=0+dirsOf its 11+2
    omega
   ·obtain⟨p',hp',he,_⟩:=w.node j it h1
    rw[show 12+j-1=11+j by omega] at hat
    have:=Option.some.inj (Option.some.inj (hat.symm.trans hp'))
    rw[this,he]
    show 1+(if it.isD=true then 1+dirsOf its (12+j) else 0)=(if 12+j=2 then 1 else 0)+dirsOf its (12+j)+2
    rw[if_pos h3,if_neg (by omega)]
    omega
  ·rw[if_neg fun h=>hb ((hk2 c hc).1 h)]
   obtain⟨r1,r2⟩:=Ui hio S1.M
   have hc2:c≠2:=fun h=>hb (by rw[h];exact hd2)
   rw[r1.count,if_pos (r2 c hc hc2)]
   obtain⟨p',hp'⟩:=FK w hio hib hn a hpb hD (BE.1 hc)
   have:=hp'.at_
   rw[n1] at this
   have:=Option.some.inj (Option.some.inj this)
   subst this
   obtain⟨j,rfl⟩:∃ j,c=12+j:=by
    rcases BE.1 hc with rfl|⟨h1,h2⟩
    ·exact absurd hd2 hb
    ·by_cases h11:c=11
     ·subst h11;exact absurd (Aj.2 (.inr (.inl rfl))) hb
     ·exact⟨c-12,by omega⟩
   have:=BE.1 hc
   have hj:its[j]? = some its[j]:=List.getElem?_eq_getElem (by omega)
   have hisD:its[j].isD=false:=by
    cases h:its[j].isD with
    | false=>rfl
    | true=>exact absurd (Aj.2 (.inr (.inr ⟨j,_,hj,h,rfl⟩))) hb
   rw[(hp'.item j _ rfl hj hisD).1]
   show 1+(if its[j].isD=true then 1+dirsOf its (12+j) else 0)=1
   rw[hisD];simp
 ·unfold VV
  simp
  omega
 ·have h1:=WA (its:=its) (VV its) Fb
  have h2:((VV its).map fun c=>(CR S1.M its c).length).sum≤((VV its).map fun c=>(esOf its c).length).sum:=by
   generalize VV its=V
   induction V with
   | nil=>exact Nat.le_refl _
   | cons c V ih=>
    rw[List.map_cons,List.sum_cons,List.map_cons,List.sum_cons]
    have:(CR S1.M its c).length≤(esOf its c).length:=by
     unfold CR
     split
     ·rw[List.length_map];exact Nat.le_refl _
     ·exact Nat.zero_le _
    omega
  omega
end
end
section
attribute [local irreducible] BR BS Db
theorem Sa {l:List Bool}{c:Nat}(hc:c<l.length):∀ n,n<l.length→((usd n l).getD c false=true↔1≤c∧c≤n∨l.getD c false=true)
 | 0,_=>by
  show l.getD c false=true↔_
  constructor
  ·exact .inr
  ·rintro (h|h)
   ·omega
   ·exact h
 | n+1,hn=>by
  rw[usd,DV (by rw[J0];exact hn)]
  by_cases h:n+1=c
  ·rw[if_pos h];simp;omega
  ·rw[if_neg h,Sa hc n (by omega)]
   constructor
   ·rintro (h1|h1)
    ·exact .inl (by omega)
    ·exact .inr h1
   ·rintro (h1|h1)
    ·exact .inl (by omega)
    ·exact .inr h1
theorem SP {c:Nat}:∀ (os:List AA) (U:List Bool),(∀ o∈os,o.X.num<U.length)→((mkU U os).getD c false=true↔(∃ o∈os,o.X.num=c)∨U.getD c false=true)
 | [],U,_=>by show U.getD c false=true↔_;simp
 | o::os,U,h=>by
  show (mkU (U.set o.X.num true) os).getD c false=true↔_
  rw[SP os (U.set o.X.num true) (fun x hx=>by rw[List.length_set];exact h x (List.mem_cons_of_mem _ hx)),DV (h o (List.mem_cons_self ..))]
  by_cases hc:o.X.num=c
  ·rw[if_pos hc]
   exact⟨fun _=>.inl ⟨o,List.mem_cons_self ..,hc⟩,fun _=>.inr rfl⟩
  ·rw[if_neg hc]
   constructor
   ·rintro (⟨x,hx,h1⟩|h1)
    ·exact .inl ⟨x,List.mem_cons_of_mem _ hx,h1⟩
    ·exact .inr h1
   ·rintro (⟨x,hx,h1⟩|h1)
    ·rcases List.mem_cons.1 hx with h2|h2
     ·subst h2;exact absurd h1 hc
     ·exact .inl ⟨x,h2,h1⟩
    ·exact .inr h1
theorem Vg (f:Nat→Bool):∀ n,Dc f n=cntN f n
 | 0=>rfl
 | n+1=>by
  rw[Dc,Df,Vg f n]
  cases f n<;>simp
theorem OI (f:Nat→Bool):∀ n,cntN f n+cntN (fun i=>!f i) n=n
 | 0=>rfl
 | n+1=>by
  have:=OI f n
  rw[Df,Df]
  cases f n<;>simp<;>omega
theorem Tv (g:Nat→Bool)(n:Nat):∀ m,n≤m→cntN (fun i=>decide (i<n)&&g i) m=cntN g n
 | 0,h=>by
  have:n=0:=by omega
  subst this;rfl
 | m+1,h=>by
  rw[Df]
  by_cases hn:n=m+1
  ·subst hn
   rw[Df]
   have:cntN (fun i=>decide (i<m+1)&&g i) m=cntN g m:=by
    unfold cntN
    congr 1
    apply List.filter_congr
    intro i hi
    have:=List.mem_range.1 hi
    have:i<m+1:=by omega
    simp[this]
   rw[this]
   simp
  ·rw[Tv g n m (by omega)]
   have:¬m<n:=by omega
   simp[this]
theorem Py {f g:Nat→Bool}{n:Nat}(h:∀ i,i<n→f i=g i):cntN f n=cntN g n:=by
 unfold cntN
 congr 1
 exact List.filter_congr fun i hi=>h i (List.mem_range.1 hi)
theorem Lz {f:Nat→Bool}{n:Nat}(h:∀ i,i<n→f i=false):cntN f n=0:=by
 unfold cntN
 rw[List.length_eq_zero_iff,List.filter_eq_nil_iff]
 intro i hi
 rw[h i (List.mem_range.1 hi)]
 decide
theorem Wy {S:PS}(c:ClOK S):(grpL (BS S) (BH S)++blks (S.pos/4096)).Perm (List.range (GF S)):=by
 obtain⟨g0,g1,g2⟩:=RX c
 have hb:=c.big
 obtain⟨i1,_,_⟩:=D9 S.M.length
 have e0:BH S=ipgOf S.M.length:=rfl
 have e1:E7 S=S.pos/4096:=rfl
 have e2:GF S=S.pos/4096+ipgOf S.M.length/16+2:=rfl
 unfold grpL
 unfold itL at g0
 rw[g0,g1,g2]
 have hr:List.range (GF S)=[0,1]++blks (S.pos/4096)++(List.range (BH S/16)).map (E7 S + ·)++[E7 S+BH S/16,E7 S+BH S/16+1]:=by
  have h1:List.range (GF S)=[0,1]++blks (GF S):=by
   unfold blks
   have:GF S=2+(GF S-2):=by omega
   rw[this,List.range_add]
   congr 1
   rw[show 2+(GF S-2)-2=GF S-2 by omega]
   apply List.map_congr_left
   intro i _
   omega
  rw[h1,Kd (a:=S.pos/4096) (b:=GF S) (by omega) (by omega)]
  have h2:GF S-S.pos/4096=BH S/16+2:=by omega
  rw[h2,List.range_add,List.map_append,List.map_map]
  simp only[List.append_assoc]
  congr 3
 rw[hr]
 simp only[List.append_assoc]
 refine List.Perm.append_left _ ?_
 refine List.perm_append_comm.trans ((List.perm_append_comm.append_right _).trans ?_)
 rw[List.append_assoc]
section
variable {inl:Bool} {its:List It} {S1 S:PS} {D:List Nat}
set_option maxRecDepth 20000 in
theorem X4 (w:Wr inl its S1)(hio:A7 its)(hib:∀ it∈its,Y6 it)(hn:its.length≤2000)(a:JU its S1 D S)(hpb:S.pos≤120000000)(hD:∀ k,k∈D↔dirB its k=true)(cl:ClOK S) :
  ∃ (io:Nat→AA) (la:Nat→List (Bs×Bs)) (bl:Nat→List Nat) (R:List Nat) (T:TS) (k:Nat) (o0 o':Bs),(∀ c∈VV its,IoR inl its S1 S (BS S) (GF S) c (io c) (la c) (bl c))∧(2::R).Perm (VV its)∧PH (BS S) (GF S) (BH S) o0 o' T ((2::R).map io) k:=by
 have hgrp:=Wy cl
 obtain⟨io,la,bl,hf,t⟩:=Yj w hio hib hn a hpb hD cl hgrp
 have hlen:S.M.length=11+its.length:=a.len.trans w.len
 obtain⟨i1,i2,i3⟩:=D9 S.M.length
 have e0:BH S=ipgOf S.M.length:=rfl
 have e1:E7 S=S.pos/4096:=rfl
 have e2:GF S=S.pos/4096+ipgOf S.M.length/16+2:=rfl
 have hvl:=cl.vd
 have hal:=cl.al
 have hbig:=cl.big
 have hil:=SQ cl
 obtain⟨t0,t1,t2⟩:=RX cl
 have hit:itL (BS S)*4096+BH S*256≤(BS S).length:=by rw[t0,hil];omega
 obtain⟨R,T,k,hp,wk⟩:=Up t hit
 refine⟨io,la,bl,R,T,k,Pq (grpL (BS S) (BH S)) (List.replicate (GF S) 0),Pq (grpL (BS S) (BH S)++(2::R).flatMap bl) (List.replicate (GF S) 0),hf,hp,?_⟩
 have hfi:fiS S=cntN (fun i=>!A8 (OJ S) i) (BH S):=by
  have h1:=OI (A8 (OJ S)) (BH S)
  rw[←Vg] at h1
  show BH S-Dc (A8 (OJ S)) (BH S)=_
  omega
 have hfl:fiS S≤BH S:=Nat.sub_le _ _
 have hinc:IY S.inl=578∨IY S.inl=33346:=by unfold IY;split<;>simp
 obtain⟨sb,s12,s344,s16⟩:=AGu (ipg:=BH S) (vd:=GF S) (fi:=fiS S) (inc:=IY S.inl) (by omega) (by omega) (by omega) hinc
 have hsb:=AC2 cl
 rw[←hsb] at sb s12 s344 s16
 have hgn:∀ n∈grpL (BS S) (BH S),n<GF S:=fun n hn=>List.mem_range.1 (hgrp.mem_iff.1 (List.mem_append_left _ hn))
 have hgd:(grpL (BS S) (BH S)).Nodup:=(List.nodup_append.1 (hgrp.nodup_iff.2 List.nodup_range)).1
 refine⟨hil,by omega,by omega,by omega,by omega,by omega,sb,?_,wk,?_,?_⟩
 ·refine NV _ _ hgd fun n hn=>?_
  have:=hgn n hn
  simp[this]
 ·intro o ho
  obtain⟨c,hc,rfl⟩:=List.mem_map.1 ho
  have hcV:=hp.mem_iff.1 hc
  obtain⟨m1,m2⟩:=EU (t.ino c hcV)
  obtain⟨r1,r2⟩:=t.rng c hcV
  exact⟨by rw[m2];exact r1,by rw[m2];exact r2,m1⟩
 ·
  have hnum:∀ c∈VV its,(io c).X.num=c:=fun c hc=>(EU (t.ino c hc)).2
  have hU:∀ i,i<BH S→(mkU (usd 10 (List.replicate (BH S+1) false)) ((2::R).map io)).getD (i+1) false=A8 (OJ S) i:=fun i hi=>by
   have hj:(OJ S)[i]?.join.isSome=true↔i+1∈VV its:=by
    have e:(OJ S)[i]? = (S.M[i]?).map (Option.map FY):=List.getElem?_map ..
    rw[e]
    constructor
    ·intro h
     rcases Decidable.em (i+1∈VV its) with h1|h1
     ·exact h1
     ·have h2:=Gd w a hD h1
      cases hm:S.M[i]? with
      | none=>rw[hm] at h;cases h
      | some o=>rw[hm] at h h2;have h2:o=none:=h2;subst h2;cases h
    ·intro h
     obtain⟨p,hp'⟩:=FK w hio hib hn a hpb hD (BE.1 h)
     have:=hp'.at_
     rw[Nat.add_sub_cancel] at this
     rw[this];rfl
   have hl:∀ o∈(2::R).map io,o.X.num<(usd 10 (List.replicate (BH S+1) false)).length:=fun o ho=>by
    obtain⟨c,hc,rfl⟩:=List.mem_map.1 ho
    have hcV:=hp.mem_iff.1 hc
    rw[hnum c hcV,J0,List.length_replicate]
    have:=(t.rng c hcV).2
    omega
   have h1:=SP (c:=i+1) ((2::R).map io) (usd 10 (List.replicate (BH S+1) false)) hl
   have h2:=Sa (l:=List.replicate (BH S+1) false) (c:=i+1) (by rw[List.length_replicate];omega) 10 (by rw[List.length_replicate];omega)
   have h3:(List.replicate (BH S+1) false).getD (i+1) false=false:=by
    rw[List.getD_eq_getElem?_getD,List.getElem?_replicate]
    split<;>rfl
   have h4:(∃ o∈(2::R).map io,o.X.num=i+1)↔i+1∈VV its:=by
    constructor
    ·rintro⟨o,ho,h⟩
     obtain⟨c,hc,rfl⟩:=List.mem_map.1 ho
     have hcV:=hp.mem_iff.1 hc
     rw[hnum c hcV] at h
     rw[←h];exact hcV
    ·intro h
     exact⟨io (i+1),List.mem_map.2 ⟨i+1,hp.mem_iff.2 h,rfl⟩,hnum _ h⟩
   have h5:(A8 (OJ S) i=true)↔i<10∨i+1∈VV its:=by
    unfold A8
    rw[Bool.or_eq_true,decide_eq_true_eq,hj]
   rw[h4,h2,h3] at h1
   cases hu:A8 (OJ S) i with
   | true=>
    rw[hu] at h5
    exact h1.2 (by
     rcases h5.1 rfl with h|h
     ·exact .inr (.inl (by omega))
     ·exact .inl h)
   | false=>
    rw[hu] at h5
    cases hm:(mkU (usd 10 (List.replicate (BH S+1) false)) ((2::R).map io)).getD (i+1) false with
    | false=>rfl
    | true=>
     exfalso
     rw[hm] at h1
     have:¬(i<10∨i+1∈VV its):=fun h=>by cases h5.2 h
     rcases h1.1 rfl with h|h|h
     ·exact this (.inr h)
     ·exact this (.inl (by omega))
     ·cases h
  have hbl:((2::R).flatMap bl).Perm ((VV its).flatMap bl):=hp.flatMap_right _
  have hmk:∀ i,mkB (GF S) (Pq (grpL (BS S) (BH S)++(2::R).flatMap bl) (List.replicate (GF S) 0)) i=true:=fun i=>by
   unfold mkB
   by_cases hi:GF S≤i
   ·rw[decide_eq_true hi,Bool.true_or]
   ·have hall:∀ n∈grpL (BS S) (BH S)++(2::R).flatMap bl,n<(List.replicate (GF S) (0:UInt8)).length:=fun n hn=>by
     rw[List.length_replicate]
     exact t.blt n (((hbl.append_left _).mem_iff).1 hn)
    have hmem:i∈grpL (BS S) (BH S)++(2::R).flatMap bl:=by
     have hcov:((VV its).flatMap bl).Perm (blks (S.pos/4096)):=by
      refine List.Perm.trans ?_ (MB w a hD)
      have key:∀ V:List Nat,(∀ c∈V,c∈VV its)→V.flatMap bl=V.flatMap fun k=>exO (S.M[k-1]?).join:=by
       intro V
       induction V with
       | nil=>intro _;rfl
       | cons c V ih=>
        intro h
        rw[List.flatMap_cons,List.flatMap_cons,ih fun k hk=>h k (List.mem_cons_of_mem _ hk)]
        obtain⟨p,h1,_,_,_,h2⟩:=(hf c (h c (List.mem_cons_self ..))).nd
        rw[h1,h2];rfl
      rw[key _ fun _ h=>h]
     have:=(((hbl.trans hcov).append_left (grpL (BS S) (BH S))).trans hgrp).mem_iff (a:=i)
     exact this.2 (List.mem_range.2 (by omega))
    rw[List.getD_eq_getElem?_getD,NU _ _ _ hall (by rw[List.length_replicate];omega),if_pos hmem]
    simp
  obtain⟨b1,b2⟩:=ADR cl
  obtain⟨_,_,_,d12,d14,d16⟩:=WR (f:=Xq S)
  have hdsc:=S7 cl
  have hcnt:cntN (fun i=>decide (i<BH S) && !(mkU (usd 10 (List.replicate (BH S+1) false)) ((2::R).map io)).getD (i+1) false) 32768=fiS S:=by
   rw[Tv _ _ _ (by omega),hfi]
   exact Py fun i hi=>by rw[hU i hi]
  refine⟨by rw[t1];omega,by rw[t2];omega,?_,?_,?_,?_,?_,?_,?_,s344,?_,sb.s84⟩
  ·intro i hi
   rw[t1,b1,Xz (by omega),Wo (by omega),hmk]
   unfold FD
   rw[decide_eq_true hi,Bool.true_or]
  ·intro i hi
   rw[t2,b2,Xs,Wo (by omega),hU i hi]
   unfold FD A8
   rw[decide_eq_false (by omega:¬8*4096+i<32768),Bool.false_or,decide_eq_true (by omega:8*4096+i<32768+BH S),Bool.true_and,show 8*4096+i-32768=i by omega]
  ·intro i hi hu
   rw[hU i hi] at hu
   have hnV:i+1∉VV its:=fun h=>by
    obtain⟨p,hp'⟩:=FK w hio hib hn a hpb hD (BE.1 h)
    have:=hp'.at_
    rw[Nat.add_sub_cancel] at this
    unfold A8 at hu
    have e:(OJ S)[i]? = (S.M[i]?).map (Option.map FY):=List.getElem?_map ..
    rw[e,this] at hu
    simp at hu
   rw[Tu cl (by omega) (by omega),Nat.add_sub_cancel,Gd w a hD hnV]
   exact⟨FJ,FJ⟩
  ·exact (hdsc▸d12:leL (dscL (BS S)) 12 2=0).trans (Lz fun i _=>by rw[hmk];rfl).symm
  ·rw[hdsc,d14,hcnt]
   show fiS S%65536=fiS S
   omega
  ·rw[hdsc,d16]
   have hle:=HS (CS (OJ S)) (BH S)
   show Dc (CS (OJ S)) (BH S)%65536=_
   rw[Nat.mod_eq_of_lt (by omega),Vg]
   unfold cntN cntD
   have hdir:∀ i,CS (OJ S) i=(decide (i+1∈VV its)&&dirB its (i+1)):=fun i=>by
    unfold CS
    have e:(OJ S)[i]? = (S.M[i]?).map (Option.map FY):=List.getElem?_map ..
    rw[e]
    by_cases hV:i+1∈VV its
    ·obtain⟨p,hp'⟩:=FK w hio hib hn a hpb hD (BE.1 hV)
     have h1:=hp'.at_
     rw[Nat.add_sub_cancel] at h1
     rw[h1,decide_eq_true hV,Bool.true_and]
     have h2:=Dt w hV
     rw[←hp'.mode,Jn] at h2
     show (kindB p.mode == 16384)=dirB its (i+1)
     cases hd:dirB its (i+1) with
     | true=>rw[h2.2 hd];rfl
     | false=>
      apply beq_eq_false_iff_ne.2
      intro h
      rw[h2.1 h] at hd;cases hd
    ·rw[decide_eq_false hV,Bool.false_and]
     have h2:=Gd w a hD hV
     cases hm:S.M[i]? with
     | none=>rfl
     | some o=>rw[hm] at h2;have h2:o=none:=h2;subst h2;rfl
   have h1:(((2::R).map io).filter fun o=>decide (kindL o.X.mode=2)).length=((2::R).filter fun c=>dirB its c).length:=by
    have h2:(2::R).filter ((fun o:AA=>decide (kindL o.X.mode=2))∘io)=(2::R).filter fun c=>dirB its c:=by
     refine List.filter_congr fun c hc=>?_
     have hcV:=hp.mem_iff.1 hc
     have:=Dt w hcV
     rw[←(hf c hcV).mode] at this
     show decide (kindL (io c).X.mode=2)=dirB its c
     cases hd:dirB its c with
     | true=>exact decide_eq_true (this.2 hd)
     | false=>exact decide_eq_false fun h=>by rw[this.1 h] at hd;cases hd
    rw[List.filter_map,List.length_map,h2]
   rw[h1,(hp.filter _).length_eq]
   have h2:(((List.range (BH S)).filter (CS (OJ S))).map (· + 1)).Perm ((VV its).filter fun c=>dirB its c):=by
    refine IH _ _ ?_ (Fb.filter _) fun c=>?_
    ·unfold List.Nodup
     rw[List.pairwise_map]
     exact (List.nodup_range.filter _).imp fun h e=>h (by omega)
    ·rw[List.mem_map,List.mem_filter]
     constructor
     ·rintro⟨i,hi,rfl⟩
      have:=(List.mem_filter.1 hi).2
      rw[hdir,Bool.and_eq_true,decide_eq_true_eq] at this
      exact this
     ·rintro⟨h3,h4⟩
      have:=t.rng c h3
      refine⟨c-1,List.mem_filter.2 ⟨List.mem_range.2 (by omega),?_⟩,by omega⟩
      rw[hdir,show c-1+1=c by omega,h4,decide_eq_true h3];rfl
   have:=h2.length_eq
   rw[List.length_map] at this
   exact this
  ·exact s12.trans (Lz fun i _=>by rw[hmk];rfl).symm
  ·exact s16.trans hcnt.symm
end
end
theorem X8:∀ a:Bs,Op.bytesLess a a=false
 | []=>rfl
 | c::a=>by simp[Op.bytesLess,X8 a]
theorem YF:∀ a b:Bs,a≠b→Op.bytesLess a b=true∨Op.bytesLess b a=true
 | [],[],h=>absurd rfl h
 | [],_::_,_=>.inl rfl
 | _::_,[],_=>.inr rfl
 | c::a,d::b,h=>by
  simp only[Op.bytesLess,Bool.or_eq_true,decide_eq_true_eq,Bool.and_eq_true,beq_iff_eq]
  by_cases hcd:c=d
  ·subst hcd
   have:a≠b:=fun e=>h (by rw[e])
   rcases YF a b this with h1|h1
   ·exact .inl (.inr ⟨rfl,h1⟩)
   ·exact .inr (.inr ⟨rfl,h1⟩)
  ·have h1:c.toNat≠d.toNat:=fun e=>hcd (UInt8.toNat_inj.1 e)
   rcases Nat.lt_or_ge c.toNat d.toNat with h2|h2
   ·exact .inl (.inl (UInt8.lt_iff_toNat_lt.2 h2))
   ·exact .inr (.inl (UInt8.lt_iff_toNat_lt.2 (by omega)))
theorem ABM:∀ a b c:Bs,Op.bytesLess a b=true→Op.bytesLess b c=true→Op.bytesLess a c=true
 | a,[],_,h,_=>by simp[Op.bytesLess] at h
 | _,b::l,[],_,h=>by simp[Op.bytesLess] at h
 | [],_::_,_::_,_,_=>rfl
 | x::a,y::b,z::c,h1,h2=>by
  simp only[Op.bytesLess,Bool.or_eq_true,decide_eq_true_eq,Bool.and_eq_true,beq_iff_eq] at h1 h2 ⊢
  rcases h1 with h1|⟨h1,h1'⟩
  ·rcases h2 with h2|⟨h2,_⟩
   ·refine .inl (UInt8.lt_iff_toNat_lt.2 ?_)
    have:=UInt8.lt_iff_toNat_lt.1 h1
    have:=UInt8.lt_iff_toNat_lt.1 h2
    omega
   ·subst h2;exact .inl h1
  ·subst h1
   rcases h2 with h2|⟨h2,h2'⟩
   ·exact .inl h2
   ·exact .inr ⟨h2,ABM a b c h1' h2'⟩
def Rx (ks:List (Bs×Nat)):Prop:=ks.Pairwise fun a b=>Op.bytesLess a.1 b.1=true
theorem GT:∀ (l:List Bs) (nm:Bs),(∀ a∈l.take (BV l nm),Op.bytesLess a nm=true)∧(∀ a,l[BV l nm]? = some a→Op.bytesLess a nm=false)
 | [],nm=>⟨by simp,by simp⟩
 | a::l,nm=>by
  obtain⟨h1,h2⟩:=GT l nm
  rw[BV]
  by_cases hc:Op.bytesLess a nm=true
  ·rw[if_pos hc]
   refine⟨fun b hb=>?_,fun b hb=>h2 b (by rw[List.getElem?_cons_succ] at hb;exact hb)⟩
   rw[List.take_succ_cons,List.mem_cons] at hb
   rcases hb with h|h
   ·rw[h];exact hc
   ·exact h1 b h
  ·rw[if_neg hc]
   refine⟨by simp,fun b hb=>?_⟩
   rw[List.getElem?_cons_zero,Option.some.injEq] at hb
   subst hb
   simpa using hc
theorem Xy {l:List Bs}{nm:Bs}{i:Nat}(hs:l.Pairwise fun a b=>Op.bytesLess a b=true)(hi:l[i]? = some nm):BV l nm=i:=by
 obtain⟨h1,h2⟩:=GT l nm
 obtain⟨hil,he⟩:=List.getElem?_eq_some_iff.1 hi
 have hle:=EI l nm
 rw[List.pairwise_iff_getElem] at hs
 rcases Nat.lt_trichotomy (BV l nm) i with h|h|h
 ·have:=h2 _ (List.getElem?_eq_getElem (by omega:BV l nm<l.length))
  have h3:=hs (BV l nm) i (by omega) hil h
  rw[he,this] at h3;cases h3
 ·exact h
 ·have:nm∈l.take (BV l nm):=by
   exact List.mem_take_iff_getElem.2 ⟨i,by omega,he⟩
  have:=h1 nm this
  rw[X8] at this;cases this
theorem AAU {ks:List (Bs×Nat)}{nm:Bs}{n:Nat}(hs:Rx ks)(h:(nm,n)∈ks):kidL ks nm=some n:=by
 obtain⟨i,hi,he⟩:=List.getElem_of_mem h
 have hg:ks[i]? = some (nm,n):=by rw[List.getElem?_eq_getElem hi,he]
 have hp:BV (ks.map (·.1)) nm=i:=Xy (by rw[List.pairwise_map];exact hs) (by rw[List.getElem?_map,hg];rfl)
 unfold kidL
 rw[hp,hg]
 exact if_pos rfl
theorem AAN {ks:List (Bs×Nat)}{nm:Bs}{n:Nat}(hs:Rx ks)(hn:∀ e∈ks,e.1≠nm):Rx (FB ks nm n)∧(FB ks nm n).Perm ((nm,n)::ks):=by
 obtain⟨h1,h2⟩:=GT (ks.map (·.1)) nm
 have hle:=EI (ks.map (·.1)) nm
 rw[List.length_map] at hle
 have hno:¬(ks.map (·.1))[BV (ks.map (·.1)) nm]? = some nm:=fun h=>by
  obtain⟨hi,he⟩:=List.getElem?_eq_some_iff.1 h
  rw[List.getElem_map] at he
  exact hn _ (List.getElem_mem _) he
 unfold FB
 rw[if_neg hno,Nat.add_zero]
 obtain⟨i,hi⟩:∃ i,BV (ks.map (·.1)) nm=i:=⟨_,rfl⟩
 rw[hi] at h1 h2 hle ⊢
 have hsp:ks=ks.take i++ks.drop i:=(List.take_append_drop i ks).symm
 have hs':=hs
 unfold Rx at hs'
 rw[hsp,List.pairwise_append] at hs'
 have hlo:∀ a∈ks.take i,Op.bytesLess a.1 nm=true:=fun a ha=>h1 a.1 (by rw[←List.map_take];exact List.mem_map.2 ⟨a,ha,rfl⟩)
 have hhi:∀ a∈ks.drop i,Op.bytesLess nm a.1=true:=fun a ha=>by
  cases hd:ks.drop i with
  | nil=>rw[hd] at ha;cases ha
  | cons b r=>
   have hb:ks[i]? = some b:=by
    have:(ks.drop i)[0]? = some b:=by rw[hd];rfl
    rw[List.getElem?_drop] at this;exact this
   have hbm:b∈ks:=List.mem_of_getElem? hb
   have hb1:=h2 b.1 (by rw[List.getElem?_map,hb];rfl)
   have hb2:Op.bytesLess nm b.1=true:=(YF nm b.1 fun e=>hn b hbm e.symm).resolve_right (by rw[hb1];decide)
   rw[hd] at ha
   rcases List.mem_cons.1 ha with h|h
   ·rw[h];exact hb2
   ·have h3:=hs'.2.1
    rw[hd,List.pairwise_cons] at h3
    exact ABM _ _ _ hb2 (h3.1 a h)
 constructor
 ·unfold Rx
  rw[List.append_assoc,List.pairwise_append]
  refine⟨hs'.1,?_,?_⟩
  ·show ((nm,n)::ks.drop i).Pairwise _
   rw[List.pairwise_cons]
   exact⟨hhi,hs'.2.1⟩
  ·intro a ha b hb
   rcases List.mem_cons.1 hb with h|h
   ·rw[h];exact hlo a ha
   ·exact hs'.2.2 a ha b h
 ·rw[List.append_assoc]
  refine List.perm_middle.trans (List.Perm.cons _ ?_)
  show (ks.take i++ks.drop i).Perm ks
  rw[List.take_append_drop]
theorem Tg:∀ (L ks:List (Bs×Nat)),Rx ks→((ks++L).map (·.1)).Nodup→Rx (L.foldl (fun ks e=>FB ks e.1 e.2) ks)∧(L.foldl (fun ks e=>FB ks e.1 e.2) ks).Perm (ks++L)
 | [],ks,hs,_=>⟨hs,by rw[List.append_nil];exact .refl _⟩
 | e::L,ks,hs,hd=>by
  have hn:∀ x∈ks,x.1≠e.1:=fun x hx he=>by
   rw[List.map_append,List.nodup_append] at hd
   exact hd.2.2 x.1 (List.mem_map.2 ⟨x,hx,rfl⟩) e.1 (List.mem_map.2 ⟨e,List.mem_cons_self ..,rfl⟩) he
  obtain⟨h1,h2⟩:=AAN (n:=e.2) hs hn
  have hp:(FB ks e.1 e.2++L).Perm (ks++e::L):=(h2.append_right L).trans List.perm_middle.symm
  obtain⟨h3,h4⟩:=Tg L (FB ks e.1 e.2) h1 ((hp.map (·.1)).nodup_iff.2 hd)
  exact⟨h3,h4.trans hp⟩
section
attribute [local irreducible] BR BS Db
structure IoX (its:List It) (c:Nat) (o:AA):Prop where
 num:o.X.num=c
 l0:o.l=[]
 mode:o.X.mode<65536
 it:∀ j it,c=12+j→its[j]? = some it→o.X.mode=modeK it.f.mode∧o.X.uid=it.f.uid∧(it.isD=false→o.C=it.data)
 dir:dirB its c=true→kindB o.X.mode=16384∧∃ kd:Nat→Nat,o.E=([46],c,2)::([46,46],parOf its c,2)::(esOf its c).map fun e=>(e.1,e.2,kd e.2)
 nodir:dirB its c=false→o.E=[]
def To (its:List It)(os:List AA)(ipg:Nat):Prop:=∃ (io:Nat→AA) (R:List Nat),os=(2::R).map io∧(2::R).Perm (VV its)∧(∀ c∈VV its,IoX its c (io c))∧11+its.length≤ipg
theorem Wt {its:List It}{c:Nat}(h:¬dirB its c=true)(hc:c∈VV its):∃ j,c=12+j∧∃ it,its[j]? = some it∧it.isD=false:=by
 rcases BE.1 hc with rfl|⟨h1,h2⟩
 ·exact absurd (Aj.2 (.inl rfl)) h
 ·by_cases h11:c=11
  ·subst h11;exact absurd (Aj.2 (.inr (.inl rfl))) h
  ·obtain⟨j,rfl⟩:∃ j,c=12+j:=⟨c-12,by omega⟩
   have hj:its[j]? = some its[j]:=List.getElem?_eq_getElem (by omega)
   refine⟨j,rfl,_,hj,?_⟩
   cases hd:its[j].isD with
   | false=>rfl
   | true=>exact absurd (Aj.2 (.inr (.inr ⟨j,_,hj,hd,rfl⟩))) h
theorem QD {its:List It}(inl:Bool)(db:Nat)(hio:A7 its)(hib:∀ it∈its,Y6 it)(hn:its.length≤2000)(hsum:EW its≤40000000) :
  ∃ SE S,Steps (its.flatMap It.ops) (S2 [] inl EA db) SE∧He SE S∧S.db=db∧Xp (To its) (BS S):=by
 have w0:=Xn inl db
 have hm:S2 [] inl EA db = {S1 [] inl EA db with M:=D0 (M1 inl) 2 (rootP inl) (newP (dirF 16832) 11 inl) [] lostN}:=by
  unfold S2 PS.made
  simp only
  rw[if_neg (by decide)]
  rfl
 have hpos:(S2 [] inl EA db).pos=8192:=by
  rw[hm]
  show (1+Fk EA)*4096=8192
  rw[Nj]
 have hdb:(S2 [] inl EA db).db=db:=by rw[hm];rfl
 obtain⟨SE,S1,st,fi,w,hp,hd1⟩:=WY w0 hpos hio (by omega) (by omega) its.length (Nat.le_refl _)
 rw[List.take_length] at st w hp
 obtain⟨S,D,cl,a,hnd,hD,clok,hpb⟩:=RU w hio hib hn (by omega)
 refine⟨SE,S,st,cl SE fi,a.same.2.2.2.trans (hd1.trans hdb),?_⟩
 obtain⟨io,la,bl,R,T,k,o0,o',hf,hperm,hi⟩:=X4 w hio hib hn a hpb hD clok
 obtain⟨i1,i2,i3⟩:=D9 S.M.length
 have hlen:S.M.length=11+its.length:=a.len.trans w.len
 refine⟨_,_,_,_,_,_,_,hi,io,R,rfl,hperm,fun c hc=>?_,by show 11+its.length≤ipgOf S.M.length;omega⟩
 have f:=hf c hc
 obtain⟨m1,m2⟩:=EU f.ino
 have hcV:=BE.1 hc
 have hkind:=Dt w hc
 refine⟨m2,f.l0,m1,?_,?_,?_⟩
 ·intro j it h1 h2
  subst h1
  obtain⟨p,hp1,hp2,_⟩:=w.node j it h2
  have hmode:modeAt S1.M (12+j)=modeK it.f.mode:=by
   unfold modeAt
   rw[show 12+j-1=11+j by omega,hp1,hp2];rfl
  refine⟨f.mode.trans hmode,?_,fun h3=>(f.item j it rfl h2 h3).1⟩
  obtain⟨p',q1,_,q3,_⟩:=f.nd
  rw[q3]
  by_cases hb:dirB its (12+j)=true
  ·obtain⟨q,st',b1,b2,_⟩:=a.in_ _ ((hD _).2 hb)
   rw[q1] at b2
   have e1:=Option.some.inj (Option.some.inj b2)
   have e2:=b1.at_
   rw[show 12+j-1=11+j by omega,hp1] at e2
   have e3:=Option.some.inj (Option.some.inj e2)
   rw[e1]
   show q.uid=_
   rw[←e3,hp2];rfl
  ·have hcD:12+j∉D:=fun h=>hb ((hD _).1 h)
   have:=a.out _ hcD (by omega)
   rw[q1,show 12+j-1=11+j by omega,hp1] at this
   rw[Option.some.inj (Option.some.inj this),hp2];rfl
 ·intro hb
  have h1:=(f.dir hb).2.2
  refine⟨Jn.1 (by rw[f.mode];exact hkind.2 hb),fun k=>EG (modeAt S1.M k),?_⟩
  rw[h1,IX hio,List.map_cons,List.map_cons,List.map_map]
  have hpar:dirB its (parOf its c)=true∧parOf its c∈VV its:=by
   by_cases h2:c=2
   ·subst h2;exact⟨Aj.2 (.inl rfl),BE.2 (.inl rfl)⟩
   ·have h1:=(JY hio hc h2).1
    refine⟨h1,BE.2 ?_⟩
    rcases Aj.1 h1 with h|h|⟨j,it,h3,h4,h5⟩
    ·exact .inl h
    ·exact .inr (by omega)
    ·have:=(List.getElem?_eq_some_iff.1 h3).1
     exact .inr (by omega)
  rw[MH,MH,hkind.2 hb,(Dt w hpar.2).2 hpar.1]
  rfl
 ·intro hb
  obtain⟨j,rfl,it,h1,h2⟩:=Wt (by rw[hb];decide) hc
  exact (f.item j it rfl h1 h2).2
theorem ZL {os:List AA}{L:List Nat}(hn:(os.map fun o=>o.X.num).Nodup)(hl:∀ o∈os,o.X.num<L.length):∀ m,m≤os.length→∀ i o,i<m→os[i]? = some o→(GC (os.take m) L).getD o.X.num 0=i:=by
 intro m
 induction m with
 | zero=>intro _ i o h;omega
 | succ m ih=>
  intro hm i o hi ho
  have hom:os[m]? = some os[m]:=List.getElem?_eq_getElem (by omega)
  have hlen:(GC (os.take m) L).length=L.length:=Im _ _
  rw[KZ hom,DV (by rw[hlen];exact hl _ (List.getElem_mem _))]
  by_cases him:i=m
  ·subst him
   rw[hom] at ho
   rw[if_pos (by rw[Option.some.inj ho])]
  ·rw[if_neg,ih (by omega) i o (by omega) ho]
   intro e
   unfold List.Nodup at hn
   rw[List.pairwise_iff_getElem] at hn
   obtain⟨hil,he⟩:=List.getElem?_eq_some_iff.1 ho
   refine hn i m (by rw[List.length_map];exact hil) (by rw[List.length_map];omega) (by omega) ?_
   rw[List.getElem_map,List.getElem_map,he,e]
structure NodeX (its:List It) (ix:Nat→Nat) (c:Nat) (t:TN):Prop where
 mode:t.X.mode<65536
 it:∀ j it,c=12+j→its[j]? = some it→t.X.mode=modeK it.f.mode∧t.X.uid=it.f.uid∧t.data=if it.kd=32768 then it.data else []
 dir:dirB its c=true→kindB t.X.mode=16384∧t.ks.length=(esOf its c).length∧∀ e∈esOf its c,kidL t.ks e.1=some (ix e.2)
 nodir:dirB its c=false→t.ks=[]
structure ABG (its:List It) (ts:List TN) (ix:Nat→Nat):Prop where
 len:ts.length=its.length+2
 root:ix 2=0
 node:∀ c∈VV its,∃ t,ts[ix c]? = some t∧NodeX its ix c t
theorem AET {its:List It}{os:List AA}{ipg:Nat}(hio:A7 its)(p:To its os ipg):ABG its (os.map (JK (ipg+1) (FE ipg os))) (fun c=>(FE ipg os).getD c 0):=by
 obtain⟨io,R,hos,hp,hf,hipg⟩:=p
 have hnums:(os.map fun o=>o.X.num)=2::R:=by
  rw[hos,List.map_map]
  have:∀ l:List Nat,(∀ c∈l,c∈VV its)→l.map ((fun o:AA=>o.X.num)∘io)=l:=by
   intro l
   induction l with
   | nil=>intro _;rfl
   | cons c l ih=>
    intro h
    rw[List.map_cons,ih fun k hk=>h k (List.mem_cons_of_mem _ hk)]
    show (io c).X.num::l=_
    rw[(hf c (h c (List.mem_cons_self ..))).num]
  exact this _ fun c hc=>hp.mem_iff.1 hc
 have hnd:(os.map fun o=>o.X.num).Nodup:=by rw[hnums];exact hp.nodup_iff.2 Fb
 have hlt:∀ o∈os,o.X.num<(List.replicate (ipg+1) 0).length:=fun o ho=>by
  have:o.X.num∈2::R:=by rw[←hnums];exact List.mem_map.2 ⟨o,ho,rfl⟩
  have:=BE.1 (hp.mem_iff.1 this)
  rw[List.length_replicate];omega
 have hix:∀ i c,(2::R)[i]? = some c→(FE ipg os).getD c 0=i:=fun i c hi=>by
  have hil:=(List.getElem?_eq_some_iff.1 hi).1
  have ho:os[i]? = some (io c):=by rw[hos,List.getElem?_map,hi];rfl
  have:=ZL hnd hlt os.length (Nat.le_refl _) i (io c) (by rw[hos,List.length_map];exact hil) ho
  rw[List.take_length,(hf c (hp.mem_iff.1 (List.mem_of_getElem? hi))).num] at this
  exact this
 refine⟨?_,hix 0 2 rfl,fun c hc=>?_⟩
 ·rw[List.length_map,hos,List.length_map,hp.length_eq]
  unfold VV;simp
 ·obtain⟨i,hi,he⟩:=List.getElem_of_mem (hp.mem_iff.2 hc)
  have hg:(2::R)[i]? = some c:=by rw[List.getElem?_eq_getElem hi,he]
  have ho:os[i]? = some (io c):=by rw[hos,List.getElem?_map,hg];rfl
  have f:=hf c hc
  refine⟨JK (ipg+1) (FE ipg os) (io c),by rw[hix i c hg,List.getElem?_map,ho];rfl,f.mode,?_,?_,?_⟩
  ·intro j it h1 h2
   obtain⟨a1,a2,a3⟩:=f.it j it h1 h2
   refine⟨a1,a2,?_⟩
   show (if kindL (io c).X.mode=1 then (io c).C else [])=_
   have hkd:kindB (io c).X.mode=it.kd:=by rw[a1]
   by_cases h3:it.kd=32768
   ·rw[if_pos h3,if_pos (by rw[Hx hkd,h3];rfl),a3]
    unfold It.isD
    rw[h3];rfl
   ·rw[if_neg h3,if_neg]
    intro h
    rw[Hx hkd] at h
    repeat' split at h
    all_goals omega
  ·intro hb
   obtain⟨d1,kd,d2⟩:=f.dir hb
   refine⟨d1,?_⟩
   have hks:(JK (ipg+1) (FE ipg os) (io c)).ks=((esOf its c).map fun e=>(e.1,(FE ipg os).getD e.2 0)).foldl (fun ks e=>FB ks e.1 e.2) []:=by
    show (io c).E.foldl (Bi (ipg+1) (FE ipg os)) []=_
    rw[d2,List.foldl_cons,List.foldl_cons]
    have s1:∀ ks c,Bi (ipg+1) (FE ipg os) ks ([46],c,2)=ks:=fun ks c=>if_pos (.inl rfl)
    have s2:∀ ks c,Bi (ipg+1) (FE ipg os) ks ([46,46],c,2)=ks:=fun ks c=>if_pos (.inr (.inl rfl))
    rw[s1,s2]
    have hes:∀ e∈esOf its c,(e.1≠[46]∧e.1≠[46,46])∧e.2<ipg+1:=fun e he=>by
     obtain⟨a1,a2,a3,a4,a5⟩:=DT hio he
     exact⟨(TD hio he).2,by omega⟩
    revert hes
    generalize esOf its c=es
    generalize ([]:List (Bs×Nat))=ks
    induction es generalizing ks with
    | nil=>intro _;rfl
    | cons e es ih=>
     intro h
     rw[List.map_cons,List.foldl_cons,List.map_cons,List.foldl_cons]
     obtain⟨⟨n1,n2⟩,n3⟩:=h e (List.mem_cons_self ..)
     have:Bi (ipg+1) (FE ipg os) ks (e.1,e.2,kd e.2)=FB ks e.1 ((FE ipg os).getD e.2 0):=by
      unfold Bi
      rw[if_neg]
      rintro (h1|h1|h1)
      ·exact n1 h1
      ·exact n2 h1
      ·have:ipg+1≤e.2:=h1
       omega
     rw[this]
     exact ih _ fun x hx=>h x (List.mem_cons_of_mem _ hx)
   have hnames:((([]:List (Bs×Nat))++(esOf its c).map fun e=>(e.1,(FE ipg os).getD e.2 0)).map (·.1)).Nodup:=by
    rw[List.nil_append,List.map_map]
    exact C1 hio c
   obtain⟨q1,q2⟩:=Tg ((esOf its c).map fun e=>(e.1,(FE ipg os).getD e.2 0)) [] .nil hnames
   rw[←hks] at q1 q2
   refine⟨by rw[q2.length_eq];simp,fun e he=>AAU q1 (q2.mem_iff.2 ?_)⟩
   rw[List.nil_append]
   exact List.mem_map.2 ⟨e,he,rfl⟩
  ·intro hb
   show (io c).E.foldl (Bi (ipg+1) (FE ipg os)) []=_
   rw[f.nodir hb];rfl
end
end Go.Proofs.YtollddkkdgoonaaGreatDoor
