/- A part of a proof over images that are written and read. No condition; a step. -/
import Derived.Test.YtollddkkdgoonaaGreatDoorM23
namespace Go.Proofs.YtollddkkdgoonaaGreatDoor
open Go
set_option linter.unusedVariables false
set_option linter.unusedSimpArgs false
set_option maxRecDepth 100000
section
theorem ADe:∀ D:List Nat,(D.map fun _=>0).sum=0
 | []=>rfl
 | _::D=>by rw[A33,A75,ADe D]
theorem Mu (x:Nat):∀ D:List Nat,D.Nodup→(D.map fun c=>if x=c then 1 else 0).sum≤1
 | [],_=>by simp
 | a::D,h=>by
  rw[A90] at h
  rw[A33,A75]
  by_cases hx:x=a
  ·have:(D.map fun c=>if x=c then 1 else 0)=D.map fun _=>0:=by
    apply A72
    intro c hc
    rw[A05]
    intro e
    exact h.1 (by rw[←hx,e];exact hc)
   rw[A03 hx,this,ADe]
   exact A07 _
  ·rw[A05 hx,A29]
   exact Mu x D h.2
theorem OZ (D:List Nat)(hD:D.Nodup):∀ (l:List It) (k:Nat),(D.map fun c=>(CJ c k l).length).sum≤l.length
 | [],k=>by
  have:(D.map fun c=>(CJ c k []).length)=D.map fun _=>0:=by apply A72;intro c _;rfl
  rw[this,ADe];exact A39 _
 | a::l,k=>by
  have e:(D.map fun c=>(CJ c k (a::l)).length).sum=(D.map fun c=>if a.dir=c then 1 else 0).sum+(D.map fun c=>(CJ c (k+1) l).length).sum:=by
   clear hD
   induction D with
   | nil=>rfl
   | cons c D ih=>
    rw[A33,A75,ih,A33,A75,A33,A75,CJ]
    split
    ·rw[A19];omega
    ·omega
  have h1:=Mu a.dir D hD
  have h2:=OZ D hD l (k+1)
  rw[e,A19]
  omega
section
variable {inl:Bool} {its:List It} {S1 S:PS} {D:List Nat} {c:Nat}
theorem WA (D:List Nat)(hD:D.Nodup):(D.map fun c=>(esOf its c).length).sum≤its.length+1:=by
 have e:(D.map fun c=>(esOf its c).length).sum=(D.map fun c=>if 2=c then 1 else 0).sum+(D.map fun c=>(CJ c 12 its).length).sum:=by
  clear hD
  induction D with
  | nil=>rfl
  | cons c D ih=>
   rw[A33,A75,ih,A33,A75,A33,A75]
   unfold esOf kidsOf
   rw[A01]
   by_cases h:c=2
   ·subst h;rw[A03 rfl,A03 rfl,A57];omega
   ·rw[A05 h,A05 fun e=>h e.symm,A61];omega
 have h1:=Mu 2 D hD
 have h2:=OZ D hD its 12
 omega
theorem ABh (hio:A7 its)(hn:its.length≤5000)(D:List Nat)(hD:D.Nodup)(hd:∀ k∈D,dirB its k=true∧2≤k∧k<12+its.length)(M:List (Option PN)):(D.map fun k=>(bsD M its k).length).sum≤4096*(4*its.length+40):=by
 have h1:=WA (its:=its) D hD
 have h2:D.length≤12+its.length:=by
  have:=Sn (V:=List.range (12+its.length)) hD fun k hk=>A96.2 (hd k hk).2.2
  rw[List.length_range] at this
  exact this
 have h3:(D.map fun k=>(bsD M its k).length).sum≤4096*((D.map fun c=>(esOf its c).length).sum+3*D.length):=by
  clear h1 h2 hD
  induction D with
  | nil=>simp
  | cons a D ih=>
   have:=ih fun k hk=>hd k (A16 _ hk)
   obtain⟨d1,d2,d3⟩:=hd a (A13 ..)
   have:=(Jp hio hn d2 d3 M).2.2
   rw[A33,A75,A33,A75,A19]
   omega
 omega
structure Y6 (it:It):Prop where
 uid:it.f.uid<4294967296
 gid:it.f.gid<4294967296
 maj:it.f.dmaj<4294967296
 min:it.f.dmin<4294967296
theorem Mk {t:Tm}(h:t.ok):t.laid<18446744073709551616∧t.laid/4294967296<4000000000:=by
 obtain⟨h1,h2⟩:=h
 unfold Tm.laid Ku
 split
 ·split
  ·omega
  ·have e:t.ns*17179869184%18446744073709551616=t.ns*17179869184:=A23 (by omega)
   have o:=orp (a:=t.sec) (b:=t.ns) (i:=34) (by omega)
   simp only[Nat.reducePow] at o
   rw[e,o]
   omega
 ·omega
structure FinN (p:PN):Prop where
 b:PNb p
 ok:PNok p
 x:xOK p
 d:p.dbs.length<1000000
theorem SX {f:FL}{n:Nat}(hf:FileOK f)(hb:f.uid<4294967296∧f.gid<4294967296∧f.dmaj<4294967296∧f.dmin<4294967296){size links bcnt flags:Nat}{d:Bs}{ks:Option (List (Bs×Nat))}(hs:size<4294967296)(hl:links<65536)(hbc:bcnt<4294967296)(hfl:flags<4294967296)(hd:d.length≤136)(hx:60<d.length→(newP f n inl).xbs.length=104)(hxl:(newP f n inl).xbs.length≤104) :
  FinN {newP f n inl with size:=size,links:=links,bcnt:=bcnt,flags:=flags,dbs:=d,kids:=ks}:=by
 obtain⟨b1,b2,b3,b4⟩:=hb
 have t1:=Mk hf.at_
 have t2:=Mk hf.ct
 have t3:=Mk hf.mt
 have t4:=Mk hf.cr
 have hm:modeK f.mode<65536:=by
  have:=hf.mode
  unfold modeK
  split
  ·exact B01 (n:=16) (by omega) (by omega)
  ·omega
 exact⟨⟨hm,b1,b2,hs,t1.1,t2.1,t3.1,t4.1,hl,hbc,hfl,rfl,t1.2,t2.2,t3.2,t4.2⟩,⟨b1,b2,by show size<_;omega,hxl,b3,b4⟩,fun _ h=>⟨hx h,hd⟩,by show d.length<_;omega⟩
theorem ZW (kd sz:Nat):(xinK inl kd sz).length=if inlK inl kd sz=true then 104 else 0:=by
 unfold xinK
 by_cases h:inlK inl kd sz=true
 ·rw[A03 h,A03 h]
  have hs:sz≤136:=by
   unfold inlK at h
   simp only[A42,A84] at h
   exact h.2
  rw[PU hs]
  exact (NA VG (by simp;omega)).1.len
 ·rw[A05 h,A05 h];rfl
theorem Yo (w:Wr inl its S1)(hio:A7 its)(hib:∀ it∈its,Y6 it)(hc:dirB its c=true){q:PN}(hq:DirAt S1 its c q):∃ f n,q = {newP f n inl with links:=q.links,kids:=q.kids,dbs:=q.dbs,flags:=q.flags,bcnt:=q.bcnt}∧FileOK f∧(f.uid<4294967296∧f.gid<4294967296∧f.dmaj<4294967296∧f.dmin<4294967296)∧kindB (modeK f.mode)=16384:=by
 have hat:=hq.at_
 rcases Aj.1 hc with rfl|rfl|⟨j,it,h1,h2,rfl⟩
 ·have:=A14 (A14 (hat.symm.trans w.root))
  subst this
  exact⟨dirF 16877,2,rfl,Dr,by decide,by decide⟩
 ·have:=A14 (A14 (hat.symm.trans w.lf))
  subst this
  exact⟨dirF 16832,11,rfl,TG,by decide,by decide⟩
 ·obtain⟨p,hp,he,_⟩:=w.node j it h1
  rw[show 12+j-1=11+j by omega] at hat
  have:=A14 (A14 (hat.symm.trans hp))
  subst this
  have hb:=hib it (A28 h1)
  refine⟨it.f,12+j,?_,(hio j it h1).file,⟨hb.uid,hb.gid,hb.maj,hb.min⟩,of_decide_eq_true h2⟩
  exact he.trans (by rw[he];rfl)
structure AIV (inl:Bool) (its:List It) (S1 S:PS) (c:Nat) (p:PN):Prop where
 at_:S.M[c-1]? = some (some p)
 fin:FinN p
 mode:p.mode=modeAt S1.M c
 dir:dirB its c=true→∃ st q,DirAt S1 its c q∧p=dirN q st (bsD S1.M its c).length∧2≤st∧st*4096+(bsD S1.M its c).length≤S.pos∧((bx S.B S.pos).drop (st*4096)).take (bsD S1.M its c).length=bsD S1.M its c∧p.xbs=[]
 item:∀ j it,c=12+j→its[j]? = some it→it.isD=false→p=itP inl its j it p∧HoldI (bx S.B S.pos) S.pos it inl p
theorem FK (w:Wr inl its S1)(hio:A7 its)(hib:∀ it∈its,Y6 it)(hn:its.length≤2000)(a:JU its S1 D S)(hpb:S.pos≤120000000)(hD:∀ k,k∈D↔dirB its k=true)(hc:c=2∨11≤c∧c<12+its.length):∃ p,AIV inl its S1 S c p:=by
 have hc2:2≤c∧c<12+its.length:=by omega
 by_cases hb:dirB its c=true
 ·obtain⟨q,st,b1,b2,b3,b4,b5⟩:=a.in_ c ((hD c).2 hb)
  obtain⟨f,n,e,hf,hfb,hk⟩:=Yo w hio hib hb b1
  obtain⟨l1,l2,l3⟩:=Jp hio (by omega) hc2.1 hc2.2 S1.M
  have hel:=Hq its c
  have hin:inlK inl (kindB (modeK f.mode)) f.size=false:=by unfold inlK;rw[hk];simp
  have hx:(newP f n inl).xbs=[]:=by
   show xinK inl (kindB (modeK f.mode)) f.size=[]
   unfold xinK;rw[hin];rfl
  have hr:=(ES (len:=(bsD S1.M its c).length/4096) (st:=st) (by omega) (by omega)).2
  have hl:=b1.links
  have hfin:FinN (dirN q st (bsD S1.M its c).length):=by
   rw[e]
   exact SX (inl:=inl) (n:=n) (size:=(bsD S1.M its c).length) (links:=q.links) (bcnt:=(bsD S1.M its c).length/4096) (flags:=786432) (d:=extRoot ((bsD S1.M its c).length/4096) st) (ks:=q.kids) hf hfb (by omega) (by omega) (by omega) (by omega) (by omega) (fun h=>by omega) (by rw[hx];simp)
  refine⟨_,b2,hfin,?_,fun _=>⟨st,q,b1,rfl,b3,b4,b5,?_⟩,?_⟩
  ·unfold modeAt;rw[b1.at_];rfl
  ·show q.xbs=[]
   rw[e];exact hx
  ·intro j it h1 h2 h3
   exfalso
   rcases Aj.1 hb with h|h|⟨j',x,e1,e2,e3⟩
   ·omega
   ·omega
   ·have:j'=j:=by omega
    subst this
    rw[h2] at e1
    rw[A14 e1] at h3
    rw[e2] at h3;cases h3
 ·have hcD:c∉D:=fun h=>hb ((hD c).1 h)
  obtain⟨j,rfl⟩:∃ j,c=12+j:=by
   rcases hc with rfl|⟨h1,h2⟩
   ·exact absurd (Aj.2 (.inl rfl)) hb
   ·by_cases h11:c=11
    ·subst h11;exact absurd (Aj.2 (.inr (.inl rfl))) hb
    ·exact⟨c-12,by omega⟩
  have hj:its[j]? = some its[j]:=A00 (by omega)
  obtain⟨p,hp,he,hh⟩:=w.node j _ hj
  have hat:S.M[12+j-1]? = some (some p):=by
   rw[a.out _ hcD (by omega),show 12+j-1=11+j by omega];exact hp
  obtain⟨Y,hY⟩:=a.ext
  have hpos:S1.pos≤S.pos:=by
   have h1:=A76 List.length hY
   rw[A01,Ee a.Ble,Ee w.B] at h1
   omega
  have hh2:HoldI (bx S.B S.pos) S.pos its[j] inl p:=by
   rw[hY]
   exact hh.app (Ee w.B) hpos
  have hi:=hio j _ hj
  have hib:=hib _ (A28 hj)
  have hdat:=hi.dat
  have hbig:=hi.big
  have hisD:its[j].isD=false:=by
   cases h:its[j].isD with
   | false=>rfl
   | true=>exact absurd (Aj.2 (.inr (.inr ⟨j,_,hj,h,rfl⟩))) hb
  have hsz:szK its[j].kd its[j].f.size<4294967296:=by
   unfold szK
   split
   ·rename_i h;rw[A03 h] at hdat;omega
   ·omega
  have hxl:=ZW (inl:=inl) its[j].kd its[j].f.size
  have hlen1:(newP its[j].f (12+j) inl).xbs.length≤104:=by
   show (xinK inl its[j].kd its[j].f.size).length≤104
   rw[hxl];split<;>omega
  have hfin:FinN p:=by
   have hcase:p.flags<4294967296∧p.bcnt<4294967296∧p.dbs.length≤136∧(60<p.dbs.length→(newP its[j].f (12+j) inl).xbs.length=104):=by
    have hhh:=hh.hold
    by_cases hin:inlK inl its[j].kd its[j].f.size=true
    ·rw[A03 hin] at hhh
     have hin2:=hin
     unfold inlK at hin2
     simp only[A42,A84,beq_iff_eq] at hin2
     rw[A03 hin2.1.2] at hdat
     refine⟨by omega,by omega,by rw[hhh.2.1];omega,fun _=>?_⟩
     show (xinK inl its[j].kd its[j].f.size).length=104
     rw[hxl,A03 hin]
    ·rw[A05 hin] at hhh
     by_cases h0:its[j].data=[]
     ·rw[A03 h0] at hhh
      refine⟨by omega,by omega,by rw[hhh.2.1];simp,fun h=>by rw[hhh.2.1] at h;simp at h⟩
     ·rw[A05 h0] at hhh
      obtain⟨st,c1,c2,c3,c4,c5,c6⟩:=hhh
      have hr:=(ES (len:=p.bcnt) (st:=st) (by omega) (by omega)).2
      rw[←c2] at hr
      exact⟨by omega,by omega,by omega,fun h=>by omega⟩
   obtain⟨c1,c2,c3,c4⟩:=hcase
   have:=SX (inl:=inl) (n:=12+j) (size:=szK its[j].kd its[j].f.size) (links:=1+(if its[j].isD=true then 1+dirsOf its (12+j) else 0)) (bcnt:=p.bcnt) (flags:=p.flags) (d:=p.dbs) (ks:=if its[j].isD=true then some (kidsOf its (12+j)) else none) hi.file ⟨hib.uid,hib.gid,hib.maj,hib.min⟩ hsz (by rw[hisD];simp) c2 c1 c3 c4 hlen1
   rw[he]
   exact this
  refine⟨p,hat,hfin,?_,fun h=>absurd h hb,?_⟩
  ·unfold modeAt
   rw[show 12+j-1=11+j by omega,hp]
  ·intro j' it h1 h2 _
   have:j'=j:=by omega
   subst this
   rw[hj] at h2
   obtain rfl:=A14 h2
   exact⟨he,hh2⟩
end
end
section
def VV (its:List It):List Nat:=2::11::(List.range its.length).map (12 + ·)
section
variable {inl:Bool} {its:List It} {S1 S:PS} {D:List Nat} {c:Nat}
theorem BE:c∈VV its↔c=2∨11≤c∧c<12+its.length:=by
 unfold VV
 rw[A32,A32,A35]
 constructor
 ·rintro (h|h|⟨j,hj,h⟩)
  ·exact .inl h
  ·exact .inr (by omega)
  ·have:=A96.1 hj
   exact .inr (by omega)
 ·rintro (h|⟨h1,h2⟩)
  ·exact .inl h
  ·by_cases h3:c=11
   ·exact .inr (.inl h3)
   ·exact .inr (.inr ⟨c-12,A96.2 (by omega),by omega⟩)
theorem Fb:(VV its).Nodup:=by
 unfold VV
 rw[A90,A90]
 refine⟨?_,?_,?_⟩
 ·rw[A32,A35]
  rintro (h|⟨j,_,h⟩)<;>omega
 ·rw[A35]
  rintro⟨j,_,h⟩;omega
 ·unfold List.Nodup
  rw[B32]
  exact List.nodup_range.imp fun h e=>h (by omega)
theorem Gd (w:Wr inl its S1)(a:JU its S1 D S)(hD:∀ k,k∈D↔dirB its k=true){i:Nat}(h:¬(i+1∈VV its)):S.M[i]?.join=none:=by
 have hD1:i+1∉D:=fun hd=>h (by
  rw[BE]
  rcases Aj.1 ((hD _).1 hd) with h1|h1|⟨j,it,h1,h2,h3⟩
  ·exact .inl h1
  ·exact .inr (by omega)
  ·have:=(A02.1 h1).1
   exact .inr (by omega))
 have e:=a.out (i+1) hD1 (by omega)
 rw[A79] at e
 rw[e]
 rw[BE] at h
 by_cases h1:i=0∨2≤i∧i<10
 ·rw[w.nil i h1];rfl
 ·rw[A40 (by rw[w.len];omega)];rfl
theorem AFH (w:Wr inl its S1)(hio:A7 its)(hib:∀ it∈its,Y6 it)(hn:its.length≤2000)(a:JU its S1 D S)(hpb:S.pos≤120000000)(hD:∀ k,k∈D↔dirB its k=true):ClOK S:=by
 have hlen:S.M.length=11+its.length:=a.len.trans w.len
 obtain⟨i1,i2,i3⟩:=D9 S.M.length
 refine⟨?_,?_,a.al,a.big,by omega,by omega,by omega,by rw[a.same.2.1,w.max];omega,a.same.2.2.1.trans w.gd⟩
 ·intro p hp
  obtain⟨i,hi,e⟩:=B00 hp
  have hg:S.M[i]? = some (some p):=by rw[A00 hi,e]
  have hV:i+1∈VV its:=by
   rcases Decidable.em (i+1∈VV its) with h|h
   ·exact h
   ·have:=Gd w a hD h
    rw[hg] at this;cases this
  obtain⟨p',hp'⟩:=FK w hio hib hn a hpb hD (BE.1 hV)
  have h2:=hp'.at_
  rw[A79,hg] at h2
  have:=A14 (A14 h2)
  subst this
  exact⟨hp'.fin.ok,hp'.fin.x,hp'.fin.d⟩
 ·apply a.Beq
  intro h
  have:=(hD 2).2 (Aj.2 (.inl rfl))
  rw[h] at this;cases this
theorem RU (w:Wr inl its S1)(hio:A7 its)(hib:∀ it∈its,Y6 it)(hn:its.length≤2000)(hp:S1.pos≤50000000) :
  ∃ S D,(∀ Sy,Fin Sy S1→He Sy S)∧JU its S1 D S∧D.Nodup∧(∀ k,k∈D↔dirB its k=true)∧ClOK S∧S.pos≤120000000:=by
 have hR:∀ (D:List Nat) (S:PS),JU its S1 D S→D.Nodup→(∀ k∈D,dirB its k=true∧2≤k∧k<12+its.length)→S.pos≤120000000:=fun D S a hd hk=>by
  have h1:=a.posb
  have h2:=ABh hio (by omega) D hd hk S1.M
  omega
 have hd2:dirB its 2=true:=Aj.2 (.inl rfl)
 have hnd:=L4 hio (13+its.length) 2 (by omega) (by omega) hd2
 have hmem:∀ k,k∈Ps its (13+its.length) 2↔dirB its k=true:=fun k=>⟨fun h=>(Fn hio _ 2 (by omega) (by omega) hd2 k h).2.2.2,AAt hio (by omega) k⟩
 obtain⟨S',S'',r,f,a⟩:=Te w hio (by omega) (fun D S a h1 h2=>B28 (hR D S a h1 h2) (by omega)) (13+its.length) 2 [] S1 S1 (.none w.cur) (.start w) (by omega) hd2 (by omega) (by omega) (by simpa using hnd) (by simp)
 rw[A34] at a
 have hpb:=hR _ _ a hnd fun k hk=>by
  have:=Fn hio _ 2 (by omega) (by omega) hd2 k hk
  exact⟨this.2.2.2,by omega,this.2.2.1⟩
 have cl:=AFH w hio hib hn a hpb hmem
 exact⟨S'',_,fun Sy fy=>⟨⟨S1,S',13+its.length,_,fy,w.root,r,f⟩,cl⟩,a,hnd,hmem,cl,hpb⟩
theorem KY {M:List (Option PN)}:∀ n,n≤M.length→(List.range n).flatMap (fun i=>exO (M[i]?).join)=(M.take n).flatMap exO
 | 0,_=>by simp
 | n+1,h=>by
  have hlt:n<M.length:=by omega
  rw[List.range_succ,A73,B04,KY n (by omega),←List.take_append_getElem hlt,A73,B04,A00 hlt]
  rfl
theorem MB (w:Wr inl its S1)(a:JU its S1 D S)(hD:∀ k,k∈D↔dirB its k=true):((VV its).flatMap fun k=>exO (S.M[k-1]?).join).Perm (blks (S.pos/4096)):=by
 refine List.Perm.trans ?_ a.own
 have hlen:S.M.length=11+its.length:=a.len.trans w.len
 have e:=KY (M:=S.M) S.M.length (A07 _)
 rw[A38] at e
 rw[←e]
 have e2:(List.range S.M.length).flatMap (fun i=>exO (S.M[i]?).join)=((List.range S.M.length).filter fun i=>decide (i+1∈VV its)).flatMap fun i=>exO (S.M[i]?).join:=by
  generalize List.range S.M.length=R
  induction R with
  | nil=>rfl
  | cons i R ih=>
   rw[A37,ih,List.filter_cons]
   by_cases h:i+1∈VV its
   ·rw[A03 (A04 h),A37]
   ·rw[A05 (by simpa using h),Gd w a hD h];rfl
 rw[e2]
 have hp:(VV its).Perm (((List.range S.M.length).filter fun i=>decide (i+1∈VV its)).map (· + 1)):=by
  refine IH _ _ Fb ?_ fun k=>?_
  ·unfold List.Nodup
   rw[B32]
   exact (List.nodup_range.filter _).imp fun h e=>h (by omega)
  ·rw[A35]
   constructor
   ·intro hk
    have h1:=BE.1 hk
    exact⟨k-1,B39.2 ⟨A96.2 (by omega),A04 (by rw[show k-1+1=k by omega];exact hk)⟩,by omega⟩
   ·rintro⟨i,hi,rfl⟩
    exact of_decide_eq_true (B39.1 hi).2
 refine (hp.flatMap_right _).trans ?_
 rw[List.flatMap_map]
 exact .refl _
end
end
section
attribute [local irreducible] BR BS Db
structure IoR (inl:Bool) (its:List It) (S1 S:PS) (I:Bs) (nb c:Nat) (o:AA) (la:List (Bs×Bs)) (cl:List Nat):Prop where
 ino:InoOK I nb (rawL I c) c o.X o.C la cl
 l:o.l=xaOf la
 l0:o.l=[]
 mode:o.X.mode=modeAt S1.M c
 nd:∃ p,S.M[c-1]? = some (some p)∧o.X.links=p.links∧o.X.uid=p.uid∧o.X.gid=p.gid∧cl=exO (some p)
 dir:dirB its c=true→o.X.inl=false∧o.C=bsD S1.M its c∧o.E=(enD S1.M its c).map rdE
 item:∀ j it,c=12+j→its[j]? = some it→it.isD=false→o.C=it.data∧o.E=[]
theorem Hx {m k:Nat}(h:kindB m=k):kindL m=if k=32768 then 1 else if k=16384 then 2 else if k=8192 then 3 else if k=24576 then 4 else if k=4096 then 5 else if k=49152 then 6 else if k=40960 then 7 else 0:=by
 subst h;rfl
theorem Jn {m:Nat}:kindL m=2↔kindB m=16384:=by
 rw[Hx rfl]
 constructor
 ·intro h
  repeat' split at h
  all_goals first|assumption|omega
 ·intro h;rw[h];rfl
theorem MH (m:Nat):EG m=kindL m:=rfl
section
variable {inl:Bool} {its:List It} {S1 S:PS} {D:List Nat} {c:Nat}
theorem AFd (w:Wr inl its S1)(hio:A7 its)(hib:∀ it∈its,Y6 it)(hn:its.length≤2000)(a:JU its S1 D S)(hpb:S.pos≤120000000)(hD:∀ k,k∈D↔dirB its k=true)(cl:ClOK S)(hc:c∈VV its) :
  ∃ o la bl,IoR inl its S1 S (BS S) (GF S) c o la bl:=by
 have hc':=BE.1 hc
 obtain⟨p,hp⟩:=FK w hio hib hn a hpb hD hc'
 have hlen:S.M.length=11+its.length:=a.len.trans w.len
 obtain⟨i1,i2,i3⟩:=D9 S.M.length
 have e0:BH S=ipgOf S.M.length:=rfl
 have hraw:rawL (BS S) c=BR p:=by
  rw[Tu cl (by omega) (by omega),hp.at_];rfl
 have hvd:GF S=S.pos/4096+ipgOf S.M.length/16+2:=rfl
 have hvl:=cl.vd
 have hBx:bx S.B S.pos=S.B:=VA cl.B
 have hal:=a.al
 have hbig:=a.big
 by_cases hb:dirB its c=true
 ·obtain⟨st,q,b1,b2,b3,b4,b5,b6⟩:=hp.dir hb
  obtain⟨l1,l2,l3⟩:=Jp hio (by omega) (by omega) (by omega) S1.M (c:=c)
  have hk:kindB p.mode=16384:=by rw[b2];exact b1.mode
  have h:=Sv (p:=p) (I:=BS S) (nb:=GF S) (n:=c) (st:=st) (len:=(bsD S1.M its c).length/4096) hp.fin.b (by rw[b2];rfl) (by rw[b2];rfl) b6 (by rw[b2];show _<(bsD S1.M its c).length;omega) (by rw[b2];show (bsD S1.M its c).length≤_;omega) (by rw[b2];rfl) (by omega) (by omega) (by omega) (by omega) (.inl hk) (.inr (.inl (Jn.2 hk)))
  have hC:((BS S).drop (st*4096)).take p.size=bsD S1.M its c:=by
   have:p.size=(bsD S1.M its c).length:=by rw[b2];rfl
   rw[this,Ot cl b3 b4,←hBx]
   exact b5
  rw[hC] at h
  have hx:leL (extRoot ((bsD S1.M its c).length/4096) st) 20 4=st:=by
   obtain⟨x1,_⟩:=ES (len:=(bsD S1.M its c).length/4096) (st:=st) (by omega) (by omega)
   have:=x1.st
   rw[EQ (by omega),DQ] at this
   exact this
  refine⟨⟨_,_,[],(enD S1.M its c).map rdE⟩,_,_,⟨by rw[hraw];exact h,rfl,rfl,hp.mode,⟨p,hp.at_,rfl,rfl,rfl,?_⟩,fun _=>⟨?_,rfl,rfl⟩,?_⟩⟩
  ·show _=Nz p
   unfold Nz
   rw[A03 (by rw[b2];rfl),b2]
   show _=(List.range ((bsD S1.M its c).length/4096)).map (leL (extRoot ((bsD S1.M its c).length/4096) st) 20 4 + ·)
   rw[hx]
  ·show decide (p.flags &&& 268435456≠0)=false
   have hfl:p.flags=786432:=by rw[b2];rfl
   rw[hfl];decide
  ·intro j it h1 h2 h3
   exfalso
   rcases Aj.1 hb with h|h|⟨j',x,e1,e2,e3⟩
   ·omega
   ·omega
   ·have:j'=j:=by omega
    subst this
    rw[h2] at e1
    rw[A14 e1] at h3
    rw[e2] at h3;cases h3
 ·obtain⟨j,rfl⟩:∃ j,c=12+j:=by
   rcases hc' with rfl|⟨h1,h2⟩
   ·exact absurd (Aj.2 (.inl rfl)) hb
   ·by_cases h11:c=11
    ·subst h11;exact absurd (Aj.2 (.inr (.inl rfl))) hb
    ·exact⟨c-12,by omega⟩
  have hj:its[j]? = some its[j]:=A00 (by omega)
  have hisD:its[j].isD=false:=by
   cases h:its[j].isD with
   | false=>rfl
   | true=>exact absurd (Aj.2 (.inr (.inr ⟨j,_,hj,h,rfl⟩))) hb
  obtain⟨he,hh⟩:=hp.item j _ rfl hj hisD
  have hi:=hio j _ hj
  have hdat:=hi.dat
  have hkd:kindB p.mode=its[j].kd:=by rw[he];rfl
  have hsz:p.size=szK its[j].kd its[j].f.size:=by rw[he];rfl
  have hxb:p.xbs=xinK inl its[j].kd its[j].f.size:=by rw[he];rfl
  have hhh:=hh.hold
  have ofItem:∀ {o:AA} {la:List (Bs×Bs)} {bl:List Nat},InoOK (BS S) (GF S) (BR p) (12+j) o.X o.C la bl→o.l=xaOf la→o.l=[]→o.X.mode=p.mode→o.X.links=p.links→o.X.uid=p.uid→o.X.gid=p.gid→bl=Nz p→o.C=its[j].data→o.E=[]→IoR inl its S1 S (BS S) (GF S) (12+j) o la bl:=by
   intro o la bl q1 q2 q3 q4 q5 q6 q7 q8 q9 q10
   refine⟨by rw[hraw];exact q1,q2,q3,q4.trans hp.mode,⟨p,hp.at_,q5,q6,q7,q8⟩,fun h=>absurd h hb,?_⟩
   intro j' it h1 h2 _
   have:j'=j:=by omega
   subst this
   rw[hj] at h2
   obtain rfl:=A14 h2
   exact⟨q9,q10⟩
  by_cases hin:inlK inl its[j].kd its[j].f.size=true
  ·rw[A03 hin] at hhh
   have hin2:=hin
   unfold inlK at hin2
   simp only[A42,A84,beq_iff_eq] at hin2
   rw[A03 hin2.1.2] at hdat
   have hsz2:p.size=its[j].f.size:=by rw[hsz];unfold szK;rw[A03 hin2.1.2]
   have hx2:p.xbs=I0 [Ep (.slice none 0 0) p.size]:=by rw[hxb,hsz2];unfold xinK;rw[A03 hin]
   have hl2:=SQ cl
   have h:=AAs (p:=p) (I:=BS S) (nb:=GF S) (n:=12+j) hp.fin.b hhh.1 (by rw[hhh.2.1];omega) hx2 (by omega) hhh.2.2 (by rw[hkd];exact hin2.1.2) (by omega)
   refine⟨⟨_,_,[],[]⟩,_,_,ofItem h ?_ rfl rfl rfl rfl rfl ?_ hhh.2.1 rfl⟩
   ·show []=xaOf [(sysd,p.dbs.drop 60)]
    unfold xaOf
    rw[List.filter_cons,A05 (by simp)];rfl
   ·unfold Nz;rw[A05 (by rw[hhh.1];decide)]
  ·rw[A05 hin] at hhh
   have hx0:p.xbs=[]:=by rw[hxb];unfold xinK;rw[A05 hin]
   by_cases h0:its[j].data=[]
   ·rw[A03 h0] at hhh
    have hs0:p.size=0:=by
     rw[hsz];unfold szK
     split
     ·rename_i h;rw[A03 h,h0] at hdat;exact hdat
     ·rfl
    have hkk:kindL p.mode=1∨kindL p.mode=3∨kindL p.mode=4∨kindL p.mode=5∨kindL p.mode=6:=by
     have hko:kindOk its[j].kd:=hi.file.kind
     unfold kindOk at hko
     rw[Hx hkd]
     rcases hko with h|h|h|h|h|h
     ·rw[h];exact .inl rfl
     ·have:its[j].isD=true:=A04 h
      rw[hisD] at this;cases this
     ·rw[h];exact .inr (.inr (.inr (.inl rfl)))
     ·rw[h];exact .inr (.inr (.inr (.inr rfl)))
     ·rw[h];exact .inr (.inl rfl)
     ·rw[h];exact .inr (.inr (.inl rfl))
    obtain⟨X',h,hX⟩:=Ub (p:=p) (I:=BS S) (nb:=GF S) (n:=12+j) hp.fin.b hhh.1 hhh.2.1 hx0 hs0 hhh.2.2 hkk
    refine⟨⟨X',[],[],[]⟩,_,_,ofItem h rfl rfl (by show X'.mode=_;rw[hX];rfl) (by show X'.links=_;rw[hX];rfl) (by show X'.uid=_;rw[hX];rfl) (by show X'.gid=_;rw[hX];rfl) ?_ h0.symm rfl⟩
    unfold Nz;rw[A05 (by rw[hhh.1];decide)]
   ·rw[A05 h0] at hhh
    obtain⟨st,c1,c2,c3,c4,c5,c6⟩:=hhh
    have hreg:its[j].kd=32768:=by
     rcases Decidable.em (its[j].kd=32768) with h|h
     ·exact h
     ·rw[A05 h] at hdat;exact absurd hdat h0
    rw[A03 hreg] at hdat
    have hsz2:p.size=its[j].data.length:=by rw[hsz];unfold szK;rw[A03 hreg];exact hdat
    have hpos:0<its[j].data.length:=A99.2 h0
    have hst:st+p.bcnt≤S.pos/4096:=by omega
    have h:=Sv (p:=p) (I:=BS S) (nb:=GF S) (n:=12+j) (st:=st) (len:=p.bcnt) hp.fin.b c1 c2 hx0 (by omega) (by omega) rfl (by omega) (by omega) (by omega) (by omega) (.inr (.inl (by rw[hkd];exact hreg))) (.inl (by rw[Hx hkd,hreg];rfl))
    have hC:((BS S).drop (st*4096)).take p.size=its[j].data:=by
     rw[hsz2,Ot cl c4 (by omega),←hBx]
     exact c6
    rw[hC] at h
    have hx:leL p.dbs 20 4=st:=by
     obtain⟨x1,_⟩:=ES (len:=p.bcnt) (st:=st) (by omega) (by omega)
     have:=x1.st
     rw[EQ (by omega),DQ] at this
     rw[c2]
     exact this
    refine⟨⟨_,_,[],[]⟩,_,_,ofItem h rfl rfl rfl rfl rfl rfl ?_ rfl rfl⟩
    unfold Nz;rw[A03 c1,hx]
end
end
section
attribute [local irreducible] BR BS Db
def CR (M:List (Option PN))(its:List It)(c:Nat):List EN:=if dirB its c=true then (esOf its c).map fun e=>(e.1,e.2,EG (modeAt M e.2)) else []
theorem LA (c:Nat)(P:Nat→Bool):∀ (l:List It) (k:Nat),(∀ j it,l[j]? = some it→P (k+j)=it.isD)→((CJ c k l).filter fun e=>P e.2).length=(l.filter fun it=>decide (it.dir=c)&&it.isD).length
 | [],_,_=>rfl
 | a::l,k,h=>by
  have h0:P k=a.isD:=h 0 a rfl
  have ih:=LA c P l (k+1) fun j it hj=>by
   rw[show k+1+j=k+(j+1) by omega]
   exact h (j+1) it (by rw[A63];exact hj)
  rw[CJ,List.filter_cons (p:=fun it:It=>decide (it.dir=c)&&it.isD)]
  by_cases hc:a.dir=c
  ·rw[A03 hc,List.filter_cons]
   have hpk:P ((a.nm,k):Bs×Nat).2=a.isD:=h0
   rw[hpk]
   cases ha:a.isD with
   | true=>simp[hc,ih]
   | false=>simp[ih]
  ·rw[A05 hc,ih]
   simp[hc]
section
variable {inl:Bool} {its:List It} {S1 S:PS} {D:List Nat} {c:Nat}
theorem RZ (hio:A7 its)(c:Nat):((esOf its c).filter fun e=>dirB its e.2).length=(if c=2 then 1 else 0)+dirsOf its c:=by
 unfold esOf kidsOf
 rw[B08,A01,LA c (dirB its) its 12 fun j it hj=>?_]
 ·have e:dirsOf its c=(its.filter fun it=>decide (it.dir=c)&&it.isD).length:=rfl
  rw[←e]
  by_cases h:c=2
  ·rw[A03 h,A03 h]
   have:dirB its 11=true:=Aj.2 (.inr (.inl rfl))
   simp[this]
  ·rw[A05 h,A05 h];rfl
 ·cases h:it.isD with
  | true=>exact Aj.2 (.inr (.inr ⟨j,it,hj,h,rfl⟩))
  | false=>
   cases hb:dirB its (12+j) with
   | false=>rfl
   | true=>
    rcases Aj.1 hb with h1|h1|⟨j',x,e1,e2,e3⟩
    ·omega
    ·omega
    ·have:j'=j:=by omega
     subst this
     rw[hj] at e1
     rw[←A14 e1,h] at e2;cases e2
theorem Dt (w:Wr inl its S1){k:Nat}(hk:k∈VV its):kindL (modeAt S1.M k)=2↔dirB its k=true:=by
 obtain⟨p,hp⟩:=Ji w (BE.1 hk)
 have e:modeAt S1.M k=p.mode:=by unfold modeAt;rw[hp]
 rw[e,Jn]
 exact PR w (BE.1 hk) hp
theorem JY (hio:A7 its)(hc:c∈VV its)(h2:c≠2):dirB its (parOf its c)=true∧(∃ nm,(nm,c)∈esOf its (parOf its c)):=by
 rcases BE.1 hc with h|⟨h1,h3⟩
 ·exact absurd h h2
 ·by_cases h11:c=11
  ·subst h11
   exact⟨Aj.2 (.inl rfl),lostN,Co.2 (.inl ⟨rfl,rfl⟩)⟩
  ·obtain⟨j,rfl⟩:∃ j,c=12+j:=⟨c-12,by omega⟩
   have hj:its[j]? = some its[j]:=A00 (by omega)
   rw[HY hj]
   refine⟨?_,its[j].nm,Co.2 (.inr ⟨j,_,hj,rfl,rfl⟩)⟩
   obtain⟨st,hw,_⟩:=(hio j _ hj).way
   rcases hw.cases with⟨h4,_⟩|⟨j',x,e1,e2,e3⟩
   ·exact Aj.2 (.inl h4)
   ·have hl:=(A02.1 e1).1
    rw[A20] at hl
    rw[A41,A03 (by omega)] at e1
    exact Aj.2 (.inr (.inr ⟨j',x,e1,e2,e3⟩))
theorem TD (hio:A7 its){e:Bs×Nat}(he:e∈esOf its c):(47:UInt8)∉e.1∧e.1≠[46]∧e.1≠[46,46]:=by
 rcases Co.1 he with⟨h1,h2⟩|⟨j,it,h1,h2,h3⟩
 ·subst h2;decide
 ·subst h3
  exact⟨(hio j it h1).ns,(hio j it h1).nd⟩
theorem Ui (hio:A7 its)(M:List (Option PN)):(((VV its).flatMap (CR M its)).map (·.2.1)).Nodup∧∀ k,k∈VV its→k≠2→k∈((VV its).flatMap (CR M its)).map (·.2.1):=by
 constructor
 ·rw[List.map_flatMap]
  unfold List.Nodup
  rw[List.pairwise_flatMap]
  constructor
  ·intro c hc
   unfold CR
   split
   ·rw[B05,B32]
    exact (IB c).imp fun h e=>by
     have:(_:Nat)=_:=e
     simp only[Function.comp] at this
     omega
   ·exact .nil
  ·refine List.Pairwise.imp ?_ Fb
   intro a b hab x hx y hy hxy
   subst hxy
   have key:∀ c,x∈(CR M its c).map (·.2.1)→parOf its x=c:=fun c h=>by
    unfold CR at h
    split at h
    ·rw[B05] at h
     obtain⟨e,he,rfl⟩:=A35.1 h
     exact (DT hio he).2.1
    ·cases h
   exact hab ((key a hx).symm.trans (key b hy))
 ·intro k hk h2
  obtain⟨p1,nm,p2⟩:=JY hio hk h2
  obtain⟨a1,a2,a3,a4,a5⟩:=DT hio p2
  rw[A35]
  refine⟨(nm,k,EG (modeAt M k)),A98.2 ⟨parOf its k,?_,?_⟩,rfl⟩
  ·rw[BE]
   rcases Aj.1 p1 with h|h|⟨j,it,h1,h3,h4⟩
   ·exact .inl h
   ·exact .inr (by omega)
   ·have:=(A02.1 h1).1
    exact .inr (by omega)
  ·unfold CR
   rw[A03 p1]
   exact A35.2 ⟨_,p2,rfl⟩
theorem Yj (w:Wr inl its S1)(hio:A7 its)(hib:∀ it∈its,Y6 it)(hn:its.length≤2000)(a:JU its S1 D S)(hpb:S.pos≤120000000)(hD:∀ k,k∈D↔dirB its k=true)(cl:ClOK S)(hgrp:(grpL (BS S) (BH S)++blks (S.pos/4096)).Perm (List.range (GF S))) :
  ∃ io la bl,(∀ c∈VV its,IoR inl its S1 S (BS S) (GF S) c (io c) (la c) (bl c))∧GV (BS S) (GF S) (BH S) (VV its) io la bl (parOf its) (CR S1.M its):=by
 have hx:∀ c,∃ x:AA×List (Bs×Bs)×List Nat,c∈VV its→IoR inl its S1 S (BS S) (GF S) c x.1 x.2.1 x.2.2:=fun c=>by
  by_cases hc:c∈VV its
  ·obtain⟨o,la,bl,h⟩:=AFd w hio hib hn a hpb hD cl hc
   exact⟨(o,la,bl),fun _=>h⟩
  ·exact⟨(⟨If,[],[],[]⟩,[],[]),fun h=>absurd h hc⟩
 obtain⟨f,hf⟩:=Classical.axiomOfChoice hx
 have hlen:S.M.length=11+its.length:=a.len.trans w.len
 obtain⟨i1,i2,i3⟩:=D9 S.M.length
 have e0:BH S=ipgOf S.M.length:=rfl
 have h2V:2∈VV its:=BE.2 (.inl rfl)
 have hk2:∀ c∈VV its,(kindL (f c).1.X.mode=2↔dirB its c=true):=fun c hc=>by
  rw[(hf c hc).mode];exact Dt w hc
 have hd2:dirB its 2=true:=Aj.2 (.inl rfl)
 have hrest:∀ c∈VV its,dirB its c=true→(enD S1.M its c).map rdE=([46],c,2)::([46,46],parOf its c,2)::CR S1.M its c:=fun c hc hb=>by
  have hp2:dirB its (parOf its c)=true∧parOf its c∈VV its:=by
   by_cases h2:c=2
   ·subst h2;exact⟨hd2,h2V⟩
   ·have h1:=(JY hio hc h2).1
    refine⟨h1,BE.2 ?_⟩
    rcases Aj.1 h1 with h|h|⟨j,it,h3,h4,h5⟩
    ·exact .inl h
    ·exact .inr (by omega)
    ·have:=(A02.1 h3).1
     exact .inr (by omega)
  rw[IX hio,A33,A33,B05]
  unfold CR
  rw[A03 hb,MH,MH,(Dt w hc).2 hb,(Dt w hp2.2).2 hp2.1]
  rfl
 have hkid:∀ c∈VV its,∀ e∈CR S1.M its c,dirB its c=true∧∃ x∈esOf its c,e=(x.1,x.2,EG (modeAt S1.M x.2)):=fun c _ e he=>by
  unfold CR at he
  split at he
  ·rename_i hb
   obtain⟨x,hx,rfl⟩:=A35.1 he
   exact⟨hb,x,hx,rfl⟩
  ·cases he
 have hcl:((VV its).flatMap fun c=>(f c).2.2).Perm (blks (S.pos/4096)):=by
  refine List.Perm.trans ?_ (MB w a hD)
  have:(VV its).flatMap (fun c=>(f c).2.2)=(VV its).flatMap fun k=>exO (S.M[k-1]?).join:=by
   have key:∀ V:List Nat,(∀ c∈V,c∈VV its)→V.flatMap (fun c=>(f c).2.2)=V.flatMap fun k=>exO (S.M[k-1]?).join:=by
    intro V
    induction V with
    | nil=>intro _;rfl
    | cons c V ih=>
     intro h
     rw[A37,A37,ih fun k hk=>h k (A16 _ hk)]
     obtain⟨p,h1,_,_,_,h2⟩:=(hf c (h c (A13 ..))).nd
     rw[h1,h2];rfl
   exact key _ fun _ h=>h
  rw[this]
 have hall:=(hcl.append_left (grpL (BS S) (BH S))).trans hgrp
 refine⟨fun c=>(f c).1,fun c=>(f c).2.1,fun c=>(f c).2.2,hf,?_⟩
 refine⟨Fb,h2V,?_,fun c hc=>(hf c hc).ino,fun c hc=>(hf c hc).l,?_,?_,⟨(hk2 2 h2V).2 hd2,rfl⟩,?_,?_,?_,?_,?_,hall.nodup_iff.2 List.nodup_range,fun n hn=>A96.1 (hall.mem_iff.1 hn),?_,?_⟩
 ·intro c hc
  have:=BE.1 hc
  omega
 ·intro c hc hk
  have hb:¬dirB its c=true:=fun h=>hk ((hk2 c hc).2 h)
  refine⟨?_,by unfold CR;rw[A05 hb]⟩
  obtain⟨j,rfl⟩:∃ j,c=12+j:=by
   rcases BE.1 hc with rfl|⟨h1,h2⟩
   ·exact absurd hd2 hb
   ·by_cases h11:c=11
    ·subst h11;exact absurd (Aj.2 (.inr (.inl rfl))) hb
    ·exact⟨c-12,by omega⟩
  have:=BE.1 hc
  have hj:its[j]? = some its[j]:=A00 (by omega)
  have hisD:its[j].isD=false:=by
   cases h:its[j].isD with
   | false=>rfl
   | true=>exact absurd (Aj.2 (.inr (.inr ⟨j,_,hj,h,rfl⟩))) hb
  exact ((hf _ hc).item j _ rfl hj hisD).2
 ·intro c hc hk
  have hb:=(hk2 c hc).1 hk
  obtain⟨g1,g2,g3⟩:=(hf c hc).dir hb
  have hcV:=BE.1 hc
  obtain⟨d1,d2,d3,d4⟩:=Oo (VX hio (by omega) (by omega) (by omega) S1.M (c:=c))
  have hel:=Hq its c
  rw[SU hio] at d4
  refine⟨g1,by rw[g2,g3];exact d1,?_,?_,by rw[g3];exact hrest c hc hb⟩
  ·rw[g2]
   show (Bg (enD S1.M its c)).length<10000000
   omega
  ·rw[g3,hrest c hc hb]
   have hr:CR S1.M its c=(esOf its c).map fun e=>(e.1,e.2,EG (modeAt S1.M e.2)):=by unfold CR;rw[A03 hb]
   have hnd:((([46],c,2)::([46,46],parOf its c,2)::CR S1.M its c:List EN).map (·.1)).Nodup:=by
    rw[hr,A33,A33,B05,A90,A90]
    have hm:∀ nm,nm∈(esOf its c).map ((fun e:EN=>e.1)∘fun e=>(e.1,e.2,EG (modeAt S1.M e.2)))→∃ e∈esOf its c,nm=e.1:=fun nm h=>by
     obtain⟨e,he,h⟩:=A35.1 h
     exact⟨e,he,h.symm⟩
    refine⟨?_,?_,C1 hio c⟩
    ·rw[A32]
     rintro (h|h)
     ·cases h
     ·obtain⟨e,he,h⟩:=hm _ h
      exact (TD hio he).2.1 h.symm
    ·intro h
     obtain⟨e,he,h⟩:=hm _ h
     exact (TD hio he).2.2 h.symm
   refine⟨?_,?_,?_⟩
   ·intro i j p q h1 h2 h3 he
    have hi:((([46],c,2)::([46,46],parOf its c,2)::CR S1.M its c:List EN).map (·.1))[i]? = some p.1:=by rw[A21,h1];rfl
    have hj:((([46],c,2)::([46,46],parOf its c,2)::CR S1.M its c:List EN).map (·.1))[j]? = some q.1:=by rw[A21,h2];rfl
    unfold List.Nodup at hnd
    rw[List.pairwise_iff_getElem] at hnd
    obtain⟨hil,hie⟩:=A02.1 hi
    obtain⟨hjl,hje⟩:=A02.1 hj
    exact hnd j i hjl hil h3 (by rw[hje,hie,he])
   ·intro p hp
    rcases A32.1 hp with h|h
    ·subst h;show (47:UInt8)∉[46];decide
    ·rcases A32.1 h with h|h
     ·subst h;show (47:UInt8)∉[46,46];decide
     ·rw[hr] at h
      obtain⟨e,he,rfl⟩:=A35.1 h
      exact (TD hio he).1
   ·intro p hp
    rcases A32.1 hp with h|h
    ·subst h;show 1<1000;omega
    ·rcases A32.1 h with h|h
     ·subst h;show 2<1000;omega
     ·rw[hr] at h
      obtain⟨e,he,rfl⟩:=A35.1 h
      have:=(W2 hio he).2
      show e.1.length<1000
      omega
 ·intro c hc e he
  obtain⟨hb,x,hx,rfl⟩:=hkid c hc e he
  obtain⟨a1,a2,a3,a4,a5⟩:=DT hio hx
  have hxV:x.2∈VV its:=BE.2 (.inr ⟨a4,a3⟩)
  exact⟨hxV,a4,by rw[(hf x.2 hxV).mode];exact MH _⟩
 ·intro c hc e he _
  obtain⟨hb,x,hx,rfl⟩:=hkid c hc e he
  exact (DT hio hx).2.1
 ·intro c hc
  refine List.Pairwise.filter _ ?_
  unfold CR
  split
  ·rw[B32]
   exact (IB c).imp fun h=>Nat.ne_of_lt h
  ·exact .nil
 ·intro c hc h2
  obtain⟨p1,nm,p2⟩:=JY hio hc h2
  obtain⟨a1,a2,a3,a4,a5⟩:=DT hio p2
  refine⟨parOf its c,BE.2 ?_,⟨(nm,c,EG (modeAt S1.M c)),?_,rfl⟩,fun _=>a1⟩
  ·rcases Aj.1 p1 with h|h|⟨j,it,h3,h4,h5⟩
   ·exact .inl h
   ·exact .inr (by omega)
   ·have:=(A02.1 h3).1
    exact .inr (by omega)
  ·unfold CR
   rw[A03 p1]
   exact A35.2 ⟨_,p2,rfl⟩
 ·intro c hc
  obtain⟨p,n1,n2,_⟩:=(hf c hc).nd
  rw[n2]
  by_cases hb:dirB its c=true
  ·rw[A03 ((hk2 c hc).2 hb)]
   have hfl:((CR S1.M its c).filter fun e=>decide (e.2.2=2)).length=((esOf its c).filter fun e=>dirB its e.2).length:=by
    unfold CR
    rw[A03 hb,List.filter_map,A25]
    congr 1
    apply List.filter_congr
    intro e he
    obtain⟨a1,a2,a3,a4,a5⟩:=DT hio he
    have:=Dt w (k:=e.2) (BE.2 (.inr ⟨a4,a3⟩))
    show decide (EG (modeAt S1.M e.2)=2)=dirB its e.2
    rw[MH]
    cases hd:dirB its e.2 with
    | true=>exact A04 (this.2 hd)
    | false=>exact A08 fun h=>by rw[this.1 h] at hd;cases hd
   rw[hfl,RZ hio]
   obtain⟨q,st,b1,b2,_⟩:=a.in_ c ((hD c).2 hb)
   rw[n1] at b2
   have hpl:p.links=q.links:=by rw[A14 (A14 b2)];rfl
   rw[hpl]
   have hat:=b1.at_
   rcases Aj.1 hb with rfl|rfl|⟨j,it,h1,h3,rfl⟩
   ·have:=A14 (A14 (hat.symm.trans w.root))
    rw[this]
    show 3+dirsOf its 2=1+dirsOf its 2+2
    omega
   ·have:=A14 (A14 (hat.symm.trans w.lf))
    rw[this]
    show 2+dirsOf its 11=0+dirsOf its 11+2
    omega
   ·obtain⟨p',hp',he,_⟩:=w.node j it h1
    rw[show 12+j-1=11+j by omega] at hat
    have:=A14 (A14 (hat.symm.trans hp'))
    rw[this,he]
    show 1+(if it.isD=true then 1+dirsOf its (12+j) else 0)=(if 12+j=2 then 1 else 0)+dirsOf its (12+j)+2
    rw[A03 h3,A05 (by omega)]
    omega
  ·rw[A05 fun h=>hb ((hk2 c hc).1 h)]
   obtain⟨r1,r2⟩:=Ui hio S1.M
   have hc2:c≠2:=fun h=>hb (by rw[h];exact hd2)
   rw[r1.count,A03 (r2 c hc hc2)]
   obtain⟨p',hp'⟩:=FK w hio hib hn a hpb hD (BE.1 hc)
   have:=hp'.at_
   rw[n1] at this
   have:=A14 (A14 this)
   subst this
   obtain⟨j,rfl⟩:∃ j,c=12+j:=by
    rcases BE.1 hc with rfl|⟨h1,h2⟩
    ·exact absurd hd2 hb
    ·by_cases h11:c=11
     ·subst h11;exact absurd (Aj.2 (.inr (.inl rfl))) hb
     ·exact⟨c-12,by omega⟩
   have:=BE.1 hc
   have hj:its[j]? = some its[j]:=A00 (by omega)
   have hisD:its[j].isD=false:=by
    cases h:its[j].isD with
    | false=>rfl
    | true=>exact absurd (Aj.2 (.inr (.inr ⟨j,_,hj,h,rfl⟩))) hb
   rw[(hp'.item j _ rfl hj hisD).1]
   show 1+(if its[j].isD=true then 1+dirsOf its (12+j) else 0)=1
   rw[hisD];simp
 ·unfold VV
  simp
  omega
 ·have h1:=WA (its:=its) (VV its) Fb
  have h2:((VV its).map fun c=>(CR S1.M its c).length).sum≤((VV its).map fun c=>(esOf its c).length).sum:=by
   generalize VV its=V
   induction V with
   | nil=>exact A07 _
   | cons c V ih=>
    rw[A33,A75,A33,A75]
    have:(CR S1.M its c).length≤(esOf its c).length:=by
     unfold CR
     split
     ·rw[A25];exact A07 _
     ·exact A39 _
    omega
  omega
end
end
section
attribute [local irreducible] BR BS Db
theorem Sa {l:List Bool}{c:Nat}(hc:c<l.length):∀ n,n<l.length→((usd n l).getD c false=true↔1≤c∧c≤n∨l.getD c false=true)
 | 0,_=>by
  show l.getD c false=true↔_
  constructor
  ·exact .inr
  ·rintro (h|h)
   ·omega
   ·exact h
 | n+1,hn=>by
  rw[usd,DV (by rw[J0];exact hn)]
  by_cases h:n+1=c
  ·rw[A03 h];simp;omega
  ·rw[A05 h,Sa hc n (by omega)]
   constructor
   ·rintro (h1|h1)
    ·exact .inl (by omega)
    ·exact .inr h1
   ·rintro (h1|h1)
    ·exact .inl (by omega)
    ·exact .inr h1
theorem SP {c:Nat}:∀ (os:List AA) (U:List Bool),(∀ o∈os,o.X.num<U.length)→((mkU U os).getD c false=true↔(∃ o∈os,o.X.num=c)∨U.getD c false=true)
 | [],U,_=>by show U.getD c false=true↔_;simp
 | o::os,U,h=>by
  show (mkU (U.set o.X.num true) os).getD c false=true↔_
  rw[SP os (U.set o.X.num true) (fun x hx=>by rw[A89];exact h x (A16 _ hx)),DV (h o (A13 ..))]
  by_cases hc:o.X.num=c
  ·rw[A03 hc]
   exact⟨fun _=>.inl ⟨o,A13 ..,hc⟩,fun _=>.inr rfl⟩
  ·rw[A05 hc]
   constructor
   ·rintro (⟨x,hx,h1⟩|h1)
    ·exact .inl ⟨x,A16 _ hx,h1⟩
    ·exact .inr h1
   ·rintro (⟨x,hx,h1⟩|h1)
    ·rcases A32.1 hx with h2|h2
     ·subst h2;exact absurd h1 hc
     ·exact .inl ⟨x,h2,h1⟩
    ·exact .inr h1
theorem Vg (f:Nat→Bool):∀ n,Dc f n=cntN f n
 | 0=>rfl
 | n+1=>by
  rw[Dc,Df,Vg f n]
  cases f n<;>simp
theorem OI (f:Nat→Bool):∀ n,cntN f n+cntN (fun i=>!f i) n=n
 | 0=>rfl
 | n+1=>by
  have:=OI f n
  rw[Df,Df]
  cases f n<;>simp<;>omega
theorem Tv (g:Nat→Bool)(n:Nat):∀ m,n≤m→cntN (fun i=>decide (i<n)&&g i) m=cntN g n
 | 0,h=>by
  have:n=0:=by omega
  subst this;rfl
 | m+1,h=>by
  rw[Df]
  by_cases hn:n=m+1
  ·subst hn
   rw[Df]
   have:cntN (fun i=>decide (i<m+1)&&g i) m=cntN g m:=by
    unfold cntN
    congr 1
    apply List.filter_congr
    intro i hi
    have:=A96.1 hi
    have:i<m+1:=by omega
    simp[this]
   rw[this]
   simp
  ·rw[Tv g n m (by omega)]
   have:¬m<n:=by omega
   simp[this]
theorem Py {f g:Nat→Bool}{n:Nat}(h:∀ i,i<n→f i=g i):cntN f n=cntN g n:=by
 unfold cntN
 congr 1
 exact List.filter_congr fun i hi=>h i (A96.1 hi)
theorem Lz {f:Nat→Bool}{n:Nat}(h:∀ i,i<n→f i=false):cntN f n=0:=by
 unfold cntN
 rw[A69,List.filter_eq_nil_iff]
 intro i hi
 rw[h i (A96.1 hi)]
 decide
theorem Wy {S:PS}(c:ClOK S):(grpL (BS S) (BH S)++blks (S.pos/4096)).Perm (List.range (GF S)):=by
 obtain⟨g0,g1,g2⟩:=RX c
 have hb:=c.big
 obtain⟨i1,_,_⟩:=D9 S.M.length
 have e0:BH S=ipgOf S.M.length:=rfl
 have e1:E7 S=S.pos/4096:=rfl
 have e2:GF S=S.pos/4096+ipgOf S.M.length/16+2:=rfl
 unfold grpL
 unfold itL at g0
 rw[g0,g1,g2]
 have hr:List.range (GF S)=[0,1]++blks (S.pos/4096)++(List.range (BH S/16)).map (E7 S + ·)++[E7 S+BH S/16,E7 S+BH S/16+1]:=by
  have h1:List.range (GF S)=[0,1]++blks (GF S):=by
   unfold blks
   have:GF S=2+(GF S-2):=by omega
   rw[this,List.range_add]
   congr 1
   rw[show 2+(GF S-2)-2=GF S-2 by omega]
   apply A72
   intro i _
   omega
  rw[h1,Kd (a:=S.pos/4096) (b:=GF S) (by omega) (by omega)]
  have h2:GF S-S.pos/4096=BH S/16+2:=by omega
  rw[h2,List.range_add,A36,B05]
  simp only[A12]
  congr 3
 rw[hr]
 simp only[A12]
 refine List.Perm.append_left _ ?_
 refine List.perm_append_comm.trans ((List.perm_append_comm.append_right _).trans ?_)
 rw[A12]
section
variable {inl:Bool} {its:List It} {S1 S:PS} {D:List Nat}
theorem X4 (w:Wr inl its S1)(hio:A7 its)(hib:∀ it∈its,Y6 it)(hn:its.length≤2000)(a:JU its S1 D S)(hpb:S.pos≤120000000)(hD:∀ k,k∈D↔dirB its k=true)(cl:ClOK S) :
  ∃ (io:Nat→AA) (la:Nat→List (Bs×Bs)) (bl:Nat→List Nat) (R:List Nat) (T:TS) (k:Nat) (o0 o':Bs),(∀ c∈VV its,IoR inl its S1 S (BS S) (GF S) c (io c) (la c) (bl c))∧(2::R).Perm (VV its)∧PH (BS S) (GF S) (BH S) o0 o' T ((2::R).map io) k:=by
 have hgrp:=Wy cl
 obtain⟨io,la,bl,hf,t⟩:=Yj w hio hib hn a hpb hD cl hgrp
 have hlen:S.M.length=11+its.length:=a.len.trans w.len
 obtain⟨i1,i2,i3⟩:=D9 S.M.length
 have e0:BH S=ipgOf S.M.length:=rfl
 have e1:E7 S=S.pos/4096:=rfl
 have e2:GF S=S.pos/4096+ipgOf S.M.length/16+2:=rfl
 have hvl:=cl.vd
 have hal:=cl.al
 have hbig:=cl.big
 have hil:=SQ cl
 obtain⟨t0,t1,t2⟩:=RX cl
 have hit:itL (BS S)*4096+BH S*256≤(BS S).length:=by rw[t0,hil];omega
 obtain⟨R,T,k,hp,wk⟩:=Up t hit
 refine⟨io,la,bl,R,T,k,Pq (grpL (BS S) (BH S)) (List.replicate (GF S) 0),Pq (grpL (BS S) (BH S)++(2::R).flatMap bl) (List.replicate (GF S) 0),hf,hp,?_⟩
 have hfi:fiS S=cntN (fun i=>!A8 (OJ S) i) (BH S):=by
  have h1:=OI (A8 (OJ S)) (BH S)
  rw[←Vg] at h1
  show BH S-Dc (A8 (OJ S)) (BH S)=_
  omega
 have hfl:fiS S≤BH S:=Nat.sub_le _ _
 have hinc:IY S.inl=578∨IY S.inl=33346:=by unfold IY;split<;>simp
 obtain⟨sb,s12,s344,s16⟩:=AGu (ipg:=BH S) (vd:=GF S) (fi:=fiS S) (inc:=IY S.inl) (by omega) (by omega) (by omega) hinc
 have hsb:=AC2 cl
 rw[←hsb] at sb s12 s344 s16
 have hgn:∀ n∈grpL (BS S) (BH S),n<GF S:=fun n hn=>A96.1 (hgrp.mem_iff.1 (A81 _ hn))
 have hgd:(grpL (BS S) (BH S)).Nodup:=(A65.1 (hgrp.nodup_iff.2 List.nodup_range)).1
 refine⟨hil,by omega,by omega,by omega,by omega,by omega,sb,?_,wk,?_,?_⟩
 ·refine NV _ _ hgd fun n hn=>?_
  have:=hgn n hn
  simp[this]
 ·intro o ho
  obtain⟨c,hc,rfl⟩:=A35.1 ho
  have hcV:=hp.mem_iff.1 hc
  obtain⟨m1,m2⟩:=EU (t.ino c hcV)
  obtain⟨r1,r2⟩:=t.rng c hcV
  exact⟨by rw[m2];exact r1,by rw[m2];exact r2,m1⟩
 ·
  have hnum:∀ c∈VV its,(io c).X.num=c:=fun c hc=>(EU (t.ino c hc)).2
  have hU:∀ i,i<BH S→(mkU (usd 10 (List.replicate (BH S+1) false)) ((2::R).map io)).getD (i+1) false=A8 (OJ S) i:=fun i hi=>by
   have hj:(OJ S)[i]?.join.isSome=true↔i+1∈VV its:=by
    have e:(OJ S)[i]? = (S.M[i]?).map (Option.map FY):=A21 ..
    rw[e]
    constructor
    ·intro h
     rcases Decidable.em (i+1∈VV its) with h1|h1
     ·exact h1
     ·have h2:=Gd w a hD h1
      cases hm:S.M[i]? with
      | none=>rw[hm] at h;cases h
      | some o=>rw[hm] at h h2;have h2:o=none:=h2;subst h2;cases h
    ·intro h
     obtain⟨p,hp'⟩:=FK w hio hib hn a hpb hD (BE.1 h)
     have:=hp'.at_
     rw[A79] at this
     rw[this];rfl
   have hl:∀ o∈(2::R).map io,o.X.num<(usd 10 (List.replicate (BH S+1) false)).length:=fun o ho=>by
    obtain⟨c,hc,rfl⟩:=A35.1 ho
    have hcV:=hp.mem_iff.1 hc
    rw[hnum c hcV,J0,A09]
    have:=(t.rng c hcV).2
    omega
   have h1:=SP (c:=i+1) ((2::R).map io) (usd 10 (List.replicate (BH S+1) false)) hl
   have h2:=Sa (l:=List.replicate (BH S+1) false) (c:=i+1) (by rw[A09];omega) 10 (by rw[A09];omega)
   have h3:(List.replicate (BH S+1) false).getD (i+1) false=false:=by
    rw[A10,B18]
    split<;>rfl
   have h4:(∃ o∈(2::R).map io,o.X.num=i+1)↔i+1∈VV its:=by
    constructor
    ·rintro⟨o,ho,h⟩
     obtain⟨c,hc,rfl⟩:=A35.1 ho
     have hcV:=hp.mem_iff.1 hc
     rw[hnum c hcV] at h
     rw[←h];exact hcV
    ·intro h
     exact⟨io (i+1),A35.2 ⟨i+1,hp.mem_iff.2 h,rfl⟩,hnum _ h⟩
   have h5:(A8 (OJ S) i=true)↔i<10∨i+1∈VV its:=by
    unfold A8
    rw[B14,A84,hj]
   rw[h4,h2,h3] at h1
   cases hu:A8 (OJ S) i with
   | true=>
    rw[hu] at h5
    exact h1.2 (by
     rcases h5.1 rfl with h|h
     ·exact .inr (.inl (by omega))
     ·exact .inl h)
   | false=>
    rw[hu] at h5
    cases hm:(mkU (usd 10 (List.replicate (BH S+1) false)) ((2::R).map io)).getD (i+1) false with
    | false=>rfl
    | true=>
     exfalso
     rw[hm] at h1
     have:¬(i<10∨i+1∈VV its):=fun h=>by cases h5.2 h
     rcases h1.1 rfl with h|h|h
     ·exact this (.inr h)
     ·exact this (.inl (by omega))
     ·cases h
  have hbl:((2::R).flatMap bl).Perm ((VV its).flatMap bl):=hp.flatMap_right _
  have hmk:∀ i,mkB (GF S) (Pq (grpL (BS S) (BH S)++(2::R).flatMap bl) (List.replicate (GF S) 0)) i=true:=fun i=>by
   unfold mkB
   by_cases hi:GF S≤i
   ·rw[A04 hi,Bool.true_or]
   ·have hall:∀ n∈grpL (BS S) (BH S)++(2::R).flatMap bl,n<(List.replicate (GF S) (0:UInt8)).length:=fun n hn=>by
     rw[A09]
     exact t.blt n (((hbl.append_left _).mem_iff).1 hn)
    have hmem:i∈grpL (BS S) (BH S)++(2::R).flatMap bl:=by
     have hcov:((VV its).flatMap bl).Perm (blks (S.pos/4096)):=by
      refine List.Perm.trans ?_ (MB w a hD)
      have key:∀ V:List Nat,(∀ c∈V,c∈VV its)→V.flatMap bl=V.flatMap fun k=>exO (S.M[k-1]?).join:=by
       intro V
       induction V with
       | nil=>intro _;rfl
       | cons c V ih=>
        intro h
        rw[A37,A37,ih fun k hk=>h k (A16 _ hk)]
        obtain⟨p,h1,_,_,_,h2⟩:=(hf c (h c (A13 ..))).nd
        rw[h1,h2];rfl
      rw[key _ fun _ h=>h]
     have:=(((hbl.trans hcov).append_left (grpL (BS S) (BH S))).trans hgrp).mem_iff (a:=i)
     exact this.2 (A96.2 (by omega))
    rw[A10,NU _ _ _ hall (by rw[A09];omega),A03 hmem]
    simp
  obtain⟨b1,b2⟩:=ADR cl
  obtain⟨_,_,_,d12,d14,d16⟩:=WR (f:=Xq S)
  have hdsc:=S7 cl
  have hcnt:cntN (fun i=>decide (i<BH S) && !(mkU (usd 10 (List.replicate (BH S+1) false)) ((2::R).map io)).getD (i+1) false) 32768=fiS S:=by
   rw[Tv _ _ _ (by omega),hfi]
   exact Py fun i hi=>by rw[hU i hi]
  refine⟨by rw[t1];omega,by rw[t2];omega,?_,?_,?_,?_,?_,?_,?_,s344,?_,sb.s84⟩
  ·intro i hi
   rw[t1,b1,Xz (by omega),Wo (by omega),hmk]
   unfold FD
   rw[A04 hi,Bool.true_or]
  ·intro i hi
   rw[t2,b2,Xs,Wo (by omega),hU i hi]
   unfold FD A8
   rw[A08 (by omega:¬8*4096+i<32768),Bool.false_or,A04 (by omega:8*4096+i<32768+BH S),Bool.true_and,show 8*4096+i-32768=i by omega]
  ·intro i hi hu
   rw[hU i hi] at hu
   have hnV:i+1∉VV its:=fun h=>by
    obtain⟨p,hp'⟩:=FK w hio hib hn a hpb hD (BE.1 h)
    have:=hp'.at_
    rw[A79] at this
    unfold A8 at hu
    have e:(OJ S)[i]? = (S.M[i]?).map (Option.map FY):=A21 ..
    rw[e,this] at hu
    simp at hu
   rw[Tu cl (by omega) (by omega),A79,Gd w a hD hnV]
   exact⟨FJ,FJ⟩
  ·exact (hdsc▸d12:leL (dscL (BS S)) 12 2=0).trans (Lz fun i _=>by rw[hmk];rfl).symm
  ·rw[hdsc,d14,hcnt]
   show fiS S%65536=fiS S
   omega
  ·rw[hdsc,d16]
   have hle:=HS (CS (OJ S)) (BH S)
   show Dc (CS (OJ S)) (BH S)%65536=_
   rw[A23 (by omega),Vg]
   unfold cntN cntD
   have hdir:∀ i,CS (OJ S) i=(decide (i+1∈VV its)&&dirB its (i+1)):=fun i=>by
    unfold CS
    have e:(OJ S)[i]? = (S.M[i]?).map (Option.map FY):=A21 ..
    rw[e]
    by_cases hV:i+1∈VV its
    ·obtain⟨p,hp'⟩:=FK w hio hib hn a hpb hD (BE.1 hV)
     have h1:=hp'.at_
     rw[A79] at h1
     rw[h1,A04 hV,Bool.true_and]
     have h2:=Dt w hV
     rw[←hp'.mode,Jn] at h2
     show (kindB p.mode == 16384)=dirB its (i+1)
     cases hd:dirB its (i+1) with
     | true=>rw[h2.2 hd];rfl
     | false=>
      apply beq_eq_false_iff_ne.2
      intro h
      rw[h2.1 h] at hd;cases hd
    ·rw[A08 hV,Bool.false_and]
     have h2:=Gd w a hD hV
     cases hm:S.M[i]? with
     | none=>rfl
     | some o=>rw[hm] at h2;have h2:o=none:=h2;subst h2;rfl
   have h1:(((2::R).map io).filter fun o=>decide (kindL o.X.mode=2)).length=((2::R).filter fun c=>dirB its c).length:=by
    have h2:(2::R).filter ((fun o:AA=>decide (kindL o.X.mode=2))∘io)=(2::R).filter fun c=>dirB its c:=by
     refine List.filter_congr fun c hc=>?_
     have hcV:=hp.mem_iff.1 hc
     have:=Dt w hcV
     rw[←(hf c hcV).mode] at this
     show decide (kindL (io c).X.mode=2)=dirB its c
     cases hd:dirB its c with
     | true=>exact A04 (this.2 hd)
     | false=>exact A08 fun h=>by rw[this.1 h] at hd;cases hd
    rw[List.filter_map,A25,h2]
   rw[h1,(hp.filter _).length_eq]
   have h2:(((List.range (BH S)).filter (CS (OJ S))).map (· + 1)).Perm ((VV its).filter fun c=>dirB its c):=by
    refine IH _ _ ?_ (Fb.filter _) fun c=>?_
    ·unfold List.Nodup
     rw[B32]
     exact (List.nodup_range.filter _).imp fun h e=>h (by omega)
    ·rw[A35,B39]
     constructor
     ·rintro⟨i,hi,rfl⟩
      have:=(B39.1 hi).2
      rw[hdir,A42,A84] at this
      exact this
     ·rintro⟨h3,h4⟩
      have:=t.rng c h3
      refine⟨c-1,B39.2 ⟨A96.2 (by omega),?_⟩,by omega⟩
      rw[hdir,show c-1+1=c by omega,h4,A04 h3];rfl
   have:=h2.length_eq
   rw[A25] at this
   exact this
  ·exact s12.trans (Lz fun i _=>by rw[hmk];rfl).symm
  ·exact s16.trans hcnt.symm
end
end
theorem X8:∀ a:Bs,Op.bytesLess a a=false
 | []=>rfl
 | c::a=>by simp[Op.bytesLess,X8 a]
theorem YF:∀ a b:Bs,a≠b→Op.bytesLess a b=true∨Op.bytesLess b a=true
 | [],[],h=>absurd rfl h
 | [],_::_,_=>.inl rfl
 | _::_,[],_=>.inr rfl
 | c::a,d::b,h=>by
  simp only[Op.bytesLess,B14,A84,A42,beq_iff_eq]
  by_cases hcd:c=d
  ·subst hcd
   have:a≠b:=fun e=>h (by rw[e])
   rcases YF a b this with h1|h1
   ·exact .inl (.inr ⟨rfl,h1⟩)
   ·exact .inr (.inr ⟨rfl,h1⟩)
  ·have h1:c.toNat≠d.toNat:=fun e=>hcd (A97.1 e)
   rcases A66 c.toNat d.toNat with h2|h2
   ·exact .inl (.inl (B40.2 h2))
   ·exact .inr (.inl (B40.2 (by omega)))
theorem ABM:∀ a b c:Bs,Op.bytesLess a b=true→Op.bytesLess b c=true→Op.bytesLess a c=true
 | a,[],_,h,_=>by simp[Op.bytesLess] at h
 | _,b::l,[],_,h=>by simp[Op.bytesLess] at h
 | [],_::_,_::_,_,_=>rfl
 | x::a,y::b,z::c,h1,h2=>by
  simp only[Op.bytesLess,B14,A84,A42,beq_iff_eq] at h1 h2 ⊢
  rcases h1 with h1|⟨h1,h1'⟩
  ·rcases h2 with h2|⟨h2,_⟩
   ·refine .inl (B40.2 ?_)
    have:=B40.1 h1
    have:=B40.1 h2
    omega
   ·subst h2;exact .inl h1
  ·subst h1
   rcases h2 with h2|⟨h2,h2'⟩
   ·exact .inl h2
   ·exact .inr ⟨h2,ABM a b c h1' h2'⟩
def Rx (ks:List (Bs×Nat)):Prop:=ks.Pairwise fun a b=>Op.bytesLess a.1 b.1=true
theorem GT:∀ (l:List Bs) (nm:Bs),(∀ a∈l.take (BV l nm),Op.bytesLess a nm=true)∧(∀ a,l[BV l nm]? = some a→Op.bytesLess a nm=false)
 | [],nm=>⟨by simp,by simp⟩
 | a::l,nm=>by
  obtain⟨h1,h2⟩:=GT l nm
  rw[BV]
  by_cases hc:Op.bytesLess a nm=true
  ·rw[A03 hc]
   refine⟨fun b hb=>?_,fun b hb=>h2 b (by rw[A63] at hb;exact hb)⟩
   rw[B12,A32] at hb
   rcases hb with h|h
   ·rw[h];exact hc
   ·exact h1 b h
  ·rw[A05 hc]
   refine⟨by simp,fun b hb=>?_⟩
   rw[A51,A26] at hb
   subst hb
   simpa using hc
theorem Xy {l:List Bs}{nm:Bs}{i:Nat}(hs:l.Pairwise fun a b=>Op.bytesLess a b=true)(hi:l[i]? = some nm):BV l nm=i:=by
 obtain⟨h1,h2⟩:=GT l nm
 obtain⟨hil,he⟩:=A02.1 hi
 have hle:=EI l nm
 rw[List.pairwise_iff_getElem] at hs
 rcases Nat.lt_trichotomy (BV l nm) i with h|h|h
 ·have:=h2 _ (A00 (by omega:BV l nm<l.length))
  have h3:=hs (BV l nm) i (by omega) hil h
  rw[he,this] at h3;cases h3
 ·exact h
 ·have:nm∈l.take (BV l nm):=by
   exact List.mem_take_iff_getElem.2 ⟨i,by omega,he⟩
  have:=h1 nm this
  rw[X8] at this;cases this
theorem AAU {ks:List (Bs×Nat)}{nm:Bs}{n:Nat}(hs:Rx ks)(h:(nm,n)∈ks):kidL ks nm=some n:=by
 obtain⟨i,hi,he⟩:=B00 h
 have hg:ks[i]? = some (nm,n):=by rw[A00 hi,he]
 have hp:BV (ks.map (·.1)) nm=i:=Xy (by rw[B32];exact hs) (by rw[A21,hg];rfl)
 unfold kidL
 rw[hp,hg]
 exact A03 rfl
theorem AAN {ks:List (Bs×Nat)}{nm:Bs}{n:Nat}(hs:Rx ks)(hn:∀ e∈ks,e.1≠nm):Rx (FB ks nm n)∧(FB ks nm n).Perm ((nm,n)::ks):=by
 obtain⟨h1,h2⟩:=GT (ks.map (·.1)) nm
 have hle:=EI (ks.map (·.1)) nm
 rw[A25] at hle
 have hno:¬(ks.map (·.1))[BV (ks.map (·.1)) nm]? = some nm:=fun h=>by
  obtain⟨hi,he⟩:=A02.1 h
  rw[List.getElem_map] at he
  exact hn _ (Q3 _) he
 unfold FB
 rw[A05 hno,A58]
 obtain⟨i,hi⟩:∃ i,BV (ks.map (·.1)) nm=i:=⟨_,rfl⟩
 rw[hi] at h1 h2 hle ⊢
 have hsp:ks=ks.take i++ks.drop i:=(B36 i ks).symm
 have hs':=hs
 unfold Rx at hs'
 rw[hsp,List.pairwise_append] at hs'
 have hlo:∀ a∈ks.take i,Op.bytesLess a.1 nm=true:=fun a ha=>h1 a.1 (by rw[←B11];exact A35.2 ⟨a,ha,rfl⟩)
 have hhi:∀ a∈ks.drop i,Op.bytesLess nm a.1=true:=fun a ha=>by
  cases hd:ks.drop i with
  | nil=>rw[hd] at ha;cases ha
  | cons b r=>
   have hb:ks[i]? = some b:=by
    have:(ks.drop i)[0]? = some b:=by rw[hd];rfl
    rw[A53] at this;exact this
   have hbm:b∈ks:=A28 hb
   have hb1:=h2 b.1 (by rw[A21,hb];rfl)
   have hb2:Op.bytesLess nm b.1=true:=(YF nm b.1 fun e=>hn b hbm e.symm).resolve_right (by rw[hb1];decide)
   rw[hd] at ha
   rcases A32.1 ha with h|h
   ·rw[h];exact hb2
   ·have h3:=hs'.2.1
    rw[hd,B16] at h3
    exact ABM _ _ _ hb2 (h3.1 a h)
 constructor
 ·unfold Rx
  rw[A12,List.pairwise_append]
  refine⟨hs'.1,?_,?_⟩
  ·show ((nm,n)::ks.drop i).Pairwise _
   rw[B16]
   exact⟨hhi,hs'.2.1⟩
  ·intro a ha b hb
   rcases A32.1 hb with h|h
   ·rw[h];exact hlo a ha
   ·exact hs'.2.2 a ha b h
 ·rw[A12]
  refine List.perm_middle.trans (List.Perm.cons _ ?_)
  show (ks.take i++ks.drop i).Perm ks
  rw[B36]
theorem Tg:∀ (L ks:List (Bs×Nat)),Rx ks→((ks++L).map (·.1)).Nodup→Rx (L.foldl (fun ks e=>FB ks e.1 e.2) ks)∧(L.foldl (fun ks e=>FB ks e.1 e.2) ks).Perm (ks++L)
 | [],ks,hs,_=>⟨hs,by rw[A22];exact .refl _⟩
 | e::L,ks,hs,hd=>by
  have hn:∀ x∈ks,x.1≠e.1:=fun x hx he=>by
   rw[A36,A65] at hd
   exact hd.2.2 x.1 (A35.2 ⟨x,hx,rfl⟩) e.1 (A35.2 ⟨e,A13 ..,rfl⟩) he
  obtain⟨h1,h2⟩:=AAN (n:=e.2) hs hn
  have hp:(FB ks e.1 e.2++L).Perm (ks++e::L):=(h2.append_right L).trans List.perm_middle.symm
  obtain⟨h3,h4⟩:=Tg L (FB ks e.1 e.2) h1 ((hp.map (·.1)).nodup_iff.2 hd)
  exact⟨h3,h4.trans hp⟩
end Go.Proofs.YtollddkkdgoonaaGreatDoor
