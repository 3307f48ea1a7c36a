/- A part of a proof over images that are written and read. No condition; a step. -/
import Derived.Test.YtollddkkdgoonaaGreatDoorM24
namespace Go.Proofs.YtollddkkdgoonaaGreatDoor
open Go
set_option linter.unusedVariables false
set_option linter.unusedSimpArgs false
set_option maxRecDepth 100000
section
attribute [local irreducible] BR BS Db
structure IoX (its:List It) (c:Nat) (o:AA):Prop where
 num:o.X.num=c
 l0:o.l=[]
 mode:o.X.mode<65536
 it:∀ j it,c=12+j→its[j]? = some it→o.X.mode=modeK it.f.mode∧o.X.uid=it.f.uid∧(it.isD=false→o.C=it.data)
 dir:dirB its c=true→kindB o.X.mode=16384∧∃ kd:Nat→Nat,o.E=([46],c,2)::([46,46],parOf its c,2)::(esOf its c).map fun e=>(e.1,e.2,kd e.2)
 nodir:dirB its c=false→o.E=[]
def To (its:List It)(os:List AA)(ipg:Nat):Prop:=∃ (io:Nat→AA) (R:List Nat),os=(2::R).map io∧(2::R).Perm (VV its)∧(∀ c∈VV its,IoX its c (io c))∧11+its.length≤ipg
theorem Wt {its:List It}{c:Nat}(h:¬dirB its c=true)(hc:c∈VV its):∃ j,c=12+j∧∃ it,its[j]? = some it∧it.isD=false:=by
 rcases BE.1 hc with rfl|⟨h1,h2⟩
 ·exact absurd (Aj.2 (.inl rfl)) h
 ·by_cases h11:c=11
  ·subst h11;exact absurd (Aj.2 (.inr (.inl rfl))) h
  ·obtain⟨j,rfl⟩:∃ j,c=12+j:=⟨c-12,by omega⟩
   have hj:its[j]? = some its[j]:=A00 (by omega)
   refine⟨j,rfl,_,hj,?_⟩
   cases hd:its[j].isD with
   | false=>rfl
   | true=>exact absurd (Aj.2 (.inr (.inr ⟨j,_,hj,hd,rfl⟩))) h
theorem QD {its:List It}(inl:Bool)(db:Nat)(hio:A7 its)(hib:∀ it∈its,Y6 it)(hn:its.length≤2000)(hsum:EW its≤40000000) :
  ∃ SE S,Steps (its.flatMap It.ops) (S2 [] inl EA db) SE∧He SE S∧S.db=db∧Xp (To its) (BS S):=by
 have w0:=Xn inl db
 have hm:S2 [] inl EA db = {S1 [] inl EA db with M:=D0 (M1 inl) 2 (rootP inl) (newP (dirF 16832) 11 inl) [] lostN}:=by
  unfold S2 PS.made
  simp only
  rw[A05 (by decide)]
  rfl
 have hpos:(S2 [] inl EA db).pos=8192:=by
  rw[hm]
  show (1+Fk EA)*4096=8192
  rw[Nj]
 have hdb:(S2 [] inl EA db).db=db:=by rw[hm];rfl
 obtain⟨SE,S1,st,fi,w,hp,hd1⟩:=WY w0 hpos hio (by omega) (by omega) its.length (A07 _)
 rw[A38] at st w hp
 obtain⟨S,D,cl,a,hnd,hD,clok,hpb⟩:=RU w hio hib hn (by omega)
 refine⟨SE,S,st,cl SE fi,a.same.2.2.2.trans (hd1.trans hdb),?_⟩
 obtain⟨io,la,bl,R,T,k,o0,o',hf,hperm,hi⟩:=X4 w hio hib hn a hpb hD clok
 obtain⟨i1,i2,i3⟩:=D9 S.M.length
 have hlen:S.M.length=11+its.length:=a.len.trans w.len
 refine⟨_,_,_,_,_,_,_,hi,io,R,rfl,hperm,fun c hc=>?_,by show 11+its.length≤ipgOf S.M.length;omega⟩
 have f:=hf c hc
 obtain⟨m1,m2⟩:=EU f.ino
 have hcV:=BE.1 hc
 have hkind:=Dt w hc
 refine⟨m2,f.l0,m1,?_,?_,?_⟩
 ·intro j it h1 h2
  subst h1
  obtain⟨p,hp1,hp2,_⟩:=w.node j it h2
  have hmode:modeAt S1.M (12+j)=modeK it.f.mode:=by
   unfold modeAt
   rw[show 12+j-1=11+j by omega,hp1,hp2];rfl
  refine⟨f.mode.trans hmode,?_,fun h3=>(f.item j it rfl h2 h3).1⟩
  obtain⟨p',q1,_,q3,_⟩:=f.nd
  rw[q3]
  by_cases hb:dirB its (12+j)=true
  ·obtain⟨q,st',b1,b2,_⟩:=a.in_ _ ((hD _).2 hb)
   rw[q1] at b2
   have e1:=A14 (A14 b2)
   have e2:=b1.at_
   rw[show 12+j-1=11+j by omega,hp1] at e2
   have e3:=A14 (A14 e2)
   rw[e1]
   show q.uid=_
   rw[←e3,hp2];rfl
  ·have hcD:12+j∉D:=fun h=>hb ((hD _).1 h)
   have:=a.out _ hcD (by omega)
   rw[q1,show 12+j-1=11+j by omega,hp1] at this
   rw[A14 (A14 this),hp2];rfl
 ·intro hb
  have h1:=(f.dir hb).2.2
  refine⟨Jn.1 (by rw[f.mode];exact hkind.2 hb),fun k=>EG (modeAt S1.M k),?_⟩
  rw[h1,IX hio,A33,A33,B05]
  have hpar:dirB its (parOf its c)=true∧parOf its c∈VV its:=by
   by_cases h2:c=2
   ·subst h2;exact⟨Aj.2 (.inl rfl),BE.2 (.inl rfl)⟩
   ·have h1:=(JY hio hc h2).1
    refine⟨h1,BE.2 ?_⟩
    rcases Aj.1 h1 with h|h|⟨j,it,h3,h4,h5⟩
    ·exact .inl h
    ·exact .inr (by omega)
    ·have:=(A02.1 h3).1
     exact .inr (by omega)
  rw[MH,MH,hkind.2 hb,(Dt w hpar.2).2 hpar.1]
  rfl
 ·intro hb
  obtain⟨j,rfl,it,h1,h2⟩:=Wt (by rw[hb];decide) hc
  exact (f.item j it rfl h1 h2).2
theorem ZL {os:List AA}{L:List Nat}(hn:(os.map fun o=>o.X.num).Nodup)(hl:∀ o∈os,o.X.num<L.length):∀ m,m≤os.length→∀ i o,i<m→os[i]? = some o→(GC (os.take m) L).getD o.X.num 0=i:=by
 intro m
 induction m with
 | zero=>intro _ i o h;omega
 | succ m ih=>
  intro hm i o hi ho
  have hom:os[m]? = some os[m]:=A00 (by omega)
  have hlen:(GC (os.take m) L).length=L.length:=Im _ _
  rw[KZ hom,DV (by rw[hlen];exact hl _ (Q3 _))]
  by_cases him:i=m
  ·subst him
   rw[hom] at ho
   rw[A03 (by rw[A14 ho])]
  ·rw[A05,ih (by omega) i o (by omega) ho]
   intro e
   unfold List.Nodup at hn
   rw[List.pairwise_iff_getElem] at hn
   obtain⟨hil,he⟩:=A02.1 ho
   refine hn i m (by rw[A25];exact hil) (by rw[A25];omega) (by omega) ?_
   rw[List.getElem_map,List.getElem_map,he,e]
structure NodeX (its:List It) (ix:Nat→Nat) (c:Nat) (t:TN):Prop where
 mode:t.X.mode<65536
 it:∀ j it,c=12+j→its[j]? = some it→t.X.mode=modeK it.f.mode∧t.X.uid=it.f.uid∧t.data=if it.kd=32768 then it.data else []
 dir:dirB its c=true→kindB t.X.mode=16384∧t.ks.length=(esOf its c).length∧∀ e∈esOf its c,kidL t.ks e.1=some (ix e.2)
 nodir:dirB its c=false→t.ks=[]
 sub:∀ e∈t.ks,∃ k,(e.1,k)∈esOf its c∧e.2=ix k
structure ABG (its:List It) (ts:List TN) (ix:Nat→Nat):Prop where
 len:ts.length=its.length+2
 root:ix 2=0
 sur:∀ a,a<ts.length→∃ c∈VV its,ix c=a
 inj:∀ a∈VV its,∀ b∈VV its,ix a=ix b→a=b
 node:∀ c∈VV its,∃ t,ts[ix c]? = some t∧NodeX its ix c t
theorem AET {its:List It}{os:List AA}{ipg:Nat}(hio:A7 its)(p:To its os ipg):ABG its (os.map (JK (ipg+1) (FE ipg os))) (fun c=>(FE ipg os).getD c 0):=by
 obtain⟨io,R,hos,hp,hf,hipg⟩:=p
 have hnums:(os.map fun o=>o.X.num)=2::R:=by
  rw[hos,B05]
  have:∀ l:List Nat,(∀ c∈l,c∈VV its)→l.map ((fun o:AA=>o.X.num)∘io)=l:=by
   intro l
   induction l with
   | nil=>intro _;rfl
   | cons c l ih=>
    intro h
    rw[A33,ih fun k hk=>h k (A16 _ hk)]
    show (io c).X.num::l=_
    rw[(hf c (h c (A13 ..))).num]
  exact this _ fun c hc=>hp.mem_iff.1 hc
 have hnd:(os.map fun o=>o.X.num).Nodup:=by rw[hnums];exact hp.nodup_iff.2 Fb
 have hlt:∀ o∈os,o.X.num<(List.replicate (ipg+1) 0).length:=fun o ho=>by
  have:o.X.num∈2::R:=by rw[←hnums];exact A35.2 ⟨o,ho,rfl⟩
  have:=BE.1 (hp.mem_iff.1 this)
  rw[A09];omega
 have hix:∀ i c,(2::R)[i]? = some c→(FE ipg os).getD c 0=i:=fun i c hi=>by
  have hil:=(A02.1 hi).1
  have ho:os[i]? = some (io c):=by rw[hos,A21,hi];rfl
  have:=ZL hnd hlt os.length (A07 _) i (io c) (by rw[hos,A25];exact hil) ho
  rw[A38,(hf c (hp.mem_iff.1 (A28 hi))).num] at this
  exact this
 refine⟨?_,hix 0 2 rfl,fun a ha=>?_,fun a ha b hb he=>?_,fun c hc=>?_⟩
 ·rw[A25,hos,A25,hp.length_eq]
  unfold VV;simp
 ·rw[A25,hos,A25] at ha
  exact⟨(2::R)[a],hp.mem_iff.1 (Q3 _),hix a _ (A00 ha)⟩
 ·obtain⟨i,hi,h1⟩:=B00 (hp.mem_iff.2 ha)
  obtain⟨j,hj,h2⟩:=B00 (hp.mem_iff.2 hb)
  have e1:=hix i a (by rw[A00 hi,h1])
  have e2:=hix j b (by rw[A00 hj,h2])
  have he:(FE ipg os).getD a 0=(FE ipg os).getD b 0:=he
  have:i=j:=by omega
  subst this
  rw[←h1,←h2]
 ·obtain⟨i,hi,he⟩:=B00 (hp.mem_iff.2 hc)
  have hg:(2::R)[i]? = some c:=by rw[A00 hi,he]
  have ho:os[i]? = some (io c):=by rw[hos,A21,hg];rfl
  have f:=hf c hc
  have hq:dirB its c=true→Rx (JK (ipg+1) (FE ipg os) (io c)).ks∧(JK (ipg+1) (FE ipg os) (io c)).ks.Perm ((esOf its c).map fun e=>(e.1,(FE ipg os).getD e.2 0)):=fun hb=>by
   obtain⟨d1,kd,d2⟩:=f.dir hb
   have hks:(JK (ipg+1) (FE ipg os) (io c)).ks=((esOf its c).map fun e=>(e.1,(FE ipg os).getD e.2 0)).foldl (fun ks e=>FB ks e.1 e.2) []:=by
    show (io c).E.foldl (Bi (ipg+1) (FE ipg os)) []=_
    rw[d2,A71,A71]
    have s1:∀ ks c,Bi (ipg+1) (FE ipg os) ks ([46],c,2)=ks:=fun ks c=>A03 (.inl rfl)
    have s2:∀ ks c,Bi (ipg+1) (FE ipg os) ks ([46,46],c,2)=ks:=fun ks c=>A03 (.inr (.inl rfl))
    rw[s1,s2]
    have hes:∀ e∈esOf its c,(e.1≠[46]∧e.1≠[46,46])∧e.2<ipg+1:=fun e he=>by
     obtain⟨a1,a2,a3,a4,a5⟩:=DT hio he
     exact⟨(TD hio he).2,by omega⟩
    revert hes
    generalize esOf its c=es
    generalize ([]:List (Bs×Nat))=ks
    induction es generalizing ks with
    | nil=>intro _;rfl
    | cons e es ih=>
     intro h
     rw[A33,A71,A33,A71]
     obtain⟨⟨n1,n2⟩,n3⟩:=h e (A13 ..)
     have:Bi (ipg+1) (FE ipg os) ks (e.1,e.2,kd e.2)=FB ks e.1 ((FE ipg os).getD e.2 0):=by
      unfold Bi
      rw[A05]
      rintro (h1|h1|h1)
      ·exact n1 h1
      ·exact n2 h1
      ·have:ipg+1≤e.2:=h1
       omega
     rw[this]
     exact ih _ fun x hx=>h x (A16 _ hx)
   have hnames:((([]:List (Bs×Nat))++(esOf its c).map fun e=>(e.1,(FE ipg os).getD e.2 0)).map (·.1)).Nodup:=by
    rw[A34,B05]
    exact C1 hio c
   obtain⟨q1,q2⟩:=Tg ((esOf its c).map fun e=>(e.1,(FE ipg os).getD e.2 0)) [] .nil hnames
   rw[←hks] at q1 q2
   exact⟨q1,q2⟩
  refine⟨JK (ipg+1) (FE ipg os) (io c),by rw[hix i c hg,A21,ho];rfl,f.mode,?_,?_,?_,?_⟩
  ·intro j it h1 h2
   obtain⟨a1,a2,a3⟩:=f.it j it h1 h2
   refine⟨a1,a2,?_⟩
   show (if kindL (io c).X.mode=1 then (io c).C else [])=_
   have hkd:kindB (io c).X.mode=it.kd:=by rw[a1]
   by_cases h3:it.kd=32768
   ·rw[A03 h3,A03 (by rw[Hx hkd,h3];rfl),a3]
    unfold It.isD
    rw[h3];rfl
   ·rw[A05 h3,A05]
    intro h
    rw[Hx hkd] at h
    repeat' split at h
    all_goals omega
  ·intro hb
   obtain⟨q1,q2⟩:=hq hb
   refine⟨(f.dir hb).1,by rw[q2.length_eq];simp,fun e he=>AAU q1 (q2.mem_iff.2 ?_)⟩
   exact A35.2 ⟨e,he,rfl⟩
  ·intro hb
   show (io c).E.foldl (Bi (ipg+1) (FE ipg os)) []=_
   rw[f.nodir hb];rfl
  ·intro e he
   cases hb:dirB its c with
   | false=>
    have h0:(JK (ipg+1) (FE ipg os) (io c)).ks=[]:=by
     show (io c).E.foldl (Bi (ipg+1) (FE ipg os)) []=_
     rw[f.nodir hb];rfl
    rw[h0] at he;cases he
   | true=>
    obtain⟨e',h1,h2⟩:=A35.1 ((hq hb).2.mem_iff.1 he)
    rw[←h2]
    exact⟨e'.2,h1,rfl⟩
end
def YC (e:Bs):Prop:=e≠[]∧e≠[46]∧e≠[46,46]∧(47:UInt8)∉e
theorem I9:∀ (e:Bs),(47:UInt8)∉e→elems e=[e]
 | [],_=>rfl
 | b::l,h=>by
  have hb:b≠47:=fun e=>h (by rw[e];exact A13 ..)
  rw[elems,A05 hb,I9 l fun hm=>h (A16 _ hm)]
theorem L8:∀ (e r:Bs),(47:UInt8)∉e→elems (e++47::r)=e::elems r
 | [],r,_=>by rw[A34,elems,A03 rfl]
 | b::l,r,h=>by
  have hb:b≠47:=fun e=>h (by rw[e];exact A13 ..)
  rw[A82,elems,A05 hb,L8 l r fun hm=>h (A16 _ hm)]
theorem KM:∀ (l:List Bs),l≠[]→(∀ e∈l,(47:UInt8)∉e)→elems (joinL l)=l
 | [],h,_=>absurd rfl h
 | [e],_,h=>I9 e (h e (A13 ..))
 | e::f::r,_,h=>by
  rw[joinL,L8 e _ (h e (A13 ..)),KM (f::r) (by simp) fun x hx=>h x (A16 _ hx)]
theorem PC:∀ (l st:List Bs),(∀ e∈l,YC e)→l.foldl meet st=st++l
 | [],st,_=>(A22 _).symm
 | e::l,st,h=>by
  obtain⟨h1,h2,h3,_⟩:=h e (A13 ..)
  have:meet st e=st++[e]:=by
   unfold meet
   rw[A05 (by simp[h1,h2]),A05 h3]
  rw[A71,this,PC l _ fun x hx=>h x (A16 _ hx),A12];rfl
theorem Rv {l:List Bs}(h:∀ e∈l,YC e):cleanR (joinL l)=l∧cleanR (47::joinL l)=l:=by
 have e0:∀ p:Bs,cleanR (47::p)=cleanR p:=fun p=>by
  unfold cleanR
  rw[elems,A03 rfl,A71]
  have:meet [] []=[]:=A03 (.inl rfl)
  rw[this]
 refine⟨?_,(e0 _).trans ?_⟩
 all_goals
  cases hl:l with
  | nil=>rfl
  | cons a r=>
   rw[←hl]
   unfold cleanR
   rw[KM l (by rw[hl];simp) fun e he=>(h e he).2.2.2,PC l [] h,A34]
def AFf (l:Bs):Nat:=l.foldl (fun a c=>a*10+(c.toNat-48)) 0
theorem OR (n:Nat):AFf (Cn n)=n:=by
 induction n using Nat.strongRecOn with
 | ind n ih=>
  by_cases hc:n<10
  ·rw[IC hc]
   show 0*10+((UInt8.ofNat (48+n)).toNat-48)=n
   rw[B09]
   omega
  ·rw[Hn hc]
   unfold AFf at ih ⊢
   rw[B19,ih (n/10) (by omega)]
   show n/10*10+((UInt8.ofNat (48+n%10)).toNat-48)=n
   rw[B09]
   omega
theorem WV {a b:Nat}(h:Cn a=Cn b):a=b:=by rw[←OR a,h,OR]
theorem Vj (n:Nat):Cn n≠[]∧∀ c∈Cn n,48≤c.toNat∧c.toNat<58:=by
 induction n using Nat.strongRecOn with
 | ind n ih=>
  by_cases hc:n<10
  ·rw[IC hc]
   refine⟨by simp,fun c h=>?_⟩
   rw[A78] at h
   subst h
   rw[B09]
   omega
  ·rw[Hn hc]
   refine⟨by simp,fun c h=>?_⟩
   rcases A88.1 h with h1|h1
   ·exact (ih (n/10) (by omega)).2 c h1
   ·rw[A78] at h1
    subst h1
    rw[B09]
    omega
theorem Ry (n:Nat):YC (Cn n)∧Cn n≠lostN:=by
 obtain⟨h1,h2⟩:=Vj n
 have hno:∀ c:UInt8,c.toNat<48∨58≤c.toNat→c∉Cn n:=fun c hc hm=>by
  have:=h2 c hm;omega
 refine⟨⟨h1,fun e=>hno 46 (by decide) (by rw[e];decide),fun e=>hno 46 (by decide) (by rw[e];decide),hno 47 (by decide)⟩,fun e=>hno 108 (by decide) (by rw[e];decide)⟩
def Me (sz m:Nat):FL:=⟨[],sz,m,0,0,t0,t0,t0,t0,0,0⟩
theorem Th:t0.ok:=⟨by decide,by decide⟩
def Pm (i:Nat)(b:Bs):It:=⟨2,Cn i,Me b.length 0,b,47::Cn i,true⟩
def Ca (fs:List Bs):Nat→List It
 | 0=>[]
 | n+1=>Ca fs n++[Pm n (fs.getD n [])]
theorem C6 (fs:List Bs):∀ n,(Ca fs n).length=n
 | 0=>rfl
 | n+1=>by rw[Ca,A01,C6 fs n];rfl
theorem Fx (fs:List Bs):∀ n j,j<n→(Ca fs n)[j]? = some (Pm j (fs.getD j []))
 | n+1,j,h=>by
  rw[Ca]
  by_cases hj:j<n
  ·rw[A18 (by rw[C6];exact hj)]
   exact Fx fs n j hj
  ·have:j=n:=by omega
   subst this
   rw[A17 (by rw[C6];exact A07 _),C6,A87];rfl
theorem Fw {fs:List Bs}{n:Nat}{it:It}(h:it∈Ca fs n):∃ j,j<n∧it=Pm j (fs.getD j []):=by
 obtain⟨j,hj,e⟩:=B00 h
 rw[C6] at hj
 have:=Fx fs n j hj
 rw[A00 (by rw[C6];exact hj),A26] at this
 exact⟨j,hj,e.symm.trans this⟩
theorem Nl (i:Nat)(b:Bs):(Pm i b).kd=32768:=by show kindB (modeK 0)=32768;decide
theorem WC {fs:List Bs}(hb:∀ b∈fs,b.length≤2000000):∀ n,n≤1000→A7 (Ca fs n)
 | 0,_=>fun j it h=>by simp[Ca] at h
 | n+1,hn=>by
  rw[Ca]
  refine (WC hb n (by omega)).snoc ?_
  obtain⟨⟨p1,p2,p3,p4⟩,p5⟩:=Ry n
  have hl:=GM 4 n (by omega)
  have hlen:(fs.getD n []).length≤2000000:=by
   rw[A10]
   cases hg:fs[n]? with
   | none=>simp
   | some b=>exact hb b (A28 hg)
  refine⟨⟨[],.root,?_⟩,?_,?_,?_,p4,⟨p2,p3⟩,?_,fun _=>p5,?_,?_,hlen,fun _=>rfl⟩
  ·have:=(Rv (l:=[Cn n]) (by intro e he;rw[A78] at he;subst he;exact⟨p1,p2,p3,p4⟩)).2
   exact this
  ·show (47::Cn n).length≤100000
   rw[A19];omega
  ·show 1≤(Cn n).length
   exact A99.2 p1
  ·show (Cn n).length≤255
   omega
  ·intro x hx _ he
   obtain⟨j,hj,rfl⟩:=Fw hx
   have:j=n:=WV he
   omega
  ·exact⟨by show 0<65536;decide,.inl (Nl n _),Th,Th,Th,Th,by show (fs.getD n []).length≤_;omega⟩
  ·rw[Nl,A03 rfl];rfl
theorem AEy (fs:List Bs)(n:Nat):∀ it∈Ca fs n,Y6 it:=fun it h=>by
 obtain⟨j,_,rfl⟩:=Fw h
 exact⟨by show 0<_;decide,by show 0<_;decide,by show 0<_;decide,by show 0<_;decide⟩
theorem Sd (fs:List Bs):∀ n,n≤fs.length→EW (Ca fs n)=((fs.take n).map fun b=>b.length+4095).sum
 | 0,_=>rfl
 | n+1,hn=>by
  have ih:=Sd fs n (by omega)
  have hg:fs[n]? = some fs[n]:=A00 (by omega)
  unfold EW at ih ⊢
  rw[Ca,A36,B30,ih,A85,hg,A36,B30]
  congr 1
  rw[A10,hg]
  rfl
theorem Ur (fs:List Bs)(n:Nat){it:It}(h:it∈Ca fs n):it.isD=false:=by
 obtain⟨j,_,rfl⟩:=Fw h
 unfold It.isD
 rw[Nl];rfl
section
variable {h:H} {k:Value→Prop} {kt Q:Kt} {x y z r:Res}
attribute [local irreducible] AK Az AQ BB Ae AY AH AM
theorem Ki:∀ (vs A B:List Value),vs.length≤B.length→GE (A++B) A.length vs=A++vs++B.drop vs.length
 | [],A,B,_=>by simp[GE]
 | v::vs,A,[],h=>by simp at h
 | v::vs,A,b::B,h=>by
  have e1:(A++b::B).set A.length v=(A++[v])++B:=by
   rw[List.set_append,A05 (by omega),A87];simp
  have:=Ki vs (A++[v]) B (by simp at h;omega)
  rw[A01,A57] at this
  rw[GE,e1,this]
  simp
section
variable {T:TypeId} {zt:Option Value} {zv:Value} {sz:Nat} {e1 e2:List Value}
theorem Qi (w:AN x h)(hz:zt=some zv)(hs:0<sz)(hs2:sz≤1000)(h1:e1.length=sz)(h2:e2.length=sz)(K:∀ v r h,RdV sz v 2 (e1++e2) r→AN (r+x) h→kt v h):AH (.arr sz) T zt sz 2 [(0,.agg ⟨e1⟩),(1,.agg ⟨e2⟩)] h kt:=by
 unfold AH
 refine⟨zv,⟨e1++e2⟩,hz,by omega,?_,fun b h' ex hb' ho'=>K _ _ h' (.inr ⟨b,0,2,e1++e2,T,_,0,rfl,(Res.add_zero _).symm,by rw[A01];omega,by rw[A68,A43 (by rw[A01];omega)],A07 _⟩) (w.new ex hb' ho')⟩
 rw[A05 (by omega)]
 have hl:(Ax zv.cells (2*sz)).toList.length=2*sz:=by unfold Ax;simp
 refine Es _ (Ax zv.cells (2*sz)).toList _ ?_
 unfold DC
 simp only[Br,A92,A29]
 rw[A05 (by rw[hl];show ¬(e1.length≠sz∨_);omega)]
 have:=Ki e1 [] (Ax zv.cells (2*sz)).toList (by omega)
 rw[A34,A61,A34] at this
 show DC _ (GE (Ax zv.cells (2*sz)).toList 0 e1) _=_
 rw[this]
 unfold DC
 simp only[Br,B34]
 rw[A05 (by rw[A01,A27,hl];show ¬(e2.length≠sz∨_);omega)]
 have t2:=Ki e2 e1 ((Ax zv.cells (2*sz)).toList.drop e1.length) (by rw[A27];omega)
 rw[h1] at t2
 unfold DC
 show some (GE _ sz e2)=_
 rw[h1,t2,List.drop_of_length_le (by rw[A27];omega),A22]
end
theorem AHp {its:List It}{v:VS}{os:List AA}{cs:List Value}(hio:A7 its)(hn:its.length≤2000)(p:To its os v.ipg)(ok:v.OK x)(d:VecX 81 23 v.iv os.length cs x)(ov:OutV x cs os)(hnum:∀ o∈os,1≤o.X.num∧o.X.num≤v.ipg∧o.X.mode<65536)(w:AN (v.res+x) h)
  (K:∀ nsv ns ts ix y h,ABG its ts ix→RdV 18 nsv ts.length ns y→TreeV (y+(v.res+x)) ns ts→(∀ t∈ts,t.X.mode<65536∧t.ks.length<1000000000)→AN (y+(v.res+x)) h→Q (.agg ⟨[nsv]⟩) h):f14 (Pt v.vb) h Q:=by
 obtain⟨io,R,hos,hp,hf,hipg⟩:=id p
 have hfo:∀ o∈os,∃ c,c∈VV its∧IoX its c o:=fun o ho=>by
  rw[hos] at ho
  obtain⟨c,hc,rfl⟩:=A35.1 ho
  exact⟨c,hp.mem_iff.1 hc,hf c (hp.mem_iff.1 hc)⟩
 have hE:∀ o∈os,o.l=[]∧o.E.length<10000000∧∀ e∈o.E,e.2.1<4294967296:=fun o ho=>by
  obtain⟨c,hc,f⟩:=hfo o ho
  refine⟨f.l0,?_⟩
  have hcb:c<12+2000:=by rcases BE.1 hc with h|⟨_,h⟩<;>omega
  cases hd:dirB its c with
  | false=>rw[f.nodir hd];exact⟨by show 0<_;decide,fun e he=>absurd he (by simp)⟩
  | true=>
   obtain⟨_,kd,e⟩:=f.dir hd
   have:=Hq its c
   rw[e]
   refine⟨by simp;omega,fun e he=>?_⟩
   simp only[A32,A35] at he
   rcases he with rfl|rfl|⟨e,he,rfl⟩
   ·show c<_;omega
   ·show parOf its c<_
    have:=Ht hio (c:=c) (by rcases BE.1 hc with h|⟨h,_⟩<;>omega)
    omega
   ·obtain⟨a1,a2,a3,a4,a5⟩:=DT hio he
    show e.2<_;omega
 have hlos:os.length=its.length+2:=by
  rw[hos,A25,hp.length_eq];unfold VV;simp
 refine s14 ok d ov (by omega) (fun o ho=>⟨(hnum o ho).2.2,hE o ho⟩) (fun o ho=>(hnum o ho).2.1) w fun nsv ns y h d tv w=>?_
 refine K nsv ns _ _ y h (AET hio p) (by rw[A25];exact d) tv (fun t ht=>?_) w
 obtain⟨o,ho,rfl⟩:=A35.1 ht
 refine⟨(hnum o ho).2.2,?_⟩
 have:=(hE o ho).2.1
 have:∀ (E:List EN) (ks:List (Bs×Nat)),(E.foldl (Bi (v.ipg+1) (FE v.ipg os)) ks).length≤ks.length+E.length:=by
  intro E
  induction E with
  | nil=>intro ks;exact A07 _
  | cons e E ih=>
   intro ks
   have h1:=ih (Bi (v.ipg+1) (FE v.ipg os) ks e)
   have h2:=MY (v.ipg+1) (FE v.ipg os) ks e
   rw[A71,A19];omega
 have:=this o.E []
 show (o.E.foldl _ []).length<_
 simp at this
 omega
theorem ADo:AG TP 28=some (.agg ⟨FL0.cells (.slice none 0 0)⟩):=by kernel_rfl
end
section
set_option maxRecDepth 100000
def ALT (Q:Kt)(r1:R1)(a b c d f g i j:Value)(h:H):Prop:=
 Ucm .lss j i
 (Uil g j h fun a=>Ufl 0 d h fun g=>AI (.slice 18) g f fun f=>AB true 18 f h fun f=>Ucl 20 [f,a] h fun a h=>AO a 0 fun f=>AO a 1 fun a=>LH .not a fun a=>Az a false (Ufl 0 d h fun a=>AI (.slice 18) a f fun a=>Ufl 0 a h fun a=>Uil b j h fun b=>AD .rem b (.int .u8 4) fun b=>AI (.arr 4 1) c b fun b=>Uld b h fun b=>AD .or b (.int .u16 384) fun b=>Ucf .neq a b (Ufl 0 d h fun a=>AI (.slice 18) a f fun a=>Ufl 1 a h fun a=>AV .u32 j fun b=>Ucf .neq a b (Ufl 0 d h fun a=>AI (.slice 18) a f fun a=>Ufl 16 a h fun a=>Ab a fun a=>Ufl 0 d h fun b=>AI (.slice 18) b f fun b=>Ufl 13 b h fun b=>Ab b fun b=>AD .add a b fun a=>Ucm .gtr a (.int .i64 0)
 (Q (.bool false) h)
 (AD .add j (.int .i64 1) fun a=>r1 a h)) (Q (.bool false) h)) (Q (.bool false) h)) (Q (.bool false) h))
 (Ufl 0 d h fun b=>Ab b fun b=>Ab a fun a=>AD .add a (.int .i64 3) fun a=>AD .eql b a fun a=>Q a h)
def ALL (Q:Kt)(a b c d f g i j:Value)(h:H):Prop:=A1 (fun r1 j h=>ALT Q r1 a b c d f g i j h) j h
def ALZ (Q:Kt)(a b c d f:Value)(h:H):Prop:=
 Ab a fun g=>ALL Q a b c d f a g (.int .i64 0) h
def ALY (Q:Kt)(r2:R2)(a b c d f g i j:Value)(h:H):Prop:=
 Ucm .lss j g
 (Uil f j h fun a=>AD .add (.string ⟨#[100,47]⟩) a fun a=>Uil b j h fun b=>AD .rem b (.int .u8 4) fun b=>AI (.arr 4 1) d b fun b=>Uld b h fun b=>AD .or b (.int .u16 384) fun b=>AV .u32 j fun c=>Ae (.struct [(0,1),(1,1),(2,1),(3,1),(4,1),(5,3),(8,3),(11,3),(14,3),(17,1),(18,1),(19,1)]) (AG TP 28) [(2,b),(3,c)] fun b=>Ae (.struct [(0,1),(1,1),(2,1),(3,20),(23,1)]) (AG TP 32) [(0,(.int .i64 0)),(1,a),(3,b)] fun a=>AH (.arr 24) 32 (AG TP 32) 24 1 [(0,a)] h fun a h=>AM 32 (AG TP 32) 24 232 i a h fun a h=>AD .add j (.int .i64 1) fun b=>r2 a b h)
 (Ucl 13 [c,(.int .i64 0),i] h fun c h=>AO c 0 fun f=>AO c 1 fun c=>Unt c
 (Q (.bool false) h)
 (Ucl 14 [f] h fun c h=>Umk 40 h fun f h=>AJ 1 f c h fun h=>AB true 1 f h fun c=>AH (.arr 1) 9 (AG TP 9) 1 1 [(0,(.string ⟨#[100]⟩))] h fun g h=>Ucl 15 [c,g] h fun c h=>AO c 0 fun g=>AO c 1 fun c=>LH .not c fun c=>Az c false (Ufl 0 f h fun c=>AI (.slice 18) c g fun c=>Ufl 16 c h fun c=>Ab c fun c=>Ab a fun i=>Ucm .neq c i
 (Q (.bool false) h)
 (ALZ Q a b d f g h)) (Q (.bool false) h)))
def ALR (Q:Kt)(a b c d f g i j:Value)(h:H):Prop:=Bx (fun r2 i j h=>ALY Q r2 a b c d f g i j h) i j h
def ALO (Q:Kt)(a b c:Value)(h:H):Prop:=
 Ae (.arr 1) (AG TP 67) [(0,(.int .u16 32768)),(1,(.int .u16 16384)),(2,(.int .u16 8192)),(3,(.int .u16 4096))] fun d=>Umk 67 h fun f h=>AJ 4 f d h fun h=>Ae (.struct [(0,1),(1,1),(2,1),(3,1),(4,1),(5,3),(8,3),(11,3),(14,3),(17,1),(18,1),(19,1)]) (AG TP 28) [(2,(.int .u16 16832))] fun d=>Ae (.struct [(0,1),(1,1),(2,1),(3,20),(23,1)]) (AG TP 32) [(0,(.int .i64 0)),(1,(.string ⟨#[100]⟩)),(3,d)] fun d=>AH (.arr 24) 32 (AG TP 32) 24 1 [(0,d)] h fun d h=>Ab a fun g=>ALR Q a b c f a g d (.int .i64 0) h
def ALV (Q:Kt)(a b c:Value)(h:H):Prop:=
 Ucl 19 [a] h fun d h=>LH .not d fun d=>Az d false (Ab b fun d=>Ab a fun f=>Ucm .lss d f
 (Q (.bool true) h)
 (ALO Q a b c h)) (Q (.bool true) h)
def f4 (a b c:Value)(h:H)(Q:Kt):Prop:=
 Ucl 18 [a] h fun d h=>LH .not d fun d=>Az d false (Ab b fun d=>Ucm .gtr d (.int .i64 2147483647)
 (Q (.bool true) h)
 (ALV Q a b c h)) (Q (.bool true) h)
def AKA (Q:Kt)(r1:R1)(a b c d:Value)(h:H):Prop:=
 Ucm .lss d c
 (Uil b d h fun b=>Ucm .eql b a
 (Q (.bool true) h)
 (AD .add d (.int .i64 1) fun a=>r1 a h))
 (Q (.bool false) h)
def AKc (Q:Kt)(a b c d:Value)(h:H):Prop:=A1 (fun r1 d h=>AKA Q r1 a b c d h) d h
def f49 (a b:Value)(h:H)(Q:Kt):Prop:=
 Ab a fun c=>AKc Q b a c (.int .i64 0) h
def ALM (Q:Kt)(r:RS):Nat→DJ:=tab [(53,.lp [1,7,8] [9] fun s e l h=>AKA Q (u1 s) (e 1) (e 7) (e 8) (gl l 0) h)]
theorem AKs {a b:Value}{h:H}{Q:Kt}(x:f49 a b h Q):Call TP 49 [a,b] h Q:=Bb (ALM Q) Tryz.func49 (by kernel_rfl) x
end
section
variable {h:H} {k:Value→Prop} {kt Q:Kt} {x y z r:Res} {nv:Value} {l:List Bs}
attribute [local irreducible] AK Az AQ BB Ae AY AH AM
theorem s49 {nm:Bs}(d:RdV 1 nv l.length (strs l) x)(hn:l.length≤2000000000)(w:AN x h)(K:Q (.bool (decide (nm∈l))) h):f49 nv (str nm) h Q:=by
 obtain⟨⟨va,vc,hv⟩,_⟩:=d.len
 unfold f49
 rw[hv,Aw,←hv]
 unfold AKc
 refine Ba (fun mm u h'=>h'=h∧∃ i,mm+i=l.length∧u=.int .i64 (i:Nat)∧nm∉l.take i) l.length ⟨rfl,0,rfl,rfl,by simp⟩ ?_
 rintro rec mm u h' ⟨rfl,i,hi,rfl,hno⟩ hrec
 unfold AKA Ucm Uil
 rw[AT]
 refine AX (fun hc=>?_) (fun hc=>?_)
 ·have hil:i<l.length:=by omega
  refine d.get w (NX (A00 hil)) ?_
  rw[NZ]
  refine AX (fun he=>?_) (fun he=>?_)
  ·rw[A04 (by rw[←he];exact Q3 _)] at K
   exact K
  ·rw[BN (n:=1),Ci (by omega)]
   refine hrec (mm-1) _ _ ⟨rfl,i+1,by omega,rfl,?_⟩ (by omega)
   rw[A85,A00 hil,A88]
   rintro (h1|h1)
   ·exact hno h1
   ·simp at h1
    exact he h1.symm
 ·have:i=l.length:=by omega
  subst this
  rw[A38] at hno
  rw[A08 hno] at K
  exact K
end
section
set_option maxRecDepth 100000
def f8 (a b:Value)(h:H)(Q:Kt):Prop:=
 Ucl 33 [a] h fun c h=>Unt c
 (Q (.bool true) h)
 (Ucl 34 [a] h fun c h=>AO c 0 fun d=>AO c 1 fun c=>Unt c
 (Q (.bool true) h)
 (Ucl 35 [a,d] h fun c h=>Ucl 13 [b,(.int .i64 0),c] h fun b h=>AO b 0 fun c=>AO b 1 fun b=>Az b true (Ucl 14 [c] h fun b h=>Ucl 36 [b,a,d] h fun a h=>Q a h) (Q (.bool false) h)))
theorem ALB {a b:Value}{h:H}{Q:Kt}(x:f8 a b h Q):Call TP 8 [a,b] h Q:=Bb nT Tryz.func8 (by kernel_rfl) x
def AKG (Q:Kt)(r1:R1)(a b c:Value)(h:H):Prop:=
 Ucm .lss c b
 (AI (.slice 5) a c fun a=>AB true 5 a h fun a=>Umk 149 h fun b h=>AJ 5 b a h fun h=>AB true 5 b h fun a=>Ucl 70 [a] h fun a h=>Unt a
 (Q (.bool false) h)
 (AD .add c (.int .i64 1) fun a=>r1 a h))
 (Q (.bool true) h)
def AKg (Q:Kt)(a b c:Value)(h:H):Prop:=A1 (fun r1 c h=>AKG Q r1 a b c h) c h
def f33 (a:Value)(h:H)(Q:Kt):Prop:=
 Ab a fun b=>Ucm .gtr b (.int .i64 2147483647)
 (Q (.bool false) h)
 (Ab a fun b=>AKg Q a b (.int .i64 0) h)
def ALQ (Q:Kt)(r:RS):Nat→DJ:=tab [(117,.lp [8,9] [10] fun s e l h=>AKG Q (u1 s) (e 8) (e 9) (gl l 0) h)]
theorem AKr {a:Value}{h:H}{Q:Kt}(x:f33 a h Q):Call TP 33 [a] h Q:=Bb (ALQ Q) Tryz.func33 (by kernel_rfl) x
def f70 (a:Value)(h:H)(Q:Kt):Prop:=
 BB 149 (a:Value).cells h fun a h=>Ufl 1 a h fun b=>CL b fun b=>Ucm .gtr b (.int .i64 2147483647)
 (Q (.bool false) h)
 (Ufl 4 a h fun a=>Ab a fun a=>Ucm .gtr a (.int .i64 2147483647)
 (Q (.bool false) h)
 (Q (.bool true) h))
theorem AKu {a:Value}{h:H}{Q:Kt}(x:f70 a h Q):Call TP 70 [a] h Q:=Bb nT Tryz.func70 (by kernel_rfl) x
def AJ6 (Q:Kt)(r1:R3)(r2:R2)(a b c d f g i j k m:Value)(h:H):Prop:=
 Ufl 1 d h fun a=>CL a fun a=>Ucm .lss m a
 (Az k true (Ufl 1 d h fun a=>BQ a m fun a=>Ucg .neq a (.int .u8 47) (Ufl 1 d h fun a=>BQ a m fun a=>AD .neq a (.int .u8 0) fun a=>AD .add m (.int .i64 1) fun b=>r2 a b h) (AD .add m (.int .i64 1) fun a=>r2 (.bool false) a h)) (AD .add m (.int .i64 1) fun a=>r2 (.bool false) a h))
 (Ufl 4 d h fun a=>Ab a fun a=>AD .add c a fun a=>LH .not k fun c=>Az c false (Ucf .gtr a (.int .i64 1048576) (Ucf .eql f (.string ⟨#[47,108,111,115,116,43,102,111,117,110,100]⟩) (CL f fun c=>Ucf .gtr c (.int .i64 3000) (Ucl 49 [b,f] h fun c h=>AK c
 (Q (.tuple #[(.slice none 0 0),(.bool false)]) h)
 (Ucl 71 [f,(.string ⟨#[47,108,111,115,116,43,102,111,117,110,100]⟩)] h fun c h=>AK c
 (Q (.tuple #[(.slice none 0 0),(.bool false)]) h)
 (AH (.arr 1) 9 (AG TP 9) 1 1 [(0,f)] h fun c h=>AM 9 (AG TP 9) 1 16 b c h fun b h=>AD .add j (.int .i64 1) fun c=>r1 b a c h))) (Q (.tuple #[(.slice none 0 0),(.bool false)]) h)) (Q (.tuple #[(.slice none 0 0),(.bool false)]) h)) (Q (.tuple #[(.slice none 0 0),(.bool false)]) h)) (Q (.tuple #[(.slice none 0 0),(.bool false)]) h))
def AJx (Q:Kt)(r1:R3)(a b c d f g i j k m:Value)(h:H):Prop:=Bx (fun r2 k m h=>AJ6 Q r1 r2 a b c d f g i j k m h) k m h
def AJK (Q:Kt)(r1:R3)(a b c d f g i j k m:Value)(h:H):Prop:=
 AK m
 (Ufl 0 d h fun m=>Uil b m h fun m=>AD .add m f fun f=>AJx Q r1 a b c d f i j k g (.int .i64 0) h)
 (AJx Q r1 a b c d f i j k g (.int .i64 0) h)
def AJG (Q:Kt)(r1:R3)(a b c d f g i j k m:Value)(h:H):Prop:=
 Ufl 0 f h fun n=>Ucg .geq n (.int .i64 0) (Ufl 0 f h fun n=>Ucg .lss n d (Ufl 0 f h fun d=>AI (.slice 5) a d fun d=>Ufl 2 d h fun d=>AJK Q r1 a b c f g i j k m d h) (AJK Q r1 a b c f g i j k m (.bool false) h)) (AJK Q r1 a b c f g i j k m (.bool false) h)
def AJ9 (Q:Kt)(r1:R3)(a b c d f g:Value)(h:H):Prop:=
 Ucm .lss g c
 (AI (.slice 5) b g fun i=>AB true 5 i h fun i=>Umk 149 h fun j h=>AJ 5 j i h fun h=>Ufl 1 j h fun i=>AD .add (.string ⟨#[47]⟩) i fun i=>Ufl 1 j h fun k=>Ucg .neq k (.string ⟨#[]⟩) (Ufl 1 j h fun k=>Ucg .neq k (.string ⟨#[46]⟩) (Ufl 1 j h fun k=>Ucg .neq k (.string ⟨#[46,46]⟩) (Ufl 1 j h fun k=>CL k fun k=>AD .leq k (.int .i64 255) fun k=>AJG Q r1 a d f g j i k b c g h) (AJG Q r1 a d f g j i (.bool false) b c g h)) (AJG Q r1 a d f g j i (.bool false) b c g h)) (AJG Q r1 a d f g j i (.bool false) b c g h))
 (Q (.tuple #[d,(.bool true)]) h)
def AKb (Q:Kt)(a b c d f g:Value)(h:H):Prop:=K9 (fun r1 d f g h=>AJ9 Q r1 a b c d f g h) d f g h
def f34 (a:Value)(h:H)(Q:Kt):Prop:=
 AH (.arr 1) 9 (AG TP 9) 1 0 [] h fun b h=>Ab a fun c=>Ucm .gtr c (.int .i64 400)
 (Q (.tuple #[(.slice none 0 0),(.bool false)]) h)
 (Ab a fun c=>AKb Q a a c b (.int .i64 0) (.int .i64 0) h)
def ALN (Q:Kt)(r:RS):Nat→DJ:=tab [(501365,.lp [0,4,5,7,8,15,16,17] [9,10] fun s e l h=>AJ6 Q (u3 (r 122)) (u2 s) (e 0) (e 4) (e 5) (e 7) (e 8) (e 15) (e 16) (e 17) (gl l 0) (gl l 1) h),
 (125338,.jn fun e h=>AJK Q (u3 (r 122)) (e 0) (e 4) (e 5) (e 7) (e 8) (e 9) (e 15) (e 16) (e 17) (e 60) h),
 (31334,.jn fun e h=>AJG Q (u3 (r 122)) (e 0) (e 4) (e 5) (e 6) (e 7) (e 8) (e 9) (e 15) (e 16) (e 17) h),
 (245,.lp [0,15,16] [4,5,17] fun s e l h=>AJ9 Q (u3 s) (e 0) (e 15) (e 16) (gl l 0) (gl l 1) (gl l 2) h)]
theorem AKo {a:Value}{h:H}{Q:Kt}(x:f34 a h Q):Call TP 34 [a] h Q:=Bb (ALN Q) Tryz.func34 (by kernel_rfl) x
def AKC (Q:Kt)(r1:R2)(a b c d f:Value)(h:H):Prop:=
 Ucm .lss f c
 (AI (.slice 5) b f fun b=>AB true 5 b h fun b=>Umk 149 h fun c h=>AJ 5 c b h fun h=>AB true 5 c h fun b=>Ucl 73 [b] h fun b h=>Ucl 72 [b] h fun b h=>Ae (.struct [(0,1),(1,1),(2,1),(3,1),(4,1),(5,3),(8,3),(11,3),(14,3),(17,1),(18,1),(19,1)]) (AG TP 28) [(2,b)] fun b=>Umk 28 h fun g h=>AJ 20 g b h fun h=>Ufl 2 c h fun b=>AK b
 (Uil a f h fun a=>AB true 20 g h fun b=>Ae (.struct [(0,1),(1,1),(2,1),(3,20),(23,1)]) (AG TP 32) [(0,(.int .i64 0)),(1,a),(3,b)] fun a=>AH (.arr 24) 32 (AG TP 32) 24 1 [(0,a)] h fun a h=>AM 32 (AG TP 32) 24 232 d a h fun a h=>AD .add f (.int .i64 1) fun b=>r1 a b h)
 (Ufl 4 c h fun b=>Ab b fun b=>AC 1 g fun i=>AJ 1 i b h fun h=>Uil a f h fun a=>AB true 20 g h fun b=>Ae (.struct [(0,1),(1,1),(2,1),(3,20),(23,1)]) (AG TP 32) [(0,(.int .i64 0)),(1,a),(3,b)] fun a=>Ufl 4 c h fun b=>Ae (.struct [(0,1),(1,1),(2,1),(3,20),(23,1)]) (AG TP 32) [(0,(.int .i64 1)),(4,b)] fun b=>AH (.arr 24) 32 (AG TP 32) 24 2 [(0,a),(1,b)] h fun a h=>AM 32 (AG TP 32) 24 232 d a h fun a h=>AD .add f (.int .i64 1) fun b=>r1 a b h))
 (Q d h)
def AKk (Q:Kt)(a b c d f:Value)(h:H):Prop:=Bx (fun r1 d f h=>AKC Q r1 a b c d f h) d f h
def f35 (a b:Value)(h:H)(Q:Kt):Prop:=
 AH (.arr 24) 32 (AG TP 32) 24 0 [] h fun c h=>Ab a fun d=>AKk Q b a d c (.int .i64 0) h
def ALW (Q:Kt)(r:RS):Nat→DJ:=tab [(117,.lp [1,10,11] [5,12] fun s e l h=>AKC Q (u2 s) (e 1) (e 10) (e 11) (gl l 0) (gl l 1) h)]
theorem AKn {a b:Value}{h:H}{Q:Kt}(x:f35 a b h Q):Call TP 35 [a,b] h Q:=Bb (ALW Q) Tryz.func35 (by kernel_rfl) x
def AJF (Q:Kt)(r1:R1)(a b c d f g i j:Value)(h:H):Prop:=
 AC 0 d fun a=>Uld a h fun b=>Ufl 1 f h fun c=>Ucl 72 [c] h fun c h=>((Ukp a h b)∧Ucf .neq b c (Ufl 13 d h fun a=>HI a h fun a=>Ufl 3 f h fun b=>HI b h fun b=>Ucf .neq a b (Ufl 15 d h fun a=>Ab a fun a=>Ucm .gtr a (.int .i64 0)
 (Q (.bool false) h)
 (AD .add j (.int .i64 1) fun a=>r1 a h)) (Q (.bool false) h)) (Q (.bool false) h))
def AJX (Q:Kt)(r1:R1)(a b c d f g i j k m n o p q:Value)(h:H):Prop:=
 Ucl 74 [p,q] h fun p h=>((Ukp k h m)∧(AB true 18 n h fun a=>a=o)∧AJ 18 d o h fun h=>AJ 5 f p h fun h=>AJF Q r1 a b c d f g i j h)
def AJT (Q:Kt)(r1:R1)(a b c d f g i j k m n o:Value)(h:H):Prop:=
 Umk 63 h fun p h=>((Ukp j h k)∧(AB true 18 m h fun a=>a=n)∧AJ 18 p n h fun h=>AJ 5 d o h fun h=>AJF Q r1 a b c p d f g i h)
def AJW (Q:Kt)(r1:R1)(a b c d f g i j k m n o:Value)(h:H):Prop:=
 Umk 155 h fun p h=>((Ukp j h k)∧(AB true 18 m h fun a=>a=n)∧AJ 18 d n h fun h=>AJ 5 p o h fun h=>AJF Q r1 a b c d p f g i h)
def AKI (Q:Kt)(r1:R1)(a b c d f g:Value)(h:H):Prop:=
 Ucm .lss g f
 (AI (.slice 5) d g fun i=>AB true 5 i h fun i=>Umk 149 h fun j h=>AJ 5 j i h fun h=>AB true 1 c h fun i=>Uil b g h fun k=>Ucl 29 [k] h fun k h=>((AB true 1 c h fun a=>a=i)∧Ucl 15 [i,k] h fun i h=>AO i 0 fun k=>AO i 1 fun i=>Unt i
 (Q (.bool false) h)
 (AC 0 c fun i=>Uld i h fun m=>AI (.slice 18) m k fun k=>AB true 18 k h fun n=>AB true 5 j h fun o=>AI (.slice 1) b g fun p=>Uld p h fun q=>((Ucl 74 [o,q] h fun j h=>((Ukp i h m)∧(AB true 18 k h fun a=>a=n)∧((Umk 63 h fun o h=>((Ukp i h m)∧(AB true 18 k h fun a=>a=n)∧AJW Q r1 a b c o d f g i m k n j h))
 ∧ (Umk 155 h fun o h=>((Ukp i h m)∧(AB true 18 k h fun a=>a=n)∧AJT Q r1 a b c o d f g i m k n j h)))))
 ∧ ((Umk 63 h fun t h=>((Ukp i h m)∧(AB true 18 k h fun a=>a=n)∧(AB true 5 j h fun a=>a=o)∧(Ukp p h q)∧((Ucl 74 [o,q] h fun j h=>((Ukp i h m)∧(AB true 18 k h fun a=>a=n)∧AJW Q r1 a b c t d f g i m k n j h))
 ∧ (Umk 155 h fun u h=>((Ukp i h m)∧(AB true 18 k h fun a=>a=n)∧(AB true 5 j h fun a=>a=o)∧(Ukp p h q)∧AJX Q r1 a b c t u d f g i m k n o q h)))))
 ∧ (Umk 155 h fun t h=>((Ukp i h m)∧(AB true 18 k h fun a=>a=n)∧(AB true 5 j h fun a=>a=o)∧(Ukp p h q)∧((Ucl 74 [o,q] h fun j h=>((Ukp i h m)∧(AB true 18 k h fun a=>a=n)∧AJT Q r1 a b c t d f g i m k n j h))
 ∧ (Umk 63 h fun u h=>((Ukp i h m)∧(AB true 18 k h fun a=>a=n)∧(AB true 5 j h fun a=>a=o)∧(Ukp p h q)∧AJX Q r1 a b c u t d f g i m k n o q h))))))))))
 (AB true 1 c h fun b=>AH (.arr 1) 9 (AG TP 9) 1 1 [(0,(.string ⟨#[108,111,115,116,43,102,111,117,110,100]⟩))] h fun d h=>Ucl 15 [b,d] h fun b h=>AO b 0 fun _=>AO b 1 fun b=>Az b true (AB true 1 c h fun b=>Ucl 47 [b] h fun b h=>S3 false 0 1 b fun b=>Ab b fun b=>Ab a fun a=>AD .add a (.int .i64 2) fun a=>AD .eql b a fun a=>Q a h) (Q (.bool false) h))
def AKh (Q:Kt)(a b c d f g:Value)(h:H):Prop:=A1 (fun r1 g h=>AKI Q r1 a b c d f g h) g h
def f36 (a b c:Value)(h:H)(Q:Kt):Prop:=
 BB 40 (a:Value).cells h fun a h=>Ab b fun d=>AKh Q b c a b d (.int .i64 0) h
def ALa (Q:Kt)(r:RS):Nat→DJ:=tab [(27038,.jn fun e h=>AJF Q (u1 (r 26)) (e 1) (e 2) (e 3) (e 11) (e 12) (e 15) (e 16) (e 17) h),
 (53,.lp [1,2,3,15,16] [17] fun s e l h=>AKI Q (u1 s) (e 1) (e 2) (e 3) (e 15) (e 16) (gl l 0) h)]
theorem AKm {a b c:Value}{h:H}{Q:Kt}(x:f36 a b c h Q):Call TP 36 [a,b,c] h Q:=Bb (ALa Q) Tryz.func36 (by kernel_rfl) x
def f71 (a b:Value)(h:H)(Q:Kt):Prop:=
 Ucm .eql b (.string ⟨#[47]⟩)
 (AD .neq a (.string ⟨#[47]⟩) fun a=>Q a h)
 (CL a fun c=>CL b fun d=>Ucg .gtr c d (CL b fun c=>AZ .str a none (some c) fun c=>Ucg .eql c b (CL b fun b=>BQ a b fun a=>AD .eql a (.int .u8 47) fun a=>Q a h) (Q (.bool false) h)) (Q (.bool false) h))
theorem AKw {a b:Value}{h:H}{Q:Kt}(x:f71 a b h Q):Call TP 71 [a,b] h Q:=Bb nT Tryz.func71 (by kernel_rfl) x
def AKD (Q:Kt)(r1:R2)(a b c d:Value)(h:H):Prop:=
 Ucm .lss d (.int .i64 3)
 (Ch true 3 2 b d fun b=>Umk 252 h fun f h=>AJ 2 f b h fun h=>AI (.arr 2 1) f (.int .i64 0) fun b=>Uld b h fun b=>AD .and a b fun a=>Ucm .neq a (.int .i64 0)
 (AI (.arr 2 1) f (.int .i64 1) fun a=>Uld a h fun a=>AV .u16 a fun a=>AD .or c a fun a=>AD .add d (.int .i64 1) fun b=>r1 a b h)
 (AD .add d (.int .i64 1) fun a=>r1 c a h))
 (AD .and a (.int .i64 2147483648) fun a=>Ucm .neq a (.int .i64 0)
 (AD .or c (.int .u16 16384) fun a=>Q a h)
 (AD .or c (.int .u16 32768) fun a=>Q a h))
def AKe (Q:Kt)(a b c d:Value)(h:H):Prop:=Bx (fun r1 c d h=>AKD Q r1 a b c d h) c d h
def f72 (a:Value)(h:H)(Q:Kt):Prop:=
 AD .and a (.int .i64 511) fun b=>AV .u16 b fun b=>Ae (.arr 1) (AG TP 252) [(0,(.int .i64 8388608)),(1,(.int .i64 2048))] fun c=>Ae (.arr 1) (AG TP 252) [(0,(.int .i64 4194304)),(1,(.int .i64 1024))] fun d=>Ae (.arr 1) (AG TP 252) [(0,(.int .i64 1048576)),(1,(.int .i64 512))] fun f=>Ae (.arr 2) (AG TP 253) [(0,c),(1,d),(2,f)] fun c=>AKe Q a c b (.int .i64 0) h
def ALI (Q:Kt)(r:RS):Nat→DJ:=tab [(117,.lp [0,12] [3,13] fun s e l h=>AKD Q (u2 s) (e 0) (e 12) (gl l 0) (gl l 1) h)]
theorem AKE {a:Value}{h:H}{Q:Kt}(x:f72 a h Q):Call TP 72 [a] h Q:=Bb (ALI Q) Tryz.func72 (by kernel_rfl) x
def f73 (a:Value)(h:H)(Q:Kt):Prop:=
 BB 149 (a:Value).cells h fun a h=>Ufl 3 a h fun b=>AD .and b (.int .i64 13631999) fun b=>Ufl 2 a h fun a=>AK a
 (AD .or b (.int .i64 2147483648) fun a=>Q a h)
 (Q b h)
theorem AJo {a:Value}{h:H}{Q:Kt}(x:f73 a h Q):Call TP 73 [a] h Q:=Bb nT Tryz.func73 (by kernel_rfl) x
def AJg (Q:Kt)(a b c:Value)(h:H):Prop:=
 Ufl 2 a h fun d=>Unt d
 (Ufl 4 a h fun a=>AC 3 c fun d=>AJ 1 d a h fun h=>AB true 5 c h fun a=>AJ 5 b a h fun h=>AB true 5 b h fun a=>Q a h)
 (AB true 5 c h fun a=>AJ 5 b a h fun h=>AB true 5 b h fun a=>Q a h)
def f74 (a b:Value)(h:H)(Q:Kt):Prop:=
 BB 149 (a:Value).cells h fun a h=>Umk 155 h fun c h=>AB true 5 a h fun d=>AC 2 a fun f=>Uld f h fun g=>((Ucl 73 [d] h fun d h=>((Ukp f h g)∧Ae (.struct [(0,1),(1,1),(2,1),(3,1),(4,1)]) (AG TP 155) [(0,b),(1,d),(2,g)] fun b=>Umk 155 h fun d h=>((Ukp f h g)∧AJ 5 d b h fun h=>AJg Q a c d h)))
 ∧ (Umk 155 h fun i h=>((AB true 5 a h fun a=>a=d)∧(Ukp f h g)∧Ucl 73 [d] h fun d h=>((Ukp f h g)∧Ae (.struct [(0,1),(1,1),(2,1),(3,1),(4,1)]) (AG TP 155) [(0,b),(1,d),(2,g)] fun b=>AJ 5 i b h fun h=>AJg Q a c i h))))
def ALX (Q:Kt)(r:RS):Nat→DJ:=tab [(14,.jn fun e h=>AJg Q (e 2) (e 4) (e 5) h)]
theorem AJb {a b:Value}{h:H}{Q:Kt}(x:f74 a b h Q):Call TP 74 [a,b] h Q:=Bb (ALX Q) Tryz.func74 (by kernel_rfl) x
def AJY (Q:Kt)(r1:R3)(a b c d f:Value)(h:H):Prop:=
 AK f
 (Ucm .gtr d c
 (AZ .str a (some c) (some d) fun a=>AH (.arr 1) 9 (AG TP 9) 1 1 [(0,a)] h fun a h=>AM 9 (AG TP 9) 1 16 b a h fun a h=>AD .add d (.int .i64 1) fun b=>AD .add d (.int .i64 1) fun c=>r1 a b c h)
 (AD .add d (.int .i64 1) fun a=>AD .add d (.int .i64 1) fun c=>r1 b a c h))
 (AD .add d (.int .i64 1) fun a=>r1 b c a h)
def AJ7 (Q:Kt)(r1:R3)(a b c d:Value)(h:H):Prop:=
 CL a fun f=>Ucm .leq d f
 (CL a fun f=>Ucf .eql d f (BQ a d fun f=>AD .eql f (.int .u8 47) fun f=>AJY Q r1 a b c d f h) (AJY Q r1 a b c d (.bool true) h))
 (Q b h)
def AKl (Q:Kt)(a b c d:Value)(h:H):Prop:=K9 (fun r1 b c d h=>AJ7 Q r1 a b c d h) b c d h
def f29 (a:Value)(h:H)(Q:Kt):Prop:=
 AH (.arr 1) 9 (AG TP 9) 1 0 [] h fun b h=>AKl Q a b (.int .i64 0) (.int .i64 0) h
def ALb (Q:Kt)(r:RS):Nat→DJ:=tab [(3730,.jn fun e h=>AJY Q (u3 (r 58)) (e 0) (e 3) (e 4) (e 5) (e 22) h),
 (117,.lp [0] [3,4,5] fun s e l h=>AJ7 Q (u3 s) (e 0) (gl l 0) (gl l 1) (gl l 2) h)]
theorem AKt {a:Value}{h:H}{Q:Kt}(x:f29 a h Q):Call TP 29 [a] h Q:=Bb (ALb Q) Tryz.func29 (by kernel_rfl) x
def AJ8 (Q:Kt)(r1:R1)(a b c d f g:Value)(h:H):Prop:=
 Ucm .lss g f
 (Uld d h fun a=>AI (.slice 1) a g fun a=>AJ 1 a (.int .i64 (-1)) h fun h=>AD .add g (.int .i64 1) fun a=>r1 a h)
 (Umk 180 h fun f h=>AJ 1 f (.func (.func 89) #[] #[d,a,c,f]) h fun h=>Ufl 0 a h fun a=>Ab a fun a=>Ucm .gtr a (.int .i64 0)
 (Uld f h fun a=>Bj TP a [(.int .i64 0)] h fun _ h=>AB true 1 c h fun a=>AJ 1 b a h fun h=>AB true 1 b h fun a=>Q a h)
 (AB true 1 c h fun a=>AJ 1 b a h fun h=>AB true 1 b h fun a=>Q a h))
def AKa (Q:Kt)(a b c d f g:Value)(h:H):Prop:=A1 (fun r1 g h=>AJ8 Q r1 a b c d f g h) g h
def f47 (a:Value)(h:H)(Q:Kt):Prop:=
 BB 40 (a:Value).cells h fun a h=>Umk 40 h fun b h=>Umk 40 h fun c h=>Ufl 0 a h fun d=>Ab d fun d=>AY (AG TP 3) 1 8 3 d d h fun d h=>Umk 61 h fun f h=>AJ 1 f d h fun h=>Uld f h fun d=>Ab d fun d=>AKa Q a b c f d (.int .i64 0) h
def ALJ (Q:Kt)(r:RS):Nat→DJ:=tab [(245,.lp [1,2,3,4,12] [13] fun s e l h=>AJ8 Q (u1 s) (e 1) (e 2) (e 3) (e 4) (e 12) (gl l 0) h)]
theorem AKp {a:Value}{h:H}{Q:Kt}(x:f47 a h Q):Call TP 47 [a] h Q:=Bb (ALJ Q) Tryz.func47 (by kernel_rfl) x
def AKB (Q:Kt)(r1:R2)(a b c d f g i j:Value)(h:H):Prop:=
 Ucm .lss j g
 (Uil f j h fun a=>Uld d h fun b=>Bj TP b [a] h fun a h=>AH (.arr 1) 3 (AG TP 3) 1 1 [(0,a)] h fun a h=>AM 3 (AG TP 3) 1 8 i a h fun a h=>AD .add j (.int .i64 1) fun b=>r1 a b h)
 (Ufl 0 c h fun c=>Uld b h fun d=>Uil d a h fun d=>AI (.slice 18) c d fun c=>AC 17 c fun c=>AJ 1 c i h fun h=>Uld b h fun b=>Uil b a h fun a=>Q a h)
def AKd (Q:Kt)(a b c d f g i j:Value)(h:H):Prop:=Bx (fun r1 i j h=>AKB Q r1 a b c d f g i j h) i j h
def f89 (a b c d f:Value)(h:H)(Q:Kt):Prop:=
 Uld b h fun g=>Uil g a h fun g=>Ucm .geq g (.int .i64 0)
 (Uld b h fun b=>Uil b a h fun a=>Q a h)
 (Ufl 0 c h fun c=>AI (.slice 18) c a fun c=>AB true 18 c h fun c=>Umk 63 h fun g h=>AJ 18 g c h fun h=>Uld b h fun c=>Ufl 0 d h fun i=>Ab i fun i=>AI (.slice 1) c a fun c=>AJ 1 c i h fun h=>Ufl 0 d h fun c=>AB true 18 g h fun i=>AH (.arr 18) 63 (AG TP 63) 18 1 [(0,i)] h fun i h=>AM 63 (AG TP 63) 18 200 c i h fun c h=>AC 0 d fun i=>AJ 1 i c h fun h=>AH (.arr 1) 3 (AG TP 3) 1 0 [] h fun c h=>Ufl 17 g h fun g=>Ab g fun i=>AKd Q a b d f g i c (.int .i64 0) h)
def ALK (Q:Kt)(r:RS):Nat→DJ:=tab [(2037,.lp [0,1,3,4,39,40] [8,41] fun s e l h=>AKB Q (u2 s) (e 0) (e 1) (e 3) (e 4) (e 39) (e 40) (gl l 0) (gl l 1) h)]
theorem AKz {a b c d e:Value}{h:H}{Q:Kt}(x:f89 a b c d e h Q):Call TP 89 [a,b,c,d,e] h Q:=Bb (ALK Q) Tryz.func89 (by kernel_rfl) x
end
section
variable {h:H} {k:Value→Prop} {kt Q:Kt} {x y z r:Res}
attribute [local irreducible] AK Az AQ BB Ae AY AH AM
structure PIt where
 up:Int
 nm:Bs
 dir:Bool
 perm:Int
 data:Bs
def PIt.cells (p:PIt)(dv:Value):List Value:=[.int .i64 p.up,str p.nm,.bool p.dir,.int .i64 p.perm,dv]
section
variable {p:PIt} {dv:Value}
theorem PIt.len:(p.cells dv).length=5:=rfl
theorem PIt.g0:(⟨p.cells dv⟩:Array Value)[0]? = some (.int .i64 p.up):=rfl
theorem PIt.g1:(⟨p.cells dv⟩:Array Value)[1]? = some (str p.nm):=rfl
theorem PIt.g2:(⟨p.cells dv⟩:Array Value)[2]? = some (.bool p.dir):=rfl
theorem PIt.g3:(⟨p.cells dv⟩:Array Value)[3]? = some (.int .i64 p.perm):=rfl
theorem PIt.g4:(⟨p.cells dv⟩:Array Value)[4]? = some dv:=rfl
theorem PIt.one {a:Option Addr}{n c:Nat}:(p.cells (.slice a n c)).all Value.oneCell'=true:=rfl
end
def AI7 (x:Res)(vs:List Value)(l:List PIt):Prop:=∀ (i:Nat) (p:PIt),l[i]? = some p→∃ dv,(vs.drop (i*5)).take 5=p.cells dv∧RdX x dv p.data
theorem AI7.addR {vs:List Value}{l:List PIt}(d:AI7 x vs l):AI7 (y+x) vs l:=fun i p h=>by
 obtain⟨dv,h1,h2⟩:=d i p h
 exact⟨dv,h1,h2.addR⟩
theorem AJH:AG TP 149=some (.agg ⟨(PIt.mk 0 [] false 0 []).cells (.slice none 0 0)⟩):=by kernel_rfl
attribute [local irreducible] PIt.cells
section
variable {v dv:Value} {vs:List Value} {l:List PIt} {p:PIt}
theorem s70 (d:RdX x dv p.data)(hn:p.nm.length≤2000000000)(hd:p.data.length≤2000000000)(w:AN x h)(K:∀ y h,AN (y+x) h→Q (.bool true) h):f70 (.agg ⟨p.cells dv⟩) h Q:=by
 have hg:∀ n:Nat,n≤2000000000→∀ k:Value→Prop,AD .gtr (.int .i64 (n:Nat)) (.int .i64 2147483647) k=k (.bool false):=fun n hn k=>by rw[Ao,A08 (by omega)]
 obtain⟨a,c,hdv⟩:=d.len
 unfold f70 Ufl Ucm
 refine BJ w fun b h w=>?_
 have w:AN (pts b (.cells ⟨p.cells dv⟩ 149 (0,0))+x) h:=w
 rw[AIq]
 refine AW w PIt.g1 ?_
 rw[AGz,hg _ hn,AU,AIq]
 refine AW w PIt.g4 ?_
 rw[hdv,Aw,hg _ hd,AU]
 exact K _ h w
theorem s33 (d:RdV 5 v l.length vs x)(pv:AI7 x vs l)(hn:l.length≤2000000000)(hb:∀ p∈l,p.nm.length≤2000000000∧p.data.length≤2000000000)(w:AN x h)(K:∀ y h,AN (y+x) h→Q (.bool true) h):f33 v h Q:=by
 have hg:∀ n:Nat,n≤2000000000→∀ k:Value→Prop,AD .gtr (.int .i64 (n:Nat)) (.int .i64 2147483647) k=k (.bool false):=fun n hn k=>by rw[Ao,A08 (by omega)]
 obtain⟨⟨va,vc,hv⟩,_⟩:=d.len
 unfold f33 Ucm
 rw[hv,Aw,hg _ hn,AU,Aw,←hv]
 unfold AKg
 refine Ba (fun mm u h'=>∃ i y,mm+i=l.length∧u=.int .i64 (i:Nat)∧AN (y+x) h') l.length ⟨0,0,rfl,rfl,w.cast (Res.zero_add _).symm⟩ ?_
 rintro rec mm u h' ⟨i,y,hi,rfl,w⟩ hrec
 unfold AKG Ucm Umk Ucl Unt
 rw[AT]
 refine AX (fun hc=>?_) (fun hc=>K y h' w)
 have hil:i<l.length:=by omega
 obtain⟨p,hp⟩:∃ p,l[i]? = some p:=⟨_,A00 hil⟩
 obtain⟨dv,h1,h2⟩:=pv i p hp
 obtain⟨g1,g2⟩:=hb p (A28 hp)
 obtain⟨a,c,hdv⟩:=h2.len
 refine (d.addR:RdV 5 v l.length vs _).agg w hil ?_
 rw[h1]
 refine Ah w AJH rfl fun b h w=>?_
 refine AL w ⟨p.cells dv⟩ (Ar (by rw[A31,PIt.len];exact PIt.len)) (by show (p.cells dv).length=5;exact PIt.len) (by rw[A31,PIt.len];omega) (by rw[hdv];exact PIt.one) fun h w=>?_
 refine Cj w PIt.len ?_
 have k1:∀ B Y X:Res,B+(Y+X)=(B+Y)+X:=by intros;ac_rfl
 refine AKu (s70 h2.addR g1 g2 (w.cast (k1 _ _ _)) fun y2 h w=>?_)
 rw[F1,A91,AU,BN (n:=1),Ci (by omega)]
 exact hrec (mm-1) _ _ ⟨i+1,_,by omega,rfl,w.cast (Res.assoc _ _ _).symm⟩ (by omega)
end
end
section
variable {h:H} {k:Value→Prop} {kt Q:Kt} {x y z r:Res}
attribute [local irreducible] AK Az AQ BB Ae AY AH AM PIt.cells
def AJL (p:Int)(m:Nat):Nat:=(BitVec.ofInt 64 p).toNat &&& m
theorem AJa (p:Int)(m:Nat):AJL p m≤m:=Nat.and_le_right
theorem AJO {a:Nat}(ha:a<18446744073709551616)(m:Nat):AJL (a:Int) m=a &&& m:=by
 unfold AJL
 rw[BitVec.ofInt_natCast,BitVec.toNat_ofNat,A23 ha]
theorem AJu {p:Int}{m:Nat}(hm:m<9223372036854775808):AD .and (.int .i64 p) (.int .i64 (m:Int)) k=k (.int .i64 (AJL p m:Nat)):=by
 have h1:(BitVec.ofInt IntKind.i64.bits p &&& BitVec.ofInt IntKind.i64.bits (m:Int)).toNat=AJL p m:=by
  show (BitVec.ofInt 64 p &&& BitVec.ofInt 64 (m:Int)).toNat=_
  simp only[BitVec.toNat_and,BitVec.ofInt_natCast,BitVec.toNat_ofNat]
  rw[A23 (by omega)];rfl
 have hle:=AJa p m
 have hv:CT .and (.int .i64 p) (.int .i64 (m:Int))=some (.int .i64 (AJL p m:Nat)):=by
  simp only[CT,if_true,h1]
  rw[Ge (by omega) (by omega)]
 exact propext ⟨fun⟨v,a,b⟩=>by rw[hv] at a;cases a;exact b,fun a=>⟨_,hv,a⟩⟩
theorem AJP {p:Int}{m:Nat}(hm:(OfNat.ofNat m:Int)<9223372036854775808):AD .and (.int .i64 p) (.int .i64 (no_index (OfNat.ofNat m:Int))) k=k (.int .i64 (AJL p m:Nat)):=AJu (B29.1 hm)
theorem AKX {a:Nat}(ha:a<2147483648):AD .or (.int .i64 (a:Nat)) (.int .i64 2147483648) k=k (.int .i64 (a ||| 2147483648:Nat)):=by
 refine Fo ?_
 have h1:(BitVec.ofInt 64 (a:Int) ||| BitVec.ofInt 64 ((2147483648:Nat):Int)).toNat=a ||| 2147483648:=by
  simp only[BitVec.toNat_or,BitVec.ofInt_natCast,BitVec.toNat_ofNat]
  rw[A23 (by omega)]
 have h2:a ||| 2147483648<2^32:=B01 (by omega) (by omega)
 show some (Value.int .i64 (IntKind.i64.wrap ((BitVec.ofInt 64 (a:Int) ||| BitVec.ofInt 64 ((2147483648:Nat):Int)).toNat:Int)))=_
 rw[h1,Ci (by omega)]
def ppL (p:Int)(d:Bool):Nat:=if d then AJL p 13631999 ||| 2147483648 else AJL p 13631999
theorem AKL {p:Int}{d:Bool}:ppL p d<4294967296:=by
 have:=AJa p 13631999
 unfold ppL
 split
 ·exact B01 (n:=32) (by omega) (by omega)
 ·omega
theorem s73 {p:PIt}{dv:Value}(w:AN x h)(K:∀ y h,AN (y+x) h→Q (.int .i64 (ppL p.perm p.dir:Nat)) h):f73 (.agg ⟨p.cells dv⟩) h Q:=by
 unfold f73 Ufl
 refine BJ w fun b h w=>?_
 have w:AN (pts b (.cells ⟨p.cells dv⟩ 149 (0,0))+x) h:=w
 rw[AIq]
 refine AW w PIt.g3 ?_
 rw[AJP (m:=13631999) (by decide),AIq]
 refine AW w PIt.g2 ?_
 have hK:=K _ h w
 unfold ppL at hK
 have hl:=AJa p.perm 13631999
 cases hd:p.dir with
 | true=>rw[Ak,AKX (by omega)];rw[hd] at hK;exact hK
 | false=>rw[AU];rw[hd] at hK;exact hK
def umS (m acc:Nat)(t:Nat×Nat):Nat:=if m &&& t.1=0 then acc else acc ||| t.2
def umT:List (Nat×Nat):=[(8388608,2048),(4194304,1024),(1048576,512)]
def umA (m i:Nat):Nat:=(umT.take i).foldl (umS m) (m &&& 511)
def umL (m:Nat):Nat:=if m &&& 2147483648=0 then umA m 3 ||| 32768 else umA m 3 ||| 16384
theorem AJt (m:Nat):∀ (l:List (Nat×Nat)) (a:Nat),(∀ t∈l,t.2 &&& 61440=0∧t.2<4096)→a &&& 61440=0∧a<4096→l.foldl (umS m) a &&& 61440=0∧l.foldl (umS m) a<4096
 | [],_,_,h=>h
 | t::l,a,h,ha=>by
  rw[A71]
  refine AJt m l _ (fun u hu=>h u (A16 _ hu)) ?_
  obtain⟨h1,h2⟩:=h t (A13 ..)
  unfold umS
  split
  ·exact ha
  ·rw[Nat.and_or_distrib_right,ha.1,h1]
   exact⟨rfl,B01 (n:=12) ha.2 h2⟩
theorem AKj (m i:Nat):umA m i &&& 61440=0∧umA m i<4096:=by
 refine AJt m _ _ (fun t h=>?_) ⟨by rw[Nat.and_assoc];exact Nat.and_zero _,B06 Nat.and_le_right (by decide)⟩
 have h:=List.mem_of_mem_take h
 unfold umT at h
 simp only[A32,B45,or_false] at h
 rcases h with rfl|rfl|rfl<;>decide
theorem AKT (m:Nat):umL m<65536∧kindB (umL m)=if m &&& 2147483648=0 then 32768 else 16384:=by
 obtain⟨h1,h2⟩:=AKj m 3
 unfold umL kindB
 split
 ·rw[Nat.and_or_distrib_right,h1]
  exact⟨B01 (n:=16) (by omega) (by decide),rfl⟩
 ·rw[Nat.and_or_distrib_right,h1]
  exact⟨B01 (n:=16) (by omega) (by decide),rfl⟩
theorem AKK (p:Int)(d:Bool):umL (ppL p d)<65536∧kindB (umL (ppL p d))=(if d then 16384 else 32768)∧modeK (umL (ppL p d))=umL (ppL p d):=by
 obtain⟨h1,h2⟩:=AKT (ppL p d)
 have h3:AJL p 13631999 &&& 2147483648=0:=by
  unfold AJL
  rw[Nat.and_assoc];exact Nat.and_zero _
 have h4:kindB (umL (ppL p d))=if d then 16384 else 32768:=by
  rw[h2]
  unfold ppL
  cases d with
  | true=>rw[A03 rfl,A03 rfl,Nat.and_or_distrib_right,h3];rfl
  | false=>simp[h3]
 refine⟨h1,h4,?_⟩
 unfold modeK
 rw[A05]
 rw[h4]
 cases d<;>decide
theorem AJJ:AG TP 252=some (.agg ⟨[.int .i64 0,.int .i64 0]⟩):=by kernel_rfl
theorem AKW:AG TP 253=some (.agg ⟨[.int .i64 0,.int .i64 0,.int .i64 0,.int .i64 0,.int .i64 0,.int .i64 0]⟩):=by kernel_rfl
def umC:List Value:=[.int .i64 8388608,.int .i64 2048,.int .i64 4194304,.int .i64 1024,.int .i64 1048576,.int .i64 512]
theorem ALA {i:Nat}(hi:i<3):∃ a b:Nat,(⟨umC⟩:Array Value).extract (i*2) (i*2+2)=⟨[.int .i64 (a:Nat),.int .i64 (b:Nat)]⟩∧a<9223372036854775808∧b<4096∧∀ m,umA m (i+1)=umS m (umA m i) (a,b):=by
 have:i=0∨i=1∨i=2:=by omega
 rcases this with rfl|rfl|rfl<;>exact⟨_,_,rfl,by decide,by decide,fun m=>rfl⟩
theorem s72 {m:Nat}(hm:m<4294967296)(w:AN x h)(K:∀ y h,AN (y+x) h→Q (.int .u16 (umL m:Nat)) h):f72 (.int .i64 (m:Nat)) h Q:=by
 have hb:=fun i=>(AKj m i).2
 have hm511:m &&& 511<4096:=B06 Nat.and_le_right (by decide)
 unfold f72
 rw[AJP (m:=511) (by decide),AJO (by omega),DO,AFr (by omega)]
 refine Au AJJ rfl (rs:=[.int .i64 8388608,.int .i64 2048]) (by kernel_rfl) ?_
 refine Au AJJ rfl (rs:=[.int .i64 4194304,.int .i64 1024]) (by kernel_rfl) ?_
 refine Au AJJ rfl (rs:=[.int .i64 1048576,.int .i64 512]) (by kernel_rfl) ?_
 refine Au AKW rfl (rs:=umC) (by kernel_rfl) ?_
 unfold AKe
 refine DE (fun mm u0 u1 h'=>∃ i y,mm+i=3∧u0=.int .u16 (umA m i:Nat)∧u1=.int .i64 (i:Nat)∧AN (y+x) h') 3 ⟨0,0,rfl,rfl,rfl,w.cast (Res.zero_add _).symm⟩ ?_
 rintro rec mm u0 u1 h' ⟨i,y,hi,rfl,rfl,w⟩ hrec
 have hbi:=hb i
 unfold AKD Ucm Umk Uld
 have c1:∀ k:Value→Prop,AD .lss (.int .i64 (i:Nat)) (.int .i64 3) k=k (.bool (decide (i<3))):=fun k=>by
  rw[AT];congr 2;simp;omega
 rw[c1]
 refine AX (fun hc=>?_) (fun hc=>?_)
 ·obtain⟨a,b,e1,e2,e3,e4⟩:=ALA hc
  rw[Sw hc,e1]
  refine Ah w AJJ rfl fun b5 h w=>?_
  refine AL w ⟨[.int .i64 (a:Nat),.int .i64 (b:Nat)]⟩ rfl rfl (by simp) rfl fun h w=>?_
  have i0:∀ k:Value→Prop,AI (.arr 2 1) (Pt b5) (.int .i64 0) k=k (.pointer (some ⟨b5,0,none⟩)):=fun k=>Km (i:=0) (by omega)
  have i1:∀ k:Value→Prop,AI (.arr 2 1) (Pt b5) (.int .i64 1) k=k (.pointer (some ⟨b5,1,none⟩)):=fun k=>Km (i:=1) (by omega)
  have ml:m &&& a<4294967296:=B06 B20 hm
  have c2:∀ k:Value→Prop,AD .neq (.int .i64 (m &&& a:Nat)) (.int .i64 0) k=k (.bool (decide (m &&& a≠0))):=fun k=>by
   rw[A3];congr 2;simp
  have go:rec (.int .u16 (umA m (i+1):Nat)) (.int .i64 (i+1:Nat)) h:=hrec (mm-1) _ _ _ ⟨i+1,_,by omega,rfl,rfl,w.cast (Res.assoc _ _ _).symm⟩ (by omega)
  rw[e4 m] at go
  rw[i0]
  refine AW w (show (⟨[.int .i64 (a:Nat),.int .i64 (b:Nat)]⟩:Array Value)[0]? = some (.int .i64 (a:Nat)) from rfl) ?_
  rw[AJu e2,AJO (by omega),c2]
  unfold umS at go
  refine AX (fun hz=>?_) (fun hz=>?_)
  ·rw[A05 hz] at go
   rw[i1]
   refine AW w (show (⟨[.int .i64 (a:Nat),.int .i64 (b:Nat)]⟩:Array Value)[1]? = some (.int .i64 (b:Nat)) from rfl) ?_
   rw[DO,AFr (by omega),AIS (by omega) (by omega),BN (n:=1),Ci (by omega)]
   exact go
  ·rw[A03 (Decidable.not_not.1 hz)] at go
   rw[BN (n:=1),Ci (by omega)]
   exact go
 ·have:i=3:=by omega
  subst this
  have ml:m &&& 2147483648<4294967296:=B06 B20 hm
  have c2:∀ k:Value→Prop,AD .neq (.int .i64 (m &&& 2147483648:Nat)) (.int .i64 0) k=k (.bool (decide (m &&& 2147483648≠0))):=fun k=>by
   rw[A3];congr 2;simp
  have hK:=K y h' w
  unfold umL at hK
  rw[AJP (m:=2147483648) (by decide),AJO (by omega),c2]
  refine AX (fun hz=>?_) (fun hz=>?_)
  ·rw[A05 hz] at hK
   rw[AIc (b:=16384) (by omega) (by decide)]
   exact hK
  ·rw[A03 (Decidable.not_not.1 hz)] at hK
   rw[AIc (b:=32768) (by omega) (by decide)]
   exact hK
theorem AI4:AG TP 155=some (.agg ⟨[str [],.int .i64 0,.bool false,.slice none 0 0,.int .i64 0]⟩):=by kernel_rfl
def AI2 (p:PIt)(pa:Bs)(v:Value):List Value:=[str pa,.int .i64 (ppL p.perm p.dir:Nat),.bool p.dir,v,.int .i64 0]
theorem AKZ {p:PIt}{pa:Bs}{dv:Value}{b2 b4 b5:Nat}{c4:List Value}(hd:∃ a c,dv=.slice a p.data.length c)(h4:c4.length=5)(w:AN (pts b5 (.cells ⟨AI2 p pa (.slice none 0 0)⟩ 155 (0,0))+(pts b4 (.cells ⟨c4⟩ 155 (0,0))+(pts b2 (.cells ⟨p.cells dv⟩ 149 (0,0))+x))) h)
  (K:∀ y h,AN (y+x) h→Q (.agg ⟨AI2 p pa (if p.dir then .slice none 0 0 else dv)⟩) h):AJg Q (Pt b2) (Pt b4) (Pt b5) h:=by
 obtain⟨a,c,hdv⟩:=hd
 unfold AJg Ufl Unt
 rw[AIq]
 refine AW w PIt.g2 ?_
 rw[F1]
 cases hdir:p.dir with
 | true=>
  rw[hdir] at K
  rw[A91,AU]
  refine Cj w rfl ?_
  refine AL w ⟨AI2 p pa (.slice none 0 0)⟩ (Ar (by rw[A31,h4];rfl)) rfl (by rw[A31,h4];omega) rfl fun h w=>?_
  exact Cj w rfl (K _ h (w.cast (Kq4 _ _ _ _)))
 | false=>
  rw[hdir] at K
  rw[B44,Ak,AIq]
  refine AW w PIt.g4 ?_
  rw[AIq]
  refine AL w ⟨AI2 p pa dv⟩ (by rw[hdv];exact (A2 _ _ _).trans rfl) (by rw[hdv];rfl) (by show 3+1≤5;omega) (by rw[hdv];rfl) fun h w=>?_
  refine Cj w rfl ?_
  refine AL w ⟨AI2 p pa dv⟩ (Ar (by rw[A31,h4];rfl)) rfl (by rw[A31,h4];omega) (by rw[hdv];rfl) fun h w=>?_
  exact Cj w rfl (K _ h (w.cast (Kq4 _ _ _ _)))
theorem s74 {p:PIt}{pa:Bs}{dv:Value}(hd:∃ a c,dv=.slice a p.data.length c)(w:AN x h)(K:∀ y h,AN (y+x) h→Q (.agg ⟨AI2 p pa (if p.dir then .slice none 0 0 else dv)⟩) h):f74 (.agg ⟨p.cells dv⟩) (str pa) h Q:=by
 have bld:∀ k:Value→Prop,k (.agg ⟨AI2 p pa (.slice none 0 0)⟩)→Ae (.struct [(0,1),(1,1),(2,1),(3,1),(4,1)]) (AG TP 155) [(0,str pa),(1,.int .i64 (ppL p.perm p.dir:Nat)),(2,.bool p.dir)] k:=fun k hk=>
  Au AI4 rfl (rs:=AI2 p pa (.slice none 0 0)) rfl hk
 have k2:∀ Y B C X:Res,Y+(B+(C+X))=B+(C+(Y+X)):=by intros;ac_rfl
 have k3:∀ B Y C X:Res,B+(Y+(C+X))=B+(C+(Y+X)):=by intros;ac_rfl
 have k4:∀ Y A B C X:Res,Y+(A+(B+(C+X)))=A+(B+(C+(Y+X))):=by intros;ac_rfl
 unfold f74 Umk Uld Ucl Ukp
 refine BJ w fun b2 h w=>?_
 have w:AN (pts b2 (.cells ⟨p.cells dv⟩ 149 (0,0))+x) h:=w
 refine Ah w AI4 rfl fun b4 h w=>?_
 refine Cj w PIt.len ?_
 rw[AIq]
 refine AW w PIt.g2 ?_
 refine And.intro ?_ ?_
 ·refine AJo (s73 w fun y h w=>?_)
  refine And.intro (AW w PIt.g2 rfl) (bld _ ?_)
  refine Ah (w.cast (k2 _ _ _ _)) AI4 rfl fun b5 h w=>?_
  refine AIn w PIt.g2 ?_
  refine AL w ⟨AI2 p pa (.slice none 0 0)⟩ (Ar (by rfl)) rfl (by show 0+5≤5;omega) rfl fun h w=>?_
  exact AKZ hd rfl w fun y2 h w=>K _ h (w.cast (Res.assoc _ _ _).symm)
 ·refine Ah w AI4 rfl fun b5 h w=>?_
  refine And.intro (Cj w PIt.len rfl) (And.intro (AW w PIt.g2 rfl) ?_)
  refine AJo (s73 w fun y h w=>?_)
  refine And.intro (AW w PIt.g2 rfl) (bld _ ?_)
  refine AL (w.cast (k4 _ _ _ _ _)) ⟨AI2 p pa (.slice none 0 0)⟩ (Ar (by rfl)) rfl (by show 0+5≤5;omega) rfl fun h w=>?_
  exact AKZ hd rfl w fun y2 h w=>K _ h (w.cast (Res.assoc _ _ _).symm)
end
end Go.Proofs.YtollddkkdgoonaaGreatDoor
