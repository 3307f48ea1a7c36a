/- A step. No condition. -/
import Derived.Test.YtollddkkdgoonaaGreatDoorM10
namespace Go.Proofs.YtollddkkdgoonaaGreatDoor
open Go
set_option linter.unusedVariables false
set_option linter.unusedSimpArgs false
set_option linter.defProp false
set_option maxRecDepth 100000
variable {h:H} {k:Value->Prop} {kt Q:Kt} {x y z r:Res}
def Vx (l:List Nat)(o:Bs):Bs:=l.foldl (fun o n=>setL o n [1]) o
def kq {o:Bs}{n:Nat}(h:n<o.length):setL o n [1]=o.set n 1:=by
 unfold setL;rw[List.set_eq_take_append_cons_drop,D0 h];simp
theorem Sj:∀ (l:List Nat) (o:Bs) (i:Nat),(∀ n∈l,n<o.length)->i<o.length->(Vx l o)[i]? = if i∈l then some 1 else o[i]?
 | [],_,_,_,_=>by simp[Vx]
 | n::l,o,i,h,hi=>by
  have c:n<o.length:=h n (T0 ..);have e:(setL o n [1]).length=o.length:=Ad (by show n+1<=_;omega);show (Vx l (setL o n [1]))[i]? = _;rw[Sj l _ i (fun k d=>by rw[e];exact h k (U0 _ d)) (by rw[e];exact hi),kq c,G4];by_cases a:i∈l
  ·rw[D0 a,D0 (U0 _ a)]
  ·by_cases b:n=i
   ·subst b;rw[F0 a,D0 rfl,D0 c,D0 (T0 ..)]
   ·rw[F0 a,F0 b,F0 (by simp[a];exact fun hh=>b hh.symm)]
def AGz (l m:List Nat)(o:Bs):Vx (l++m) o=Vx m (Vx l o):=M6 ..
theorem Rb:∀ (m:List Nat) (o:Bs),m.Nodup->(∀ n∈m,o[n]? = some 0)->Clm m o (Vx m o)
 | [],_,_,_=>.nil
 | n::m,o,hd,h=>by
  have a:=h n (T0 ..);have c:n<o.length:=(G0.1 a).1;rw[U4] at hd;refine .cons a (Rb m _ hd.2 fun k b=>?_);rw[kq c,G4,F0 (fun e=>hd.1 (by rw[e];exact b))];exact h k (U0 _ b)
theorem Lw {α:Type}[DecidableEq α]:∀ (l V:List α),l.Nodup->(∀ a∈l,a∈V)->∃ c,V.Perm (l++c)
 | [],V,_,_=>⟨V,.refl _⟩
 | a::l,V,hd,h=>by
  rw[U4] at hd;have f:=h a (T0 ..);obtain⟨c,g⟩:=Lw l (V.erase a) hd.2 fun b d=>(List.mem_erase_of_ne fun (e:b=a)=>hd.1 (e▸d)).2 (h b (U0 _ d));exact⟨c,(List.perm_cons_erase f).trans (g.cons a)⟩
def Ns {α:Type}[DecidableEq α](f:α->Nat){l V:List α}(b:l.Nodup)(h:∀ a∈l,a∈V):(l.map f).sum<=(V.map f).sum:=by
 obtain⟨d,c⟩:=Lw l V b h;rw[(c.map f).sum_nat,H2,G8];omega
def jm {α:Type}[DecidableEq α]{l V:List α}(b:l.Nodup)(h:∀ a∈l,a∈V):l.length<=V.length:=by
 obtain⟨d,c⟩:=Lw l V b h;rw[c.length_eq,C0];omega
def ADU {α β:Type}[DecidableEq α]{X:List β}{f:α->List β}{l V:List α}(b:l.Nodup)(h:∀ a∈l,a∈V)(c:(X++V.flatMap f).Nodup):(X++l.flatMap f).Nodup:=by
 obtain⟨e,d⟩:=Lw l V b h;have:=((d.flatMap_right f).append_left X).nodup_iff.1 c;rw[W5,<-P0,S4] at this;exact this.1
theorem Hu {α:Type}[DecidableEq α]:∀ (l V:List α),l.Nodup->V.Nodup->(∀ a,a∈l↔a∈V)->l.Perm V
 | [],V,_,_,h=>by
  cases V with
  | nil=>exact .refl _
  | cons b V=>exact absurd ((h b).2 (T0 ..)) (by simp)
 | a::l,V,hd,hv,h=>by
  rw[U4] at hd;have i:=(h a).1 (T0 ..);refine List.Perm.trans (List.Perm.cons a (Hu l (V.erase a) hd.2 (hv.erase a) fun b=>?_)) (List.perm_cons_erase i).symm;rw[hv.mem_erase_iff];constructor
  ·intro d;exact⟨fun e=>hd.1 (by rw[<-e];exact d),(h b).1 (U0 _ d)⟩
  ·rintro⟨f,g⟩;rcases I1.1 ((h b).2 g) with c|c
   ·exact absurd c f
   ·exact c
structure Ix (I:Bs) (nb eh:Nat) (V:List Nat) (io:Nat->AA) (la:Nat->List (Bs×Bs)) (cl:Nat->List Nat) (par:Nat->Nat) (rest:Nat->List EN):Prop where
 nd:V.Nodup
 two:2∈V
 rng:∀ c∈V,1<=c/\c<=eh
 ino:∀ c∈V,InoOK I nb (rawL I c) c (io c).X (io c).C (la c) (cl c)
 la:∀ c∈V,(io c).l=xaOf (la c)
 file:∀ c∈V,kindL (io c).X.en≠2->(io c).E=[]/\rest c=[]
 dir:∀ c∈V,kindL (io c).X.en=2->(io c).X.inl=false/\BlkR (io c).C (io c).E/\(io c).C.length<10000000/\NamesOK (io c).E/\(io c).E=([46],c,2)::([46,46],par c,2)::rest c
 root:kindL (io 2).X.en=2/\par 2=2
 kid:∀ c∈V,∀ e∈rest c,e.2.1∈V/\11<=e.2.1/\e.2.2=kindL (io e.2.1).X.en
 par:∀ c∈V,∀ e∈rest c,e.2.2=2->par e.2.1=c
 one:∀ c∈V,((rest c).filter fun e=>decide (e.2.2=2)).Pairwise fun a b=>a.2.1≠b.2.1
 up:∀ c∈V,c≠2->∃ d∈V,(∃ e∈rest d,e.2.1=c)/\(kindL (io c).X.en=2->d<c)
 ek:∀ c∈V,(io c).X.ek=if kindL (io c).X.en=2 then ((rest c).filter fun e=>decide (e.2.2=2)).length+2 else ((V.flatMap rest).map (·.2.1)).count c
 blk:(grpL I eh++V.flatMap cl).Nodup
 blt:∀ n∈grpL I eh++V.flatMap cl,n<nb
 few:V.length<100000
 few2:(V.map fun c=>(rest c).length).sum<100000
structure WI (V:List Nat) (io:Nat->AA) (par:Nat->Nat) (N:Nat) (D:List Nat) (A:List (Nat×EN)) (S:TS):Prop where
 l1:S.seen.length=N
 l2:S.par.length=N
 l3:S.nam.length=N
 l4:S.sub.length=N
 nd:(D++S.q).Nodup
 sub:∀ c∈D++S.q,c∈V
 two:2∈D++S.q
 seen:∀ c,c<N->(S.seen.getD c false=true↔c∈D++S.q)
 nam:∀ c,c<N->S.nam.getD c 0=(A.map (·.2.2.1)).count c
 subs:∀ c,c<N->S.sub.getD c 0=(A.filter fun a=>decide (a.1=c)&&decide (a.2.2.2=2)).length
 par:∀ c∈D++S.q,kindL (io c).X.en=2->S.par.getD c 0=par c
 cov:∀ a∈A,a.2.2.1∈D++S.q
 why:∀ c∈D++S.q,c=2\/∃ a∈A,a.2.2.1=c
def Ee {α:Type}{l:List α}{i c:Nat}{v d:α}(h:i<l.length):(l.set i v).getD c d=if i=c then v else l.getD c d:=by
 rw[W0,G4,W0];by_cases a:i=c
 ·subst a;rw[D0 rfl,D0 rfl,D0 h];rfl
 ·rw[F0 a,F0 a]
section
variable {I:Bs} {nb eh N n:Nat} {V:List Nat} {io:Nat->AA} {la:Nat->List (Bs×Bs)} {cl:Nat->List Nat} {par:Nat->Nat} {rest:Nat->List EN} {D:List Nat} {A:List (Nat×EN)} {S:TS} {e:EN}
def AOX (t:Ix I nb eh V io la cl par rest)(hN:N=eh+1)(f:WI V io par N D A S)(hn:n∈D)(he:e∈rest n)(hf:e.2.2=2->∀ a∈A,a.2.2.1≠e.2.1) :
  EntOK I eh S e/\WI V io par N D (A++[(n,e)]) (S.ent n e)/\∃ q,(S.ent n e).q=S.q++q:=by
 have v:n∈V:=f.sub n (X5 _ hn);obtain⟨k1,k2,k3⟩:=t.kid n v e he;obtain⟨r1,r2⟩:=t.rng _ k1;obtain⟨s1,s2⟩:=t.rng n v;have j:e.2.1<N:=by omega
 have ai:n<N:=by omega
 have u:(io e.2.1).X.en=leL (rawL I e.2.1) 0 2:=by
  have cf:=IQ (t.ino _ k1).con;exact cf.2.2.1
 have ae:e.2.2=2->e.2.1∉D++S.q:=fun g l=>by
  rcases f.why _ l with h3|⟨a,m,h3⟩
  ·omega
  ·exact hf g a m h3
 have p:∀ c,c<N->(S.nam.set e.2.1 (S.nam.getD e.2.1 0+1)).getD c 0=((A++[(n,e)]).map (·.2.2.1)).count c:=fun c i=>by
  rw[Ee (by rw[f.l3];exact j),H2,List.count_append,<-f.nam c i];show _=_+List.count c [e.2.1];by_cases d:e.2.1=c
  ·subst d;rw[D0 rfl,List.count_singleton_self]
  ·rw[F0 d,List.count_singleton,F0 (by simpa using d)];rfl
 have s:∀ c,c<N->(if e.2.2=2 then S.sub.set n (S.sub.getD n 0+1) else S.sub).getD c 0=((A++[(n,e)]).filter fun a=>decide (a.1=c)&&decide (a.2.2.2=2)).length:=fun c i=>by
  rw[L5,C0,<-f.subs c i];by_cases g:e.2.2=2
  ·rw[D0 g,Ee (by rw[f.l4];exact ai)];by_cases d:n=c
   ·subst d;rw[D0 rfl];simp[g]
   ·rw[F0 d];simp[d]
  ·rw[F0 g];simp[g]
 have ah:(if e.2.2=2 then S.sub.set n (S.sub.getD n 0+1) else S.sub).length=N:=by
  split
  ·rw[O5];exact f.l4
  ·exact f.l4
 refine⟨⟨k2,r2,by rw[<-u];exact k3.symm,fun g=>?_⟩,?_,?_⟩
 ·cases o:S.seen.getD e.2.1 false with
  | false=>rfl
  | true=>exact absurd ((f.seen _ j).1 o) (ae g)
 ·unfold TS.ent TS.see;by_cases o:S.seen.getD e.2.1 false=true
  ·rw[D0 o];have l:=(f.seen _ j).1 o;refine⟨f.l1,f.l2,by show (S.nam.set _ _).length=N;rw[O5];exact f.l3,ah,f.nd,f.sub,f.two,f.seen,p,s,f.par,fun a m=>?_,fun c i=>?_⟩
   ·rcases N4.1 m with d|d
    ·exact f.cov a d
    ·rw[H4] at d;subst d;exact l
   ·rcases f.why c i with d|⟨a,m,d⟩
    ·exact .inl d
    ·exact .inr ⟨a,X5 _ m,d⟩
  ·rw[F0 o];have l:e.2.1∉D++S.q:=fun d=>o ((f.seen _ j).2 d);have w:∀ c,c∈D++(S.q++[e.2.1])↔c∈D++S.q\/c=e.2.1:=fun c=>by simp[or_assoc]
   refine⟨by show (S.seen.set _ _).length=N;rw[O5];exact f.l1,by show (S.par.set _ _).length=N;rw[O5];exact f.l2,by show (S.nam.set _ _).length=N;rw[O5];exact f.l3,ah,?_,?_,?_,?_,p,s,?_,?_,?_⟩
   ·show (D++(S.q++[e.2.1])).Nodup;rw[<-P0,S4];refine⟨f.nd,by simp,fun a m b hb=>?_⟩;rw[H4] at hb;subst hb;exact fun e1=>l (e1▸m)
   ·intro c i;rcases (w c).1 i with d|d
    ·exact f.sub c d
    ·rw[d];exact k1
   ·exact (w 2).2 (.inl f.two)
   ·intro c i;show (S.seen.set e.2.1 true).getD c false=true↔c∈D++(S.q++[e.2.1]);rw[Ee (by rw[f.l1];exact j),w];by_cases d:e.2.1=c
    ·rw[D0 d];simp[d]
    ·rw[F0 d,f.seen c i];exact⟨.inl,fun g=>g.resolve_right fun h3=>d h3.symm⟩
   ·intro c i hk;show (S.par.set e.2.1 n).getD c 0=par c;rw[Ee (by rw[f.l2];exact j)];rcases (w c).1 i with d|d
    ·rw[F0 (fun (g:e.2.1=c)=>l (g▸d))];exact f.par c d hk
    ·rw[D0 d.symm,d];exact (t.par n v e he (by rw[k3,<-d];exact hk)).symm
   ·intro a m;rcases N4.1 m with d|d
    ·exact (w _).2 (.inl (f.cov a d))
    ·rw[H4] at d;subst d;exact (w _).2 (.inr rfl)
   ·intro c i;rcases (w c).1 i with d|d
    ·rcases f.why c d with g|⟨a,m,g⟩
     ·exact .inl g
     ·exact .inr ⟨a,X5 _ m,g⟩
    ·exact .inr ⟨(n,e),V8 _ (H4.2 rfl),d.symm⟩
 ·unfold TS.ent TS.see;by_cases o:S.seen.getD e.2.1 false=true
  ·rw[D0 o];exact⟨[],(X0 _).symm⟩
  ·rw[F0 o];exact⟨[e.2.1],rfl⟩
def AP (rest:Nat->List EN)(P:List Nat):List (Nat×EN):=P.flatMap fun d=>(rest d).map fun e=>(d,e)
def AE4 {P:List Nat}:AP rest (P++[n])=AP rest P++(rest n).map fun e=>(n,e):=by
 unfold AP;rw[W5,Y6]
theorem RU:∀ (P:List Nat),(AP rest P).length=(P.map fun c=>(rest c).length).sum
 | []=>rfl
 | a::P=>by
  have:=RU P;unfold AP at this ⊢;rw[M3,C0,Z0,this,Q1,F6]
def AK7 (P:List Nat):(AP rest P).map (·.2.2.1)=(P.flatMap rest).map (·.2.1):=by
 unfold AP;rw[List.map_flatMap,List.map_flatMap];congr 1;funext d;rw[D5];rfl
def WI.nam_le (a:WI V io par N D A S)(c:Nat):S.nam.getD c 0<=A.length:=by
 by_cases b:c<N
 ·rw[a.nam c b];exact C6 List.count_le_length (by rw[Z0];exact I0 _)
 ·rw[W0,D3 (by rw[a.l3];omega)];exact Q2 _
def WI.sub_le (a:WI V io par N D A S)(c:Nat):S.sub.getD c 0<=A.length:=by
 by_cases b:c<N
 ·rw[a.subs c b];exact G7 ..
 ·rw[W0,D3 (by rw[a.l4];omega)];exact Q2 _
def WI.q_le (a:WI V io par N D A S):(D++S.q).length<=V.length:=jm a.nd a.sub
def Ix.dots (t:Ix I nb eh V io la cl par rest)(i:n∈V)(c:e∈rest n):¬(e.1=[46]\/e.1=[46,46]):=by
 have m:kindL (io n).X.en=2:=by
  rcases Decidable.em (kindL (io n).X.en=2) with a|a
  ·exact a
  ·rw[(t.file n i a).2] at c;cases c
 obtain⟨_,_,_,f,b⟩:=t.dir n i m;obtain⟨j,l,d⟩:=L6 c;have g:(io n).E[j+2]? = some e:=by
  rw[b,Y4,Y4,B0 l,d]
 rintro (a|a)
 ·exact f.nd (j+2) 0 e ([46],n,2) g (by rw[b];rfl) (by omega) a
 ·exact f.nd (j+2) 1 e ([46,46],par n,2) g (by rw[b];rfl) (by omega) a
theorem lj {P:List Nat}(t:Ix I nb eh V io la cl par rest)(hN:N=eh+1)(p:n∉P) :
  ∀ (post pre:List EN) (S:TS),pre++post=rest n->WI V io par N (P++[n]) (AP rest P++pre.map fun e=>(n,e)) S ->
   EntsR I eh n S post/\WI V io par N (P++[n]) (AP rest P++(rest n).map fun e=>(n,e)) (post.foldl (TS.stp n) S)/\∃ q,(post.foldl (TS.stp n) S).q=S.q++q
 | [],pre,S,hp,wi=>by
  rw[X0] at hp;rw[hp] at wi;exact⟨.nil,wi,[],(X0 _).symm⟩
 | e::post,pre,S,hp,wi=>by
  have f:n∈V:=wi.sub n (by simp);have m:e∈rest n:=by rw[<-hp];simp
  have w:e.2.2=2->∀ a∈AP rest P++pre.map fun e=>(n,e),a.2.2.1≠e.2.1:=fun j a ha b=>by
   rcases N4.1 ha with g|g
   ·unfold AP at g;rw[Z6] at g;obtain⟨d,hd,g⟩:=g;rw[V1] at g;obtain⟨e',i,rfl⟩:=g;have l:d∈V:=wi.sub d (by simp[hd]);have k1:=(t.kid d l e' i).2.2;have k2:=(t.kid n f e m).2.2;have b:e'.2.1=e.2.1:=b;rw[b,<-k2] at k1;have p1:=t.par d l e' i (k1.trans j);have p2:=t.par n f e m j;rw[b] at p1;rw[p1] at p2;exact p (p2▸hd)
   ·rw[V1] at g;obtain⟨e',i,rfl⟩:=g;have b:e'.2.1=e.2.1:=b;have o:e'∈rest n:=by rw[<-hp];simp[i]
    have k1:=(t.kid n f e' o).2.2;have k2:=(t.kid n f e m).2.2;rw[b,<-k2] at k1;have:=t.one n f;rw[<-hp,L5,M8] at this;exact this.2.2 e' (G5.2 ⟨i,by simp[k1,j]⟩) e (G5.2 ⟨T0 ..,by simp[j]⟩) b
  obtain⟨eo,ah,q,hq⟩:=AOX t hN wi (n:=n) (by simp) m w;have u:S.stp n e=S.ent n e:=F0 (t.dots f m);have ai:(AP rest P++pre.map fun e=>(n,e)).length<100000:=by
   have g:((P++[n]).map fun c=>(rest c).length).sum<=(V.map fun c=>(rest c).length).sum:=by
    refine Ns _ ?_ fun c hc=>wi.sub c (X5 _ hc);exact (S4.1 wi.nd).1
   rw[H2,G8] at g;have j:(rest n).length=pre.length+(post.length+1):=by rw[<-hp];simp
   have h3:=t.few2;rw[C0,RU,Z0];simp only[Q1,P8,F6,List.sum_nil] at g;omega
  have ae:=wi.q_le;rw[C0] at ae;have hb:=t.few;obtain⟨er,v,q2,s⟩:=lj t hN p post (pre++[e]) (S.ent n e) (by rw[<-hp];simp) (by rw[H2,<-P0];exact ah);rw[<-u] at er v s;refine⟨.cons (.inr eo) ⟨by omega,?_,?_⟩ er,v,q++q2,?_⟩
  ·have:=wi.nam_le e.2.1;omega
  ·have:=wi.sub_le n;omega
  ·rw[J4,s,u,hq,P0]
def AFN {P:List Nat}(t:Ix I nb eh V io la cl par rest)(j:(P++[n]).Nodup)(g:∀ c∈P++[n],c∈V) :
  Clm (cl n) (Vx (grpL I eh++P.flatMap cl) (List.replicate nb 0)) (Vx (grpL I eh++(P++[n]).flatMap cl) (List.replicate nb 0)):=by
 have b:=ADU (X:=grpL I eh) j g t.blk;have e:∀ k∈grpL I eh++(P++[n]).flatMap cl,k<nb:=fun k d=>by
  refine t.blt k ?_;rcases N4.1 d with h|h
  ·exact X5 _ h
  ·rw[Z6] at h;obtain⟨c,i,h⟩:=h;exact V8 _ (Z6.2 ⟨c,g c i,h⟩)
 rw[W5,Y6,<-P0] at b e ⊢;rw[S4] at b;rw[AGz (grpL I eh++P.flatMap cl) (cl n)];refine Rb _ _ b.2.1 fun k d=>?_;have a:=e k (V8 _ d);rw[Sj _ _ _ (fun m f=>by rw[M0];exact e m (X5 _ f)) (by rw[M0];exact a),F0 fun f=>b.2.2 k f k d rfl];simp[a]
def WI.next {q:List Nat}{P:List Nat}(m:WI V io par N P A S)(l:S.q=n::q):WI V io par N (P++[n]) A {S with q:=q}:=by
 have e:(P++[n])++q=P++S.q:=by rw[l];simp
 obtain⟨a1,a2,a3,a4,a5,a6,a7,g,i,f,a,b,d⟩:=m;rw[<-e] at a5 a6 a7 a b d;exact⟨a1,a2,a3,a4,a5,a6,a7,fun c j=>by rw[show (P++[n])++q=P++S.q from e];exact g c j,i,f,a,b,d⟩
theorem AEl (t:Ix I nb eh V io la cl par rest)(hN:N=eh+1):∀ (m:Nat) (P:List Nat) (S:TS),WI V io par N P (AP rest P) S->V.length<=P.length+m ->
  ∃ k R S',WalkR I nb eh k (Vx (grpL I eh++P.flatMap cl) (List.replicate nb 0)) S (P.map io) (Vx (grpL I eh++(P++S.q++R).flatMap cl) (List.replicate nb 0)) S' ((P++S.q++R).map io)/\
   WI V io par N (P++S.q++R) (AP rest (P++S.q++R)) S'/\S'.q=[]/\P.length+k=(P++S.q++R).length:=by
 intro m
 induction m with
 | zero=>
  intro P S o hm;have h1:=o.q_le;rw[C0] at h1;have j:S.q=[]:=X4.1 (by omega);refine⟨0,[],S,?_⟩;rw[j,X0,X0];exact⟨.done j,o,rfl,rfl⟩
 | succ m ih=>
  intro P S o hm;cases j:S.q with
  | nil=>
   refine⟨0,[],S,?_⟩;rw[X0,X0];exact⟨.done j,o,j,rfl⟩
  | cons n q=>
   have f:=o.next j;have ah:(P++[n]).Nodup:=(S4.1 f.nd).1;have l:∀ c∈P++[n],c∈V:=fun c hc=>f.sub c (X5 _ hc);have d:=l n (by simp);have ay:n∉P:=fun h=>(S4.1 ah).2.2 n h n (by simp) rfl;obtain⟨er,ao,q2,bg⟩:=lj t hN ay (rest n) [] {S with q:=q} rfl (by simpa using f);rw[<-AE4] at ao;have w:=AFN t ah l;have ae:V.length<=(P++[n]).length+m:=by simp;omega
   obtain⟨k,R,S',wr,ar,bh,hk⟩:=ih (P++[n]) _ ao ae;have e:P++[n]++((rest n).foldl (TS.stp n) {S with q:=q}).q++R=P++n::q++(q2++R):=by rw[bg];simp
   rw[e] at wr ar hk;have hP:(P++n::q++(q2++R))=(P++n::q++(q2++R)):=rfl;refine⟨k+1,q2++R,S',?_,ar,bh,by rw[<-hk];simp;omega⟩;obtain⟨r1,r2⟩:=t.rng n d;have s:=t.ino n d;by_cases i:kindL (io n).X.en=2
   ·obtain⟨d1,d2,d3,d4,u⟩:=t.dir n d i;have ai:(io n).X.num=n:=(Eg s).2;have aj:=o.par n (by rw[j];simp) i;have au:(io n).E.length<10000000:=by
     rw[u];have h1:(([n]:List Nat).map fun c=>(rest c).length).sum<=(V.map fun c=>(rest c).length).sum:=Ns _ (by simp) (by simpa using d);have h2:=t.few2;simp at h1 ⊢;omega
    have hA:(AP rest P).length<100000:=by
     rw[RU];have:=Ns (fun c=>(rest c).length) (S4.1 o.nd).1 fun c hc=>o.sub c (X5 _ hc);have:=t.few2;omega
    have az:=f.q_le;rw[C0] at az;have hb:=t.few;have b:∀ (S1:TS) (c:Nat) (a:Bs),(a=[46]\/a=[46,46])->S1.stp n (a,c,2)=S1:=fun S1 c a h=>D0 h;have v:∀ c:Nat,({S with q:=q}:TS).q.length<1000000/\({S with q:=q}:TS).nam.getD c 0<1000000/\({S with q:=q}:TS).sub.getD n 0<1000000:=fun c=>by
     have h1:=f.nam_le c;have h2:=f.sub_le n;exact⟨by omega,by omega,by omega⟩
    have aw:EntsR I eh n {S with q:=q} (io n).E:=by
     rw[u];refine .cons (.inl (.inl rfl)) (v _) ?_;rw[b _ _ _ (.inl rfl)];refine .cons (.inl (.inr rfl)) (v _) ?_;rw[b _ _ _ (.inr rfl)];exact er
    have p:(io n).E.foldl (TS.stp n) {S with q:=q}=(rest n).foldl (TS.stp n) {S with q:=q}:=by
     rw[u,J4,b _ _ _ (.inl rfl),J4,b _ _ _ (.inr rfl)]
    have g:io n=⟨(io n).X,(io n).C,xaOf (la n),(io n).E⟩:=by rw[<-t.la n d]
    rw[H2] at wr;simp only[Q1,P8] at wr;rw[g] at wr;refine .dir j r1 r2 s w i d1 d2 d3 d4 (by rw[u,ai];rfl) (by rw[u,aj];rfl) au aw ?_;rw[p];exact wr
   ·obtain⟨f1,f2⟩:=t.file n d i;have g:io n=⟨(io n).X,(io n).C,xaOf (la n),[]⟩:=by rw[<-t.la n d,<-f1]
    rw[f2] at wr;rw[H2] at wr;simp only[Q1,P8] at wr;rw[g] at wr;exact .file j r1 r2 s w i wr
theorem qf (t:Ix I nb eh V io la cl par rest)(hit:itL I*4096+eh*256<=I.length) :
  ∃ R S' k,(2::R).Perm V/\WalkOK I nb eh (Vx (grpL I eh) (List.replicate nb 0)) (Vx (grpL I eh++(2::R).flatMap cl) (List.replicate nb 0)) S' ((2::R).map io) k:=by
 obtain⟨r1,r2⟩:=t.rng 2 t.two;have au:WI V io par (eh+1) [] (AP rest []) (TS0 (eh+1)):=by
  refine⟨by simp[TS0],by simp[TS0],by simp[TS0],by simp[TS0],by simp[TS0],?_,by simp[TS0],?_,?_,?_,?_,?_,?_⟩
  ·intro c b;have:c=2:=by simpa[TS0] using b
   rw[this];exact t.two
  ·intro c b;show ((List.replicate (eh+1) false).set 2 true).getD c false=true↔c∈[]++[2];rw[Ee (by simp;omega)];by_cases h:2=c
   ·subst h;simp
   ·rw[F0 h];have:¬c=2:=fun e=>h e.symm;simp[this,W0,S6,b]
  ·intro c b;simp[TS0,AP,W0,S6,b]
  ·intro c b;simp[TS0,AP,W0,S6,b]
  ·intro c b _;have aj:c=2:=by simpa[TS0] using b
   subst aj;show ((List.replicate (eh+1) 0).set 2 2).getD 2 0=par 2;rw[Ee (by simp;omega),D0 rfl,t.root.2]
  ·intro a ha;simp[AP] at ha
  ·intro c b;exact .inl (by simpa[TS0] using b)
 obtain⟨k,R,S',wr,u,hq,hk⟩:=AEl t rfl V.length [] _ au (by simp);have e:[]++(TS0 (eh+1)).q++R=2::R:=rfl;rw[e] at wr u hk;have f:(2::R).Nodup:=(S4.1 u.nd).1;have i:∀ c∈2::R,c∈V:=fun c b=>u.sub c (X5 _ b);have n:∀ d∈2::R,∀ e∈rest d,e.2.1∈2::R:=fun d g e l=>by
  have:=u.cov (d,e) (by unfold AP;exact Z6.2 ⟨d,g,V1.2 ⟨e,l,rfl⟩⟩);rw[hq,X0] at this;exact this
 have j:∀ d∈V,∀ e∈rest d,kindL (io d).X.en=2:=fun d g e l=>by
  rcases Decidable.em (kindL (io d).X.en=2) with v|v
  ·exact v
  ·rw[(t.file d g v).2] at l;cases l
 have q:∀ c,c∈V->kindL (io c).X.en=2->c∈2::R:=by
  intro c
  induction c using Nat.strongRecOn with
  | ind c ih=>
   intro b hk;by_cases w:c=2
   ·rw[w];exact T0 ..
   ·obtain⟨d,g,⟨e,l,s⟩,ar⟩:=t.up c b w;have:=n d (ih d (ar hk) g (j d g e l)) e l;rw[s] at this;exact this
 have ae:∀ c∈V,c∈2::R:=fun c b=>by
  by_cases w:c=2
  ·rw[w];exact T0 ..
  ·obtain⟨d,g,⟨e,l,s⟩,_⟩:=t.up c b w;have:=n d (q d g (j d g e l)) e l;rw[s] at this;exact this
 have hp:(2::R).Perm V:=Hu _ _ f t.nd fun a=>⟨i a,ae a⟩;refine⟨R,S',k,hp,?_,?_,?_,?_,?_,hit⟩
 ·have:[].flatMap cl=[]:=rfl;rw[this,X0] at wr;exact wr
 ·have v:=hp.length_eq;have w:=t.few;rw[<-hk] at v;simp at v;omega
 ·rw[Z0,<-hk];simp
 ·intro o ho;rw[V1] at ho;obtain⟨c,b,rfl⟩:=ho;have p:=i c b;obtain⟨q1,q2⟩:=t.rng c p;obtain⟨m1,m2⟩:=Eg (t.ino c p);have hA:(AP rest (2::R)).length<100000:=by
   rw[RU];have:=Ns (fun c=>(rest c).length) f i;have:=t.few2;omega
  rw[m2];refine⟨by omega,m1,?_,?_⟩
  ·have:=u.sub_le c;omega
  ·rw[t.ek c p,u.nam c (by omega),u.subs c (by omega),AK7];by_cases m:kindL (io c).X.en=2
   ·rw[D0 m,D0 m];congr 1;obtain⟨P1,P2,ai⟩:=List.append_of_mem b;rw[ai] at f ⊢;have ah:∀ P:List Nat,c∉P->((AP rest P).filter fun a=>decide (a.1=c)&&decide (a.2.2.2=2))=[]:=fun P ao=>by
     rw[List.filter_eq_nil_iff];intro a ha;unfold AP at ha;obtain⟨d,g,ha⟩:=Z6.1 ha;obtain⟨e,_,rfl⟩:=V1.1 ha;have:d≠c:=fun e=>ao (e▸g);simp[this]
    rw[S4,U4] at f;have c1:c∉P1:=fun h=>f.2.2 c h c (T0 ..) rfl;have eA:AP rest (P1++c::P2)=AP rest P1++(((rest c).map fun e=>(c,e))++AP rest P2):=by
     unfold AP;rw[W5,M3]
    rw[eA,L5,L5,ah P1 c1,ah P2 f.2.1.1,U2,X0,List.filter_map,Z0];congr 1;apply J8;intro e _;simp
   ·rw[F0 m,F0 m];exact (((hp.flatMap_right rest).map (·.2.1)).count_eq c).symm
 ·exact⟨io 2,rfl,t.root.1⟩
end
def rdE (e:Nat×Nat×Bs):EN:=(e.2.2,e.1,e.2.1)
def AFS (e:Nat×Nat×Bs):Prop:=0<e.1/\e.1<4294967296/\e.2.1<256/\0<e.2.2.length/\e.2.2.length<256
def AKu (nm:Bs):FU nm%4=0/\8+nm.length<=FU nm/\FU nm<=nm.length+11:=by unfold FU;omega
def UG {c rl nl ft:Nat}{r:Bs}(a:nl<256)(b:ft<256):leL (Ip c rl nl ft++r) 0 4=c%4294967296/\leL (Ip c rl nl ft++r) 4 2=rl%65536/\leL (Ip c rl nl ft++r) 6 1=nl/\leL (Ip c rl nl ft++r) 7 1=ft:=by
 have e:Ip c rl nl ft++r=Ag c++(BR rl++([UInt8.ofNat nl]++([UInt8.ofNat ft]++r))):=by unfold Ip;simp
 rw[e];refine⟨Eh,?_,?_,?_⟩
 ·rw[DG (p:=0),Fx]
 ·rw[DG (p:=2),Gv (p:=0),Se a]
 ·rw[DG (p:=3),Gv (p:=1),HK (p:=0),Se b]
theorem Ze {left:Nat}(b:8<=left)(f:left<=4096)(d:left%4=0):EntR (KN left) []:=by
 have g:=JG b;obtain⟨a1,a2,a3,_⟩:=UG (c:=0) (rl:=left) (nl:=0) (ft:=0) (r:=List.replicate (left-8) 0) (by omega) (by omega);have e:KN left=Ip 0 left 0 0++List.replicate (left-8) 0:=rfl;rw[<-e] at a1 a2 a3;have a:left%65536=left:=C2 (by omega);refine .skip (by omega) (by omega) (by rw[a2,a];exact d) (by omega) (by omega) (by omega) ?_;rw[a2,a,C5 (by omega)];exact .nil
def Zf {e:Nat×Nat×Bs}{a:Bs}{E:List EN}(ok:AFS e)(h:EntR a E):EntR (Gg e.1 e.2.1 e.2.2++a) (rdE e::E):=by
 obtain⟨c,ft,nm⟩:=e;obtain⟨o,g,i,p,j⟩:=ok;simp only at o g i p j;obtain⟨b1,b2,b3⟩:=AKu nm;have el:=LL c ft nm;obtain⟨a1,a2,a3,a4⟩:=UG (c:=c) (rl:=FU nm) (nl:=nm.length) (ft:=ft) (r:=nm++(List.replicate (FU nm-(8+nm.length)) 0++a)) j i;have e:Gg c ft nm++a=Ip c (FU nm) nm.length ft++(nm++(List.replicate (FU nm-(8+nm.length)) 0++a)):=by unfold Gg;simp
 have n:FU nm%65536=FU nm:=C2 (by omega);have m:c%4294967296=c:=C2 g;have d:(Gg c ft nm++a).drop (FU nm)=a:=by rw[<-el,U5]
 have f:((Gg c ft nm++a).drop 8).take nm.length=nm:=by
  rw[e,show (8:Nat)=(Ip c (FU nm) nm.length ft).length from rfl,U5,L7]
 rw[<-e] at a1 a2 a3 a4;rw[n] at a2;rw[m] at a1;have q:(Gg c ft nm++a).length=FU nm+a.length:=by rw[C0,el]
 have:=EntR.step (b:=Gg c ft nm++a) (l:=E) (by omega) (by omega) (by rw[a2];exact b1) (by omega) (by omega) (by omega) (by omega) (by rw[a2,d];exact h);rw[a1,a3,a4,f] at this;exact this
theorem PR:∀ (l:List (Nat×Nat×Bs)) (left:Nat),12<=left->left<=4096->left%4=0->(∀ e∈l,AFS e)->
  ∃ a r b d,(CX left l).2++KN (CX left l).1=a++r/\a.length=left/\EntR a b/\BlkR r d/\b++d=l.map rdE/\r.length%4096=0/\r.length<=4096*l.length
 | [],left,h1,h2,h3,_=>⟨KN left,[],[],[],by simp[CX],JG (by omega),Ze (by omega) h2 h3,.nil,rfl,rfl,Q2 _⟩
 | e::l,left,h1,h2,h3,hok=>by
  have ok:=hok e (T0 ..);obtain⟨c,ft,nm⟩:=e;have q:nm.length<256:=ok.2.2.2.2;obtain⟨b1,b2,b3⟩:=AKu nm;have el:=LL c ft nm;by_cases m:left<FU nm+12
  ·obtain⟨a,r,b,d,k1,k2,g,i,j,o,p⟩:=PR l (4096-FU nm) (by omega) (by omega) (by omega) fun e f=>hok e (U0 _ f);have e1:(CX left ((c,ft,nm)::l))=((CX (4096-FU nm) l).1,(KN left++Gg c ft nm)++(CX (4096-FU nm) l).2):=by
    rw[CX];unfold FK;rw[D0 m]
   refine⟨KN left,Gg c ft nm++(a++r),[],rdE (c,ft,nm)::(b++d),?_,JG (by omega),Ze (by omega) h2 h3,?_,by rw[j];rfl,?_,?_⟩
   ·rw[e1,<-k1];simp
   ·have n:(Gg c ft nm++a).length=4096:=by rw[C0,el,k2];omega
    have e2:Gg c ft nm++(a++r)=(Gg c ft nm++a)++r:=by simp
    rw[e2,<-Y5];refine .cons (by rw[C0];omega) ?_ ?_
    ·rw[<-n,L7];exact Zf ok g
    ·rw[<-n,U5];exact i
   ·rw[C0,C0,el,k2];omega
   ·rw[C0,C0,el,k2,J1];omega
  ·obtain⟨a,r,b,d,k1,k2,g,i,j,o,p⟩:=PR l (left-FU nm) (by omega) (by omega) (by omega) fun e f=>hok e (U0 _ f);have e1:(CX left ((c,ft,nm)::l))=((CX (left-FU nm) l).1,Gg c ft nm++(CX (left-FU nm) l).2):=by
    rw[CX];unfold FK;rw[F0 m]
   refine⟨Gg c ft nm++a,r,rdE (c,ft,nm)::b,d,?_,by rw[C0,el,k2];omega,Zf ok g,i,by rw[Y5,j];rfl,o,by rw[J1];omega⟩;rw[e1,P0,k1];simp
def UH {l:List (Nat×Nat×Bs)}(b:∀ e∈l,AFS e):BlkR (Cc l) (l.map rdE)/\(Cc l).length%4096=0/\4096<=(Cc l).length/\(Cc l).length<=4096*(l.length+1):=by
 obtain⟨a,r,g,i,k1,k2,c,d,f,j,m⟩:=PR l 4096 (by omega) (by omega) rfl b;have e:Cc l=a++r:=k1;rw[e,<-f,C0,k2];refine⟨.cons (by rw[C0];omega) ?_ ?_,by omega,by omega,by omega⟩
 ·rw[<-k2,L7];exact c
 ·rw[<-k2,U5];exact d
def AHa {es:List (Bs×Nat)}(w:(es.map (·.1)).Nodup)(v:es.Pairwise fun a b=>a.2<b.2):∀ l:List Bs,l.Perm (es.map (·.1))->sortL (lessE es) (l.length-1) 1 l=es.map (·.1):=by
 intro l t;have look:∀ e∈es,lookE es e.1=some e.2:=by
  intro e f;clear v t
  induction es with
  | nil=>cases f
  | cons x es ih=>
   rw[Q1,U4] at w;unfold lookE;rw[List.find?_cons];rcases I1.1 f with h|h
   ·subst h;simp
   ·have n:(x.1 == e.1)=false:=by
     apply beq_eq_false_iff_ne.2;intro e1;exact w.1 (e1▸V1.2 ⟨e,h,rfl⟩)
    rw[n];exact ih w.2 h
 have known:∀ a∈es.map (·.1),∃ e∈es,a=e.1/\lookE es a=some e.2:=fun a q=>by
  obtain⟨e,f,rfl⟩:=V1.1 q;exact⟨e,f,rfl,look e f⟩
 have inj:∀ e∈es,∀ e'∈es,e.2=e'.2->e=e':=by
  intro e f e' d h;obtain⟨i,hi,rfl⟩:=L6 f;obtain⟨j,hj,rfl⟩:=L6 d;rw[Z7] at v;rcases Nat.lt_trichotomy i j with p|p|p
  ·have:=v i j hi hj p;omega
  ·subst p;rfl
  ·have:=v j i hj hi p;omega
 have o:∀ e∈es,∀ e'∈es,e≠e'->lessE es e.1 e'.1=decide (e.2<e'.2):=by
  intro e f e' d n;unfold lessE;rw[look e f,look e' d];show (if e.2=e'.2 then _ else _)=_;rw[F0 fun h=>n (inj e f e' d h)]
 have ae:∀ e∈es,lessE es e.1 e.1=true->False:=fun e f h=>by
  unfold lessE at h;rw[look e f] at h;simp only[if_true] at h;revert h;generalize e.1=a
  induction a with
  | nil=>intro h;cases h
  | cons c a ih=>intro h;simp[Op.bytesLess] at h;exact ih h
 let P:Bs->Prop:=fun a=>a∈es.map (·.1)
 have g:∀ e∈es,∀ e'∈es,lessE es e.1 e'.1=true->e.2<e'.2:=by
  intro e f e' d h;by_cases n:e=e'
  ·subst n;exact (ae e f h).elim
  ·rw[o e f e' d n] at h;exact of_decide_eq_true h
 have m:∀ e∈es,∀ e'∈es,e.2<e'.2->lessE es e.1 e'.1=true:=by
  intro e f e' d h;rw[o e f e' d (fun e1=>by subst e1;omega)];exact H0 h
 have ah:∀ a b,P a->P b->a≠b->lessE es a b=false->lessE es b a=true:=by
  intro a b q s n h;obtain⟨e,f,rfl,_⟩:=known a q;obtain⟨e',d,rfl,_⟩:=known b s;rcases Nat.lt_trichotomy e.2 e'.2 with p|p|p
  ·rw[m e f e' d p] at h;cases h
  ·exact absurd (J3 Prod.fst (inj e f e' d p)) n
  ·exact m e' d e f p
 have tr:∀ a b c,P a->P b->P c->lessE es a b=true->lessE es b c=true->lessE es a c=true:=by
  intro a b c q s hc p h2;obtain⟨e,f,rfl,_⟩:=known a q;obtain⟨e',d,rfl,_⟩:=known b s;obtain⟨e2,u,rfl,_⟩:=known c hc;have:=g e f e' d p;have:=g e' d e2 u h2;exact m e f e2 u (by omega)
 rw[Vg];obtain⟨q1,q2⟩:=Oh P ah tr l [] (fun a q=>t.mem_iff.1 q) (by simp) (by rw[X0];exact t.nodup_iff.2 w) .nil;rw[X0] at q2;refine JZ (r:=fun a b=>lessE es a b=true) _ _ ?_ ((List.reverse_perm _).trans (q2.trans t)) (List.pairwise_reverse.2 q1) ?_
 ·intro a q b s p h2;have pa:P a:=t.mem_iff.1 (q2.mem_iff.1 (List.mem_reverse.1 q));have pb:P b:=t.mem_iff.1 (q2.mem_iff.1 (List.mem_reverse.1 s));obtain⟨e,f,rfl,_⟩:=known a pa;obtain⟨e',d,rfl,_⟩:=known b pb;have:=g e f e' d p;have:=g e' d e f h2;omega
 ·rw[E6];refine List.Pairwise.imp_of_mem ?_ v;intro a b q s h;exact m a q b s h
section
attribute [local irreducible] Ew
section
variable {S:PS}
abbrev Bx (S:PS):Nat:=ipgOf S.M.length
abbrev HJ (S:PS):Nat:=S.pos/4096
abbrev In (S:PS):Nat:=S.pos/4096+ipgOf S.M.length/16+2
abbrev Vl (S:PS):List (Option PN):=S.M.map (Option.map IB)
abbrev fiS (S:PS):Nat:=Bx S-Ez (Bl (Vl S)) (Bx S)
abbrev gfS (S:PS):Nat->Nat:=Vw (HJ S+Bx S/16) (HJ S) (fiS S) (Ez (Dg (Vl S)) (Bx S))
abbrev bmS (S:PS):Bs:=Ew (HR (Vl S) (Bx S)) 8192
abbrev sfS (S:PS):Nat->Nat:=NS (Bx S) (In S) (fiS S) (MN S.inl)
def Ft (n:Nat):ipgOf n%16=0/\n<=ipgOf n/\ipgOf n<=n+15:=by unfold ipgOf;omega
def Hl (c:ClOK S):CG S=DP (sfS S)++(Cy (gfS S) 128++(S.B.drop 8192++(FN S.M++(List.replicate (Bx S*256-256*S.M.length) 0++bmS S)))):=by
 have i:=c.big;have j:=c.B;have e:(Cy (gfS S) 128).length=4096:=FF _ _ (I0 _);have a:(DP (sfS S)).length=4096:=HZ _;show setL (setL (S.B++(FN S.M++List.replicate (Bx S*256-256*S.M.length) 0)++bmS S) 4096 (Cy (gfS S) 128)) 0 (DP (sfS S))=_;generalize DP (sfS S)=b at a ⊢;generalize Cy (gfS S) 128=d at e ⊢;generalize bmS S=m;generalize List.replicate (Bx S*256-256*S.M.length) (0:UInt8)=z;generalize FN S.M=t;unfold setL;rw[K7,U2,a,e];have e1:(S.B++(t++z)++m).take 4096=S.B.take 4096:=by
  rw[P0,L2 (by omega)]
 have e2:(S.B++(t++z)++m).drop (4096+4096)=S.B.drop 8192++(t++(z++m)):=by
  rw[P0,I4 (by omega)];simp
 rw[e1,e2];have g:(S.B.take 4096++d++(S.B.drop 8192++(t++(z++m)))).drop (0+4096)=d++(S.B.drop 8192++(t++(z++m))):=by
  rw[P0,U1];have:(S.B.take 4096).length=4096:=by rw[W1];omega
  have f:∀ (A R:Bs),A.length=4096->(A++R).drop 4096=R:=fun A R h=>by rw[<-h,U5]
  exact f _ _ this
 rw[g]
theorem jf (c:ClOK S):(CG S).length=In S*4096:=by
 have e1:In S=S.pos/4096+ipgOf S.M.length/16+2:=rfl;have e2:Bx S=ipgOf S.M.length:=rfl;have a:=c.big;have b:=c.B;have d:=c.al;obtain⟨i1,i2,e⟩:=Ft S.M.length;rw[Hl c];simp only[C0,J2,M0];rw[HZ,FF _ _ (I0 _),IA c.tab,Gk];omega
def ANP (c:ClOK S):((CG S).drop 1024).take 1024=KR (sfS S):=by
 rw[Hl c];unfold DP setL;rw[Jz];have e:IE.take 1024++KR (sfS S)++IE.drop (1024+1024)=IE.take 1024++(KR (sfS S)++IE.drop (1024+1024)):=P0 ..;rw[e,P0,P0];exact FZ (by rw[W1,KH];rfl) (by rw[Jz])
def je (c:ClOK S):dscL (CG S)=Vv (gfS S):=by
 rw[Hl c];unfold dscL;have e:Cy (gfS S) 128=Vv (gfS S)++(List.replicate 127 fun _=>0).flatMap Vv:=by
  unfold Cy KO;rw[X2 (by simp),M3]
 rw[e,P0];exact FZ (by rw[HZ]) (by rw[IS])
def Ua (c:ClOK S){st n:Nat}(d:2<=st)(f:st*4096+n<=S.pos):((CG S).drop (st*4096)).take n=(S.B.drop (st*4096)).take n:=by
 have e:=c.B;rw[Hl c,<-P0];have b:(DP (sfS S)++Cy (gfS S) 128).length=8192:=by rw[C0,HZ,FF _ _ (I0 _)]
 obtain⟨k,a⟩:∃ k,st*4096=8192+k:=⟨st*4096-8192,by omega⟩;rw[a,<-H5,<-H5];have:∀ (A R:Bs),A.length=8192->(A++R).drop 8192=R:=fun A R h=>by rw[<-h,U5]
 rw[this _ _ b,I4 (by rw[J2];omega),L2 (by rw[J2,J2];omega)]
def ADS {M:List (Option PN)}(h:∀ o∈M,(Px o).length=256){i:Nat}(hi:i<M.length):((FN M).drop (i*256)).take 256=Px (M[i]'hi):=by
 unfold FN
 induction M generalizing i with
 | nil=>simp at hi
 | cons o M c=>
  have a:=h o (T0 ..);rw[M3];cases i with
  | zero=>
   rw[G6,I5,<-a,L7];rfl
  | succ i=>
   rw[show (i+1)*256=256+i*256 by omega,<-H5,<-a,U5,a];exact c (fun o b=>h o (U0 _ b)) (by simpa using hi)
def Qe (c:ClOK S):∃ A R,CG S=A++((FN S.M++List.replicate (Bx S*256-256*S.M.length) 0)++R)/\A.length=S.pos/\R=bmS S:=by
 refine⟨DP (sfS S)++(Cy (gfS S) 128++S.B.drop 8192),bmS S,?_,?_,rfl⟩
 ·rw[Hl c];simp only[P0]
 ·have:=c.big;have:=c.B;rw[C0,C0,HZ,FF _ _ (I0 _),J2];omega
def ADb {f:Nat->Nat}:leL (Vv f) 0 4=f 0%4294967296/\leL (Vv f) 4 4=f 1%4294967296/\leL (Vv f) 8 4=f 2%4294967296/\leL (Vv f) 12 2=f 3%65536/\leL (Vv f) 14 2=f 4%65536/\leL (Vv f) 16 2=f 5%65536:=by
 unfold Vv;simp only[U2,P0];refine⟨Eh,?_,?_,?_,?_,?_⟩
 ·rw[DG (p:=0),Eh]
 ·rw[DG (p:=4),DG (p:=0),Eh]
 ·rw[DG (p:=8),DG (p:=4),DG (p:=0),Fx]
 ·rw[DG (p:=10),DG (p:=6),DG (p:=2),Gv (p:=0),Fx]
 ·rw[DG (p:=12),DG (p:=8),DG (p:=4),Gv (p:=2),Gv (p:=0),Fx]
theorem Ye (c:ClOK S):itL (CG S)=HJ S/\leL (dscL (CG S)) 0 4=HJ S+Bx S/16/\leL (dscL (CG S)) 4 4=HJ S+Bx S/16+1:=by
 have a:=c.vd;obtain⟨g0,g1,g2,_⟩:=ADb (f:=gfS S);have e1:HJ S=S.pos/4096:=rfl;have e2:Bx S=ipgOf S.M.length:=rfl;unfold itL;rw[je c,g0,g1,g2];refine⟨C2 (show HJ S<_ by omega),C2 (show HJ S+Bx S/16<_ by omega),C2 (show HJ S+Bx S/16+1<_ by omega)⟩
def AGk (c:ClOK S):∀ o∈S.M,(Px o).length=256:=fun o d=>by
 cases o with
 | none=>exact M0 ..
 | some p=>
  obtain⟨a,b,_⟩:=c.tab p d;exact JK a.fe b
theorem jg (c:ClOK S){n:Nat}(g:1<=n)(i:n<=Bx S):rawL (CG S) n=Px (S.M[n-1]?).join:=by
 obtain⟨A,R,e,d,j⟩:=Qe c;obtain⟨i1,i2,m⟩:=Ft S.M.length;have e1:HJ S=S.pos/4096:=rfl;have e2:Bx S=ipgOf S.M.length:=rfl;have f:=c.al;have b:=IA c.tab;unfold rawL;rw[(Ye c).1,show HJ S*4096+(n-1)*256=A.length+(n-1)*256 by rw[d];omega,<-H5,e,U5];have l:(FN S.M++List.replicate (Bx S*256-256*S.M.length) 0).length=Bx S*256:=by
  rw[C0,b,M0];omega
 rw[I4 (by omega),L2 (by rw[J2];omega)];by_cases a:n-1<S.M.length
 ·rw[I4 (by omega),L2 (by rw[J2];omega),ADS (AGk c) a,B0 a];rfl
 ·rw[D3 (by omega)];have:(n-1)*256=(FN S.M).length+(n-1-S.M.length)*256:=by rw[b];omega
  rw[this,<-H5,U5,List.drop_replicate,S8];show _=List.replicate 256 0;congr 1;omega
theorem ANO (c:ClOK S):blkL (CG S) (HJ S+Bx S/16)=(bmS S).take 4096/\blkL (CG S) (HJ S+Bx S/16+1)=(bmS S).drop 4096:=by
 obtain⟨A,R,e,b,d⟩:=Qe c;obtain⟨i1,i2,j⟩:=Ft S.M.length;have e1:HJ S=S.pos/4096:=rfl;have e2:Bx S=ipgOf S.M.length:=rfl;have f:=c.al;have i:=IA c.tab;have a:(A++(FN S.M++List.replicate (Bx S*256-256*S.M.length) 0)).length=(HJ S+Bx S/16)*4096:=by
  rw[C0,b,C0,i,M0];omega
 have g:(bmS S).length=8192:=Gk _ _;subst d;unfold blkL;rw[e,<-P0];constructor
 ·rw[<-a,U5]
 ·rw[show (HJ S+Bx S/16+1)*4096=(A++(FN S.M++List.replicate (Bx S*256-256*S.M.length) 0)).length+4096 by rw[a];omega,<-H5,U5,X2 (by rw[J2];omega)]
def ny {f:Nat->Bool}{q k:Nat}(b:k<8):decide ((UInt8.ofNat (Dw f q)).toNat/2^k%2=1)=f (8*q+k):=by
 have a:Dw f q<256:=by
  unfold Dw b8;have:=V4 (f (8*q));have:=V4 (f (8*q+1));have:=V4 (f (8*q+2));have:=V4 (f (8*q+3));have:=V4 (f (8*q+4));have:=V4 (f (8*q+5));have:=V4 (f (8*q+6));have:=V4 (f (8*q+7));omega
 have e:(UInt8.ofNat (Dw f q)).toNat=Dw f q:=by rw[T7];omega
 rw[e];have key:Dw f q/2^k%2=(f (8*q+k)).toNat:=by
  unfold Dw b8;have:=V4 (f (8*q));have:=V4 (f (8*q+1));have:=V4 (f (8*q+2));have:=V4 (f (8*q+3));have:=V4 (f (8*q+4));have:=V4 (f (8*q+5));have:=V4 (f (8*q+6));have:=V4 (f (8*q+7));have:k=0\/k=1\/k=2\/k=3\/k=4\/k=5\/k=6\/k=7:=by omega
  rcases this with rfl|rfl|rfl|rfl|rfl|rfl|rfl|rfl<;>(try simp only[Z4])<;>omega
 rw[key];cases f (8*q+k)<;>rfl
def so {f:Nat->Bool}{n i:Nat}(h:i/8<n):bitL (Ew f n) i=f i:=by
 unfold bitL;rw[W0,NW h];show decide ((UInt8.ofNat (Dw f (i/8))).toNat/2^(i%8)%2=1)=f i;rw[ny (Nat.mod_lt _ (by omega)),Nat.div_add_mod]
def si {b:Bs}{n i:Nat}(h:i/8<n):bitL (b.take n) i=bitL b i:=by
 unfold bitL;rw[W0,I2,D0 h,W0]
def sh {b:Bs}{n i:Nat}:bitL (b.drop n) i=bitL b (8*n+i):=by
 unfold bitL;rw[W0,Q3,W0,show (8*n+i)/8=n+i/8 by omega,show (8*n+i)%8=i%8 by omega]
end
end
def Za {A R:Bs}{n:Nat}(h:A.length=n):(A++R).drop n=R:=by rw[<-h,U5]
structure PNb (p:PN):Prop where
 en:p.en<65536
 uid:p.uid<4294967296
 gid:p.gid<4294967296
 size:p.size<4294967296
 at_:p.at_<18446744073709551616
 ct:p.ct<18446744073709551616
 mt:p.mt<18446744073709551616
 cr:p.cr<18446744073709551616
 ek:p.ek<65536
 bu:p.bu<4294967296
 ed:p.ed<4294967296
 xblk:p.xblk=0
 ns:p.at_/4294967296<4000000000/\p.ct/4294967296<4000000000/\p.mt/4294967296<4000000000/\p.cr/4294967296<4000000000
def rdX (p:PN)(n:Nat):XN:=
 ⟨n,p.en,p.uid,p.gid,p.size,p.ek,p.bu,p.ed,(p.at_%4294967296,p.at_/4294967296),(p.ct%4294967296,p.ct/4294967296),(p.mt%4294967296,p.mt/4294967296),(p.cr%4294967296,p.cr/4294967296),0,0,decide (p.ed &&& 268435456≠0),0⟩
section
variable {p:PN} {blk fe b:Bs}
set_option maxHeartbeats 2000000 in
def AHB {f:Nat->Nat}(b:blk.length=60):(leL (CH f blk) 0 2=f 0%65536/\leL (CH f blk) 2 2=f 1%65536/\leL (CH f blk) 4 4=f 2%4294967296/\leL (CH f blk) 8 4=f 3%4294967296/\leL (CH f blk) 12 4=f 4%4294967296/\leL (CH f blk) 16 4=f 5%4294967296)/\
  (leL (CH f blk) 20 4=f 6%4294967296/\leL (CH f blk) 24 2=f 7%65536/\leL (CH f blk) 26 2=f 8%65536/\leL (CH f blk) 28 4=f 9%4294967296/\leL (CH f blk) 32 4=f 10%4294967296/\leL (CH f blk) 104 4=f 13%4294967296)/\
  (leL (CH f blk) 108 4=f 14%4294967296/\leL (CH f blk) 116 2=f 16%65536/\leL (CH f blk) 120 2=f 18%65536/\leL (CH f blk) 122 2=f 19%65536/\leL (CH f blk) 128 2=f 22%65536/\leL (CH f blk) 132 4=f 24%4294967296)/\
  (leL (CH f blk) 136 4=f 25%4294967296/\leL (CH f blk) 140 4=f 26%4294967296/\leL (CH f blk) 144 4=f 27%4294967296/\leL (CH f blk) 148 4=f 28%4294967296):=by
 have a:∀ (r:Bs) (q n:Nat),60<=q->leL (blk++r) q n=leL r (q-60) n:=fun r q n h=>Cm (by omega);unfold CH;simp only[U2,P0];refine⟨⟨?_,?_,?_,?_,?_,?_⟩,⟨?_,?_,?_,?_,?_,?_⟩,⟨?_,?_,?_,?_,?_,?_⟩,?_,?_,?_,?_⟩
 all_goals
  try simp (disch:=decide) only[Sg,Sf,a,Nat.reduceSub]
  first|exact Eh|exact Fx
def AFU {p:PN}{blk fe:Bs}{q n:Nat}(a:blk.length=60)(h:q+n<=152):leL (HI p blk fe) q n=leL (CH (Co p) blk) q n:=by
 have b:=EL (f:=Co p) a;unfold HI Oo;rw[P0,JO (by rw[W1];omega),Hp h]
def AFT {p:PN}{blk fe:Bs}(a:blk.length=60):((HI p blk fe).drop 40).take 60=blk:=by
 have b:=EL (f:=Co p) a;unfold HI Oo;rw[P0,I4 (by rw[W1];omega),L2 (by rw[J2,W1];omega),V3,T6,V2 (by omega)];unfold CH;simp only[U2,P0];have e:∀ r:Bs,BR (Co p 0)++(BR (Co p 1)++(Ag (Co p 2)++(Ag (Co p 3)++(Ag (Co p 4)++(Ag (Co p 5)++(Ag (Co p 6)++(BR (Co p 7)++(BR (Co p 8)++(Ag (Co p 9)++(Ag (Co p 10)++(Ag (Co p 11)++(blk++r))))))))))))=(BR (Co p 0)++(BR (Co p 1)++(Ag (Co p 2)++(Ag (Co p 3)++(Ag (Co p 4)++(Ag (Co p 5)++(Ag (Co p 6)++(BR (Co p 7)++(BR (Co p 8)++(Ag (Co p 9)++(Ag (Co p 10)++Ag (Co p 11))))))))))))++(blk++r):=fun r=>by simp only[P0]
 rw[e];exact FZ rfl a.symm
def tp {p:PN}{blk fe:Bs}(a:blk.length=60):(HI p blk fe).drop 152=fe++List.replicate (104-fe.length) 0:=by
 have b:=EL (f:=Co p) a;unfold HI Oo;have:((CH (Co p) blk).take 152).length=152:=by rw[W1];omega
 rw[P0,Za this]
def ADg (k:PNb p)(n:Nat)(hx:p.fe.length<=104)(hxo:xOK p):inoX1 (CQ p) n=rdX p n/\(CQ p).length=256/\leL (CQ p) 128 2=24/\leL (CQ p) 20 4=0/\leL (CQ p) 104 4=0/\leL (CQ p) 0 2=p.en /\
  leL (CQ p) 140 4=p.at_/4294967296/\leL (CQ p) 132 4=p.ct/4294967296/\leL (CQ p) 136 4=p.mt/4294967296/\leL (CQ p) 148 4=p.cr/4294967296/\((CQ p).drop 40).take 60=DE p/\(CQ p).drop 152=DN p++List.replicate (104-(DN p).length) 0:=by
 have hb:=Ha p;obtain⟨⟨a0,a2,a4,a8,a12,a16⟩,⟨a20,a24,a26,a28,a32,a104⟩,⟨a108,a116,a120,a122,a128,a132⟩,a136,a140,a144,a148⟩:=AHB (f:=Co p) hb;have g:∀ {q n v:Nat},q+n<=152->leL (CH (Co p) (DE p)) q n=v->leL (CQ p) q n=v:=fun h1 h2=>(AFU hb h1).trans h2;obtain⟨k1,k2,k3,k4,k5,k6,k7,k8,k9,k10,k11,k12,k13⟩:=k;have b0:=g (by omega) a0;have b2:=g (by omega) a2;have b4:=g (by omega) a4;have b8:=g (by omega) a8;have b12:=g (by omega) a12;have b16:=g (by omega) a16;have b20:=g (by omega) a20;have b24:=g (by omega) a24;have b26:=g (by omega) a26;have b28:=g (by omega) a28;have b32:=g (by omega) a32;have b104:=g (by omega) a104;have b108:=g (by omega) a108;have b116:=g (by omega) a116;have b120:=g (by omega) a120;have b122:=g (by omega) a122;have b128:=g (by omega) a128;have b132:=g (by omega) a132;have b136:=g (by omega) a136;have b140:=g (by omega) a140;have b144:=g (by omega) a144;have b148:=g (by omega) a148;clear a0 a2 a4 a8 a12 a16 a20 a24 a26 a28 a32 a104 a108 a116 a120 a122 a128 a132 a136 a140 a144 a148 g;simp only[Co] at b0 b2 b4 b8 b12 b16 b20 b24 b26 b28 b32 b104 b108 b116 b120 b122 b128 b132 b136 b140 b144 b148;rw[C2 k1] at b0;rw[C2 k9,C2 k9] at b26;rw[C2 k10] at b28;rw[C2 k11] at b32;rw[k12] at b104;have e1:leL (CQ p) 2 2+leL (CQ p) 120 2*65536=p.uid:=by rw[b2,b120];omega
 have e2:leL (CQ p) 24 2+leL (CQ p) 122 2*65536=p.gid:=by rw[b24,b122];omega
 have e3:leL (CQ p) 4 4+leL (CQ p) 108 4*4294967296=p.size:=by rw[b4,b108];omega
 have e4:leL (CQ p) 28 4+leL (CQ p) 116 2*4294967296=p.bu:=by rw[b28,b116];omega
 have f1:leL (CQ p) 140 4=p.at_/4294967296:=by rw[b140];omega
 have f2:leL (CQ p) 132 4=p.ct/4294967296:=by rw[b132];omega
 have f3:leL (CQ p) 136 4=p.mt/4294967296:=by rw[b136];omega
 have f4:leL (CQ p) 148 4=p.cr/4294967296:=by rw[b148];omega
 have f5:leL (CQ p) 8 4=p.at_%4294967296:=by rw[b8];omega
 have f6:leL (CQ p) 12 4=p.ct%4294967296:=by rw[b12];omega
 have f7:leL (CQ p) 16 4=p.mt%4294967296:=by rw[b16];omega
 have f8:leL (CQ p) 144 4=p.cr%4294967296:=by rw[b144];omega
 refine⟨?_,JK hx hxo,b128,by rw[b20],by rw[b104],b0,f1,f2,f3,f4,AFT hb,tp hb⟩;unfold inoX1 MO rdX;rw[e1,e2,e3,e4,f1,f2,f3,f4,f5,f6,f7,f8,b0,b26,b32]
end
section
theorem AD3:∀ (l:List (Nat×Bs)) (nm:Bs),(∀ p∈l,pfxL p.1=some p.2)->∃ p,pfxL (compL nm l).1=some p/\p++(compL nm l).2=nm
 | [],nm,_=>⟨[],rfl,rfl⟩
 | (i,p)::l,nm,h=>by
  rw[compL];cases a:Gh nm p with
  | true=>
   refine⟨p,h _ T0,?_⟩;show p++nm.drop p.length=nm;have c:nm.take p.length=p:=by
    unfold Gh at a;simp at a
    first|exact a|exact List.prefix_iff_eq_take.1 a |>.symm|exact a.2
   have b:=B6 p.length nm;rw[c] at b;exact b
  | false=>exact AD3 l nm fun q d=>h q (U0 _ d)
def AD4 (nm:Bs):∃ p,pfxL (compL nm PX).1=some p/\p++(compL nm PX).2=nm:=AD3 PX nm (by decide)
def ADX (a:Bs×Bs):Oi (toX a)=a:=by
 obtain⟨p,b,c⟩:=AD4 a.1;show ((pfxL (compL a.1 PX).1).getD []++(compL a.1 PX).2,a.2)=a;rw[b];show (p++_,a.2)=a;rw[c]
def ADW (al:AL):(al.map toX).map Oi=al:=by
 rw[D5];have:Oi∘toX=id:=funext ADX;rw[this,List.map_id]
def MA {al:AL}(i:needs (al.map toX)<=96)(d:al≠[]):(xinA al).length=104/\leL (xinA al) 0 4=3925999616/\AttrR ((xinA al).drop 4) ((xinA al).drop 4) true 0 100 al:=by
 have ev:=Gm (al.map toX) 100;have e:xinA al=Ag 3925999616++(FG 100 (al.map toX)++(zs (100-needs (al.map toX))++Ey (al.map toX))):=by
  unfold xinA;rw[F0 d,La i]
 have c:(xinA al).length=104:=by
  rw[e];simp only[C0,BK,M0];omega
 refine⟨c,by rw[e];exact Eh,?_⟩;have h:=Um (body:=(xinA al).drop 4) (al.map toX) [] [] 0 100 (100-needs (al.map toX)) 100 (by rw[e,Za (BK _),X0];rfl) rfl (by rw[J2,c]) rfl rfl (by omega) (I0 _) fun a g=>?_
 ·rw[ADW] at h;exact h
 ·obtain⟨b,_,rfl⟩:=V1.1 g;refine⟨Ka b.1,?_⟩;obtain⟨p,f,_⟩:=AD4 b.1;show (pfxL (compL b.1 PX).1).isSome=true;rw[f];rfl
def Vq {al:AL}(b:needs (al.map toX)<=96):(xinA al).length<=104:=by
 by_cases a:al=[]
 ·subst a;exact Q2 _
 ·rw[(MA b a).1];exact I0 _
theorem MW:∀ l:List XA,l.length<=needs l
 | []=>I0 _
 | a::l=>by
  have:=MW l;rw[IX,J1];unfold XA.need;omega
theorem MY:∀ (al:AL) (r:Bs),(∀ a∈al,a.1≠ew)->al.foldl (fun r p=>if p.1=ew then p.2 else r) r=r
 | [],_,_=>rfl
 | a::al,r,h=>by
  rw[J4,F0 (h a T0)];exact MY al r fun b c=>h b (U0 _ c)
def Vp {al:AL}(h:∀ a∈al,a.1≠ew):xaOf al=al:=List.filter_eq_self.2 fun a b=>H0 (h a b)
structure TZ (al:AL):Prop where
 fit:needs (al.map toX)<=96
 nd:(al.map (·.1)).Nodup
 ns:∀ a∈al,a.1≠ew
def ANY {al:AL}(h:(al.map (·.1)).Nodup):NoDup2 al:=fun i j p q a b c e=>by
 unfold List.Nodup at h;rw[E6,Z7] at h;obtain⟨a1,a2⟩:=G0.1 a;obtain⟨b1,b2⟩:=G0.1 b;have:=h j i b1 a1 c;rw[a2,b2] at this;exact this e.symm
attribute [local irreducible] CQ
section
variable {p:PN} {I:Bs} {nb n st len:Nat} {al:AL} {X':XN} {C:Bs} {cl:List Nat}
def rdD (p:PN)(n:Nat):XN:=if kindL p.en=3\/kindL p.en=4 then {rdX p n with major:=mjL (DE p),minor:=mnL (DE p)} else rdX p n
def ji (k:PNb p)(u:DN p=xinA al)(i:p.fe.length<=104)(j:xOK p)(q:needs (al.map toX)<=96)(g:(al.map (·.1)).Nodup)(f:(∃ a∈al,a.1=ew)->(rdX p n).inl=true)(t:(restOf al).length<100000)(s:kindL p.en≠0)
  (con:ContR I nb (rdX p n) (DE p) (restOf al) C X' cl) (sec:secOK X') (blk:X'.blk<1000000):InoOK I nb (CQ p) n X' C al cl:=by
 obtain⟨r1,r2,r3,r4,r5,r6,r7,v,w,m,o,b⟩:=ADg k n i j;rw[u] at b;have d:=MW (al.map toX);rw[Z0] at d;have c:leL (CQ p) 152 4=leL ((CQ p).drop 152) 0 4:=(Ho (k:=152) (p:=0)).symm;have l:XaR (CQ p) al:=by
  refine⟨r2,r5,?_⟩;by_cases e:al=[]
  ·refine .inl ⟨?_,e⟩;rw[c,b,e];show leL ([]++List.replicate (104-0) 0) 0 4≠_;rw[U2,Hq];decide
  ·obtain⟨a1,a2,a3⟩:=MA q e;rw[a1,D6,T8,X0] at b;refine .inr ⟨by rw[c,b];exact a2,?_⟩;have:(CQ p).drop 156=(xinA al).drop 4:=by rw[<-b,H5]
   rw[this];exact a3
 exact⟨r2,r3,by rw[r6];exact s,r4,by rw[r7,v,w,m];exact k.ns,l,ANY g,by omega,fun h=>by rw[r1];exact f h,t,by rw[r1,o];exact con,sec,blk⟩
def Yh (k:PNb p)(d:p.fe=xinA al)(b:TZ al)(f:p.ck.length<=60)(e:kindL p.en≠0)
  (con:ContR I nb (rdX p n) (DE p) [] C X' cl) (sec:secOK X') (blk:X'.blk<1000000):InoOK I nb (CQ p) n X' C al cl:=by
 have c:restOf al=[]:=MY al [] b.ns;refine ji k (by unfold DN;rw[F0 (by omega),d]) (by rw[d];exact Vq b.fit) (fun _ h=>by omega) b.fit b.nd (fun⟨a,h1,h2⟩=>absurd h2 (b.ns a h1)) (by rw[c];exact Nat.zero_lt_succ _) e (by rw[c];exact con) sec blk
def o8 (k:PNb p)(f:p.ed=262144)(j:p.ck=[])(m:p.fe=xinA al)(g:TZ al)(d:p.size=0)(i:p.bu=0)(l:kindL p.en=1\/kindL p.en=3\/kindL p.en=4\/kindL p.en=5\/kindL p.en=6) :
  InoOK I nb (CQ p) n (rdD p n) [] al []:=by
 have c:(rdX p n).inl=false:=by show decide _=false;rw[f];rfl
 have a:(rdX p n).ed &&& 524288=0:=by show p.ed &&& _=_;rw[f];rfl
 have b:ContR I nb (rdX p n) (DE p) [] [] (rdD p n) []:=by
  unfold rdD;rcases l with h|h|h|h|h
  ·rw[F0 (by omega)];exact .empty (.inl h) c a d
  ·rw[D0 (.inl h)];exact .dev (.inl h) d a
  ·rw[D0 (.inr h)];exact .dev (.inr h) d a
  ·rw[F0 (by omega)];exact .pipe (.inl h) d a
  ·rw[F0 (by omega)];exact .pipe (.inr h) d a
 have e:(rdD p n).ed=p.ed/\(rdD p n).sec=p.bu/\(rdD p n).blk=0:=by unfold rdD;split<;>exact⟨rfl,rfl,rfl⟩
 refine Yh k m g (by rw[j];exact Q2 _) (by omega) b ?_ (by rw[e.2.2];decide);unfold secOK;rw[e.1,e.2.1,e.2.2,f,i];simp
def GS (b:len<65536)(c:st<4294967296):Ext1 (extRoot len st) st len/\(extRoot len st).length=60:=by
 have e:extRoot len st=BR 62218++(BR 1++(BR 4++(BR 0++(Ag 0++(Ag 0++(BR len++(BR 0++(Ag st++(FQ 0 0 0 0++(FQ 0 0 0 0++FQ 0 0 0 0)))))))))):=by
  unfold extRoot OR DL DL DL DL DL Up;rw[D0 rfl,F0 (by decide),F0 (by decide),F0 (by decide)];unfold FQ;simp only[P0,U2]
 have d:(extRoot len st).length=60:=by rw[e];simp[Ba,BK,FQ]
 have a:∀ {q n v:Nat},q+n<=12->leL (extRoot len st) (12+q) n=v->leL (((extRoot len st).drop 12).take 12) q n=v:=fun b c=>by rw[Hp b,Ho];exact c
 refine⟨⟨d,?_,?_,?_,?_,a (by omega) ?_,a (by omega) ?_,a (by omega) ?_,a (by omega) ?_⟩,d⟩
 all_goals rw[e]
 all_goals
  try simp (disch:=decide) only[Sg,Sf,Nat.reduceSub]
  first|exact Eh|exact Fx|rw[Fx,C2 b]|rw[Eh,C2 c]
def Yz {m:Bs}(h:m.length=60):setL Ch 0 m=m:=by
 unfold setL Ch;rw[K7,U2,h,C5 (by simp),X0]
def jh (k:PNb p)(c:p.ed=786432)(i:p.ck=extRoot len st)(v:p.fe=xinA al)(q:TZ al)(f:(len-1)*4096<p.size)(g:p.size<=len*4096)(s:p.bu=len)(l:0<len)(m:len<=32768)(o:st+len<=nb)(u:nb<=32768)(t:Cz p)(d:kindL p.en=1\/kindL p.en=2\/kindL p.en=7) :
  InoOK I nb (CQ p) n {rdX p n with blk:=len} ((I.drop (st*4096)).take p.size) al ((List.range len).map (st + ·)):=by
 obtain⟨x1,j⟩:=GS (len:=len) (st:=st) (by omega) (by omega);have a:DE p=extRoot len st:=by
  unfold DE;rw[D0 t,i,X2 (by omega),Yz j]
 have b:(rdX p n).inl=false:=by show decide _=false;rw[c];rfl
 refine Yh k v q (by rw[i,j];exact I0 _) (by omega) ?_ ?_ (by show len<1000000;omega)
 ·rw[a];have:=ContR.ext (I:=I) (nb:=nb) (X:=rdX p n) (e:=extRoot len st) (rest:=[]) (start:=st) (len:=len) d b (by show p.ed &&& _≠0;rw[c];decide) x1 f l m o g (by show 0<100000;decide);have e:(rdX p n).blk+len=len:=U1 _;rw[e] at this;exact this
 ·unfold secOK;show if p.ed &&& 262144≠0 then p.bu=len else p.bu=len*8
  rw[c,s];simp
def sm {m:Nat}(c:Cz p)(b:m=p.ck.length)(a:m<=60):(DE p).take m=p.ck:=by
 unfold DE;rw[D0 c,X2 (show p.ck.length<=60 by omega)];unfold setL;rw[K7,U2,b,L7]
def AGl (k:PNb p)(b:p.ed=262144)(i:p.ck.length=p.size)(o:p.size<=59)(l:p.fe=xinA al)(f:TZ al)(g:p.bu=0)(j:kindB p.en=40960)(d:kindL p.en=7)(m:60<=I.length) :
  InoOK I nb (CQ p) n (rdX p n) p.ck al []:=by
 have a:(rdX p n).inl=false:=by show decide _=false;rw[b];rfl
 have c:(rdX p n).ed &&& 524288=0:=by show p.ed &&& _=_;rw[b];rfl
 refine Yh k l f (by omega) (by omega) ?_ ?_ (by show 0<1000000;decide)
 ·have:=ContR.link (I:=I) (nb:=nb) (X:=rdX p n) (e:=DE p) (rest:=[]) d a c (show p.size<60 by omega) (show p.size<=I.length by omega);have e:(DE p).take (rdX p n).size=p.ck:=sm (.inr (.inr j)) i.symm (by show p.size<=60;omega);rw[e] at this;exact this
 ·unfold secOK;show if p.ed &&& 262144≠0 then p.bu=0 else p.bu=0*8
  rw[b,g];simp
theorem AGj (k:PNb p)(hf:p.ed=268697600)(hd:p.ck.length=p.size)(u:p.fe=xinA ((GP,List.replicate (p.size-60) 0)::al))(b:needs (((GP,List.replicate (p.size-60) 0)::al).map toX)<=96)(q:TZ al)(hs:p.size<=136)(hb:p.bu=0)(hk:kindB p.en=32768)(hI:136<=I.length) :
  InoOK I nb (CQ p) n (rdX p n) p.ck ((ew,p.ck.drop 60)::al) []:=by
 have d:Cz p:=.inr (.inl hk);have w:p.fe.length=104:=by rw[u];exact (MA b (by simp)).1
 have ae:xOK p:=fun _ _=>⟨w,by omega⟩;have o:(List.replicate (p.size-60) (0:UInt8)).length=(p.ck.drop 60).length:=by rw[M0,J2];omega
 have t:toX (ew,p.ck.drop 60)=FB  cst__slice_none_0_0  (p.ck.drop 60):=by
  unfold toX;show (⟨(compL GP PX).2,(compL GP PX).1,_,_⟩:XA)=_;rw[QO];rfl
 have m:(toX (GP,List.replicate (p.size-60) 0)).nm=(toX (ew,p.ck.drop 60)).nm:=rfl;have v:DN p=xinA ((ew,p.ck.drop 60)::al):=by
  unfold DN;by_cases g:60<p.ck.length
  ·rw[D0 ⟨d,g⟩,u];unfold xinA Im;rw[F0 (by simp),F0 (by simp),<-t,Q1,Q1];rw[Q1] at b;exact AGi m o b
  ·rw[F0 fun h=>g h.2,u];have e1:p.ck.drop 60=[]:=C5 (by omega);have e2:List.replicate (p.size-60) (0:UInt8)=[]:=by rw[show p.size-60=0 by omega];rfl
   rw[e1,e2];rfl
 have i:needs (((ew,p.ck.drop 60)::al).map toX)<=96:=by
  rw[Q1,IX] at b ⊢;have:(toX (GP,List.replicate (p.size-60) 0)).need=(toX (ew,p.ck.drop 60)).need:=by
   unfold XA.need;rw[m];show _+Bg (List.replicate (p.size-60) (0:UInt8)).length=_+Bg (p.ck.drop 60).length;rw[o]
  omega
 have f:(rdX p n).inl=true:=by show decide _=true;rw[hf];rfl
 have l:kindL p.en=1:=by unfold kindL;exact D0 hk
 have c:restOf ((ew,p.ck.drop 60)::al)=p.ck.drop 60:=by
  show al.foldl _ (if ew=ew then p.ck.drop 60 else [])=_;rw[D0 rfl];exact MY al _ q.ns
 have j:(DE p++p.ck.drop 60).take p.size=p.ck:=by
  unfold DE;rw[D0 d];have ht:(p.ck.take 60).length=min 60 p.ck.length:=W1 ..;unfold setL;rw[K7,U2,U1];by_cases g:60<p.ck.length
  ·have:Ch.drop (p.ck.take 60).length=[]:=C5 (by unfold Ch;simp;omega);rw[this,X0,B6,X2 (by omega)]
  ·rw[X2 (by omega:p.ck.length<=60),P0,<-hd,L7]
 have s:=Ha p;refine ji k v (by omega) ae i ?_ (fun _=>f) (by rw[c,J2];omega) (by rw[l];decide) ?_ ?_ (by show 0<1000000;decide)
 ·rw[Q1,U4];refine⟨fun h=>?_,q.nd⟩;obtain⟨a,h1,h2⟩:=V1.1 h;exact q.ns a h1 h2
 ·rw[c];have:=ContR.inline (I:=I) (nb:=nb) (X:=rdX p n) (e:=DE p) (rest:=p.ck.drop 60) (.inl l) f (by show p.size<=_;rw[s,J2];omega) (by show p.size<=_;omega);have e:(rdX p n).size=p.size:=rfl;rw[e,j] at this;exact this
 ·unfold secOK;show if p.ed &&& 262144≠0 then p.bu=0 else p.bu=0*8
  rw[hf,hb];simp
end
end
structure It where
 dir:Nat
 nm:Bs
 f:FL
 data:Bs
 path:Bs
 w:Bool
 xs:AL
 al:AL
abbrev It.kd (it:It):Nat:=kindB (modeK it.f.en)
def It.isD (it:It):Bool:=decide (it.kd=16384)
def It.wrs (it:It):List Op1:=if it.w then [.write it.data] else []
def It.ops (it:It):List Op1:=.create it.path it.f it.xs::it.wrs
def DZ (c:Nat):Nat->List It->List (Bs×Nat)
 | _,[]=>[]
 | k,it::l=>if it.dir=c then (it.nm,k)::DZ c (k+1) l else DZ c (k+1) l
def kidsOf (its:List It)(c:Nat):List (Bs×Nat):=DZ c 12 its
def dirsOf (its:List It)(c:Nat):Nat:=(its.filter fun it=>decide (it.dir=c)&&it.isD).length
theorem Ox (c:Nat)(it:It):∀ (l:List It) (k:Nat),DZ c k (l++[it])=DZ c k l++if it.dir=c then [(it.nm,k+l.length)] else []
 | [],k=>by simp[DZ]
 | a::l,k=>by
  rw[Y5,DZ,DZ,Ox c it l (k+1),J1,show k+1+l.length=k+(l.length+1) by omega];split<;>simp
theorem FI {c:Nat}{e:Bs×Nat}:∀ {l:List It} {k:Nat},e∈DZ c k l↔∃ j it,l[j]? = some it/\it.dir=c/\e=(it.nm,k+j)
 | [],k=>by simp[DZ]
 | a::l,k=>by
  have i:=FI (c:=c) (e:=e) (l:=l) (k:=k+1);rw[DZ];have key:(∃ j it,(a::l)[j]? = some it/\it.dir=c/\e=(it.nm,k+j))↔(a.dir=c/\e=(a.nm,k))\/∃ j it,l[j]? = some it/\it.dir=c/\e=(it.nm,k+1+j):=by
   constructor
   ·rintro⟨j,it,b,d,f⟩;cases j with
    | zero=>rw[L4,M2] at b;subst b;exact .inl ⟨d,f⟩
    | succ j=>rw[Y4] at b;exact .inr ⟨j,it,b,d,by rw[f];congr 1;omega⟩
   ·rintro (⟨b,d⟩|⟨j,it,b,d,f⟩)
    ·exact⟨0,a,rfl,b,d⟩
    ·exact⟨j+1,it,by rw[Y4];exact b,d,by rw[f];congr 1;omega⟩
  rw[key,<-i];by_cases g:a.dir=c
  ·rw[D0 g,I1];simp[g]
  ·rw[F0 g];simp[g]
theorem MR (c:Nat):∀ (l:List It) (k:Nat),(DZ c k l).Pairwise fun a b=>a.2<b.2
 | [],_=>.nil
 | a::l,k=>by
  rw[DZ];split
  ·rw[V6];refine⟨fun e d=>?_,MR c l (k+1)⟩;obtain⟨j,it,_,_,rfl⟩:=FI.1 d;show k<k+1+j;omega
  ·exact MR c l (k+1)
theorem Mr (c:Nat):∀ (l:List It) (k:Nat),(∀ (i j:Nat) (a b:It),l[i]? = some a->l[j]? = some b->i<j->a.dir=b.dir->a.nm≠b.nm)->((DZ c k l).map (·.1)).Nodup
 | [],_,_=>.nil
 | a::l,k,h=>by
  have m:=Mr c l (k+1) fun i j x y d f q=>h (i+1) (j+1) x y (by rw[Y4];exact d) (by rw[Y4];exact f) (by omega);rw[DZ];split
  ·rename_i n;rw[Q1,U4];refine⟨fun p=>?_,m⟩;obtain⟨e,o,g⟩:=V1.1 p;obtain⟨j,it,d,f,rfl⟩:=FI.1 o;exact h 0 (j+1) a it rfl (by rw[Y4];exact d) (by omega) (n.trans f.symm) g.symm
  ·exact m
theorem Qi (c:Nat):∀ (l:List It) (k:Nat),(DZ c k l).length<=l.length
 | [],_=>I0 _
 | a::l,k=>by
  have:=Qi c l (k+1);rw[DZ];split
  ·rw[J1,J1];omega
  ·rw[J1];omega
def FV (its:List It)(it:It)(c:Nat):dirsOf (its++[it]) c=dirsOf its c+if it.dir=c/\it.isD=true then 1 else 0:=by
 unfold dirsOf;rw[L5,C0];by_cases h:it.dir=c/\it.isD=true
 ·rw[D0 h];simp[h.1,h.2]
 ·rw[F0 h];have:(decide (it.dir=c)&&it.isD)=false:=by
   rcases Decidable.em (it.dir=c) with a|a
   ·simp[a];simpa[a] using h
   ·simp[a]
  simp[this]
def Hd (its:List It)(c:Nat):dirsOf its c<=its.length:=G7 ..
inductive Way (its:List It):Nat->List Bs->Prop
 | root:Way its 2 []
 | down {j:Nat} {it:It} {st:List Bs}:its[j]? = some it->it.isD=true->it.dir<12+j->Way its it.dir st->Way its (12+j) (st++[it.nm])
def Way.mono {its:List It}{x:It}{d:Nat}{st:List Bs}(h:Way its d st):Way (its++[x]) d st:=by
 induction h with
 | root=>exact .root
 | down a b c _ e=>exact .down (by rw[Z1 (G0.1 a).1];exact a) b c e
structure Ku (its:List It) (it:It):Prop where
 way:∃ st,Way its it.dir st/\cleanR it.path=st++[it.nm]
 pl:it.path.length<=100000
 n1:1<=it.nm.length
 n2:it.nm.length<=255
 ns:(47:UInt8)∉it.nm
 nd:it.nm≠[46]/\it.nm≠[46,46]
 new:∀ x∈its,x.dir=it.dir->x.nm≠it.nm
 lost:it.dir=2->it.nm≠lostN
 dat:if it.kd=32768 then it.f.size=it.data.length else it.data=if it.kd=40960 then it.f.link else []
 big:it.data.length<=2000000
 wr:it.data≠[]->(it.w=true↔it.kd=32768)
structure WA (inl:Bool) (it:It):Prop where
 uid:it.f.uid<4294967296
 gid:it.f.gid<4294967296
 maj:it.f.d7<4294967296
 min:it.f.d8<4294967296
 file:FilOK it.f inl it.al
 ew:∀ a∈it.al,a.1≠ew
def FilOK.al {f:FL}{inl:Bool}{al:AL}(h:FilOK f inl al)(c:∀ a∈al,a.1≠ew):TZ al:=by
 refine⟨?_,?_,c⟩
 ·have:=h.fit;rw[H2,MU] at this;omega
 ·unfold List.Nodup;rw[E6];exact h.srt.imp fun {a b} h e=>by rw[e,IP] at h;cases h
abbrev It.sl (it:It):Prop:=it.kd=40960/\it.data.length<=59
def bx (B:Bs)(pos:Nat):Bs:=B++List.replicate (pos-B.length) 0
def Fg {B:Bs}{pos:Nat}(h:B.length<=pos):(bx B pos).length=pos:=by unfold bx;rw[C0,M0];omega
def su {B:Bs}{pos:Nat}(h:B.length=pos):bx B pos=B:=by unfold bx;rw[h,D6,T8,X0]
def Li {B m:Bs}{pos:Nat}(h:B.length<=pos):putL B pos m=bx B pos++m:=by
 unfold putL bx setL;have e:pos+m.length-B.length=(pos-B.length)+m.length:=by omega
 rw[e,<-List.replicate_append_replicate,<-P0];have a:(B++List.replicate (pos-B.length) (0:UInt8)).length=pos:=Fg h;generalize B++List.replicate (pos-B.length) (0:UInt8)=X at a ⊢;rw[L2 (by omega),X2 (by omega),C5 (by rw[C0,M0];omega),X0]
def Rj (p:PN):List Nat:=if p.ed=786432 then (List.range p.bu).map (leL p.ck 20 4 + ·) else []
def exO:Option PN->List Nat
 | some p=>Rj p
 | none=>[]
def blks (n:Nat):List Nat:=(List.range (n-2)).map (· + 2)
def OF {a b:Nat}(c:2<=a)(h:a<=b):blks b=blks a++(List.range (b-a)).map (a + ·):=by
 unfold blks;have:b-2=(a-2)+(b-a):=by omega
 rw[this,List.range_add,H2,D5];congr 1;apply Q4;intro i _;show a-2+i+2=a+i;omega
structure HoldI (X:Bs) (pos:Nat) (it:It) (inl:Bool) (p:PN):Prop where
 hold:if inlK inl it.kd it.f.size=true then p.ed=268697600/\p.ck=it.data/\p.bu=0
  else if it.data=[]\/it.sl then p.ed=262144/\p.ck=it.data/\p.bu=0
  else ∃ st,p.ed=786432/\p.ck=extRoot p.bu st/\p.bu=(it.data.length+4095)/4096/\2<=st/\(st+p.bu)*4096<=pos/\(X.drop (st*4096)).take it.data.length=it.data
def HoldI.app {X Y:Bs}{pos pos':Nat}{it:It}{inl:Bool}{p:PN}(h:HoldI X pos it inl p)(d:X.length=pos)(e:pos<=pos'):HoldI (X++Y) pos' it inl p:=by
 refine⟨?_⟩;have:=h.hold;split
 ·rename_i a;rw[D0 a] at this;exact this
 ·rename_i a;rw[F0 a] at this;split
  ·rename_i b;rw[D0 b] at this;exact this
  ·rename_i b;rw[F0 b] at this;obtain⟨st,a1,a2,a3,a4,a5,a6⟩:=this;refine⟨st,a1,a2,a3,a4,by omega,?_⟩;have c:st*4096+it.data.length<=X.length:=by
    rw[a3] at a5;rw[d];have:it.data.length<=(it.data.length+4095)/4096*4096:=by omega
    have:(st+(it.data.length+4095)/4096)*4096=st*4096+(it.data.length+4095)/4096*4096:=V5 ..;omega
   rw[I4 (by omega),L2 (by rw[J2];omega)];exact a6
def itP (inl:Bool)(its:List It)(j:Nat)(it:It)(p:PN):PN:=
 {newP it.f (12+j) inl it.al 0 with kids:=if it.isD=true then some (kidsOf its (12+j)) else none,ek:=1+(if it.isD=true then 1+dirsOf its (12+j) else 0),ck:=p.ck,ed:=p.ed,bu:=p.bu}
structure Wr (inl:Bool) (its:List It) (S:PS):Prop where
 cur:S.cur=none
 inlS:S.inl=inl
 max:S.max=17179869184
 gd:S.gd=1
 B:S.B.length<=S.pos
 al:S.pos%4096=0
 big:8192<=S.pos
 len:S.M.length=11+its.length
 nil:∀ i,i=0\/(2<=i/\i<10)->S.M[i]? = some none
 root:S.M[1]? = some (some {rootP inl with kids:=some ((lostN,11)::kidsOf its 2),ek:=3+dirsOf its 2})
 lf:S.M[10]? = some (some {newP (dirF 16832) 11 inl [] 0 with kids:=some (kidsOf its 11),ek:=2+dirsOf its 11})
 node:∀ j it,its[j]? = some it->∃ p,S.M[11+j]? = some (some p)/\p=itP inl its j it p/\HoldI (bx S.B S.pos) S.pos it inl p
 own:(S.M.flatMap exO).Perm (blks (S.pos/4096))
def HW {M:List (Option PN)}{d:Nat}{q p p':PN}{es:List (Bs×Nat)}{e:Bs}(f:d-1<M.length) :
  (Dd M d q p es e)[M.length]? = some (some {p with ek:=p.ek+1})/\(Dd M d q p es e).length=M.length+1 /\
  (Dd M d q p es e).set M.length (some p')=(M++[some p']).set (d-1) (some {q with kids:=some (es++[(e,M.length+1)]),ek:=q.ek+(if kindB p.en=16384 then 1 else 0)}):=by
 unfold Dd;refine⟨?_,by simp,?_⟩
 ·rw[G4,F0 (by omega),X1 (I0 _),D6];rfl
 ·apply O4;intro i;simp only[G4,O5,C0,U3];by_cases c:M.length=i
  ·subst c;rw[D0 rfl,D0 (by omega),F0 (by omega),X1 (I0 _),D6];rfl
  ·rw[F0 c];by_cases a:d-1=i
   ·rw[D0 a,D0 a]
   ·rw[F0 a,F0 a];rcases P5 i M.length with b|b
    ·rw[Z1 b,Z1 b]
    ·rw[D3 (by simp;omega),D3 (by simp;omega)]
def ADT {M:List (Option PN)}{i:Nat}{a b:Option PN}(h:M[i]? = some a)(c:exO b=exO a):(M.set i b).flatMap exO=M.flatMap exO:=by
 induction M generalizing i with
 | nil=>rfl
 | cons o M d=>
  cases i with
  | zero=>
   rw[L4,M2] at h;subst h;rw[List.set_cons_zero,M3,M3,c]
  | succ i=>
   rw[Y4] at h;rw[List.set_cons_succ,M3,M3,d h]
def BZ (its:List It):Prop:=∀ j it,its[j]? = some it->Ku (its.take j) it
def BZ.eu {its:List It}{it:It}(h:BZ its)(hi:Ku its it):BZ (its++[it]):=by
 intro j x a;rcases P5 j its.length with c|c
 ·rw[Z1 c] at a;rw[L2 (by omega)];exact h j x a
 ·rw[X1 c] at a;have b:j-its.length=0:=by
   rcases X7 (j-its.length) with b|b
   ·exact b
   ·rw[D3 (by simp;omega)] at a;cases a
  rw[b,L4,M2] at a;subst a;have:j=its.length:=by omega
  subst this;rw[L7];exact hi
def BZ.pre {its:List It}{it:It}(h:BZ (its++[it])):BZ its/\Ku its it:=by
 constructor
 ·intro j x a;have b:=(G0.1 a).1;have:=h j x (by rw[Z1 b];exact a);rw[L2 (by omega)] at this;exact this
 ·have:=h its.length it (by rw[X1 (I0 _),D6];rfl);rw[L7] at this;exact this
def Way.cases {its:List It}{d:Nat}{st:List Bs}(h:Way its d st):(d=2/\st=[])\/∃ j it,its[j]? = some it/\it.isD=true/\d=12+j:=by
 cases h with
 | root=>exact .inl ⟨rfl,rfl⟩
 | down a b _ _=>exact .inr ⟨_,_,a,b,rfl⟩
def Ku.d6 {its:List It}{it:It}(h:Ku its it):it.dir<12+its.length/\it.dir≠11/\2<=it.dir/\(it.dir=2\/12<=it.dir):=by
 obtain⟨st,b,_⟩:=h.way;rcases b.cases with⟨a,_⟩|⟨j,x,a,_,c⟩
 ·omega
 ·have:=(G0.1 a).1;omega
def BZ.d6 {its:List It}(h:BZ its){j:Nat}{it:It}(a:its[j]? = some it):it.dir<12+j/\it.dir≠11/\2<=it.dir/\(it.dir=2\/12<=it.dir):=by
 have b:=(G0.1 a).1;have:=(h j it a).d6;rw[W1,V2 (by omega)] at this;exact this
def BZ.names {its:List It}(h:BZ its):∀ (i j:Nat) (a b:It),its[i]? = some a->its[j]? = some b->i<j->a.dir=b.dir->a.nm≠b.nm:=by
 intro i j a b c d g f;refine (h j b d).new a ?_ f;obtain⟨l,e⟩:=G0.1 c;rw[<-e];exact List.mem_take_iff_getElem.2 ⟨i,by omega,rfl⟩
def esOf (its:List It)(d:Nat):List (Bs×Nat):=(if d=2 then [(lostN,11)] else [])++kidsOf its d
def Eb {its:List It}{d:Nat}{e:Bs×Nat}:e∈esOf its d↔(d=2/\e=(lostN,11))\/∃ j it,its[j]? = some it/\it.dir=d/\e=(it.nm,12+j):=by
 unfold esOf kidsOf;rw[N4,FI];by_cases h:d=2
 ·rw[D0 h];simp[h]
 ·rw[F0 h];simp[h]
def EK {its:List It}(h:BZ its)(d:Nat):((esOf its d).map (·.1)).Nodup:=by
 unfold esOf;rw[H2,S4];refine⟨by split<;>simp,Mr d its 12 h.names,?_⟩;intro a c b n f;by_cases g:d=2
 ·rw[D0 g] at c;have:a=lostN:=by simpa using c
  subst this;obtain⟨e,o,i⟩:=V1.1 n;obtain⟨j,it,l,m,rfl⟩:=FI.1 o;exact (h j it l).lost (m.trans g) (i.trans f.symm)
 ·rw[F0 g] at c;simp at c
def LN {its:List It}(d:Nat):(esOf its d).Pairwise fun a b=>a.2<b.2:=by
 unfold esOf;rw[M8];refine⟨by split<;>simp,MR d its 12,?_⟩;intro a c b f;by_cases e:d=2
 ·rw[D0 e] at c;have:a=(lostN,11):=by simpa using c
  subst this;obtain⟨j,it,g,i,rfl⟩:=FI.1 f;show 11<12+j;omega
 ·rw[F0 e] at c;simp at c
def LO (its:List It)(d:Nat):(esOf its d).length<=its.length+1:=by
 have:=Qi d its 12;unfold esOf kidsOf;rw[C0];split<;>simp<;>omega
theorem Po {M:List (Option PN)}:∀ (st:List Bs) (c:Nat) (e:Bs),walkP M c (st++[e])=(walkP M c st).bind fun d=>Fi M d e
 | [],c,e=>by
  show (Fi M c e).bind (fun d=>walkP M d [])=Fi M c e;cases Fi M c e<;>rfl
 | a::st,c,e=>by
  show (Fi M c a).bind (fun d=>walkP M d (st++[e]))=((Fi M c a).bind fun d=>walkP M d st).bind _;cases Fi M c a with
  | none=>rfl
  | some d=>exact Po st d e
section
variable {inl:Bool} {its:List It} {S:PS}
structure DirAt (S:PS) (its:List It) (d:Nat) (q:PN):Prop where
 at_:S.M[d-1]? = some (some q)
 en:kindB q.en=16384
 kids:q.kids=some (esOf its d)
 ek:q.ek<=3+its.length
 d1:1<=d
 fl:q.ed=262144
def JN (m:Nat):kindB (CC m)=kindB (modeK m):=by
 unfold CC;split
 ·unfold kindB;rw[Nat.and_or_distrib_right];exact Nat.or_zero _
 ·rfl
def LJ {m:Nat}(h:m=16832\/m=16877)(inl:Bool)(n:Nat):(newP (dirF m) n inl [] 0).ed=262144:=by
 have a:kindB (modeK (dirF m).en)=16384:=by rcases h with rfl|rfl<;>decide
 show (if lnkB (dirF m)=true then 786432 else LQ inl (kindB (modeK (dirF m).en)) _)=_;rw[GQ h,F0 (by decide)];unfold LQ inlK;rw[a,F0 (by simp)]
def Ku.nodat {its:List It}{it:It}(h:Ku its it)(a:it.kd=16384):it.data=[]:=by
 have:=h.dat;rw[F0 (by omega),F0 (by omega)] at this;exact this
def AEt (w:Wr inl its S)(c:BZ its){d:Nat}{st:List Bs}(l:Way its d st):∃ q,DirAt S its d q:=by
 rcases l.cases with⟨rfl,_⟩|⟨j,it,f,g,rfl⟩
 ·refine⟨_,w.root,?_,?_,?_,by omega,?_⟩
  ·exact IY inl
  ·unfold esOf;rfl
  ·have:=Hd its 2;show 3+dirsOf its 2<=_;omega
  ·exact LJ (.inr rfl) inl 2
 ·obtain⟨p,i,a,_⟩:=w.node j it f;have e:it.kd=16384:=of_decide_eq_true g;have b:p.ed=262144:=by
   rename_i hh;have:=hh.hold;rw[F0 (by unfold inlK;rw[e];simp),D0 (.inl ((c j it f).nodat e))] at this;exact this.1
  refine⟨p,by rw[show 12+j-1=11+j by omega];exact i,?_,?_,?_,by omega,b⟩
  ·rw[a];exact (JN _).trans e
  ·rw[a];show (if it.isD=true then some (kidsOf its (12+j)) else none)=_;rw[D0 g];unfold esOf;rw[F0 (by omega),U2]
  ·rw[a];show 1+(if it.isD=true then 1+dirsOf its (12+j) else 0)<=_;have:=Hd its (12+j);split<;>omega
def AEo (w:Wr inl its S)(a:BZ its){d:Nat}{st:List Bs}(b:Way its d st):walkP S.M 2 st=some d:=by
 induction b with
 | root=>rfl
 | down f i l b g=>
  rename_i j it st;obtain⟨q,c⟩:=AEt w a b;rw[Po,g];show Fi S.M it.dir it.nm=some (12+j);unfold Fi;rw[c.at_];show (match q.kids with|some es=>lookE es it.nm|none=>none)=_;rw[c.kids];exact Hr (EK a it.dir) (e:=(it.nm,12+j)) (Eb.2 (.inr ⟨j,it,f,rfl,rfl⟩))
def PN.kl (p:PN)(k:Option (List (Bs×Nat)))(l:Nat):PN:={p with kids:=k,ek:=l}
def PN.kld (p:PN)(k:Option (List (Bs×Nat)))(l:Nat)(d:Bs)(f b:Nat):PN:={p with kids:=k,ek:=l,ck:=d,ed:=f,bu:=b}
def Hm (it:It)(c:Nat):kidsOf (its++[it]) c=kidsOf its c++if it.dir=c then [(it.nm,12+its.length)] else []:=Ox c it its 12
def AEu {it:It}{q p':PN}{B':Bs}{pos':Nat}(w:Wr inl its S)(az:BZ its)(hi:Ku its it)(hq:DirAt S its it.dir q)
  (hp:p'=itP inl (its++[it]) its.length it p') (hh:HoldI (bx B' pos') pos' it inl p') (hB:B'.length<=pos') (ao:S.pos<=pos') (ah:pos'%4096=0) {Y:Bs} (hY:bx B' pos'=bx S.B S.pos++Y)
  (aj:Rj p'=(List.range (pos'/4096-S.pos/4096)).map (S.pos/4096 + ·)) :
  Wr inl (its++[it]) {S with M:=(S.M++[some p']).set (it.dir-1) (some {q with kids:=some (esOf its it.dir++[(it.nm,S.M.length+1)]),ek:=q.ek+(if it.kd=16384 then 1 else 0)}),B:=B',pos:=pos' }:=by
 obtain⟨d1,d2,d3,d4⟩:=hi.d6;have s:=w.len;have ai:it.dir-1<S.M.length:=by omega
 have aw:=w.al;have ay:=w.big;have v:∀ i,i≠it.dir-1->i<S.M.length->((S.M++[some p']).set (it.dir-1) (some {q with kids:=some (esOf its it.dir++[(it.nm,S.M.length+1)]),ek:=q.ek+(if it.kd=16384 then 1 else 0)}))[i]? = S.M[i]?:=fun i f b=>by
  rw[G4,F0 (fun e=>f e.symm),Z1 b]
 have gd:((S.M++[some p']).set (it.dir-1) (some {q with kids:=some (esOf its it.dir++[(it.nm,S.M.length+1)]),ek:=q.ek+(if it.kd=16384 then 1 else 0)}))[it.dir-1]? = some (some {q with kids:=some (esOf its it.dir++[(it.nm,S.M.length+1)]),ek:=q.ek+(if it.kd=16384 then 1 else 0)}):=by
  rw[G4,D0 rfl,D0 (by rw[C0];omega)]
 have c:S.M.length+1=12+its.length:=by omega
 have o:(if it.kd=16384 then 1 else 0)=if it.isD=true then 1 else 0:=by
  unfold It.isD;by_cases h:it.kd=16384<;>simp[h]
 refine⟨w.cur,w.inlS,w.max,w.gd,hB,ah,by show 8192<=pos';omega,?_,?_,?_,?_,?_,?_⟩
 ·show ((S.M++[some p']).set _ _).length=_;rw[O5,C0,C0,s];rfl
 ·intro i h;show ((S.M++[some p']).set _ _)[i]? = _;rw[v i (by omega) (by omega)];exact w.nil i h
 ·show ((S.M++[some p']).set _ _)[1]? = _;by_cases b:it.dir=2
  ·have:=gd;rw[b] at this;rw[b];refine this.trans ?_;have au:q=(rootP inl).kl (some ((lostN,11)::kidsOf its 2)) (3+dirsOf its 2):=by
    have f:=hq.at_;rw[b] at f;exact (V0 (V0 (f.symm.trans w.root)))
   have e1:esOf its 2=(lostN,11)::kidsOf its 2:=by unfold esOf;rw[D0 rfl];rfl
   have e2:dirsOf its 2+(if it.dir=2/\it.isD=true then 1 else 0)=dirsOf its 2+(if it.isD=true then 1 else 0):=by
    by_cases h:it.isD=true
    ·rw[D0 h,D0 ⟨b,h⟩]
    ·rw[F0 h,F0 fun h'=>h h'.2]
   rw[c,o,e1];show some (some (q.kl (some ((lostN,11)::kidsOf its 2++[(it.nm,12+its.length)])) (q.ek+(if it.isD=true then 1 else 0))))=some (some ((rootP inl).kl (some ((lostN,11)::kidsOf (its++[it]) 2)) (3+dirsOf (its++[it]) 2)));rw[Hm,FV,D0 b,e2,<-H8,au];rfl
  ·rw[v 1 (by omega) (by omega),w.root,Hm,FV,F0 b,F0 (fun h=>b h.1),X0,Z4]
 ·show ((S.M++[some p']).set _ _)[10]? = _;rw[v 10 (by omega) (by omega),w.lf,Hm,FV,F0 d2,F0 (fun h=>d2 h.1),X0,Z4]
 ·intro j x n;show ∃ p,((S.M++[some p']).set _ _)[11+j]? = some (some p)/\_/\HoldI (bx B' pos') pos' x inl p;rcases P5 j its.length with f|f
  ·rw[Z1 f] at n;obtain⟨p,t,l,ar⟩:=w.node j x n;have d:HoldI (bx B' pos') pos' x inl p:=by
    rw[hY];exact ar.app (Fg w.B) ao
   by_cases g:it.dir=12+j
   ·have u:q=p:=by
     have b:=hq.at_;rw[g,show 12+j-1=11+j by omega,t] at b;exact (V0 (V0 b)).symm
    have m:x.isD=true:=by
     obtain⟨st,hw,_⟩:=hi.way;rcases hw.cases with⟨b,_⟩|⟨j',x',e1,e2,e3⟩
     ·omega
     ·have:j'=j:=by omega
      subst this;rw[n] at e1;rw[V0 e1];exact e2
    have:=gd;rw[g,show 12+j-1=11+j by omega] at this;rw[g,show 12+j-1=11+j by omega];refine⟨_,this,?_,⟨u▸d.hold⟩⟩;rw[u];have e1:esOf its (12+j)=kidsOf its (12+j):=by unfold esOf;rw[F0 (by omega),U2]
    have e2:p.ek=1+(1+dirsOf its (12+j)):=by
     rw[l];show 1+(if x.isD=true then _ else 0)=_;rw[D0 m]
    have e3:p=(newP x.f (12+j) inl x.al 0).kld p.kids p.ek p.ck p.ed p.bu:=by
     rw[l];rfl
    have e4:dirsOf its (12+j)+(if it.dir=12+j/\it.isD=true then 1 else 0)=dirsOf its (12+j)+(if it.isD=true then 1 else 0):=by
     by_cases h:it.isD=true
     ·rw[D0 h,D0 ⟨g,h⟩]
     ·rw[F0 h,F0 fun h'=>h h'.2]
    rw[e1,o,c];show p.kl (some (kidsOf its (12+j)++[(it.nm,12+its.length)])) (p.ek+(if it.isD=true then 1 else 0))=(newP x.f (12+j) inl x.al 0).kld (if x.isD=true then some (kidsOf (its++[it]) (12+j)) else none) (1+(if x.isD=true then 1+dirsOf (its++[it]) (12+j) else 0)) p.ck p.ed p.bu;rw[D0 m,D0 m,Hm,FV,D0 g,e4,e2];have e5:1+(1+dirsOf its (12+j))+(if it.isD=true then 1 else 0)=1+(1+(dirsOf its (12+j)+(if it.isD=true then 1 else 0))):=by omega
    rw[e5];generalize 1+(1+(dirsOf its (12+j)+(if it.isD=true then 1 else 0)))=L;generalize some (kidsOf its (12+j)++[(it.nm,12+its.length)])=K;exact J3 (fun z:PN=>z.kl K L) e3
   ·rw[v (11+j) (by omega) (by omega)];refine⟨p,t,l.trans ?_,d⟩;have k1:kidsOf (its++[it]) (12+j)=kidsOf its (12+j):=by rw[Hm,F0 g,X0]
    have k2:dirsOf (its++[it]) (12+j)=dirsOf its (12+j):=by rw[FV,F0 fun h=>g h.1,Z4]
    unfold itP;rw[k1,k2]
  ·have b:j=its.length:=by
    have:=(G0.1 n).1;rw[C0] at this;simp at this;omega
   subst b;rw[X1 (I0 _),D6,L4,M2] at n;subst n;refine⟨p',?_,hp,hh⟩;rw[G4,F0 (by omega),X1 (by omega),show 11+its.length-S.M.length=0 by omega];rfl
 ·show (((S.M++[some p']).set _ _).flatMap exO).Perm (blks (pos'/4096));have fs:∀ K L,((S.M++[some p']).set (it.dir-1) (some (q.kl K L))).flatMap exO=(S.M++[some p']).flatMap exO:=fun K L=>ADT (a:=some q) (by rw[Z1 ai];exact hq.at_) rfl;have ae:=fs (some (esOf its it.dir++[(it.nm,S.M.length+1)])) (q.ek+(if it.kd=16384 then 1 else 0));refine (show _=_ from ae) ▸ ?_;rw[W5,Y6,OF (a:=S.pos/4096) (by omega) (by omega)];show (S.M.flatMap exO++Rj p').Perm _;rw[aj];exact w.own.append_right _
def jl (a:BZ its){it:It}(hi:Ku its it){p:PN}{pos:Nat}(c:p = {newP it.f (12+its.length) inl it.al pos with ek:=(newP it.f (12+its.length) inl it.al pos).ek+1,ck:=p.ck,ed:=p.ed,bu:=p.bu}) :
  p=itP inl (its++[it]) its.length it p:=by
 have i:kidsOf (its++[it]) (12+its.length)=[]:=by
  have m:∀ e∈kidsOf (its++[it]) (12+its.length),False:=fun e g=>by
   obtain⟨j,x,e1,e2,_⟩:=FI.1 g;have:=((a.eu hi).d6 e1).1;have:=(G0.1 e1).1;rw[C0] at this;simp at this;omega
  cases d:kidsOf (its++[it]) (12+its.length) with
  | nil=>rfl
  | cons e l=>exact (m e (by rw[d];exact T0 ..)).elim
 have f:dirsOf (its++[it]) (12+its.length)=0:=by
  unfold dirsOf;rw[X4,List.filter_eq_nil_iff];intro x n;obtain⟨j,b,rfl⟩:=L6 n;have:=((a.eu hi).d6 (B0 b)).1;rw[C0] at b;simp at b;have:¬((its++[it])[j]).dir=12+its.length:=by omega
  simp[this]
 rw[c];unfold itP;rw[i,f];show ({newP it.f (12+its.length) inl it.al 0 with kids:=if it.kd=16384 then some [] else none,ek:=(if it.kd=16384 then 1 else 0)+1,ck:=p.ck,ed:=p.ed,bu:=p.bu}:PN) = {newP it.f (12+its.length) inl it.al 0 with kids:=if it.isD=true then some [] else none,ek:=1+(if it.isD=true then 1+0 else 0),ck:=p.ck,ed:=p.ed,bu:=p.bu};unfold It.isD;by_cases h:it.kd=16384
 ·simp[h]
 ·simp[h]
end
def Pe {α:Type}{l:List α}{i:Nat}{a:α}(h:l[i]? = some a):l.set i a=l:=by
 apply O4;intro j;rw[G4];by_cases b:i=j
 ·subst b;rw[D0 rfl,D0 (G0.1 h).1,h]
 ·rw[F0 b]
def p6 {n:Nat}{m:Bs}(h:m.length=n):setL (List.replicate n 0) 0 m=m:=by
 unfold setL;rw[K7,U2,h,C5 (by simp),X0]
def Sq {B:Bs}{p:Nat}(h:B.length=p):padB B p=B++List.replicate (upB p-p) 0:=by
 unfold padB;by_cases a:upB p=p
 ·rw[D0 a,a,D6,T8,X0]
 ·rw[F0 a,VG h]
section
variable {inl:Bool} {its:List It} {S:PS}
def lu {it:It}{S0:PS}(a:it.data=[]):Steps it.wrs S0 S0:=by
 unfold It.wrs;cases b:it.w with
 | false=>exact .nil
 | true=>rw[a];exact .cons (.write (.none rfl)) .nil
def AEs {it:It}{xs:AL}(w:Wr inl its S)(g:BZ its)(hi:Ku its it)(t:WA inl it)(hn:its.length<=5000)(d:S.pos+it.data.length+8192<=17179869184)(m:it.al.Perm (dedA xs)) :
  ∃ st q,DirAt S its it.dir q/\CrOK S it.path it.f xs it.al st it.nm it.dir q (esOf its it.dir):=by
 obtain⟨st,b,c⟩:=hi.way;obtain⟨q,f⟩:=AEt w g b;have o:=w.len;have p:=w.max;refine⟨st,q,f,w.cur,by omega,⟨⟨_,w.root⟩,hi.pl,c,hi.n2,AEo w g b,f.d1,f.at_,f.en⟩,f.kids,?_,by have:=f.ek;omega,by rw[w.inlS];exact t.file,?_,m⟩
 ·apply Ki;intro e u;rcases Eb.1 u with⟨i,l⟩|⟨j,x,i,l,s⟩
  ·rw[l];exact fun h=>hi.lost i h.symm
  ·rw[s];exact hi.new x (D1 i) l
 ·intro v;have n:=(of_decide_eq_true v).1;have a:=hi.dat;rw[F0 (by show ¬it.kd=32768;have:it.kd=40960:=n;omega),D0 n] at a;rw[a] at d;exact⟨w.al,w.B,by omega⟩
def Ut {it:It}{n pos:Nat}(h:lnkB it.f=false):(newP it.f n inl it.al pos).ed=LQ inl it.kd it.f.size/\(newP it.f n inl it.al pos).ck=LG inl it.kd it.f.size it.f.link/\(newP it.f n inl it.al pos).bu=0:=by
 have e:∀ {α:Type} (a b:α),(if lnkB it.f=true then a else b)=b:=fun a b=>by rw[h];exact F0 (by decide)
 exact⟨e _ _,e _ _,e _ _⟩
def AEr {it:It}{q P:PN}{len:Nat}(w:Wr inl its S)(i:BZ its)(hi:Ku its it)(hq:DirAt S its it.dir q)(hP:P=newP it.f (12+its.length) inl it.al S.pos)(t:S.pos+it.data.length+8192<=17179869184)(g:it.data≠[])(p:¬inlK inl it.kd it.f.size=true)(u:¬it.sl)(b:len=(it.data.length+4095)/4096) :
  Wr inl (its++[it]) {S with M:=(Dd S.M it.dir q P (esOf its it.dir) it.nm).set S.M.length (some {P with ek:=P.ek+1,ck:=extRoot len (S.pos/4096),ed:=786432,bu:=len}),B:=padB (putL S.B S.pos it.data) (S.pos+it.data.length),pos:=upB (S.pos+it.data.length)}:=by
 obtain⟨d1,d2,d3,d4⟩:=hi.d6;have ai:=w.len;have o:it.dir-1<S.M.length:=by omega
 have ao:=w.al;have ah:=w.big;have ar:=hi.big;have l:=w.B;have aj:0<it.data.length:=K6.2 g;have s:kindB P.en=it.kd:=by rw[hP];exact JN _
 rw[(HW o).2.2,s];obtain⟨a,d⟩:∃ n,S.pos+it.data.length=n:=⟨_,rfl⟩;rw[d];have ae:upB a=(S.pos/4096+(it.data.length+4095)/4096)*4096:=by
  subst d;show (S.pos+it.data.length+4095)/4096*4096=_;omega
 have c:(putL S.B S.pos it.data).length=a:=by
  rw[Li l,C0,Fg l,d]
 have m:padB (putL S.B S.pos it.data) a=bx S.B S.pos++(it.data++List.replicate (upB a-a) 0):=by
  rw[Sq c,Li l,P0]
 have j:a<=upB a/\upB a<=a+4095/\upB a%4096=0:=by unfold upB;omega
 have e:(padB (putL S.B S.pos it.data) a).length=upB a:=by
  rw[Sq c,C0,M0,c];omega
 have v:leL (extRoot len (S.pos/4096)) 20 4=S.pos/4096:=by
  obtain⟨x1,_⟩:=GS (len:=len) (st:=S.pos/4096) (by omega) (by omega);have:=x1.st;rw[Hp (by omega),Ho] at this;exact this
 have f:bx (padB (putL S.B S.pos it.data) a) (upB a)=bx S.B S.pos++(it.data++List.replicate (upB a-a) 0):=by
  rw[su e,m]
 refine AEu (p':={P with ek:=P.ek+1,ck:=extRoot len (S.pos/4096),ed:=786432,bu:=len}) (Y:=it.data++List.replicate (upB a-a) 0) w i hi hq (jl i hi (pos:=S.pos) (by rw[hP])) ⟨?_⟩ (by omega) (by omega) j.2.2 f ?_
 ·rw[F0 p,F0 (fun h=>h.elim g u)];refine⟨S.pos/4096,rfl,rfl,b,by omega,by show (S.pos/4096+len)*4096<=upB a;rw[ae,b];exact I0 _,?_⟩;rw[f];exact FZ (by rw[Fg l];omega) rfl
 ·unfold Rj;rw[D0 rfl];show (List.range len).map (leL (extRoot len (S.pos/4096)) 20 4 + ·)=_;rw[v];congr 2;omega
def AEv {it:It}{q:PN}(w:Wr inl its S)(aj:BZ its)(hi:Ku its it)(hq:DirAt S its it.dir q)(ah:S.pos+it.data.length+8192<=17179869184) :
  ∃ S',(∃ Sy,Steps it.wrs (S.made it.dir q (esOf its it.dir) it.nm it.f it.al) Sy/\Fin Sy S')/\Wr inl (its++[it]) S'/\S'.pos<=S.pos+it.data.length+4095/\S'.db=S.db:=by
 obtain⟨d1,d2,d3,d4⟩:=hi.d6;have ch:=w.len;have bi:it.dir-1<S.M.length:=by omega
 have bq:=w.al;have ce:=w.big;have ci:=w.max;have au:S.M.length+1=12+its.length:=by omega
 have a:=hi.dat;have cp:=hi.big;obtain⟨P,hP⟩:∃ P,P=newP it.f (12+its.length) inl it.al S.pos:=⟨_,rfl⟩;have bg:newP it.f (S.M.length+1) S.inl it.al S.pos=P:=by rw[au,w.inlS,hP]
 have bt:kindB P.en=it.kd:=by rw[hP];exact JN _
 obtain⟨a1,a2,a3⟩:=HW (M:=S.M) (d:=it.dir) (q:=q) (p:=P) (p':={P with ek:=P.ek+1}) (es:=esOf its it.dir) (e:=it.nm) bi;have a3:=fun p'=>(HW (M:=S.M) (d:=it.dir) (q:=q) (p:=P) (p':=p') (es:=esOf its it.dir) (e:=it.nm) bi).2.2;have bj:lnkB it.f=false->P.ed=LQ inl it.kd it.f.size/\P.ck=LG inl it.kd it.f.size it.f.link/\P.bu=0:=fun h=>by rw[hP];exact Ut h
 have same:∀ p',Rj p'=[]->p' = {P with ek:=P.ek+1,ck:=p'.ck,ed:=p'.ed,bu:=p'.bu}->HoldI (bx S.B S.pos) S.pos it inl p' ->
   Wr inl (its++[it]) {S with M:=(Dd S.M it.dir q P (esOf its it.dir) it.nm).set S.M.length (some p')}:=by
  intro p' he hp hh;rw[a3 p'];have:=AEu (B':=S.B) (pos':=S.pos) (Y:=[]) w aj hi hq (jl aj hi (pos:=S.pos) (by rw[hP] at hp;exact hp)) hh w.B (I0 _) bq (X0 _).symm (by rw[D6,he];rfl);rw[bt];exact this
 by_cases o:it.kd=32768
 ·rw[D0 o] at a;have t:kindB (modeK it.f.en)=32768:=o;have b:lnkB it.f=false:=J0 fun h=>by have:=h.1;omega
  obtain⟨f1,f2,f3⟩:=bj b;have ae:S.made it.dir q (esOf its it.dir) it.nm it.f it.al = {S with M:=Dd S.M it.dir q P (esOf its it.dir) it.nm,cur:=some (12+its.length),dw:=0,dm:=it.f.size}:=by
   unfold PS.made PS.openF PS.ej;rw[D0 t,bg,au,b,F0 (by decide)]
  have ai:(Dd S.M it.dir q P (esOf its it.dir) it.nm)[12+its.length-1]? = some (some {P with ek:=P.ek+1}):=by
   rw[show 12+its.length-1=S.M.length by omega];exact a1
  rw[ae];by_cases g:it.data=[]
  ·have ar:it.f.size=0:=by rw[a,g];rfl
   refine⟨{S with M:=Dd S.M it.dir q P (esOf its it.dir) it.nm,cur:=none,dw:=0,dm:=0},⟨_,lu g,?_⟩,?_,by show S.pos<=_;omega,rfl⟩
   ·exact .small (c:=12+its.length) rfl (by omega) ai (by rw[ar]) (.inl (by rw[ar]))
   ·have u:=same {P with ek:=P.ek+1} ?_ rfl ⟨?_⟩
    ·rw[Pe a1] at u;obtain⟨b1,b2,b3,b4,b5,b6,b7,b8,b9,b10,j,l,b13⟩:=u;exact⟨rfl,b2,b3,b4,b5,b6,b7,b8,b9,b10,j,l,b13⟩
    ·unfold Rj;rw[F0];show ¬P.ed=786432;rw[f1];unfold LQ;split<;>decide
    ·show if inlK inl it.kd it.f.size=true then P.ed=268697600/\P.ck=it.data/\P.bu=0 else if it.data=[]\/it.sl then P.ed=262144/\P.ck=it.data/\P.bu=0 else _
     rw[f1,f2,f3];unfold LQ LG;by_cases m:inlK inl it.kd it.f.size=true
     ·rw[D0 m,D0 m,D0 m,ar];exact⟨rfl,g.symm,rfl⟩
     ·rw[F0 m,F0 m,F0 m,D0 (.inl g),F0 (by omega)];exact⟨rfl,g.symm,rfl⟩
  ·have hw:it.w=true:=(hi.wr g).2 o;have ay:0<it.data.length:=K6.2 g;have aw:it.wrs=[.write it.data]:=by unfold It.wrs;rw[hw];rfl
   by_cases m:inlK inl it.kd it.f.size=true
   ·have ar:it.f.size<=136:=by
     unfold inlK at m;simp only[W2,W4] at m;exact m.2
    have i:P.ed=268697600:=f1.trans (D0 m);have az:P.ck=List.replicate it.f.size 0:=f2.trans (D0 m);refine⟨{S with M:=(Dd S.M it.dir q P (esOf its it.dir) it.nm).set S.M.length (some {P with ek:=P.ek+1,ck:=it.data}),cur:=none,dw:=0,dm:=0},?_,?_,by show S.pos<=_;omega,rfl⟩
    ·refine⟨_,by rw[aw];exact .cons (.write (.inode (c:=12+its.length) rfl (by omega) ai ay i (by show 0+it.data.length<=it.f.size;omega) (by show it.f.size=P.ck.length;rw[az,M0]) (by show P.ck.length<=_;rw[az,M0];omega))) .nil,?_⟩;have e2:({S with M:=Dd S.M it.dir q P (esOf its it.dir) it.nm,cur:=some (12+its.length),dw:=0,dm:=it.f.size}:PS).inned (12+its.length) {P with ek:=P.ek+1} it.data
       = {S with M:=(Dd S.M it.dir q P (esOf its it.dir) it.nm).set S.M.length (some {P with ek:=P.ek+1,ck:=it.data}),cur:=some (12+its.length),dw:=it.data.length,dm:=it.f.size}:=by
      unfold PS.inned;rw[show 12+its.length-1=S.M.length by omega,U1];show ({S with M:=(Dd S.M it.dir q P (esOf its it.dir) it.nm).set S.M.length (some {P with ek:=_,ck:=setL P.ck 0 it.data}),cur:=_,dw:=_,dm:=_}:PS)=_;rw[az,p6 a.symm]
     rw[e2];refine .small (c:=12+its.length) (n:={P with ek:=P.ek+1,ck:=it.data}) rfl (by omega) ?_ (by show it.data.length=it.f.size;omega) (.inr i);rw[G4,D0 (by omega),D0 (by omega)]
    ·have u:=same {P with ek:=P.ek+1,ck:=it.data} ?_ rfl ⟨?_⟩
     ·obtain⟨b1,b2,b3,b4,b5,b6,b7,b8,b9,b10,j,l,b13⟩:=u;exact⟨rfl,b2,b3,b4,b5,b6,b7,b8,b9,b10,j,l,b13⟩
     ·unfold Rj;rw[F0];show ¬P.ed=786432;rw[i];decide
     ·rw[D0 m];exact⟨i,rfl,f3⟩
   ·have i:P.ed=262144:=f1.trans (F0 m);obtain⟨len,v⟩:∃ len,len=(it.data.length+4095)/4096:=⟨_,rfl⟩;have u:=AEr w aj hi hq hP ah g m (fun h=>by have:=h.1;omega) v;have cm:(putL S.B S.pos it.data).length=S.pos+it.data.length:=by
     rw[Li w.B,C0,Fg w.B]
    have bn:upB (S.pos+it.data.length)<=S.pos+it.data.length+4095:=by unfold upB;omega
    have bz:(upB (S.pos+it.data.length)-S.pos)/4096=len:=by rw[v];unfold upB;omega
    refine⟨{S with M:=(Dd S.M it.dir q P (esOf its it.dir) it.nm).set S.M.length (some {P with ek:=P.ek+1,ck:=extRoot len (S.pos/4096),ed:=786432,bu:=len}),B:=padB (putL S.B S.pos it.data) (S.pos+it.data.length),pos:=upB (S.pos+it.data.length),cur:=none,dw:=0,dm:=0},?_,?_,bn,rfl⟩
    ·refine⟨_,by rw[aw];exact .cons (.write (.disk (c:=12+its.length) rfl (by omega) ai ay i (by show 0+it.data.length<=it.f.size;omega) (by show it.f.size<_;omega) (by show S.pos+it.data.length<=S.max;omega))) .nil,?_⟩;have e2:({S with M:=Dd S.M it.dir q P (esOf its it.dir) it.nm,cur:=some (12+its.length),dw:=0,dm:=it.f.size}:PS).ez it.data
       = {S with M:=Dd S.M it.dir q P (esOf its it.dir) it.nm,B:=putL S.B S.pos it.data,pos:=S.pos+it.data.length,cur:=some (12+its.length),dw:=it.data.length,dm:=it.f.size}:=by
      unfold PS.ez;rw[U1]
     rw[e2];have f:=Fin.big (S:={S with M:=Dd S.M it.dir q P (esOf its it.dir) it.nm,B:=putL S.B S.pos it.data,pos:=S.pos+it.data.length,cur:=some (12+its.length),dw:=it.data.length,dm:=it.f.size}) (c:=12+its.length) rfl (by omega) ai (by show it.data.length=it.f.size;omega) (by show 1<=it.f.size;omega) i (by show it.data.length<=S.pos+it.data.length;omega) (by show (S.pos+it.data.length-it.data.length)%4096=0;omega) (by show (putL S.B S.pos it.data).length<=S.pos+it.data.length;omega) (by show it.data.length<=134000000;omega) (by show S.pos+it.data.length+4096<=S.max;omega) (by show P.bu<1000000;rw[f3];decide);have e3:({S with M:=Dd S.M it.dir q P (esOf its it.dir) it.nm,B:=putL S.B S.pos it.data,pos:=S.pos+it.data.length,cur:=some (12+its.length),dw:=it.data.length,dm:=it.f.size}:PS).shut (12+its.length) {P with ek:=P.ek+1}
       = {S with M:=(Dd S.M it.dir q P (esOf its it.dir) it.nm).set S.M.length (some {P with ek:=P.ek+1,ck:=extRoot len (S.pos/4096),ed:=786432,bu:=len}),B:=padB (putL S.B S.pos it.data) (S.pos+it.data.length),pos:=upB (S.pos+it.data.length),cur:=none,dw:=0,dm:=0}:=by
      unfold PS.shut PN.ext;have x1:S.pos+it.data.length-it.data.length=S.pos:=by omega
      have x3:P.ed ||| 524288=786432:=by rw[i];decide
      rw[show 12+its.length-1=S.M.length by omega];show ({S with M:=(Dd S.M it.dir q P (esOf its it.dir) it.nm).set S.M.length (some {P with ek:=_,ck:=extRoot ((upB (S.pos+it.data.length)-(S.pos+it.data.length-it.data.length))/4096) ((S.pos+it.data.length-it.data.length)/4096),ed:=P.ed ||| 524288,bu:=P.bu+(upB (S.pos+it.data.length)-(S.pos+it.data.length-it.data.length))/4096}),B:=_,pos:=_,cur:=_,dw:=_,dm:=_}:PS)=_;rw[x1,bz,x3,f3,U1]
     rw[<-e3];exact f
    ·obtain⟨b1,b2,b3,b4,b5,b6,b7,b8,b9,b10,j,l,b13⟩:=u;exact⟨rfl,b2,b3,b4,b5,b6,b7,b8,b9,b10,j,l,b13⟩
 ·rw[F0 o] at a;have t:¬kindB (modeK it.f.en)=32768:=o;have ao:inlK inl it.kd it.f.size=false:=by
   unfold inlK;have:(it.kd == 32768)=false:=by simpa using o
   rw[this];simp
  have bm:∀ S0,Steps it.wrs S0 S0:=fun S0=>by
   by_cases g:it.data=[]
   ·exact lu g
   ·have hw:it.w=false:=by
     cases hw:it.w with
     | false=>rfl
     | true=>exact absurd ((hi.wr g).1 hw) o
    unfold It.wrs;rw[hw];exact .nil
  by_cases b:lnkB it.f=true
  ·obtain⟨s,hl⟩:=of_decide_eq_true b;have s:it.kd=40960:=s;rw[D0 s] at a;have hN:Py it.f S.pos=(it.data.length+4095)/4096:=by
    unfold Py upB;rw[a];omega
   have ae:S.made it.dir q (esOf its it.dir) it.nm it.f it.al = {S with M:=Dd S.M it.dir q P (esOf its it.dir) it.nm,B:=padB (putL S.B S.pos it.data) (S.pos+it.data.length),pos:=upB (S.pos+it.data.length),dw:=0,dm:=0}:=by
    unfold PS.made PS.openF PS.ej;rw[F0 t,bg,D0 b,a]
   have u:=AEr w aj hi hq hP ah (fun h=>by rw[<-a,h] at hl;simp at hl) (by rw[ao];decide) (fun h=>by have:=h.2;rw[a] at this;omega) hN;have bp:{P with ek:=P.ek+1,ck:=extRoot (Py it.f S.pos) (S.pos/4096),ed:=786432,bu:=Py it.f S.pos} = {P with ek:=P.ek+1}:=by
    have g1:P.ed=786432:=by rw[hP];exact D0 b
    have g2:P.ck=extRoot (Py it.f S.pos) (S.pos/4096):=by rw[hP];exact D0 b
    have g3:P.bu=Py it.f S.pos:=by rw[hP];exact (D0 b).trans (U1 _)
    rw[<-g1,<-g2,<-g3]
   rw[bp,Pe a1] at u;rw[ae];obtain⟨b1,b2,b3,b4,b5,b6,b7,b8,b9,b10,j,l,b13⟩:=u;exact⟨_,⟨_,bm _,.none w.cur⟩,⟨b1,b2,b3,b4,b5,b6,b7,b8,b9,b10,j,l,b13⟩,by show upB _<=_;unfold upB;omega,rfl⟩
  ·have b:lnkB it.f=false:=by simpa using b
   obtain⟨f1,f2,f3⟩:=bj b;have ae:S.made it.dir q (esOf its it.dir) it.nm it.f it.al = {S with M:=Dd S.M it.dir q P (esOf its it.dir) it.nm}:=by
    unfold PS.made PS.openF PS.ej;rw[F0 t,bg,b,F0 (by decide)]
   have i:P.ed=262144:=by rw[f1];unfold LQ;rw[ao];rfl
   have bk:it.kd=40960->it.f.link.length<=59:=fun s=>by
    have:=of_decide_eq_false b;have s:kindB (modeK it.f.en)=40960:=s;omega
   have bh:(it.data=[]\/it.sl)/\P.ck=it.data:=by
    rw[f2];unfold LG;rw[ao,F0 (by decide)];by_cases s:it.kd=40960
    ·rw[D0 s] at a;rw[D0 ⟨s,bk s⟩];exact⟨.inr ⟨s,by rw[a];exact bk s⟩,a.symm⟩
    ·rw[F0 s] at a;rw[F0 fun h=>s h.1];exact⟨.inl a,a.symm⟩
   rw[ae];refine⟨_,⟨_,bm _,.none w.cur⟩,?_,by show S.pos<=_;omega,rfl⟩;have u:=same {P with ek:=P.ek+1} ?_ rfl ⟨?_⟩
   ·rw[Pe a1] at u;exact u
   ·unfold Rj;rw[F0];show ¬P.ed=786432;rw[i];decide
   ·rw[ao,F0 (by decide),D0 bh.1];exact⟨i,bh.2,f3⟩
def AHk {it:It}(w:Wr inl its S)(hio:BZ its)(hi:Ku its it)(hb:WA inl it)(hx:it.al.Perm (dedA it.xs))(hn:its.length<=5000)(hroom:S.pos+it.data.length+8192<=17179869184) :
  ∃ S',(∀ Sx,Fin Sx S->∃ Sy,Steps it.ops Sx Sy/\Fin Sy S')/\Wr inl (its++[it]) S'/\S'.pos<=S.pos+it.data.length+4095/\S'.db=S.db:=by
 obtain⟨st,q,hq,cr⟩:=AEs w hio hi hb hn hroom hx;obtain⟨S',⟨Sy,s1,f1⟩,r⟩:=AEv w hio hi hq hroom;exact⟨S',fun Sx fx=>⟨Sy,.cons (.create fx cr) s1,f1⟩,r⟩
end
theorem Steps.append:∀ {l m:List Op1} {S S1 S2:PS},Steps l S S1->Steps m S1 S2->Steps (l++m) S S2
 | _,_,_,_,_,.nil,h=>h
 | _,_,_,_,_,.cons h1 h2,h=>.cons h1 (h2.append h)
def jc:Ir Gi=1:=by decide
def Tf (inl:Bool)(db:Nat):S2 [] inl Gi db = {S1 [] inl Gi db with M:=Dd (M1 inl) 2 (rootP inl) (newP (dirF 16832) 11 inl [] 0) [] lostN}:=by
 unfold S2 PS.made PS.openF PS.ej;rw[F0 (by decide),Uy (GQ (.inl rfl)),GQ (.inl rfl),F0 (by decide)];rfl
def WC (inl:Bool)(db:Nat):(S2 [] inl Gi db).pos=8192:=by
 rw[Tf];show (1+Ir Gi)*4096=8192;rw[jc]
def Vo (inl:Bool)(db:Nat):Wr inl [] (S2 [] inl Gi db):=by
 have a:=Tf inl db;have k:kindB (newP (dirF 16832) 11 inl [] 0).en=16384:=by show kindB (CC 16832)=16384;decide
 have b:(S2 [] inl Gi db).M=none::some {rootP inl with kids:=some [(lostN,11)],ek:=3}::(List.replicate 8 none++[some {newP (dirF 16832) 11 inl [] 0 with ek:=2}]):=by
  rw[a];show (M1 inl++[some ((newP (dirF 16832) 11 inl [] 0).kl (newP (dirF 16832) 11 inl [] 0).kids ((if kindB (modeK 16832)=16384 then 1 else 0)+1))]).set 1 (some ((rootP inl).kl (some ([]++[(lostN,(M1 inl).length+1)])) (2+(if kindB (newP (dirF 16832) 11 inl [] 0).en=16384 then 1 else 0))))=_;rw[D0 k,D0 (by decide)];rfl
 have c:=WC inl db;have e:(S2 [] inl Gi db).B=[]:=by rw[a];rfl
 have d:(newP (dirF 16832) 11 inl [] 0).kids=some []:=by
  show (if kindB (modeK 16832)=16384 then some [] else none)=_;rw[D0 (by decide)]
 refine⟨by rw[a];rfl,by rw[a];rfl,by rw[a];rfl,by rw[a];exact jc,by rw[e,c];simp,by rw[c],by rw[c];omega,by rw[b];rfl,?_,?_,?_,fun j it h=>by simp at h,?_⟩
 ·intro i h;rw[b];rcases h with rfl|⟨f,g⟩
  ·rfl
  ·have:i=2\/i=3\/i=4\/i=5\/i=6\/i=7\/i=8\/i=9:=by omega
   rcases this with rfl|rfl|rfl|rfl|rfl|rfl|rfl|rfl<;>rfl
 ·rw[b];rfl
 ·rw[b];show some (some {newP (dirF 16832) 11 inl [] 0 with ek:=2})=some (some {newP (dirF 16832) 11 inl [] 0 with kids:=some [],ek:=2});rw[<-d]
 ·rw[b,c];have e1:exO (some {rootP inl with kids:=some [(lostN,11)],ek:=3})=[]:=by
   show (if (rootP inl).ed=786432 then _ else [])=[];rw[F0];show ¬(newP (dirF 16877) 2 inl [] 0).ed=_;rw[LJ (.inr rfl)];decide
  have e2:exO (some {newP (dirF 16832) 11 inl [] 0 with ek:=2})=[]:=by
   show (if (newP (dirF 16832) 11 inl [] 0).ed=786432 then _ else [])=[];rw[F0];rw[LJ (.inl rfl)];decide
  rw[M3,M3,e1,W5,Y6,e2];exact .refl _
def Ik (its:List It):Nat:=(its.map fun it=>it.data.length+4095).sum
def Yj {its:List It}{n:Nat}(h:n<its.length):Ik (its.take (n+1))=Ik (its.take n)+(its[n].data.length+4095):=by
 unfold Ik;rw[<-Q8 h,H2,G8];simp
def ADj (its:List It)(n:Nat):Ik (its.take n)<=Ik its:=by
 have:Ik its=Ik (its.take n)+Ik (its.drop n):=by
  unfold Ik;rw[<-G8,<-H2,B6]
 omega
section
variable {inl:Bool} {its:List It} {S0:PS}
theorem AEq (w:Wr inl [] S0)(l:S0.pos=8192)(b:BZ its)(c:∀ it∈its,WA inl it)(f:∀ it∈its,it.al.Perm (dedA it.xs))(p:its.length<=5000)(e:Ik its<=100000000):∀ n,n<=its.length ->
  ∃ Sy S',Steps ((its.take n).flatMap It.ops) S0 Sy/\Fin Sy S'/\Wr inl (its.take n) S'/\S'.pos<=8192+Ik (its.take n)/\S'.db=S0.db
 | 0,_=>⟨S0,S0,.nil,.none w.cur,w,by rw[l];omega,rfl⟩
 | n+1,hl=>by
  have a:n<its.length:=by omega
  obtain⟨Sy,S',s1,f1,u,p1,t⟩:=AEq w l b c f p e n (by omega);have d:BZ (its.take n):=fun j it g=>by
   have i:=(G0.1 g).1;rw[W1] at i;rw[I2,D0 (by omega)] at g;have:=b j it g;rw[T6,V2 (by omega)];exact this
  have hi:=b n _ (B0 a);have v:=Yj a;have q:=ADj its (n+1);have o:=hi.big;obtain⟨S2,k1,k2,k3,s⟩:=AHk u d hi (c _ (I7 a)) (f _ (I7 a)) (by rw[W1];omega) (by omega);obtain⟨m,s2,f2⟩:=k1 Sy f1;refine⟨m,S2,?_,f2,?_,by omega,s.trans t⟩
  ·rw[<-Q8 a,W5,Y6];exact s1.append s2
  ·rw[<-Q8 a];exact k2
end
end Go.Proofs.YtollddkkdgoonaaGreatDoor
