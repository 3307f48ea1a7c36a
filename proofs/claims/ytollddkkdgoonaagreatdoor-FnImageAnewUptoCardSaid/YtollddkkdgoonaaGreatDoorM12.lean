/- A step. No condition. -/
import Derived.Test.YtollddkkdgoonaaGreatDoorM11
namespace Go.Proofs.YtollddkkdgoonaaGreatDoor
open Go
set_option linter.unusedVariables false
set_option linter.unusedSimpArgs false
set_option linter.defProp false
set_option maxRecDepth 100000
variable {h:H} {k:Value->Prop} {kt Q:Kt} {x y z r:Res}
def dirB (its:List It)(k:Nat):Bool:=decide (k=2)||decide (k=11)||(decide (12<=k)&&(match its[k-12]? with|some it=>it.isD|none=>false))
def parOf (its:List It)(c:Nat):Nat:=if c<12 then 2 else match its[c-12]? with|some it=>it.dir|none=>2
def BB {its:List It}{k:Nat}:dirB its k=true↔k=2\/k=11\/∃ j it,its[j]? = some it/\it.isD=true/\k=12+j:=by
 unfold dirB;simp only[N7,W4,W2];constructor
 ·rintro ((h|h)|⟨c,a⟩)
  ·exact .inl h
  ·exact .inr (.inl h)
  ·cases b:its[k-12]? with
   | none=>rw[b] at a;cases a
   | some it=>rw[b] at a;exact .inr (.inr ⟨k-12,it,b,a,by omega⟩)
 ·rintro (h|h|⟨j,it,c,a,d⟩)
  ·exact .inl (.inl h)
  ·exact .inl (.inr h)
  ·refine .inr ⟨by omega,?_⟩;rw[show k-12=j by omega,c];exact a
def Kk {its:List It}{j:Nat}{it:It}(h:its[j]? = some it):parOf its (12+j)=it.dir:=by
 unfold parOf;rw[F0 (by omega),show 12+j-12=j by omega,h]
section
variable {its:List It}
def Lg (a:BZ its){c:Nat}(h:2<=c):2<=parOf its c/\parOf its c<=c:=by
 unfold parOf;split
 ·omega
 ·cases b:its[c-12]? with
  | none=>exact⟨I0 _,h⟩
  | some it=>
   have:=a.d6 b;show 2<=it.dir/\it.dir<=c;omega
def Ec (b:BZ its){c:Nat}{e:Bs×Nat}(g:e∈esOf its c):c<e.2/\parOf its e.2=c/\e.2<12+its.length/\11<=e.2/\2<=c:=by
 rcases Eb.1 g with⟨a,d⟩|⟨j,it,a,d,f⟩
 ·subst a d;exact⟨by decide,rfl,by show 11<_;omega,I0 _,I0 _⟩
 ·subst f;have:=b.d6 a;have:=(G0.1 a).1;rw[show (it.nm,12+j).2=12+j from rfl,Kk a];omega
def upN (its:List It):Nat->Nat->Nat
 | 0,k=>k
 | n+1,k=>parOf its (upN its n k)
theorem TH (n k:Nat):∀ d,upN its (n+d) k=upN its d (upN its n k)
 | 0=>rfl
 | d+1=>J3 (parOf its) (TH n k d)
theorem AEi (a:BZ its){k:Nat}(h:2<=k):∀ n,2<=upN its n k/\upN its n k<=k
 | 0=>⟨h,I0 _⟩
 | n+1=>by
  have b:=AEi a h n;have c:=Lg a b.1;exact⟨c.1,C6 c.2 b.2⟩
def AEj (g:BZ its){k a b c n m:Nat}(j:upN its n k=a)(f:upN its m k=b)(p:parOf its a=c)(o:c<b)(l:2<=c)(i:n<=m):a=b:=by
 obtain⟨d,rfl⟩:=Nat.exists_eq_add_of_le i;rw[TH,j] at f;cases d with
 | zero=>exact f
 | succ d=>
  rw[O8 d 1,TH] at f;have e:upN its 1 a=c:=p;rw[e] at f;have:=(AEi g l d).2;omega
def Vu (its:List It):Nat->Nat->List Nat
 | 0,_=>[]
 | f+1,c=>c::(esOf its c).flatMap fun e=>if dirB its e.2=true then Vu its f e.2 else []
theorem IR (a:BZ its):∀ (f c:Nat),2<=c->c<12+its.length->dirB its c=true->∀ k∈Vu its f c,(∃ n,upN its n k=c)/\c<=k/\k<12+its.length/\dirB its k=true
 | 0,_,_,_,_,k,h=>by cases h
 | f+1,c,h2,hlt,hd,k,h=>by
  rcases I1.1 h with d|d
  ·subst d;exact⟨⟨0,rfl⟩,I0 _,hlt,hd⟩
  ·obtain⟨e,i,b⟩:=Z6.1 d;obtain⟨a1,a2,a3,a4,a5⟩:=Ec a i;by_cases g:dirB its e.2=true
   ·rw[D0 g] at b;obtain⟨⟨n,b1⟩,b2,b3,b4⟩:=IR a f e.2 (by omega) a3 g k b;exact⟨⟨n+1,by rw[upN,b1];exact a2⟩,by omega,b3,b4⟩
   ·rw[F0 g] at b;cases b
theorem QR (d:BZ its):∀ (f c:Nat),2<=c->c<12+its.length->dirB its c=true->(Vu its f c).Nodup
 | 0,_,_,_,_=>.nil
 | f+1,c,h2,hlt,hd=>by
  rw[Vu,U4];constructor
  ·intro h;obtain⟨e,q,l⟩:=Z6.1 h;obtain⟨a1,a2,a3,a4,a5⟩:=Ec d q;by_cases g:dirB its e.2=true
   ·rw[D0 g] at l;have:=(IR d f e.2 (by omega) a3 g c l).2.1;omega
   ·rw[F0 g] at l;cases l
  ·unfold List.Nodup;rw[List.pairwise_flatMap];constructor
   ·intro e q;obtain⟨a1,a2,a3,a4,a5⟩:=Ec d q;by_cases g:dirB its e.2=true
    ·rw[D0 g];exact QR d f e.2 (by omega) a3 g
    ·rw[F0 g];exact .nil
   ·refine List.Pairwise.imp_of_mem ?_ (LN c);intro a b w g t x o y p s;subst s;obtain⟨a1,a2,a3,a4,a5⟩:=Ec d w;obtain⟨b1,b2,b3,b4,b5⟩:=Ec d g;by_cases i:dirB its a.2=true
    ·rw[D0 i] at o;by_cases j:dirB its b.2=true
     ·rw[D0 j] at p;obtain⟨n,v⟩:=(IR d f a.2 (by omega) a3 i x o).1;obtain⟨m,u⟩:=(IR d f b.2 (by omega) b3 j x p).1;rcases Nat.le_total n m with h|h
      ·have:=AEj d v u a2 b1 a5 h;omega
      ·have:=AEj d u v b2 a1 a5 h;omega
     ·rw[F0 j] at p;cases p
    ·rw[F0 i] at o;cases o
theorem OL (b:BZ its):∀ (f c d:Nat) (e:Bs×Nat),12+its.length<f+c->d∈Vu its f c->e∈esOf its d->dirB its e.2=true->e.2∈Vu its f c
 | 0,_,_,_,_,h,_,_=>by cases h
 | f+1,c,d,e,hf,h,he,hb=>by
  rcases I1.1 h with i|i
  ·subst i;refine U0 _ (Z6.2 ⟨e,he,?_⟩);rw[D0 hb];obtain⟨a1,a2,a3,a4,a5⟩:=Ec b he;cases f with
   | zero=>omega
   | succ f=>exact T0 ..
  ·obtain⟨x,j,g⟩:=Z6.1 i;obtain⟨a1,a2,a3,a4,a5⟩:=Ec b j;by_cases a:dirB its x.2=true
   ·rw[D0 a] at g;refine U0 _ (Z6.2 ⟨x,j,?_⟩);rw[D0 a];exact OL b f x.2 d e (by omega) g he hb
   ·rw[F0 a] at g;cases g
def AFP (a:BZ its){f:Nat}(q:12+its.length<f):∀ k,dirB its k=true->k∈Vu its f 2:=by
 intro k
 induction k using Nat.strongRecOn with
 | ind k ih=>
  intro c;rcases BB.1 c with h|h|⟨j,it,b,d,g⟩
  ·subst h;cases f with
   | zero=>omega
   | succ f=>exact T0 ..
  ·subst h;have d:2∈Vu its f 2:=by
    cases f with
    | zero=>omega
    | succ f=>exact T0 ..
   exact OL a f 2 2 (lostN,11) (by omega) d (Eb.2 (.inl ⟨rfl,rfl⟩)) c
  ·have n:=a.d6 b;have l:dirB its it.dir=true:=by
    obtain⟨st,o,_⟩:=(a j it b).way;rcases o.cases with⟨i,_⟩|⟨p,x,e1,e2,e⟩
    ·exact BB.2 (.inl i)
    ·have m:=(G0.1 e1).1;rw[W1] at m;rw[I2,D0 (by omega)] at e1;exact BB.2 (.inr (.inr ⟨p,x,e1,e2,e⟩))
   have:=ih it.dir (by omega) l;subst g;exact OL a f 2 it.dir (it.nm,12+j) (by omega) this (Eb.2 (.inr ⟨j,it,b,rfl,rfl⟩)) c
end
def Mv (its:List It)(c:Nat):List Bs:=(esOf its c).map (·.1)
def enD (M:List (Option PN))(its:List It)(c:Nat):List (Nat×Nat×Bs):=Dp M c (parOf its c) (esOf its c) (Mv its c)
def bsD (M:List (Option PN))(its:List It)(c:Nat):Bs:=Cc (enD M its c)
def dirN (p:PN)(st len:Nat):PN:={p with size:=len,ck:=extRoot (len/4096) st,ed:=786432,bu:=len/4096}
section
variable {inl:Bool} {its:List It} {S1 S:PS} {D:List Nat} {c:Nat}
def MI (a:BZ its)(M:List (Option PN))(c:Nat):enD M its c=(c,GF (modeAt M c),[46])::(parOf its c,GF (modeAt M (parOf its c)),[46,46])::(esOf its c).map fun e=>(e.2,GF (modeAt M e.2),e.1):=by
 unfold enD Dp Mv;rw[D5];congr 2;apply Q4;intro e b;show Hf M (esOf its c) e.1=_;unfold Hf;rw[Hr (EK a c) b];rfl
def tu (a:BZ its){e:Bs×Nat}(g:e∈esOf its c):1<=e.1.length/\e.1.length<256:=by
 rcases Eb.1 g with⟨b,d⟩|⟨j,it,b,d,f⟩
 ·subst d;decide
 ·subst f;have:=(a j it b).n1;have:=(a j it b).n2;show 1<=it.nm.length/\it.nm.length<256;omega
def tj (a:BZ its)(i:its.length<=5000)(d:2<=c)(g:c<12+its.length)(M:List (Option PN)):∀ e∈enD M its c,AFS e:=by
 rw[MI a];intro e f;have j:=Lg a d;rcases I1.1 f with h|h
 ·subst h;exact⟨by show 0<c;omega,by show c<_;omega,SW _,by show 0<1;omega,by show 1<256;omega⟩
 ·rcases I1.1 h with h|h
  ·subst h;exact⟨by show 0<parOf its c;omega,by show parOf its c<_;omega,SW _,by show 0<2;omega,by show 2<256;omega⟩
  ·obtain⟨x,b,rfl⟩:=V1.1 h;obtain⟨a1,a2,a3,a4,a5⟩:=Ec a b;obtain⟨n1,n2⟩:=tu a b;exact⟨by show 0<x.2;omega,by show x.2<_;omega,SW _,n1,n2⟩
def Zd (a:BZ its)(M:List (Option PN))(c:Nat):(enD M its c).length=(esOf its c).length+2:=by
 rw[MI a];simp
def NX (e:BZ its)(i:its.length<=5000)(f:2<=c)(g:c<12+its.length)(M:List (Option PN)):(bsD M its c).length%4096=0/\4096<=(bsD M its c).length/\(bsD M its c).length<=4096*((esOf its c).length+3):=by
 obtain⟨_,a,b,d⟩:=UH (tj e i f g M);rw[Zd e] at d;exact⟨a,b,d⟩
def Nu (w:Wr inl its S1){k:Nat}(h:k=2\/11<=k/\k<12+its.length):∃ p,S1.M[k-1]? = some (some p):=by
 rcases h with rfl|⟨c,d⟩
 ·exact⟨_,w.root⟩
 ·by_cases a:k=11
  ·subst a;exact⟨_,w.lf⟩
  ·obtain⟨p,b,_⟩:=w.node (k-12) _ (B0 (by omega));exact⟨p,by rw[show k-1=11+(k-12) by omega];exact b⟩
def lq (w:Wr inl its S1)(b:BZ its)(g:dirB its c=true):∃ q,DirAt S1 its c q/\q.bu=0:=by
 rcases BB.1 g with rfl|rfl|⟨j,it,e,f,rfl⟩
 ·refine⟨_,⟨w.root,IY inl,?_,?_,by omega,LJ (.inr rfl) inl 2⟩,rfl⟩
  ·unfold esOf;rfl
  ·have:=Hd its 2;show 3+dirsOf its 2<=_;omega
 ·refine⟨_,⟨w.lf,?_,?_,?_,by omega,LJ (.inl rfl) inl 11⟩,rfl⟩
  ·show kindB (CC 16832)=16384;decide
  ·show some (kidsOf its 11)=_;unfold esOf;rw[F0 (by omega),U2]
  ·have:=Hd its 11;show 2+dirsOf its 11<=_;omega
 ·obtain⟨p,i,a,hh⟩:=w.node j it e;have d:it.kd=16384:=of_decide_eq_true f;have hh:=hh.hold;rw[F0 (by unfold inlK;rw[d];simp),D0 (.inl ((b j it e).nodat d))] at hh;refine⟨p,⟨by rw[show 12+j-1=11+j by omega];exact i,?_,?_,?_,by omega,hh.1⟩,hh.2.2⟩
  ·rw[a];exact (JN _).trans d
  ·rw[a];show (if it.isD=true then some (kidsOf its (12+j)) else none)=_;rw[D0 f];unfold esOf;rw[F0 (by omega),U2]
  ·rw[a];show 1+(if it.isD=true then 1+dirsOf its (12+j) else 0)<=_;have:=Hd its (12+j);split<;>omega
structure NI (its:List It) (S1:PS) (D:List Nat) (S:PS):Prop where
 cur:S.cur=none
 same:S.inl=S1.inl/\S.max=S1.max/\S.gd=S1.gd/\S.db=S1.db
 Ble:S.B.length<=S.pos
 Beq:D≠[]->S.B.length=S.pos
 ext:∃ Y,bx S.B S.pos=bx S1.B S1.pos++Y
 al:S.pos%4096=0
 big:8192<=S.pos
 len:S.M.length=S1.M.length
 out:∀ k,k∉D->1<=k->S.M[k-1]? = S1.M[k-1]?
 in_:∀ k∈D,∃ q st,DirAt S1 its k q/\S.M[k-1]? = some (some (dirN q st (bsD S1.M its k).length))/\2<=st/\st*4096+(bsD S1.M its k).length<=S.pos/\((bx S.B S.pos).drop (st*4096)).take (bsD S1.M its k).length=bsD S1.M its k
 own:(S.M.flatMap exO).Perm (blks (S.pos/4096))
 posb:S.pos<=S1.pos+(D.map fun k=>(bsD S1.M its k).length).sum
def NI.en (a:NI its S1 D S)(k:Nat)(b:1<=k):modeAt S.M k=modeAt S1.M k:=by
 by_cases h:k∈D
 ·obtain⟨q,st,b1,b2,_⟩:=a.in_ k h;unfold modeAt;rw[b2,b1.at_];rfl
 ·unfold modeAt;rw[a.out k h b]
def NI.some_ (a:NI its S1 D S){k:Nat}(c:1<=k)(h:∃ p,S1.M[k-1]? = some (some p)):∃ p,S.M[k-1]? = some (some p):=by
 by_cases b:k∈D
 ·obtain⟨q,st,b1,b2,_⟩:=a.in_ k b;exact⟨_,b2⟩
 ·rw[a.out k b c];exact h
def NI.start (w:Wr inl its S1):NI its S1 [] S1:=
 ⟨w.cur,⟨rfl,rfl,rfl,rfl⟩,w.B,fun h=>absurd rfl h,⟨[],(X0 _).symm⟩,w.al,w.big,rfl,fun _ _ _=>rfl,fun _ h=>(by cases h),w.own,by simp⟩
def oz {M:List (Option PN)}{i:Nat}{a b:Option PN}(h:M[i]? = some a)(c:exO a=[]):((M.set i b).flatMap exO).Perm (M.flatMap exO++exO b):=by
 induction M generalizing i with
 | nil=>simp at h
 | cons o M d=>
  cases i with
  | zero=>
   rw[L4,M2] at h;subst h;rw[List.set_cons_zero,M3,M3,c,U2];exact List.perm_append_comm
  | succ i=>
   rw[Y4] at h;rw[List.set_cons_succ,M3,M3,P0];exact (d h).append_left _
def qy (w:Wr inl its S1)(d:BZ its)(hn:its.length<=5000)(a:NI its S1 D S)(hc:dirB its c=true)(aw:c∉D)(h2:2<=c)(bg:c<12+its.length)(bj:S.pos<=10000000000) :
  ∃ n np S',IH S c (parOf its c) n np (esOf its c) (Mv its c)/\Fin (S.dl c n (Cc (Dp S.M c (parOf its c) (esOf its c) (Mv its c)))) S'/\NI its S1 (D++[c]) S':=by
 obtain⟨q,t,ce⟩:=lq w d hc;have m:S.M[c-1]? = some (some q):=by rw[a.out c aw (by omega)];exact t.at_
 have bn:=Lg d h2;have aj:S.max=17179869184:=by rw[a.same.2.1];exact w.max
 have bz:=LO its c;have bi:∃ np,S.M[parOf its c-1]? = some (some np):=by
  refine a.some_ (by omega) (Nu w ?_);rcases BB.1 hc with rfl|rfl|⟨j,it,i,bp,rfl⟩
  ·exact .inl rfl
  ·exact .inl rfl
  ·rw[Kk i];have:=d.d6 i;have:=(G0.1 i).1;omega
 obtain⟨np,bh⟩:=bi;have v:Dp S.M c (parOf its c) (esOf its c) (Mv its c)=enD S1.M its c:=by
  show enD S.M its c=enD S1.M its c;rw[MI d,MI d,a.en c (by omega),a.en (parOf its c) (by omega)];congr 2;apply Q4;intro e p;obtain⟨a1,a2,a3,a4,a5⟩:=Ec d p;rw[a.en e.2 (by omega)]
 rw[v];obtain⟨l1,l2,l3⟩:=NX d hn h2 bg S1.M;show ∃ n np S',IH S c (parOf its c) n np (esOf its c) (Mv its c)/\Fin (S.dl c n (bsD S1.M its c)) S'/\NI its S1 (D++[c]) S';have g:∃ bs,bsD S1.M its c=bs:=⟨_,rfl⟩;obtain⟨bs,g⟩:=g;rw[g] at l1 l2 l3 ⊢;have bq:=a.al;have bm:=a.big;have bt:bs.length<=30000000:=by omega
 have ar:IH S c (parOf its c) q np (esOf its c) (Mv its c):=by
  refine⟨a.cur,by omega,m,t.kids,?_,fun e p=>tu d p,by omega,bh,t.fl,a.Ble,by rw[aj];omega,by omega,?_,?_⟩
  ·intro e p;obtain⟨a1,a2,a3,a4,a5⟩:=Ec d p;exact⟨by omega,a.some_ (by omega) (Nu w (by omega))⟩
  ·exact AHa (EK d c) (LN c)
  ·intro x hx;obtain⟨e,p,rfl⟩:=V1.1 hx;exact⟨e.2,Hr (EK d c) p⟩
 have au:(putL S.B S.pos bs).length=S.pos+bs.length:=by rw[Li a.Ble,C0,Fg a.Ble]
 have ao:upB (S.pos+bs.length)=S.pos+bs.length:=by unfold upB;omega
 have u:c-1<S.M.length:=(G0.1 m).1
 let S':PS:={S with M:=S.M.set (c-1) (some (dirN q (S.pos/4096) bs.length)),B:=bx S.B S.pos++bs,pos:=S.pos+bs.length,cur:=none,dw:=0,dm:=0}
 have ah:Fin (S.dl c q bs) S':=by
  have e1:S.dl c q bs = {S with M:=S.M.set (c-1) (some {q with size:=bs.length}),B:=putL S.B S.pos bs,pos:=S.pos+bs.length,cur:=some c,dw:=bs.length,dm:=bs.length}:=by
   unfold PS.dl PS.dz PS.ez;rw[U1]
  have ai:(S.M.set (c-1) (some {q with size:=bs.length}))[c-1]? = some (some {q with size:=bs.length}):=by
   rw[G4,D0 rfl,D0 u]
  rw[e1];have f:=Fin.big (S:={S with M:=S.M.set (c-1) (some {q with size:=bs.length}),B:=putL S.B S.pos bs,pos:=S.pos+bs.length,cur:=some c,dw:=bs.length,dm:=bs.length}) (c:=c) rfl (by omega) ai rfl (by show 1<=bs.length;omega) t.fl (by show bs.length<=S.pos+bs.length;omega) (by show (S.pos+bs.length-bs.length)%4096=0;omega) (by show (putL S.B S.pos bs).length<=S.pos+bs.length;omega) (by show bs.length<=_;omega) (by show S.pos+bs.length+4096<=S.max;omega) (by show q.bu<_;omega);have e3:({S with M:=S.M.set (c-1) (some {q with size:=bs.length}),B:=putL S.B S.pos bs,pos:=S.pos+bs.length,cur:=some c,dw:=bs.length,dm:=bs.length}:PS).shut c {q with size:=bs.length}=S':=by
   unfold PS.shut PN.ext;have x1:S.pos+bs.length-bs.length=S.pos:=by omega
   have x2:(S.pos+bs.length-S.pos)/4096=bs.length/4096:=by congr 1;omega
   have x3:q.ed ||| 524288=786432:=by rw[t.fl];decide
   have x4:q.bu+bs.length/4096=bs.length/4096:=by omega
   show ({S with M:=(S.M.set (c-1) (some {q with size:=bs.length})).set (c-1) (some {q with size:=bs.length,ck:=extRoot ((upB (S.pos+bs.length)-(S.pos+bs.length-bs.length))/4096) ((S.pos+bs.length-bs.length)/4096),ed:=q.ed ||| 524288,bu:=q.bu+(upB (S.pos+bs.length)-(S.pos+bs.length-bs.length))/4096}),B:=padB (putL S.B S.pos bs) (S.pos+bs.length),pos:=upB (S.pos+bs.length),cur:=_,dw:=_,dm:=_}:PS)=_;rw[ao,x1,x2,x3,x4,List.set_set,Sq au,ao,D6,T8,X0,Li a.Ble];rfl
  rw[<-e3];exact f
 refine⟨q,np,S',ar,ah,?_⟩;have l:(bx S.B S.pos++bs).length=S.pos+bs.length:=by rw[C0,Fg a.Ble]
 have o:bx S'.B S'.pos=bx S.B S.pos++bs:=su l;have g1:∀ k,k≠c->1<=k->S'.M[k-1]? = S.M[k-1]?:=fun k hk i=>by
  show (S.M.set (c-1) _)[k-1]? = _;rw[G4,F0 (by omega)]
 have g2:S'.M[c-1]? = some (some (dirN q (S.pos/4096) bs.length)):=by
  show (S.M.set (c-1) _)[c-1]? = _;rw[G4,D0 rfl,D0 u]
 refine⟨rfl,a.same,by show (bx S.B S.pos++bs).length<=S.pos+bs.length;omega,fun _=>l,?_,by show (S.pos+bs.length)%4096=0;omega,by show 8192<=S.pos+bs.length;omega,by show (S.M.set _ _).length=_;rw[O5];exact a.len,?_,?_,?_,?_⟩
 ·obtain⟨Y,hY⟩:=a.ext;exact⟨Y++bs,by rw[o,hY,P0]⟩
 ·intro k hk i;rw[g1 k (fun e=>hk (by simp[e])) i];exact a.out k (fun h=>hk (X5 _ h)) i
 ·intro k hk;by_cases s:k=c
  ·subst s;rw[g];refine⟨q,S.pos/4096,t,g2,by omega,by show _<=S.pos+bs.length;omega,?_⟩;rw[o];have:=FZ (A:=bx S.B S.pos) (X:=bs) (R:=[]) (a:=S.pos/4096*4096) (n:=bs.length) (by rw[Fg a.Ble];omega) rfl;rw[X0] at this;exact this
  ·have az:k∈D:=by
    rcases N4.1 hk with h|h
    ·exact h
    ·exact absurd (H4.1 h) s
   obtain⟨q',st,b1,b2,b3,b4,b5⟩:=a.in_ k az;have i:1<=k:=b1.d1;refine⟨q',st,b1,(g1 k s i).trans b2,b3,by show _<=S.pos+bs.length;omega,?_⟩;have hl:(bx S.B S.pos).length=S.pos:=Fg a.Ble;rw[o,I4 (by omega),L2 (by rw[J2];omega)];exact b5
 ·show ((S.M.set (c-1) _).flatMap exO).Perm (blks ((S.pos+bs.length)/4096));have ay:exO (some q)=[]:=by
   show Rj q=[];unfold Rj;rw[F0];rw[t.fl];decide
  have bk:leL (extRoot (bs.length/4096) (S.pos/4096)) 20 4=S.pos/4096:=by
   obtain⟨x1,_⟩:=GS (len:=bs.length/4096) (st:=S.pos/4096) (by omega) (by omega);have:=x1.st;rw[Hp (by omega),Ho] at this;exact this
  have ae:exO (some (dirN q (S.pos/4096) bs.length))=(List.range ((S.pos+bs.length)/4096-S.pos/4096)).map (S.pos/4096 + ·):=by
   show Rj _=_;unfold Rj;rw[D0 (show (dirN q (S.pos/4096) bs.length).ed=786432 from rfl)];show (List.range (bs.length/4096)).map (leL (extRoot (bs.length/4096) (S.pos/4096)) 20 4 + ·)=_;rw[bk];congr 2;omega
  refine (oz m ay).trans ?_;rw[ae,OF (a:=S.pos/4096) (b:=(S.pos+bs.length)/4096) (by omega) (by omega)];exact a.own.append_right _
 ·show S.pos+bs.length<=_;have:=a.posb;rw[H2,G8];simp only[Q1,P8,F6,List.sum_nil,g];omega
end
def US {S0 S:PS}(f:Fin S0 S){i:Nat}{p:PN}(h:S.M[i]? = some (some p)):∃ a,S0.M[i]? = some (some a)/\a.kids=p.kids/\a.en=p.en:=by
 cases f with
 | none _=>exact⟨p,h,rfl,rfl⟩
 | small _ _ _ _ _=>exact⟨p,h,rfl,rfl⟩
 | big h1 h2 h3 h4 h5 h6 h7 h8 h9 h10 h11 h12=>
  rename_i c n;have h:(S0.M.set (c-1) (some (n.ext S0.pos S0.dw)))[i]? = some (some p):=h;rw[G4] at h;by_cases b:c-1=i
  ·subst b;rw[D0 rfl,D0 (G0.1 h3).1] at h;have:=V0 (V0 h);subst this;exact⟨n,h3,rfl,rfl⟩
  ·rw[F0 b] at h;exact⟨p,h,rfl,rfl⟩
section
variable {inl:Bool} {its:List It} {S1 S:PS} {D:List Nat} {c:Nat}
def Uk (w:Wr inl its S1){k:Nat}{p:PN}(f:k=2\/11<=k/\k<12+its.length)(a:S1.M[k-1]? = some (some p)):kindB p.en=16384↔dirB its k=true:=by
 rcases f with rfl|⟨m,n⟩
 ·have:=V0 (V0 (a.symm.trans w.root));subst this;exact⟨fun _=>BB.2 (.inl rfl),fun _=>IY inl⟩
 ·by_cases d:k=11
  ·subst d;have:=V0 (V0 (a.symm.trans w.lf));subst this;exact⟨fun _=>BB.2 (.inr (.inl rfl)),fun _=>by show kindB (CC 16832)=16384;decide⟩
  ·obtain⟨j,rfl⟩:∃ j,k=12+j:=⟨k-12,by omega⟩;have b:its[j]? = some its[j]:=B0 (by omega);obtain⟨p',c,e,_⟩:=w.node j _ b;rw[show 12+j-1=11+j by omega] at a;have:=V0 (V0 (a.symm.trans c));subst this;have g:kindB p.en=its[j].kd:=by rw[e];exact JN _
   rw[g,BB];constructor
   ·intro h;exact .inr (.inr ⟨j,_,b,H0 h,rfl⟩)
   ·rintro (h|h|⟨i,x,e1,e2,l⟩)
    ·omega
    ·omega
    ·have:i=j:=by omega
     subst this;rw[b] at e1;rw[V0 e1];exact of_decide_eq_true e2
def NI.kids (a:NI its S1 D S)(w:Wr inl its S1)(b:BZ its)(e:dirB its c=true):∃ p,S.M[c-1]? = some (some p)/\p.kids=some (esOf its c):=by
 by_cases h:c∈D
 ·obtain⟨q,st,b1,b2,_⟩:=a.in_ c h;exact⟨_,b2,b1.kids⟩
 ·obtain⟨q,d,_⟩:=lq w b e;exact⟨q,by rw[a.out c h d.d1];exact d.at_,d.kids⟩
def AH5 (its:List It)(S1:PS)(f:Nat):Prop:=∀ (c:Nat) (D:List Nat) (S0 S:PS),Fin S0 S->NI its S1 D S->12+its.length<f+c->dirB its c=true->2<=c->c<12+its.length->(D++Vu its f c).Nodup->(∀ k∈D,dirB its k=true/\2<=k/\k<12+its.length)->
  ∃ S' S'',RecD f S0 c (parOf its c) S'/\Fin S' S''/\NI its S1 (D++Vu its f c) S''
theorem PT (w:Wr inl its S1)(b:BZ its){f:Nat}(ih:AH5 its S1 f)(hf:12+its.length<f+1+c)(hc:dirB its c=true)(h2:2<=c)(u:c<12+its.length) :
  ∀ (l:List (Bs×Nat)) (D:List Nat) (S0 S:PS),(∀ e∈l,e∈esOf its c)->Fin S0 S->NI its S1 D S->(D++l.flatMap fun e=>if dirB its e.2=true then Vu its f e.2 else []).Nodup->(∀ k∈D,dirB its k=true/\2<=k/\k<12+its.length)->
   ∃ S' s,my (RecD f) c (esOf its c) S0 (l.map (·.1)) S'/\Fin S' s/\NI its S1 (D++l.flatMap fun e=>if dirB its e.2=true then Vu its f e.2 else []) s
 | [],D,S0,S,_,hfin,a,_,_=>⟨S0,S,rfl,hfin,by rw[List.flatMap_nil,X0];exact a⟩
 | e::l,D,S0,S,hl,hfin,a,hnd,hD=>by
  have he:=hl e (T0 ..);obtain⟨a1,a2,a3,a4,a5⟩:=Ec b he;obtain⟨p,hp,ah⟩:=a.kids w b hc;obtain⟨n,hn,v,_⟩:=US hfin hp;obtain⟨p1,o⟩:=Nu w (k:=e.2) (.inr ⟨a4,a3⟩);obtain⟨pk,j⟩:=a.some_ (k:=e.2) (by omega) ⟨p1,o⟩;obtain⟨nk,i,_,ae⟩:=US hfin j;have g:nk.en=p1.en:=by
   have:=a.en e.2 (by omega);unfold modeAt at this;rw[j,o] at this;exact ae.trans this
  have t:=Uk w (k:=e.2) (.inr ⟨a4,a3⟩) o;have d:=Hr (EK b c) he;rw[M3] at hnd ⊢;by_cases q:dirB its e.2=true
  ·rw[D0 q] at hnd ⊢;rw[<-P0] at hnd ⊢;obtain⟨T1,T2,r1,f1,ai⟩:=ih e.2 D S0 S hfin a (by omega) q (by omega) a3 (S4.1 hnd).1 hD;rw[a2] at r1;have aj:∀ k∈D++Vu its f e.2,dirB its k=true/\2<=k/\k<12+its.length:=fun k hk=>by
    rcases N4.1 hk with h|h
    ·exact hD k h
    ·obtain⟨_,b2,b3,b4⟩:=IR b f e.2 (by omega) a3 q k h;exact⟨b4,by omega,b3⟩
   obtain⟨T3,T4,r2,f2,m⟩:=PT w b ih hf hc h2 u l (D++Vu its f e.2) T1 T2 (fun x hx=>hl x (U0 _ hx)) f1 ai hnd aj;refine⟨T3,T4,⟨n,e.2,nk,hn,v.trans ah,d,by omega,i,?_⟩,f2,m⟩;rw[D0 (by rw[g];exact t.2 q)];exact⟨T1,r1,r2⟩
  ·rw[F0 q,U2] at hnd ⊢;obtain⟨T3,T4,r2,f2,m⟩:=PT w b ih hf hc h2 u l D S0 S (fun x hx=>hl x (U0 _ hx)) hfin a hnd hD;refine⟨T3,T4,⟨n,e.2,nk,hn,v.trans ah,d,by omega,i,?_⟩,f2,m⟩;rw[F0 (by rw[g];exact fun h=>q (t.1 h))];exact r2
theorem j5 (w:Wr inl its S1)(i:BZ its)(v:its.length<=5000)(t:∀ (D:List Nat) (S:PS),NI its S1 D S->D.Nodup->(∀ k∈D,dirB its k=true/\2<=k/\k<12+its.length)->S.pos<=10000000000):∀ f,AH5 its S1 f
 | 0=>fun c D S0 S _ _ u _ _ b=>by omega
 | f+1=>fun c D S0 S j a u p m b d s=>by
  rw[Vu] at d ⊢;have e1:∀ X:List Nat,D++c::X=(D++[c])++X:=fun X=>by simp
  rw[e1] at d ⊢;have g:(D++[c]).Nodup:=(S4.1 d).1;have q:c∉D:=fun h=>(S4.1 g).2.2 c h c (by simp) rfl;have o:∀ k∈D++[c],dirB its k=true/\2<=k/\k<12+its.length:=fun k hk=>by
   rcases N4.1 hk with h|h
   ·exact s k h
   ·rw[H4.1 h];exact⟨p,m,b⟩
  obtain⟨n,np,T,l,f1,a1⟩:=qy w i v a p q m b (t D S a (S4.1 g).1 s);obtain⟨T1,T2,r,f2,a2⟩:=PT w i (j5 w i v t f) u p m b (esOf its c) (D++[c]) _ T (fun e he=>he) f1 a1 d o;exact⟨T1,T2,⟨S,n,np,esOf its c,Mv its c,j,l,r⟩,f2,a2⟩
end
theorem AOR:∀ D:List Nat,(D.map fun _=>0).sum=0
 | []=>rfl
 | _::D=>by rw[Q1,F6,AOR D]
theorem Sa (x:Nat):∀ D:List Nat,D.Nodup->(D.map fun c=>if x=c then 1 else 0).sum<=1
 | [],_=>by simp
 | a::D,h=>by
  rw[U4] at h;rw[Q1,F6];by_cases b:x=a
  ·have:(D.map fun c=>if x=c then 1 else 0)=D.map fun _=>0:=by
    apply Q4;intro c d;rw[F0];intro e;exact h.1 (by rw[<-b,e];exact d)
   rw[D0 b,this,AOR];exact I0 _
  ·rw[F0 b,U1];exact Sa x D h.2
theorem Uh (D:List Nat)(b:D.Nodup):∀ (l:List It) (k:Nat),(D.map fun c=>(DZ c k l).length).sum<=l.length
 | [],k=>by
  have:(D.map fun c=>(DZ c k []).length)=D.map fun _=>0:=by apply Q4;intro c _;rfl
  rw[this,AOR];exact Q2 _
 | a::l,k=>by
  have e:(D.map fun c=>(DZ c k (a::l)).length).sum=(D.map fun c=>if a.dir=c then 1 else 0).sum+(D.map fun c=>(DZ c (k+1) l).length).sum:=by
   clear b
   induction D with
   | nil=>rfl
   | cons c D d=>
    rw[Q1,F6,d,Q1,F6,Q1,F6,DZ];split
    ·rw[J1];omega
    ·omega
  have f:=Sa a.dir D b;have g:=Uh D b l (k+1);rw[e,J1];omega
section
variable {inl:Bool} {its:List It} {S1 S:PS} {D:List Nat} {c:Nat}
def tw (D:List Nat)(a:D.Nodup):(D.map fun c=>(esOf its c).length).sum<=its.length+1:=by
 have e:(D.map fun c=>(esOf its c).length).sum=(D.map fun c=>if 2=c then 1 else 0).sum+(D.map fun c=>(DZ c 12 its).length).sum:=by
  clear a
  induction D with
  | nil=>rfl
  | cons c D b=>
   rw[Q1,F6,b,Q1,F6,Q1,F6];unfold esOf kidsOf;rw[C0];by_cases h:c=2
   ·subst h;rw[D0 rfl,D0 rfl,U3];omega
   ·rw[F0 h,F0 fun e=>h e.symm,C4];omega
 have d:=Sa 2 D a;have f:=Uh D a its 12;omega
def ALH (e:BZ its)(m:its.length<=5000)(D:List Nat)(b:D.Nodup)(d:∀ k∈D,dirB its k=true/\2<=k/\k<12+its.length)(M:List (Option PN)):(D.map fun k=>(bsD M its k).length).sum<=4096*(4*its.length+40):=by
 have j:=tw (its:=its) D b;have l:D.length<=12+its.length:=by
  have:=jm (V:=List.range (12+its.length)) b fun k f=>H6.2 (d k f).2.2;rw[List.length_range] at this;exact this
 have o:(D.map fun k=>(bsD M its k).length).sum<=4096*((D.map fun c=>(esOf its c).length).sum+3*D.length):=by
  clear j l b
  induction D with
  | nil=>simp
  | cons a D n=>
   have:=n fun k f=>d k (U0 _ f);obtain⟨d1,g,i⟩:=d a (T0 ..);have:=(NX e m g i M).2.2;rw[Q1,F6,Q1,F6,J1];omega
 omega
def Sd {t:Tm}(h:t.ok):t.laid<18446744073709551616/\t.laid/4294967296<4000000000:=by
 unfold Tm.laid Pk;split
 ·rename_i c;obtain⟨d,f,g,j⟩:=h c;split
  ·omega
  ·have e:t.ns.toNat*17179869184%18446744073709551616=t.ns.toNat*17179869184:=C2 (by omega);have o:=orp (a:=t.sec.toNat) (b:=t.ns.toNat) (i:=34) (by omega);simp only[Nat.reducePow] at o;rw[e,o];omega
 ·omega
structure FinN (p:PN):Prop where
 b:PNb p
 ok:PNok p
 x:xOK p
 d:p.ck.length<1000000
def AHo {f:FL}{al:AL}(h:FilOK f inl al):(TM inl (kindB (modeK f.en)) f.size al).length<=104/\(inlK inl (kindB (modeK f.en)) f.size=true->(TM inl (kindB (modeK f.en)) f.size al).length=104):=by
 refine⟨Vq h.fit,fun a=>(MA h.fit ?_).1⟩;unfold sdA;rw[D0 a];simp
def i5 {f:FL}{n:Nat}{al:AL}(a:FilOK f inl al)(e:f.uid<4294967296/\f.gid<4294967296/\f.d7<4294967296/\f.d8<4294967296){size ek bu ed:Nat}{d:Bs}{ks:Option (List (Bs×Nat))}(l:size<4294967296)(i:ek<65536)(b:bu<4294967296)(c:ed<4294967296)(g:d.length<=136)(m:60<d.length->inlK inl (kindB (modeK f.en)) f.size=true) :
  FinN {newP f n inl al 0 with size:=size,ek:=ek,bu:=bu,ed:=ed,ck:=d,kids:=ks}:=by
 obtain⟨b1,b2,b3,b4⟩:=e;have t1:=Sd a.at_;have t2:=Sd a.ct;have t3:=Sd a.mt;have t4:=Sd a.cr;have j:=(Dj a.en).2.1;obtain⟨x1,x2⟩:=AHo a;exact⟨⟨j,b1,b2,l,t1.1,t2.1,t3.1,t4.1,i,b,c,rfl,t1.2,t2.2,t3.2,t4.2⟩,⟨b1,b2,by show size<_;omega,x1,b3,b4⟩,fun _ h=>⟨x2 (m h),g⟩,by show d.length<_;omega⟩
def alOf (its:List It)(c:Nat):AL:=if c<12 then [] else match its[c-12]? with|some it=>it.al|none=>[]
def MF {j:Nat}{it:It}(h:its[j]? = some it):alOf its (12+j)=it.al:=by
 unfold alOf;rw[F0 (by omega),show 12+j-12=j by omega,h]
def ZR (a:∀ it∈its,WA inl it)(c:Nat):TZ (alOf its c):=by
 unfold alOf;have b:TZ []:=⟨Q2 _,.nil,fun _ h=>by cases h⟩;split
 ·exact b
 ·split
  ·rename_i it d;have h:=a it (D1 d);exact h.file.al h.ew
  ·exact b
def AHj (w:Wr inl its S1)(e:∀ it∈its,WA inl it)(l:dirB its c=true){q:PN}(o:DirAt S1 its c q):∃ f n,q = {newP f n inl (alOf its c) 0 with ek:=q.ek,kids:=q.kids,ck:=q.ck,ed:=q.ed,bu:=q.bu}/\FilOK f inl (alOf its c)/\(f.uid<4294967296/\f.gid<4294967296/\f.d7<4294967296/\f.d8<4294967296)/\kindB (modeK f.en)=16384:=by
 have a:=o.at_;rcases BB.1 l with rfl|rfl|⟨j,it,d,i,rfl⟩
 ·have:=V0 (V0 (a.symm.trans w.root));subst this;exact⟨dirF 16877,2,rfl,LI (.inr rfl),by decide,by decide⟩
 ·have:=V0 (V0 (a.symm.trans w.lf));subst this;exact⟨dirF 16832,11,rfl,LI (.inl rfl),by decide,by decide⟩
 ·obtain⟨p,m,g,_⟩:=w.node j it d;rw[show 12+j-1=11+j by omega] at a;have:=V0 (V0 (a.symm.trans m));subst this;have b:=e it (D1 d);rw[MF d];refine⟨it.f,12+j,?_,b.file,⟨b.uid,b.gid,b.maj,b.min⟩,of_decide_eq_true i⟩;exact g.trans (by rw[g];rfl)
structure ARd (inl:Bool) (its:List It) (S1 S:PS) (c:Nat) (p:PN):Prop where
 at_:S.M[c-1]? = some (some p)
 fin:FinN p
 en:p.en=modeAt S1.M c
 dir:dirB its c=true->∃ st q,DirAt S1 its c q/\p=dirN q st (bsD S1.M its c).length/\2<=st/\st*4096+(bsD S1.M its c).length<=S.pos/\((bx S.B S.pos).drop (st*4096)).take (bsD S1.M its c).length=bsD S1.M its c/\p.fe=xinA (alOf its c)
 item:∀ j it,c=12+j->its[j]? = some it->it.isD=false->p=itP inl its j it p/\HoldI (bx S.B S.pos) S.pos it inl p
def He (w:Wr inl its S1)(ah:BZ its)(b:∀ it∈its,WA inl it)(hn:its.length<=2000)(a:NI its S1 D S)(bj:S.pos<=120000000)(hD:∀ k,k∈D↔dirB its k=true)(hc:c=2\/11<=c/\c<12+its.length):∃ p,ARd inl its S1 S c p:=by
 have ae:2<=c/\c<12+its.length:=by omega
 by_cases o:dirB its c=true
 ·obtain⟨q,st,b1,b2,b3,b4,b5⟩:=a.in_ c ((hD c).2 o);obtain⟨f,n,e,hf,aw,hk⟩:=AHj w b o b1;obtain⟨l1,l2,l3⟩:=NX ah (by omega) ae.1 ae.2 S1.M;have bh:=LO its c;have i:inlK inl (kindB (modeK f.en)) f.size=false:=by unfold inlK;rw[hk];simp
  have hx:(newP f n inl (alOf its c) 0).fe=xinA (alOf its c):=by
   show xinA (sdA inl (kindB (modeK f.en)) f.size++_)=_;unfold sdA;rw[i];rfl
  have hr:=(GS (len:=(bsD S1.M its c).length/4096) (st:=st) (by omega) (by omega)).2;have hl:=b1.ek;have l:FinN (dirN q st (bsD S1.M its c).length):=by
   rw[e];exact i5 (inl:=inl) (n:=n) (size:=(bsD S1.M its c).length) (ek:=q.ek) (bu:=(bsD S1.M its c).length/4096) (ed:=786432) (d:=extRoot ((bsD S1.M its c).length/4096) st) (ks:=q.kids) hf aw (by omega) (by omega) (by omega) (by omega) (by omega) (fun h=>by omega)
  refine⟨_,b2,l,?_,fun _=>⟨st,q,b1,rfl,b3,b4,b5,?_⟩,?_⟩
  ·unfold modeAt;rw[b1.at_];rfl
  ·show q.fe=_;rw[e];exact hx
  ·intro j it h1 v h3;exfalso;rcases BB.1 o with h|h|⟨j',x,e1,e2,e3⟩
   ·omega
   ·omega
   ·have:j'=j:=by omega
    subst this;rw[v] at e1;rw[V0 e1] at h3;rw[e2] at h3;cases h3
 ·have au:c∉D:=fun h=>o ((hD c).1 h);obtain⟨j,rfl⟩:∃ j,c=12+j:=by
   rcases hc with rfl|⟨h1,v⟩
   ·exact absurd (BB.2 (.inl rfl)) o
   ·by_cases ao:c=11
    ·subst ao;exact absurd (BB.2 (.inr (.inl rfl))) o
    ·exact⟨c-12,by omega⟩
  have hj:its[j]? = some its[j]:=B0 (by omega);obtain⟨p,hp,he,hh⟩:=w.node j _ hj;have ar:S.M[12+j-1]? = some (some p):=by
   rw[a.out _ au (by omega),show 12+j-1=11+j by omega];exact hp
  obtain⟨Y,hY⟩:=a.ext;have aj:S1.pos<=S.pos:=by
   have h1:=J3 List.length hY;rw[C0,Fg a.Ble,Fg w.B] at h1;omega
  have ay:HoldI (bx S.B S.pos) S.pos its[j] inl p:=by
   rw[hY];exact hh.app (Fg w.B) aj
  have hi:=ah j _ hj;have b:=b _ (D1 hj);have s:=hi.dat;have bg:=hi.big;have bi:=b.file.link;have ai:its[j].isD=false:=by
   cases h:its[j].isD with
   | false=>rfl
   | true=>exact absurd (BB.2 (.inr (.inr ⟨j,_,hj,h,rfl⟩))) o
  have az:Pj its[j].kd its[j].f.size its[j].f.link<4294967296:=by
   unfold Pj;split
   ·rename_i h;rw[D0 h] at s;omega
   ·split<;>omega
  have l:FinN p:=by
   have u:p.ed<4294967296/\p.bu<4294967296/\p.ck.length<=136/\(60<p.ck.length->inlK inl its[j].kd its[j].f.size=true):=by
    have g:=hh.hold;by_cases i:inlK inl its[j].kd its[j].f.size=true
    ·rw[D0 i] at g;have m:=i;unfold inlK at m;simp only[W2,W4,beq_iff_eq] at m;rw[D0 m.1.2] at s;exact⟨by omega,by omega,by rw[g.2.1];omega,fun _=>i⟩
    ·rw[F0 i] at g;by_cases t:its[j].data=[]\/its[j].sl
     ·rw[D0 t] at g;have:its[j].data.length<=59:=by
       rcases t with t|t
       ·rw[t];exact Q2 _
       ·exact t.2
      exact⟨by omega,by omega,by rw[g.2.1];omega,fun h=>by rw[g.2.1] at h;omega⟩
     ·rw[F0 t] at g;obtain⟨st,c1,c2,c3,c4,c5,c6⟩:=g;have hr:=(GS (len:=p.bu) (st:=st) (by omega) (by omega)).2;rw[<-c2] at hr;exact⟨by omega,by omega,by omega,fun h=>by omega⟩
   obtain⟨c1,c2,c3,c4⟩:=u;have:=i5 (inl:=inl) (n:=12+j) (size:=Pj its[j].kd its[j].f.size its[j].f.link) (ek:=1+(if its[j].isD=true then 1+dirsOf its (12+j) else 0)) (bu:=p.bu) (ed:=p.ed) (d:=p.ck) (ks:=if its[j].isD=true then some (kidsOf its (12+j)) else none) b.file ⟨b.uid,b.gid,b.maj,b.min⟩ az (by rw[ai];simp) c2 c1 c3 c4;rw[he];exact this
  refine⟨p,ar,l,?_,fun h=>absurd h o,?_⟩
  ·unfold modeAt;rw[show 12+j-1=11+j by omega,hp]
  ·intro j' it h1 v _;have:j'=j:=by omega
   subst this;rw[hj] at v;obtain rfl:=V0 v;exact⟨he,ay⟩
end
def VV (its:List It):List Nat:=2::11::(List.range its.length).map (12 + ·)
section
variable {inl:Bool} {its:List It} {S1 S:PS} {D:List Nat} {c:Nat}
def Bo:c∈VV its↔c=2\/11<=c/\c<12+its.length:=by
 unfold VV;rw[I1,I1,V1];constructor
 ·rintro (h|h|⟨j,b,h⟩)
  ·exact .inl h
  ·exact .inr (by omega)
  ·have:=H6.1 b;exact .inr (by omega)
 ·rintro (h|⟨d,e⟩)
  ·exact .inl h
  ·by_cases a:c=11
   ·exact .inr (.inl a)
   ·exact .inr (.inr ⟨c-12,H6.2 (by omega),by omega⟩)
def HV:(VV its).Nodup:=by
 unfold VV;rw[U4,U4];refine⟨?_,?_,?_⟩
 ·rw[I1,V1];rintro (h|⟨j,_,h⟩)<;>omega
 ·rw[V1];rintro⟨j,_,h⟩;omega
 ·unfold List.Nodup;rw[E6];exact List.nodup_range.imp fun h e=>h (by omega)
def Iz (w:Wr inl its S1)(a:NI its S1 D S)(d:∀ k,k∈D↔dirB its k=true){i:Nat}(h:¬(i+1∈VV its)):S.M[i]?.join=none:=by
 have c:i+1∉D:=fun f=>h (by
  rw[Bo];rcases BB.1 ((d _).1 f) with b|b|⟨j,it,b,g,l⟩
  ·exact .inl b
  ·exact .inr (by omega)
  ·have:=(G0.1 b).1;exact .inr (by omega))
 have e:=a.out (i+1) c (by omega);rw[S5] at e;rw[e];rw[Bo] at h;by_cases b:i=0\/2<=i/\i<10
 ·rw[w.nil i b];rfl
 ·rw[D3 (by rw[w.len];omega)];rfl
def AOt (w:Wr inl its S1)(f:BZ its)(d:∀ it∈its,WA inl it)(o:its.length<=2000)(a:NI its S1 D S)(g:S.pos<=120000000)(c:∀ k,k∈D↔dirB its k=true):ClOK S:=by
 have m:S.M.length=11+its.length:=a.len.trans w.len;obtain⟨i1,i2,s⟩:=Ft S.M.length;refine⟨?_,?_,a.al,a.big,by omega,by omega,by omega,by rw[a.same.2.1,w.max];omega,a.same.2.2.1.trans w.gd⟩
 ·intro p q;obtain⟨i,hi,e⟩:=L6 q;have l:S.M[i]? = some (some p):=by rw[B0 hi,e]
  have n:i+1∈VV its:=by
   rcases Decidable.em (i+1∈VV its) with h|h
   ·exact h
   ·have:=Iz w a c h;rw[l] at this;cases this
  obtain⟨p',b⟩:=He w f d o a g c (Bo.1 n);have j:=b.at_;rw[S5,l] at j;have:=V0 (V0 j);subst this;exact⟨b.fin.ok,b.fin.x,b.fin.d⟩
 ·apply a.Beq;intro h;have:=(c 2).2 (BB.2 (.inl rfl));rw[h] at this;cases this
def WU (w:Wr inl its S1)(b:BZ its)(j:∀ it∈its,WA inl it)(s:its.length<=2000)(t:S1.pos<=50000000) :
  ∃ S D,(∀ Sy,Fin Sy S1->IG Sy S)/\NI its S1 D S/\D.Nodup/\(∀ k,k∈D↔dirB its k=true)/\ClOK S/\S.pos<=120000000:=by
 have o:∀ (D:List Nat) (S:PS),NI its S1 D S->D.Nodup->(∀ k∈D,dirB its k=true/\2<=k/\k<12+its.length)->S.pos<=120000000:=fun D S a q l=>by
  have m:=a.posb;have n:=ALH b (by omega) D q l S1.M;omega
 have c:dirB its 2=true:=BB.2 (.inl rfl);have e:=QR b (13+its.length) 2 (by omega) (by omega) c;have d:∀ k,k∈Vu its (13+its.length) 2↔dirB its k=true:=fun k=>⟨fun h=>(IR b _ 2 (by omega) (by omega) c k h).2.2.2,AFP b (by omega) k⟩;obtain⟨S',i,r,f,a⟩:=j5 w b (by omega) (fun D S a m n=>C6 (o D S a m n) (by omega)) (13+its.length) 2 [] S1 S1 (.none w.cur) (.start w) (by omega) c (by omega) (by omega) (by simpa using e) (by simp);rw[U2] at a;have g:=o _ _ a e fun k l=>by
  have:=IR b _ 2 (by omega) (by omega) c k l;exact⟨this.2.2.2,by omega,this.2.2.1⟩
 have cl:=AOt w b j s a g d;exact⟨i,_,fun Sy p=>⟨⟨S1,S',13+its.length,_,p,w.root,r,f⟩,cl⟩,a,e,d,cl,g⟩
theorem Oe {M:List (Option PN)}:∀ n,n<=M.length->(List.range n).flatMap (fun i=>exO (M[i]?).join)=(M.take n).flatMap exO
 | 0,_=>by simp
 | n+1,h=>by
  have a:n<M.length:=by omega
  rw[List.range_succ,W5,Y6,Oe n (by omega),<-Q8 a,W5,Y6,B0 a];rfl
def QH (w:Wr inl its S1)(a:NI its S1 D S)(d:∀ k,k∈D↔dirB its k=true):((VV its).flatMap fun k=>exO (S.M[k-1]?).join).Perm (blks (S.pos/4096)):=by
 refine List.Perm.trans ?_ a.own;have c:S.M.length=11+its.length:=a.len.trans w.len;have e:=Oe (M:=S.M) S.M.length (I0 _);rw[L1] at e;rw[<-e];have e2:(List.range S.M.length).flatMap (fun i=>exO (S.M[i]?).join)=((List.range S.M.length).filter fun i=>decide (i+1∈VV its)).flatMap fun i=>exO (S.M[i]?).join:=by
  generalize List.range S.M.length=R
  induction R with
  | nil=>rfl
  | cons i R g=>
   rw[M3,g,List.filter_cons];by_cases h:i+1∈VV its
   ·rw[D0 (H0 h),M3]
   ·rw[F0 (by simpa using h),Iz w a d h];rfl
 rw[e2];have f:(VV its).Perm (((List.range S.M.length).filter fun i=>decide (i+1∈VV its)).map (· + 1)):=by
  refine Hu _ _ HV ?_ fun k=>?_
  ·unfold List.Nodup;rw[E6];exact (List.nodup_range.filter _).imp fun h e=>h (by omega)
  ·rw[V1];constructor
   ·intro b;have j:=Bo.1 b;exact⟨k-1,G5.2 ⟨H6.2 (by omega),H0 (by rw[show k-1+1=k by omega];exact b)⟩,by omega⟩
   ·rintro⟨i,hi,rfl⟩;exact of_decide_eq_true (G5.1 hi).2
 refine (f.flatMap_right _).trans ?_;rw[List.flatMap_map];exact .refl _
end
section
attribute [local irreducible] CQ CG Ew
structure IoR (inl:Bool) (its:List It) (S1 S:PS) (I:Bs) (nb c:Nat) (o:AA) (la:List (Bs×Bs)) (cl:List Nat):Prop where
 ino:InoOK I nb (rawL I c) c o.X o.C la cl
 l:o.l=xaOf la
 al:o.l=alOf its c
 en:o.X.en=modeAt S1.M c
 nd:∃ p,S.M[c-1]? = some (some p)/\o.X.ek=p.ek /\ {o.X with blk:=0}=rdD p c/\cl=exO (some p)
 dir:dirB its c=true->o.X.inl=false/\o.C=bsD S1.M its c/\o.E=(enD S1.M its c).map rdE
 item:∀ j it,c=12+j->its[j]? = some it->it.isD=false->o.C=it.data/\o.E=[]
def Fw {m k:Nat}(h:kindB m=k):kindL m=if k=32768 then 1 else if k=16384 then 2 else if k=8192 then 3 else if k=24576 then 4 else if k=4096 then 5 else if k=49152 then 6 else if k=40960 then 7 else 0:=by
 subst h;rfl
def IT {m:Nat}:kindL m=2↔kindB m=16384:=by
 rw[Fw rfl];constructor
 ·intro h
  repeat' split at h
  all_goals first|assumption|omega
 ·intro h;rw[h];rfl
theorem Qb (m:Nat):GF m=kindL m:=rfl
section
variable {inl:Bool} {its:List It} {S1 S:PS} {D:List Nat} {c:Nat}
theorem APR (w:Wr inl its S1)(ar:BZ its)(ao:∀ it∈its,WA inl it)(hn:its.length<=2000)(a:NI its S1 D S)(cm:S.pos<=120000000)(hD:∀ k,k∈D↔dirB its k=true)(cl:ClOK S)(hc:c∈VV its) :
  ∃ o la bl,IoR inl its S1 S (CG S) (In S) c o la bl:=by
 have bi:=Bo.1 hc;obtain⟨p,s⟩:=He w ar ao hn a cm hD bi;have cw:S.M.length=11+its.length:=a.len.trans w.len;obtain⟨i1,i2,i3⟩:=Ft S.M.length;have e0:Bx S=ipgOf S.M.length:=rfl;have aj:rawL (CG S) c=CQ p:=by
  rw[jg cl (by omega) (by omega),s.at_];rfl
 have dj:In S=S.pos/4096+ipgOf S.M.length/16+2:=rfl;have dp:=cl.vd;have e:=ZR ao c;have az:bx S.B S.pos=S.B:=su cl.B;have cz:=a.al;have bg:=a.big;by_cases hb:dirB its c=true
 ·obtain⟨st,q,b1,b2,b3,b4,b5,b6⟩:=s.dir hb;obtain⟨l1,l2,l3⟩:=NX ar (by omega) (by omega) (by omega) S1.M (c:=c);have i:kindB p.en=16384:=by rw[b2];exact b1.en
  have h:=jh (p:=p) (I:=CG S) (nb:=In S) (n:=c) (st:=st) (len:=(bsD S1.M its c).length/4096) s.fin.b (by rw[b2];rfl) (by rw[b2];rfl) b6 e (by rw[b2];show _<(bsD S1.M its c).length;omega) (by rw[b2];show (bsD S1.M its c).length<=_;omega) (by rw[b2];rfl) (by omega) (by omega) (by omega) (by omega) (.inl i) (.inr (.inl (IT.2 i)));have hC:((CG S).drop (st*4096)).take p.size=bsD S1.M its c:=by
   have:p.size=(bsD S1.M its c).length:=by rw[b2];rfl
   rw[this,Ua cl b3 b4,<-az];exact b5
  rw[hC] at h;have hx:leL (extRoot ((bsD S1.M its c).length/4096) st) 20 4=st:=by
   obtain⟨x1,_⟩:=GS (len:=(bsD S1.M its c).length/4096) (st:=st) (by omega) (by omega);have:=x1.st;rw[Hp (by omega),Ho] at this;exact this
  refine⟨⟨_,_,alOf its c,(enD S1.M its c).map rdE⟩,_,_,⟨by rw[aj];exact h,(Vp e.ns).symm,rfl,s.en,⟨p,s.at_,rfl,?_,?_⟩,fun _=>⟨?_,rfl,rfl⟩,?_⟩⟩
  ·unfold rdD;rw[F0 (by rw[IT.2 i];decide)];rfl
  ·show _=Rj p;unfold Rj;rw[D0 (by rw[b2];rfl),b2];show _=(List.range ((bsD S1.M its c).length/4096)).map (leL (extRoot ((bsD S1.M its c).length/4096) st) 20 4 + ·);rw[hx]
  ·show decide (p.ed &&& 268435456≠0)=false;have ch:p.ed=786432:=by rw[b2];rfl
   rw[ch];decide
  ·intro j it h1 h2 h3;exfalso;rcases BB.1 hb with h|h|⟨j',x,e1,e2,e3⟩
   ·omega
   ·omega
   ·have:j'=j:=by omega
    subst this;rw[h2] at e1;rw[V0 e1] at h3;rw[e2] at h3;cases h3
 ·obtain⟨j,rfl⟩:∃ j,c=12+j:=by
   rcases bi with rfl|⟨h1,h2⟩
   ·exact absurd (BB.2 (.inl rfl)) hb
   ·by_cases bz:c=11
    ·subst bz;exact absurd (BB.2 (.inr (.inl rfl))) hb
    ·exact⟨c-12,by omega⟩
  have hj:its[j]? = some its[j]:=B0 (by omega);have ai:its[j].isD=false:=by
   cases h:its[j].isD with
   | false=>rfl
   | true=>exact absurd (BB.2 (.inr (.inr ⟨j,_,hj,h,rfl⟩))) hb
  obtain⟨he,hh⟩:=s.item j _ rfl hj ai;have hi:=ar j _ hj;have d:=hi.dat;have l:kindB p.en=its[j].kd:=by rw[he];exact JN _
  have ae:p.size=Pj its[j].kd its[j].f.size its[j].f.link:=by rw[he];rfl
  have bt:p.fe=TM inl its[j].kd its[j].f.size its[j].al:=by rw[he];rfl
  have bh:=ao _ (D1 hj);rw[MF hj] at e;have b:=hh.hold;have f:∀ {o:AA} {la:List (Bs×Bs)} {bl:List Nat},InoOK (CG S) (In S) (CQ p) (12+j) o.X o.C la bl->o.l=xaOf la->o.l=its[j].al->o.X.en=p.en->o.X.ek=p.ek -> {o.X with blk:=0}=rdD p (12+j)->bl=Rj p->o.C=its[j].data->o.E=[]->IoR inl its S1 S (CG S) (In S) (12+j) o la bl:=by
   intro o la bl q1 q2 q3 q4 q5 q6 q8 q9 cq;refine⟨by rw[aj];exact q1,q2,q3.trans (MF hj).symm,q4.trans s.en,⟨p,s.at_,q5,q6,q8⟩,fun h=>absurd h hb,?_⟩;intro j' it h1 h2 _;have:j'=j:=by omega
   subst this;rw[hj] at h2;obtain rfl:=V0 h2;exact⟨q9,cq⟩
  have au:¬(kindL p.en=3\/kindL p.en=4)->rdX p (12+j)=rdD p (12+j):=fun h=>by unfold rdD;rw[F0 h]
  have dg:=jf cl;by_cases t:inlK inl its[j].kd its[j].f.size=true
  ·rw[D0 t] at b;have g:=t;unfold inlK at g;simp only[W2,W4,beq_iff_eq] at g;rw[D0 g.1.2] at d;have v:p.size=its[j].f.size:=by rw[ae];unfold Pj;rw[D0 g.1.2]
   have bp:sdA inl its[j].kd its[j].f.size=[(GP,List.replicate (p.size-60) 0)]:=by unfold sdA;rw[D0 t,v]
   have cp:p.fe=xinA ((GP,List.replicate (p.size-60) 0)::its[j].al):=by rw[bt];unfold TM;rw[bp];rfl
   have ah:=bh.file.fit;have bq:sdA inl (kindB (modeK its[j].f.en)) its[j].f.size=[(GP,List.replicate (p.size-60) 0)]:=bp;rw[bq] at ah;have h:=AGj (p:=p) (I:=CG S) (nb:=In S) (n:=12+j) s.fin.b b.1 (by rw[b.2.1];omega) cp ah e (by omega) b.2.2 (by rw[l];exact g.1.2) (by omega);refine⟨⟨_,_,its[j].al,[]⟩,_,_,f h ?_ rfl rfl rfl (au ?_) ?_ b.2.1 rfl⟩
   ·unfold xaOf;rw[List.filter_cons,F0 (by simp)];exact (Vp e.ns).symm
   ·rw[Fw l,D0 g.1.2];decide
   ·unfold Rj;rw[F0 (by rw[b.1];decide)]
  ·rw[F0 t] at b;have ay:p.fe=xinA its[j].al:=by rw[bt];unfold TM sdA;rw[F0 t];rfl
   by_cases m:its[j].data=[]\/its[j].sl
   ·rw[D0 m] at b;have bj:[]=Rj p:=by unfold Rj;rw[F0 (by rw[b.1];decide)]
    by_cases i:its[j].kd=40960
    ·rw[F0 (by omega),D0 i] at d;have bk:kindL p.en=7:=by rw[Fw l,i];rfl
     have aw:p.ck.length=p.size:=by
      rw[ae,b.2.1,d];unfold Pj;rw[F0 (by omega),D0 i]
     have cu:p.ck.length<=59:=by
      rw[b.2.1];rcases m with m|m
      ·rw[m];exact Q2 _
      ·exact m.2
     have h:=AGl (p:=p) (I:=CG S) (nb:=In S) (n:=12+j) s.fin.b b.1 aw (by omega) ay e b.2.2 (by rw[l];exact i) bk (by omega);exact⟨⟨_,_,its[j].al,[]⟩,_,_,f h (Vp e.ns).symm rfl rfl rfl (au (by rw[bk];decide)) bj b.2.1 rfl⟩
    ·have m:its[j].data=[]:=m.elim id fun h=>absurd h.1 i;have aw:p.size=0:=by
      rw[ae];unfold Pj;rw[F0 i];split
      ·rename_i h;rw[D0 h,m] at d;exact d
      ·rfl
     have ci:kindL p.en=1\/kindL p.en=3\/kindL p.en=4\/kindL p.en=5\/kindL p.en=6:=by
      have bm:kindOk its[j].kd:=bh.file.kind;unfold kindOk at bm;rw[Fw l];rcases bm with h|h|h|h|h|h|h
      ·rw[h];exact .inl rfl
      ·have:its[j].isD=true:=H0 h;rw[ai] at this;cases this
      ·rw[h];exact .inr (.inr (.inr (.inl rfl)))
      ·rw[h];exact .inr (.inr (.inr (.inr rfl)))
      ·rw[h];exact .inr (.inl rfl)
      ·rw[h];exact .inr (.inr (.inl rfl))
      ·exact absurd h i
     have h:=o8 (p:=p) (I:=CG S) (nb:=In S) (n:=12+j) s.fin.b b.1 (b.2.1.trans m) ay e aw b.2.2 ci;have e1:(rdD p (12+j)).en=p.en/\(rdD p (12+j)).ek=p.ek /\ {rdD p (12+j) with blk:=0}=rdD p (12+j):=by unfold rdD;split<;>exact⟨rfl,rfl,rfl⟩
     exact⟨⟨_,[],its[j].al,[]⟩,_,_,f h (Vp e.ns).symm rfl e1.1 e1.2.1 e1.2.2 bj m.symm rfl⟩
   ·rw[F0 m] at b;obtain⟨st,c1,c2,c3,c4,c5,c6⟩:=b;have bn:its[j].data≠[]:=fun h=>m (.inl h);have u:p.size=its[j].data.length/\(its[j].kd=32768\/its[j].kd=40960):=by
     rw[ae];unfold Pj;by_cases h:its[j].kd=32768
     ·rw[D0 h] at d ⊢;exact⟨d,.inl h⟩
     ·rw[F0 h] at d ⊢;by_cases i:its[j].kd=40960
      ·rw[D0 i] at d ⊢;exact⟨by rw[d],.inr i⟩
      ·rw[F0 i] at d;exact absurd d bn
    obtain⟨v,u⟩:=u;have ce:Cz p:=by
     unfold Cz;rw[l];omega
    have df:kindL p.en=1\/kindL p.en=7:=by
     rw[Fw l];rcases u with h|h<;>rw[h]
     ·exact .inl rfl
     ·exact .inr rfl
    have bg:=hi.big;have cy:0<its[j].data.length:=K6.2 bn;have dh:st+p.bu<=S.pos/4096:=by omega
    have h:=jh (p:=p) (I:=CG S) (nb:=In S) (n:=12+j) (st:=st) (len:=p.bu) s.fin.b c1 c2 ay e (by omega) (by omega) rfl (by omega) (by omega) (by omega) (by omega) ce (by omega);have hC:((CG S).drop (st*4096)).take p.size=its[j].data:=by
     rw[v,Ua cl c4 (by omega),<-az];exact c6
    rw[hC] at h;have hx:leL p.ck 20 4=st:=by
     obtain⟨x1,_⟩:=GS (len:=p.bu) (st:=st) (by omega) (by omega);have:=x1.st;rw[Hp (by omega),Ho] at this;rw[c2];exact this
    refine⟨⟨_,_,its[j].al,[]⟩,_,_,f h (Vp e.ns).symm rfl rfl rfl (au (by omega)) ?_ rfl rfl⟩;unfold Rj;rw[D0 c1,hx]
end
def Df (M:List (Option PN))(its:List It)(c:Nat):List EN:=if dirB its c=true then (esOf its c).map fun e=>(e.1,e.2,GF (modeAt M e.2)) else []
theorem Ow (c:Nat)(P:Nat->Bool):∀ (l:List It) (k:Nat),(∀ j it,l[j]? = some it->P (k+j)=it.isD)->((DZ c k l).filter fun e=>P e.2).length=(l.filter fun it=>decide (it.dir=c)&&it.isD).length
 | [],_,_=>rfl
 | a::l,k,h=>by
  have g:P k=a.isD:=h 0 a rfl;have f:=Ow c P l (k+1) fun j it i=>by
   rw[show k+1+j=k+(j+1) by omega];exact h (j+1) it (by rw[Y4];exact i)
  rw[DZ,List.filter_cons (p:=fun it:It=>decide (it.dir=c)&&it.isD)];by_cases b:a.dir=c
  ·rw[D0 b,List.filter_cons];have d:P ((a.nm,k):Bs×Nat).2=a.isD:=g;rw[d];cases m:a.isD with
   | true=>simp[b,f]
   | false=>simp[f]
  ·rw[F0 b,f];simp[b]
section
variable {inl:Bool} {its:List It} {S1 S:PS} {D:List Nat} {c:Nat}
theorem WT (f:BZ its)(c:Nat):((esOf its c).filter fun e=>dirB its e.2).length=(if c=2 then 1 else 0)+dirsOf its c:=by
 unfold esOf kidsOf;rw[L5,C0,Ow c (dirB its) its 12 fun j it a=>?_]
 ·have e:dirsOf its c=(its.filter fun it=>decide (it.dir=c)&&it.isD).length:=rfl;rw[<-e];by_cases h:c=2
  ·rw[D0 h,D0 h];have:dirB its 11=true:=BB.2 (.inr (.inl rfl));simp[this]
  ·rw[F0 h,F0 h];rfl
 ·cases h:it.isD with
  | true=>exact BB.2 (.inr (.inr ⟨j,it,a,h,rfl⟩))
  | false=>
   cases d:dirB its (12+j) with
   | false=>rfl
   | true=>
    rcases BB.1 d with b|b|⟨g,x,e1,e2,i⟩
    ·omega
    ·omega
    ·have:g=j:=by omega
     subst this;rw[a] at e1;rw[<-V0 e1,h] at e2;cases e2
def FX (w:Wr inl its S1){k:Nat}(a:k∈VV its):kindL (modeAt S1.M k)=2↔dirB its k=true:=by
 obtain⟨p,b⟩:=Nu w (Bo.1 a);have e:modeAt S1.M k=p.en:=by unfold modeAt;rw[b]
 rw[e,IT];exact Uk w (Bo.1 a) b
def Np (b:BZ its)(i:c∈VV its)(f:c≠2):dirB its (parOf its c)=true/\(∃ nm,(nm,c)∈esOf its (parOf its c)):=by
 rcases Bo.1 i with h|⟨o,p⟩
 ·exact absurd h f
 ·by_cases a:c=11
  ·subst a;exact⟨BB.2 (.inl rfl),lostN,Eb.2 (.inl ⟨rfl,rfl⟩)⟩
  ·obtain⟨j,rfl⟩:∃ j,c=12+j:=⟨c-12,by omega⟩;have d:its[j]? = some its[j]:=B0 (by omega);rw[Kk d];refine⟨?_,its[j].nm,Eb.2 (.inr ⟨j,_,d,rfl,rfl⟩)⟩;obtain⟨st,m,_⟩:=(b j _ d).way;rcases m.cases with⟨g,_⟩|⟨n,x,e1,e2,e⟩
   ·exact BB.2 (.inl g)
   ·have l:=(G0.1 e1).1;rw[W1] at l;rw[I2,D0 (by omega)] at e1;exact BB.2 (.inr (.inr ⟨n,x,e1,e2,e⟩))
def Zg (a:BZ its){e:Bs×Nat}(g:e∈esOf its c):(47:UInt8)∉e.1/\e.1≠[46]/\e.1≠[46,46]:=by
 rcases Eb.1 g with⟨b,d⟩|⟨j,it,b,d,f⟩
 ·subst d;decide
 ·subst f;exact⟨(a j it b).ns,(a j it b).nd⟩
def pr (d:BZ its)(M:List (Option PN)):(((VV its).flatMap (Df M its)).map (·.2.1)).Nodup/\∀ k,k∈VV its->k≠2->k∈((VV its).flatMap (Df M its)).map (·.2.1):=by
 constructor
 ·rw[List.map_flatMap];unfold List.Nodup;rw[List.pairwise_flatMap];constructor
  ·intro c v;unfold Df;split
   ·rw[D5,E6];exact (LN c).imp fun h e=>by
     have:(_:Nat)=_:=e;simp only[Function.comp] at this;omega
   ·exact .nil
  ·refine List.Pairwise.imp ?_ HV;intro a b f x q y s g;subst g;have key:∀ c,x∈(Df M its c).map (·.2.1)->parOf its x=c:=fun c h=>by
    unfold Df at h;split at h
    ·rw[D5] at h;obtain⟨e,o,rfl⟩:=V1.1 h;exact (Ec d o).2.1
    ·cases h
   exact f ((key a q).symm.trans (key b s))
 ·intro k p n;obtain⟨i,nm,l⟩:=Np d p n;obtain⟨a1,a2,a3,a4,a5⟩:=Ec d l;rw[V1];refine⟨(nm,k,GF (modeAt M k)),Z6.2 ⟨parOf its k,?_,?_⟩,rfl⟩
  ·rw[Bo];rcases BB.1 i with h|h|⟨j,it,m,t,u⟩
   ·exact .inl h
   ·exact .inr (by omega)
   ·have:=(G0.1 m).1;exact .inr (by omega)
  ·unfold Df;rw[D0 i];exact V1.2 ⟨_,l,rfl⟩
theorem AHe (w:Wr inl its S1)(d:BZ its)(az:∀ it∈its,WA inl it)(hn:its.length<=2000)(a:NI its S1 D S)(bh:S.pos<=120000000)(hD:∀ k,k∈D↔dirB its k=true)(cl:ClOK S)(ay:(grpL (CG S) (Bx S)++blks (S.pos/4096)).Perm (List.range (In S))) :
  ∃ io la bl,(∀ c∈VV its,IoR inl its S1 S (CG S) (In S) c (io c) (la c) (bl c))/\Ix (CG S) (In S) (Bx S) (VV its) io la bl (parOf its) (Df S1.M its):=by
 have hx:∀ c,∃ x:AA×List (Bs×Bs)×List Nat,c∈VV its->IoR inl its S1 S (CG S) (In S) c x.1 x.2.1 x.2.2:=fun c=>by
  by_cases b:c∈VV its
  ·obtain⟨o,la,bl,h⟩:=APR w d az hn a bh hD cl b;exact⟨(o,la,bl),fun _=>h⟩
  ·exact⟨(⟨qw,[],[],[]⟩,[],[]),fun h=>absurd h b⟩
 obtain⟨f,hf⟩:=Classical.axiomOfChoice hx;have ce:S.M.length=11+its.length:=a.len.trans w.len;obtain⟨i1,i2,i3⟩:=Ft S.M.length;have e0:Bx S=ipgOf S.M.length:=rfl;have au:2∈VV its:=Bo.2 (.inl rfl);have v:∀ c∈VV its,(kindL (f c).1.X.en=2↔dirB its c=true):=fun c b=>by
  rw[(hf c b).en];exact FX w b
 have u:dirB its 2=true:=BB.2 (.inl rfl);have ae:∀ c∈VV its,dirB its c=true->(enD S1.M its c).map rdE=([46],c,2)::([46,46],parOf its c,2)::Df S1.M its c:=fun c b g=>by
  have bg:dirB its (parOf its c)=true/\parOf its c∈VV its:=by
   by_cases t:c=2
   ·subst t;exact⟨u,au⟩
   ·have s:=(Np d b t).1;refine⟨s,Bo.2 ?_⟩;rcases BB.1 s with h|h|⟨j,it,h3,h4,h5⟩
    ·exact .inl h
    ·exact .inr (by omega)
    ·have:=(G0.1 h3).1;exact .inr (by omega)
  rw[MI d,Q1,Q1,D5];unfold Df;rw[D0 g,Qb,Qb,(FX w b).2 g,(FX w bg.2).2 bg.1];rfl
 have ao:∀ c∈VV its,∀ e∈Df S1.M its c,dirB its c=true/\∃ x∈esOf its c,e=(x.1,x.2,GF (modeAt S1.M x.2)):=fun c _ e l=>by
  unfold Df at l;split at l
  ·rename_i g;obtain⟨x,hx,rfl⟩:=V1.1 l;exact⟨g,x,hx,rfl⟩
  ·cases l
 have bk:((VV its).flatMap fun c=>(f c).2.2).Perm (blks (S.pos/4096)):=by
  refine List.Perm.trans ?_ (QH w a hD);have:(VV its).flatMap (fun c=>(f c).2.2)=(VV its).flatMap fun k=>exO (S.M[k-1]?).join:=by
   have key:∀ V:List Nat,(∀ c∈V,c∈VV its)->V.flatMap (fun c=>(f c).2.2)=V.flatMap fun k=>exO (S.M[k-1]?).join:=by
    intro V
    induction V with
    | nil=>intro _;rfl
    | cons c V ih=>
     intro h;rw[M3,M3,ih fun k hk=>h k (U0 _ hk)];obtain⟨p,s,_,_,t⟩:=(hf c (h c (T0 ..))).nd;rw[s,t];rfl
   exact key _ fun _ h=>h
  rw[this]
 have aj:=(bk.append_left (grpL (CG S) (Bx S))).trans ay;refine⟨fun c=>(f c).1,fun c=>(f c).2.1,fun c=>(f c).2.2,hf,?_⟩;refine⟨HV,au,?_,fun c b=>(hf c b).ino,fun c b=>(hf c b).l,?_,?_,⟨(v 2 au).2 u,rfl⟩,?_,?_,?_,?_,?_,aj.nodup_iff.2 List.nodup_range,fun n hn=>H6.1 (aj.mem_iff.1 hn),?_,?_⟩
 ·intro c b;have:=Bo.1 b;omega
 ·intro c b hk;have g:¬dirB its c=true:=fun h=>hk ((v c b).2 h);refine⟨?_,by unfold Df;rw[F0 g]⟩;obtain⟨j,rfl⟩:∃ j,c=12+j:=by
   rcases Bo.1 b with rfl|⟨s,t⟩
   ·exact absurd u g
   ·by_cases ar:c=11
    ·subst ar;exact absurd (BB.2 (.inr (.inl rfl))) g
    ·exact⟨c-12,by omega⟩
  have:=Bo.1 b;have hj:its[j]? = some its[j]:=B0 (by omega);have m:its[j].isD=false:=by
   cases h:its[j].isD with
   | false=>rfl
   | true=>exact absurd (BB.2 (.inr (.inr ⟨j,_,hj,h,rfl⟩))) g
  exact ((hf _ b).item j _ rfl hj m).2
 ·intro c b hk;have g:=(v c b).1 hk;obtain⟨g1,g2,g3⟩:=(hf c b).dir g;have ch:=Bo.1 b;obtain⟨d1,d2,d3,d4⟩:=UH (tj d (by omega) (by omega) (by omega) S1.M (c:=c));have ci:=LO its c;rw[Zd d] at d4;refine⟨g1,by rw[g2,g3];exact d1,?_,?_,by rw[g3];exact ae c b g⟩
  ·rw[g2];show (Cc (enD S1.M its c)).length<10000000;omega
  ·rw[g3,ae c b g];have hr:Df S1.M its c=(esOf its c).map fun e=>(e.1,e.2,GF (modeAt S1.M e.2)):=by unfold Df;rw[D0 g]
   have aw:((([46],c,2)::([46,46],parOf its c,2)::Df S1.M its c:List EN).map (·.1)).Nodup:=by
    rw[hr,Q1,Q1,D5,U4,U4];have hm:∀ nm,nm∈(esOf its c).map ((fun e:EN=>e.1)∘fun e=>(e.1,e.2,GF (modeAt S1.M e.2)))->∃ e∈esOf its c,nm=e.1:=fun nm h=>by
     obtain⟨e,l,h⟩:=V1.1 h;exact⟨e,l,h.symm⟩
    refine⟨?_,?_,EK d c⟩
    ·rw[I1];rintro (h|h)
     ·cases h
     ·obtain⟨e,l,h⟩:=hm _ h;exact (Zg d l).2.1 h.symm
    ·intro h;obtain⟨e,l,h⟩:=hm _ h;exact (Zg d l).2.2 h.symm
   refine⟨?_,?_,?_⟩
   ·intro i j p q s t h3 l;have hi:((([46],c,2)::([46,46],parOf its c,2)::Df S1.M its c:List EN).map (·.1))[i]? = some p.1:=by rw[Y0,s];rfl
    have hj:((([46],c,2)::([46,46],parOf its c,2)::Df S1.M its c:List EN).map (·.1))[j]? = some q.1:=by rw[Y0,t];rfl
    unfold List.Nodup at aw;rw[Z7] at aw;obtain⟨bp,bn⟩:=G0.1 hi;obtain⟨bt,bq⟩:=G0.1 hj;exact aw j i bt bp h3 (by rw[bq,bn,l])
   ·intro p hp;rcases I1.1 hp with h|h
    ·subst h;show (47:UInt8)∉[46];decide
    ·rcases I1.1 h with h|h
     ·subst h;show (47:UInt8)∉[46,46];decide
     ·rw[hr] at h;obtain⟨e,l,rfl⟩:=V1.1 h;exact (Zg d l).1
   ·intro p hp;rcases I1.1 hp with h|h
    ·subst h;show 1<1000;omega
    ·rcases I1.1 h with h|h
     ·subst h;show 2<1000;omega
     ·rw[hr] at h;obtain⟨e,l,rfl⟩:=V1.1 h;have:=(tu d l).2;show e.1.length<1000;omega
 ·intro c b e l;obtain⟨g,x,hx,rfl⟩:=ao c b e l;obtain⟨a1,a2,a3,a4,a5⟩:=Ec d hx;have bi:x.2∈VV its:=Bo.2 (.inr ⟨a4,a3⟩);exact⟨bi,a4,by rw[(hf x.2 bi).en];exact Qb _⟩
 ·intro c b e l _;obtain⟨g,x,hx,rfl⟩:=ao c b e l;exact (Ec d hx).2.1
 ·intro c b;refine List.Pairwise.filter _ ?_;unfold Df;split
  ·rw[E6];exact (LN c).imp fun h=>Nat.ne_of_lt h
  ·exact .nil
 ·intro c b t;obtain⟨p1,nm,p2⟩:=Np d b t;obtain⟨a1,a2,a3,a4,a5⟩:=Ec d p2;refine⟨parOf its c,Bo.2 ?_,⟨(nm,c,GF (modeAt S1.M c)),?_,rfl⟩,fun _=>a1⟩
  ·rcases BB.1 p1 with h|h|⟨j,it,h3,h4,h5⟩
   ·exact .inl h
   ·exact .inr (by omega)
   ·have:=(G0.1 h3).1;exact .inr (by omega)
  ·unfold Df;rw[D0 p1];exact V1.2 ⟨_,p2,rfl⟩
 ·intro c b;obtain⟨p,n1,n2,_⟩:=(hf c b).nd;rw[n2];by_cases g:dirB its c=true
  ·rw[D0 ((v c b).2 g)];have bm:((Df S1.M its c).filter fun e=>decide (e.2.2=2)).length=((esOf its c).filter fun e=>dirB its e.2).length:=by
    unfold Df;rw[D0 g,List.filter_map,Z0];congr 1;apply J8;intro e l;obtain⟨a1,a2,a3,a4,a5⟩:=Ec d l;have:=FX w (k:=e.2) (Bo.2 (.inr ⟨a4,a3⟩));show decide (GF (modeAt S1.M e.2)=2)=dirB its e.2;rw[Qb];cases hd:dirB its e.2 with
    | true=>exact H0 (this.2 hd)
    | false=>exact J0 fun h=>by rw[this.1 h] at hd;cases hd
   rw[bm,WT d];obtain⟨q,st,b1,b2,_⟩:=a.in_ c ((hD c).2 g);rw[n1] at b2;have bz:p.ek=q.ek:=by rw[V0 (V0 b2)];rfl
   rw[bz];have ah:=b1.at_;rcases BB.1 g with rfl|rfl|⟨j,it,s,h3,rfl⟩
   ·have:=V0 (V0 (ah.symm.trans w.root));rw[this];show 3+dirsOf its 2=1+dirsOf its 2+2;omega
   ·have:=V0 (V0 (ah.symm.trans w.lf));rw[this];show 2+dirsOf its 11=0+dirsOf its 11+2;omega
   ·obtain⟨p',ai,l,_⟩:=w.node j it s;rw[show 12+j-1=11+j by omega] at ah;have:=V0 (V0 (ah.symm.trans ai));rw[this,l];show 1+(if it.isD=true then 1+dirsOf its (12+j) else 0)=(if 12+j=2 then 1 else 0)+dirsOf its (12+j)+2;rw[D0 h3,F0 (by omega)];omega
  ·rw[F0 fun h=>g ((v c b).1 h)];obtain⟨r1,r2⟩:=pr d S1.M;have bj:c≠2:=fun h=>g (by rw[h];exact u);rw[r1.count,D0 (r2 c b bj)];obtain⟨p',ai⟩:=He w d az hn a bh hD (Bo.1 b);have:=ai.at_;rw[n1] at this;have:=V0 (V0 this);subst this;obtain⟨j,rfl⟩:∃ j,c=12+j:=by
    rcases Bo.1 b with rfl|⟨s,t⟩
    ·exact absurd u g
    ·by_cases ar:c=11
     ·subst ar;exact absurd (BB.2 (.inr (.inl rfl))) g
     ·exact⟨c-12,by omega⟩
   have:=Bo.1 b;have hj:its[j]? = some its[j]:=B0 (by omega);have m:its[j].isD=false:=by
    cases h:its[j].isD with
    | false=>rfl
    | true=>exact absurd (BB.2 (.inr (.inr ⟨j,_,hj,h,rfl⟩))) g
   rw[(ai.item j _ rfl hj m).1];show 1+(if its[j].isD=true then 1+dirsOf its (12+j) else 0)=1;rw[m];simp
 ·unfold VV;simp;omega
 ·have s:=tw (its:=its) (VV its) HV;have t:((VV its).map fun c=>(Df S1.M its c).length).sum<=((VV its).map fun c=>(esOf its c).length).sum:=by
   generalize VV its=V
   induction V with
   | nil=>exact I0 _
   | cons c V ih=>
    rw[Q1,F6,Q1,F6];have:(Df S1.M its c).length<=(esOf its c).length:=by
     unfold Df;split
     ·rw[Z0];exact I0 _
     ·exact Q2 _
    omega
  omega
end
theorem lh {l:List Bool}{c:Nat}(b:c<l.length):∀ n,n<l.length->((usd n l).getD c false=true↔1<=c/\c<=n\/l.getD c false=true)
 | 0,_=>by
  show l.getD c false=true↔_;constructor
  ·exact .inr
  ·rintro (h|h)
   ·omega
   ·exact h
 | n+1,hn=>by
  rw[usd,Ee (by rw[Nt];exact hn)];by_cases h:n+1=c
  ·rw[D0 h];simp;omega
  ·rw[F0 h,lh b n (by omega)];constructor
   ·rintro (a|a)
    ·exact .inl (by omega)
    ·exact .inr a
   ·rintro (a|a)
    ·exact .inl (by omega)
    ·exact .inr a
theorem jq {c:Nat}:∀ (os:List AA) (U:List Bool),(∀ o∈os,o.X.num<U.length)->((mkU U os).getD c false=true↔(∃ o∈os,o.X.num=c)\/U.getD c false=true)
 | [],U,_=>by show U.getD c false=true↔_;simp
 | o::os,U,h=>by
  show (mkU (U.set o.X.num true) os).getD c false=true↔_;rw[jq os (U.set o.X.num true) (fun x b=>by rw[O5];exact h x (U0 _ b)),Ee (h o (T0 ..))];by_cases d:o.X.num=c
  ·rw[D0 d];exact⟨fun _=>.inl ⟨o,T0 ..,d⟩,fun _=>.inr rfl⟩
  ·rw[F0 d];constructor
   ·rintro (⟨x,b,a⟩|a)
    ·exact .inl ⟨x,U0 _ b,a⟩
    ·exact .inr a
   ·rintro (⟨x,b,a⟩|a)
    ·rcases I1.1 b with e|e
     ·subst e;exact absurd a d
     ·exact .inl ⟨x,e,a⟩
    ·exact .inr a
theorem s8 (f:Nat->Bool):∀ n,Ez f n=cntN f n
 | 0=>rfl
 | n+1=>by
  rw[Ez,FE,s8 f n];cases f n<;>simp
theorem UA (f:Nat->Bool):∀ n,cntN f n+cntN (fun i=>!f i) n=n
 | 0=>rfl
 | n+1=>by
  have:=UA f n;rw[FE,FE];cases f n<;>simp<;>omega
theorem ZY (g:Nat->Bool)(n:Nat):∀ m,n<=m->cntN (fun i=>decide (i<n)&&g i) m=cntN g n
 | 0,h=>by
  have:n=0:=by omega
  subst this;rfl
 | m+1,h=>by
  rw[FE];by_cases a:n=m+1
  ·subst a;rw[FE];have:cntN (fun i=>decide (i<m+1)&&g i) m=cntN g m:=by
    unfold cntN;congr 1;apply J8;intro i hi;have:=H6.1 hi;have:i<m+1:=by omega
    simp[this]
   rw[this];simp
  ·rw[ZY g n m (by omega)];have:¬m<n:=by omega
   simp[this]
def WQ {f g:Nat->Bool}{n:Nat}(h:∀ i,i<n->f i=g i):cntN f n=cntN g n:=by
 unfold cntN;congr 1;exact J8 fun i hi=>h i (H6.1 hi)
def QN {f:Nat->Bool}{n:Nat}(h:∀ i,i<n->f i=false):cntN f n=0:=by
 unfold cntN;rw[X4,List.filter_eq_nil_iff];intro i hi;rw[h i (H6.1 hi)];decide
theorem ADd {S:PS}(c:ClOK S):(grpL (CG S) (Bx S)++blks (S.pos/4096)).Perm (List.range (In S)):=by
 obtain⟨g0,g1,g2⟩:=Ye c;have g:=c.big;obtain⟨i1,_,_⟩:=Ft S.M.length;have e0:Bx S=ipgOf S.M.length:=rfl;have e1:HJ S=S.pos/4096:=rfl;have e2:In S=S.pos/4096+ipgOf S.M.length/16+2:=rfl;unfold grpL;unfold itL at g0;rw[g0,g1,g2];have f:List.range (In S)=[0,1]++blks (S.pos/4096)++(List.range (Bx S/16)).map (HJ S + ·)++[HJ S+Bx S/16,HJ S+Bx S/16+1]:=by
  have d:List.range (In S)=[0,1]++blks (In S):=by
   unfold blks;have:In S=2+(In S-2):=by omega
   rw[this,List.range_add];congr 1;rw[show 2+(In S-2)-2=In S-2 by omega];apply Q4;intro i _;omega
  rw[d,OF (a:=S.pos/4096) (b:=In S) (by omega) (by omega)];have e:In S-S.pos/4096=Bx S/16+2:=by omega
  rw[e,List.range_add,H2,D5];simp only[P0];congr 3
 rw[f];simp only[P0];refine List.Perm.append_left _ ?_;refine List.perm_append_comm.trans ((List.perm_append_comm.append_right _).trans ?_);rw[P0]
section
variable {inl:Bool} {its:List It} {S1 S:PS} {D:List Nat}
theorem ADf (w:Wr inl its S1)(ah:BZ its)(ae:∀ it∈its,WA inl it)(u:its.length<=2000)(a:NI its S1 D S)(ai:S.pos<=120000000)(hD:∀ k,k∈D↔dirB its k=true)(cl:ClOK S) :
  ∃ (io:Nat->AA) (la:Nat->List (Bs×Bs)) (bl:Nat->List Nat) (R:List Nat) (T:TS) (k:Nat) (o0 o':Bs),(∀ c∈VV its,IoR inl its S1 S (CG S) (In S) c (io c) (la c) (bl c))/\(2::R).Perm (VV its)/\Tc (CG S) (In S) (Bx S) o0 o' T ((2::R).map io) k:=by
 have j:=ADd cl;obtain⟨io,la,bl,hf,t⟩:=AHe w ah ae u a ai hD cl j;have ce:S.M.length=11+its.length:=a.len.trans w.len;obtain⟨i1,i2,i3⟩:=Ft S.M.length;have e0:Bx S=ipgOf S.M.length:=rfl;have e1:HJ S=S.pos/4096:=rfl;have e2:In S=S.pos/4096+ipgOf S.M.length/16+2:=rfl;have cp:=cl.vd;have ch:=cl.al;have bz:=cl.big;have az:=jf cl;obtain⟨t0,t1,t2⟩:=Ye cl;have hit:itL (CG S)*4096+Bx S*256<=(CG S).length:=by rw[t0,az];omega
 obtain⟨R,T,k,hp,wk⟩:=qf t hit;refine⟨io,la,bl,R,T,k,Vx (grpL (CG S) (Bx S)) (List.replicate (In S) 0),Vx (grpL (CG S) (Bx S)++(2::R).flatMap bl) (List.replicate (In S) 0),hf,hp,?_⟩;have bm:fiS S=cntN (fun i=>!Bl (Vl S) i) (Bx S):=by
  have g:=UA (Bl (Vl S)) (Bx S);rw[<-s8] at g;show Bx S-Ez (Bl (Vl S)) (Bx S)=_;omega
 have ci:fiS S<=Bx S:=Nat.sub_le _ _;have bg:MN S.inl=578\/MN S.inl=33346:=by unfold MN;split<;>simp
 obtain⟨sb,s12,s344,s16⟩:=ARE (eh:=Bx S) (vd:=In S) (fi:=fiS S) (inc:=MN S.inl) (by omega) (by omega) (by omega) bg;have bt:=ANP cl;rw[<-bt] at sb s12 s344 s16;have bp:∀ n∈grpL (CG S) (Bx S),n<In S:=fun n u=>H6.1 (j.mem_iff.1 (X5 _ u));have bn:(grpL (CG S) (Bx S)).Nodup:=(S4.1 (j.nodup_iff.2 List.nodup_range)).1;refine⟨az,by omega,by omega,by omega,by omega,by omega,sb,?_,wk,?_,?_⟩
 ·refine Rb _ _ bn fun n u=>?_;have:=bp n u;simp[this]
 ·intro o ho;obtain⟨c,v,rfl⟩:=V1.1 ho;have b:=hp.mem_iff.1 v;obtain⟨m1,m2⟩:=Eg (t.ino c b);obtain⟨r1,r2⟩:=t.rng c b;exact⟨by rw[m2];exact r1,by rw[m2];exact r2,m1⟩
 ·
  have s:∀ c∈VV its,(io c).X.num=c:=fun c v=>(Eg (t.ino c v)).2;have hU:∀ i,i<Bx S->(mkU (usd 10 (List.replicate (Bx S+1) false)) ((2::R).map io)).getD (i+1) false=Bl (Vl S) i:=fun i hi=>by
   have hj:(Vl S)[i]?.join.isSome=true↔i+1∈VV its:=by
    have e:(Vl S)[i]? = (S.M[i]?).map (Option.map IB):=Y0 ..;rw[e];constructor
    ·intro h;rcases Decidable.em (i+1∈VV its) with g|g
     ·exact g
     ·have d:=Iz w a hD g;cases hm:S.M[i]? with
      | none=>rw[hm] at h;cases h
      | some o=>rw[hm] at h d;have d:o=none:=d;subst d;cases h
    ·intro h;obtain⟨p,m⟩:=He w ah ae u a ai hD (Bo.1 h);have:=m.at_;rw[S5] at this;rw[this];rfl
   have hl:∀ o∈(2::R).map io,o.X.num<(usd 10 (List.replicate (Bx S+1) false)).length:=fun o ho=>by
    obtain⟨c,v,rfl⟩:=V1.1 ho;have b:=hp.mem_iff.1 v;rw[s c b,Nt,M0];have:=(t.rng c b).2;omega
   have g:=jq (c:=i+1) ((2::R).map io) (usd 10 (List.replicate (Bx S+1) false)) hl;have d:=lh (l:=List.replicate (Bx S+1) false) (c:=i+1) (by rw[M0];omega) 10 (by rw[M0];omega);have h3:(List.replicate (Bx S+1) false).getD (i+1) false=false:=by
    rw[W0,S6];split<;>rfl
   have h4:(∃ o∈(2::R).map io,o.X.num=i+1)↔i+1∈VV its:=by
    constructor
    ·rintro⟨o,ho,h⟩;obtain⟨c,v,rfl⟩:=V1.1 ho;have b:=hp.mem_iff.1 v;rw[s c b] at h;rw[<-h];exact b
    ·intro h;exact⟨io (i+1),V1.2 ⟨i+1,hp.mem_iff.2 h,rfl⟩,s _ h⟩
   have h5:(Bl (Vl S) i=true)↔i<10\/i+1∈VV its:=by
    unfold Bl;rw[N7,W4,hj]
   rw[h4,d,h3] at g;cases hu:Bl (Vl S) i with
   | true=>
    rw[hu] at h5;exact g.2 (by
     rcases h5.1 rfl with h|h
     ·exact .inr (.inl (by omega))
     ·exact .inl h)
   | false=>
    rw[hu] at h5;cases hm:(mkU (usd 10 (List.replicate (Bx S+1) false)) ((2::R).map io)).getD (i+1) false with
    | false=>rfl
    | true=>
     exfalso;rw[hm] at g;have:¬(i<10\/i+1∈VV its):=fun h=>by cases h5.2 h
     rcases g.1 rfl with h|h|h
     ·exact this (.inr h)
     ·exact this (.inl (by omega))
     ·cases h
  have aw:((2::R).flatMap bl).Perm ((VV its).flatMap bl):=hp.flatMap_right _;have ar:∀ i,mkB (In S) (Vx (grpL (CG S) (Bx S)++(2::R).flatMap bl) (List.replicate (In S) 0)) i=true:=fun i=>by
   unfold mkB;by_cases hi:In S<=i
   ·rw[H0 hi,Bool.true_or]
   ·have au:∀ n∈grpL (CG S) (Bx S)++(2::R).flatMap bl,n<(List.replicate (In S) (0:UInt8)).length:=fun n u=>by
     rw[M0];exact t.blt n (((aw.append_left _).mem_iff).1 u)
    have bh:i∈grpL (CG S) (Bx S)++(2::R).flatMap bl:=by
     have ay:((VV its).flatMap bl).Perm (blks (S.pos/4096)):=by
      refine List.Perm.trans ?_ (QH w a hD);have key:∀ V:List Nat,(∀ c∈V,c∈VV its)->V.flatMap bl=V.flatMap fun k=>exO (S.M[k-1]?).join:=by
       intro V
       induction V with
       | nil=>intro _;rfl
       | cons c V ih=>
        intro h;rw[M3,M3,ih fun k hk=>h k (U0 _ hk)];obtain⟨p,g,_,_,d⟩:=(hf c (h c (T0 ..))).nd;rw[g,d];rfl
      rw[key _ fun _ h=>h]
     have:=(((aw.trans ay).append_left (grpL (CG S) (Bx S))).trans j).mem_iff (a:=i);exact this.2 (H6.2 (by omega))
    rw[W0,Sj _ _ _ au (by rw[M0];omega),D0 bh];simp
  obtain⟨b1,b2⟩:=ANO cl;obtain⟨_,_,_,bi,bj,bk⟩:=ADb (f:=gfS S);have q:=je cl;have aj:cntN (fun i=>decide (i<Bx S) && !(mkU (usd 10 (List.replicate (Bx S+1) false)) ((2::R).map io)).getD (i+1) false) 32768=fiS S:=by
   rw[ZY _ _ _ (by omega),bm];exact WQ fun i hi=>by rw[hU i hi]
  refine⟨by rw[t1];omega,by rw[t2];omega,?_,?_,?_,?_,?_,?_,?_,s344,?_,sb.s84⟩
  ·intro i hi;rw[t1,b1,si (by omega),so (by omega),ar];unfold HR;rw[H0 hi,Bool.true_or]
  ·intro i hi;rw[t2,b2,sh,so (by omega),hU i hi];unfold HR Bl;rw[J0 (by omega:¬8*4096+i<32768),Bool.false_or,H0 (by omega:8*4096+i<32768+Bx S),Bool.true_and,show 8*4096+i-32768=i by omega]
  ·intro i hi hu;rw[hU i hi] at hu;have bq:i+1∉VV its:=fun h=>by
    obtain⟨p,m⟩:=He w ah ae u a ai hD (Bo.1 h);have:=m.at_;rw[S5] at this;unfold Bl at hu;have e:(Vl S)[i]? = (S.M[i]?).map (Option.map IB):=Y0 ..;rw[e,this] at hu;simp at hu
   rw[jg cl (by omega) (by omega),S5,Iz w a hD bq];exact⟨Hq,Hq⟩
  ·exact (q▸bi:leL (dscL (CG S)) 12 2=0).trans (QN fun i _=>by rw[ar];rfl).symm
  ·rw[q,bj,aj];show fiS S%65536=fiS S;omega
  ·rw[q,bk];have cm:=KZ (Dg (Vl S)) (Bx S);show Ez (Dg (Vl S)) (Bx S)%65536=_;rw[C2 (by omega),s8];unfold cntN cntD;have ao:∀ i,Dg (Vl S) i=(decide (i+1∈VV its)&&dirB its (i+1)):=fun i=>by
    unfold Dg;have e:(Vl S)[i]? = (S.M[i]?).map (Option.map IB):=Y0 ..;rw[e];by_cases hV:i+1∈VV its
    ·obtain⟨p,m⟩:=He w ah ae u a ai hD (Bo.1 hV);have g:=m.at_;rw[S5] at g;rw[g,H0 hV,Bool.true_and];have d:=FX w hV;rw[<-m.en,IT] at d;show (kindB p.en == 16384)=dirB its (i+1);cases hd:dirB its (i+1) with
     | true=>rw[d.2 hd];rfl
     | false=>
      apply beq_eq_false_iff_ne.2;intro h;rw[d.1 h] at hd;cases hd
    ·rw[J0 hV,Bool.false_and];have d:=Iz w a hD hV;cases hm:S.M[i]? with
     | none=>rfl
     | some o=>rw[hm] at d;have d:o=none:=d;subst d;rfl
   have g:(((2::R).map io).filter fun o=>decide (kindL o.X.en=2)).length=((2::R).filter fun c=>dirB its c).length:=by
    have d:(2::R).filter ((fun o:AA=>decide (kindL o.X.en=2))∘io)=(2::R).filter fun c=>dirB its c:=by
     refine J8 fun c v=>?_;have b:=hp.mem_iff.1 v;have:=FX w b;rw[<-(hf c b).en] at this;show decide (kindL (io c).X.en=2)=dirB its c;cases hd:dirB its c with
     | true=>exact H0 (this.2 hd)
     | false=>exact J0 fun h=>by rw[this.1 h] at hd;cases hd
    rw[List.filter_map,Z0,d]
   rw[g,(hp.filter _).length_eq];have d:(((List.range (Bx S)).filter (Dg (Vl S))).map (· + 1)).Perm ((VV its).filter fun c=>dirB its c):=by
    refine Hu _ _ ?_ (HV.filter _) fun c=>?_
    ·unfold List.Nodup;rw[E6];exact (List.nodup_range.filter _).imp fun h e=>h (by omega)
    ·rw[V1,G5];constructor
     ·rintro⟨i,hi,rfl⟩;have:=(G5.1 hi).2;rw[ao,W2,W4] at this;exact this
     ·rintro⟨h3,h4⟩;have:=t.rng c h3;refine⟨c-1,G5.2 ⟨H6.2 (by omega),?_⟩,by omega⟩;rw[ao,show c-1+1=c by omega,h4,H0 h3];rfl
   have:=d.length_eq;rw[Z0] at this;exact this
  ·exact s12.trans (QN fun i _=>by rw[ar];rfl).symm
  ·exact s16.trans aj.symm
end
end
def Tg (ks:List (Bs×Nat)):Prop:=ks.Pairwise fun a b=>Op.bytesLess a.1 b.1=true
theorem JQ:∀ (l:List Bs) (nm:Bs),(∀ a∈l.take (CO l nm),Op.bytesLess a nm=true)/\(∀ a,l[CO l nm]? = some a->Op.bytesLess a nm=false)
 | [],nm=>⟨by simp,by simp⟩
 | a::l,nm=>by
  obtain⟨e,f⟩:=JQ l nm;rw[CO];by_cases d:Op.bytesLess a nm=true
  ·rw[D0 d];refine⟨fun b c=>?_,fun b c=>f b (by rw[Y4] at c;exact c)⟩;rw[D8,I1] at c;rcases c with h|h
   ·rw[h];exact d
   ·exact e b h
  ·rw[F0 d];refine⟨by simp,fun b c=>?_⟩;rw[L4,M2] at c;subst c;simpa using d
def AD5 {l:List Bs}{nm:Bs}{i:Nat}(f:l.Pairwise fun a b=>Op.bytesLess a b=true)(hi:l[i]? = some nm):CO l nm=i:=by
 obtain⟨g,j⟩:=JQ l nm;obtain⟨c,e⟩:=G0.1 hi;have m:=GH l nm;rw[Z7] at f;rcases Nat.lt_trichotomy (CO l nm) i with h|h|h
 ·have:=j _ (B0 (by omega:CO l nm<l.length));have d:=f (CO l nm) i (by omega) c h;rw[e,this] at d;cases d
 ·exact h
 ·have:nm∈l.take (CO l nm):=by
   exact List.mem_take_iff_getElem.2 ⟨i,by omega,e⟩
  have:=g nm this;rw[IP] at this;cases this
def AGp {ks:List (Bs×Nat)}{nm:Bs}{n:Nat}(d:Tg ks)(h:(nm,n)∈ks):kidL ks nm=some n:=by
 obtain⟨i,hi,b⟩:=L6 h;have a:ks[i]? = some (nm,n):=by rw[B0 hi,b]
 have c:CO (ks.map (·.1)) nm=i:=AD5 (by rw[E6];exact d) (by rw[Y0,a];rfl);unfold kidL;rw[c,a];exact D0 rfl
def AGm {ks:List (Bs×Nat)}{nm:Bs}{n:Nat}(hs:Tg ks)(hn:∀ e∈ks,e.1≠nm):Tg (EV ks nm n)/\(EV ks nm n).Perm ((nm,n)::ks):=by
 obtain⟨u,v⟩:=JQ (ks.map (·.1)) nm;have g:=GH (ks.map (·.1)) nm;rw[Z0] at g;have s:¬(ks.map (·.1))[CO (ks.map (·.1)) nm]? = some nm:=fun h=>by
  obtain⟨hi,he⟩:=G0.1 h;rw[List.getElem_map] at he;exact hn _ (I7 _) he
 unfold EV;rw[F0 s,Z4];obtain⟨i,hi⟩:∃ i,CO (ks.map (·.1)) nm=i:=⟨_,rfl⟩;rw[hi] at u v g ⊢;have t:ks=ks.take i++ks.drop i:=(B6 i ks).symm;have c:=hs;unfold Tg at c;rw[t,M8] at c;have q:∀ a∈ks.take i,Op.bytesLess a.1 nm=true:=fun a d=>u a.1 (by rw[<-J7];exact V1.2 ⟨a,d,rfl⟩);have p:∀ a∈ks.drop i,Op.bytesLess nm a.1=true:=fun a d=>by
  cases l:ks.drop i with
  | nil=>rw[l] at d;cases d
  | cons b r=>
   have j:ks[i]? = some b:=by
    have:(ks.drop i)[0]? = some b:=by rw[l];rfl
    rw[Q3] at this;exact this
   have o:b∈ks:=D1 j;have m:=v b.1 (by rw[Y0,j];rfl);have f:Op.bytesLess nm b.1=true:=(RZ nm b.1 fun e=>hn b o e.symm).resolve_right (by rw[m];decide);rw[l] at d;rcases I1.1 d with h|h
   ·rw[h];exact f
   ·have w:=c.2.1;rw[l,V6] at w;exact QL _ _ _ f (w.1 a h)
 constructor
 ·unfold Tg;rw[P0,M8];refine⟨c.1,?_,?_⟩
  ·show ((nm,n)::ks.drop i).Pairwise _;rw[V6];exact⟨p,c.2.1⟩
  ·intro a d b j;rcases I1.1 j with h|h
   ·rw[h];exact q a d
   ·exact c.2.2 a d b h
 ·rw[P0];refine List.perm_middle.trans (List.Perm.cons _ ?_);show (ks.take i++ks.drop i).Perm ks;rw[B6]
theorem jj:∀ (L ks:List (Bs×Nat)),Tg ks->((ks++L).map (·.1)).Nodup->Tg (L.foldl (fun ks e=>EV ks e.1 e.2) ks)/\(L.foldl (fun ks e=>EV ks e.1 e.2) ks).Perm (ks++L)
 | [],ks,hs,_=>⟨hs,by rw[X0];exact .refl _⟩
 | e::L,ks,hs,hd=>by
  have i:∀ x∈ks,x.1≠e.1:=fun x j g=>by
   rw[H2,S4] at hd;exact hd.2.2 x.1 (V1.2 ⟨x,j,rfl⟩) e.1 (V1.2 ⟨e,T0 ..,rfl⟩) g
  obtain⟨b,c⟩:=AGm (n:=e.2) hs i;have a:(EV ks e.1 e.2++L).Perm (ks++e::L):=(c.append_right L).trans List.perm_middle.symm;obtain⟨d,f⟩:=jj L (EV ks e.1 e.2) b ((a.map (·.1)).nodup_iff.2 hd);exact⟨d,f.trans a⟩
section
attribute [local irreducible] CQ CG Ew
def XN.key (X:XN):Nat×Nat×Nat×(Nat×Nat)×(Nat×Nat)×(Nat×Nat)×(Nat×Nat)×Nat×Nat:=(X.en,X.uid,X.gid,X.at_,X.ct,X.mt,X.cr,X.major,X.minor)
def PN.key (p:PN):Nat×Nat×Nat×Nat×Nat×Nat×Nat×Nat×Nat:=(p.en,p.uid,p.gid,p.at_,p.ct,p.mt,p.cr,p.d7,p.d8)
def AHC {p p':PN}{n n':Nat}(h:p.key=p'.key):(rdD p n).key=(rdD p' n').key:=by
 unfold PN.key at h;simp only[D7] at h;obtain⟨a,d,e,f,g,i,j,l,m⟩:=h;have o:kindL p.en=3\/kindL p.en=4->DE p=DE p':=fun b=>by
  have t:kindB p.en=24576\/kindB p.en=8192:=by
   rw[Fw rfl] at b;rcases b with h|h<;>(repeat' split at h)<;>omega
  have c:∀ q:PN,q.en=p.en->¬Cz q/\Oq q:=fun q s=>by
   unfold Cz Oq;rw[s];omega
  unfold DE th;rw[F0 (c p rfl).1,F0 (c p' a.symm).1,D0 (c p rfl).2,D0 (c p' a.symm).2,l,m]
 unfold rdD;rw[<-a];split
 ·rename_i b;rw[o b];unfold XN.key rdX;simp only[a,d,e,f,g,i,j]
 ·unfold XN.key rdX;simp only[a,d,e,f,g,i,j]
def keyF (f:FL):Nat×Nat×Nat×(Nat×Nat)×(Nat×Nat)×(Nat×Nat)×(Nat×Nat)×Nat×Nat:=(rdD (newP f 0 false [] 0) 0).key
def MQ (f:FL):(keyF f).1=CC f.en:=by
 unfold keyF rdD;split<;>rfl
def fOf (its:List It)(c:Nat):FL:=if c=2 then dirF 16877 else if c<12 then dirF 16832 else match its[c-12]? with|some it=>it.f|none=>dirF 16832
def UR {its:List It}{j:Nat}{it:It}(h:its[j]? = some it):fOf its (12+j)=it.f:=by
 unfold fOf;rw[F0 (by omega),F0 (by omega),show 12+j-12=j by omega,h]
def AKn {its:List It}:fOf its 2=dirF 16877:=D0 rfl
def ADO {its:List It}:fOf its 11=dirF 16832:=by
 unfold fOf;rw[F0 (by decide),D0 (by decide)]
def AOY {inl:Bool}{its:List It}{S:PS}{c:Nat}(w:Wr inl its S)(d:c∈VV its):∃ p,S.M[c-1]? = some (some p)/\p.key=(newP (fOf its c) 0 false [] 0).key:=by
 rcases Bo.1 d with rfl|⟨g,i⟩
 ·exact⟨_,w.root,by rw[AKn];rfl⟩
 ·by_cases a:c=11
  ·subst a;exact⟨_,w.lf,by rw[ADO];rfl⟩
  ·obtain⟨j,rfl⟩:∃ j,c=12+j:=⟨c-12,by omega⟩;have b:its[j]? = some its[j]:=B0 (by omega);obtain⟨p,f,e,_⟩:=w.node j _ b;refine⟨p,by rw[show 12+j-1=11+j by omega];exact f,?_⟩;rw[UR b,e];rfl
structure IoX (its:List It) (c:Nat) (o:AA):Prop where
 num:o.X.num=c
 al:o.l=alOf its c/\o.l.length<=96
 en:o.X.en<65536
 key:o.X.key=keyF (fOf its c)
 it:∀ j it,c=12+j->its[j]? = some it->it.isD=false->o.C=it.data
 dir:dirB its c=true->kindB o.X.en=16384/\∃ kd:Nat->Nat,o.E=([46],c,2)::([46,46],parOf its c,2)::(esOf its c).map fun e=>(e.1,e.2,kd e.2)
 nodir:dirB its c=false->o.E=[]
def Iy (its:List It)(os:List AA)(eh:Nat):Prop:=∃ (io:Nat->AA) (R:List Nat),os=(2::R).map io/\(2::R).Perm (VV its)/\(∀ c∈VV its,IoX its c (io c))/\11+its.length<=eh/\R[0]? = some 11
def AEm {I:Bs}{nb eh:Nat}{k:Nat}{ow ow':Bs}{S S':TS}{os os':List AA}(wr:WalkR I nb eh k ow S os ow' S' os'):∃ t,os'=os++t/\∀ n q,S.q=n::q->∃ o t',t=o::t'/\o.X.num=n:=by
 induction wr with
 | done hq=>exact⟨[],(X0 _).symm,fun n q h=>by rw[hq] at h;cases h⟩
 | file hq _ _ hio _ _ _ ih=>
  obtain⟨t,a,_⟩:=ih;refine⟨_::t,by rw[a,P0];rfl,fun n q h=>⟨_,_,rfl,?_⟩⟩;rw[hq] at h;exact (Eg hio).2.trans (List.cons.inj h).1
 | dir hq _ _ hio _ _ _ _ _ _ _ _ _ _ _ ih=>
  obtain⟨t,a,_⟩:=ih;refine⟨_::t,by rw[a,P0];rfl,fun n q h=>⟨_,_,rfl,?_⟩⟩;rw[hq] at h;exact (Eg hio).2.trans (List.cons.inj h).1
def ARF (S:TS)(n c:Nat):∃ q,(S.see n c).q=S.q++q:=by
 unfold TS.see;split
 ·exact⟨[],(X0 _).symm⟩
 ·exact⟨_,rfl⟩
theorem AK6 (n:Nat):∀ (E:List EN) (S:TS),∃ q,(E.foldl (TS.stp n) S).q=S.q++q
 | [],S=>⟨[],(X0 _).symm⟩
 | e::E,S=>by
  obtain⟨q,d⟩:=AK6 n E (S.stp n e);have c:∃ b,(S.stp n e).q=S.q++b:=by
   unfold TS.stp;split
   ·exact⟨[],(X0 _).symm⟩
   ·exact ARF _ _ _
  obtain⟨b,a⟩:=c;exact⟨b++q,by rw[J4,d,a,P0]⟩
theorem Vn {I:Bs}{nb eh:Nat}{k c f kd:Nat}{nm:Bs}{ow ow':Bs}{S':TS}{os:List AA}{r:List EN}{o:AA}(wr:WalkR I nb eh k ow (TS0 (eh+1)) [] ow' S' os)(g:os[0]? = some o)(hk:kindL o.X.en=2)(m:o.E=([46],2,2)::([46,46],f,2)::(nm,c,kd)::r)(w:nm≠[46]/\nm≠[46,46])(hc:c≠2):∃ j,os[1]? = some j/\j.X.num=c:=by
 have ae:(TS0 (eh+1)).q=[2]:=rfl;generalize v:TS0 (eh+1)=T at wr;generalize b:([]:List AA)=os0 at wr;cases wr with
 | done hq=>rw[<-v] at hq;cases hq
 | file hq _ _ _ _ hkd wr=>
  subst b;obtain⟨t,i,_⟩:=AEm wr;rw[i] at g;obtain rfl:=V0 g;exact absurd hk hkd
 | dir hq _ _ _ _ _ _ _ _ _ _ _ _ _ wr=>
  subst b;rename_i n ow1 C q X l cl E _ _ _ _ _ _ _ _ _ _ _ _ _;obtain⟨t,i,hh⟩:=AEm wr;rw[i] at g;obtain rfl:=V0 g;have m:E=_:=m;subst m;subst v;have s:q=[]:=(List.cons.inj hq).2.symm;subst s;have e1:∀ (S:TS) (p:Nat),S.stp n ([46],p,2)=S:=fun S p=>D0 (.inl rfl);have e2:∀ (S:TS) (p:Nat),S.stp n ([46,46],p,2)=S:=fun S p=>D0 (.inr rfl);rw[J4,J4,e1,e2,J4] at hh;obtain⟨q2,d⟩:=AK6 n r (TS.stp n {TS0 (eh+1) with q:=[]} (nm,c,kd));have hs:(TS.stp n {TS0 (eh+1) with q:=[]} (nm,c,kd)).q=[c]:=by
   unfold TS.stp;rw[F0 (fun h=>h.elim w.1 w.2)];unfold TS.ent TS.see;rw[F0]
   ·rfl
   ·show ¬((List.replicate (eh+1) false).set 2 true).getD c false=true;rw[W0,G4,F0 (fun e=>hc e.symm),S6];split<;>simp
  rw[hs] at d;obtain⟨j,t',u,a⟩:=hh c q2 d;refine⟨j,?_,a⟩;rw[i,u];rfl
def s6 {its:List It}{c:Nat}(h:¬dirB its c=true)(d:c∈VV its):∃ j,c=12+j/\∃ it,its[j]? = some it/\it.isD=false:=by
 rcases Bo.1 d with rfl|⟨f,g⟩
 ·exact absurd (BB.2 (.inl rfl)) h
 ·by_cases a:c=11
  ·subst a;exact absurd (BB.2 (.inr (.inl rfl))) h
  ·obtain⟨j,rfl⟩:∃ j,c=12+j:=⟨c-12,by omega⟩;have b:its[j]? = some its[j]:=B0 (by omega);refine⟨j,rfl,_,b,?_⟩;cases e:its[j].isD with
   | false=>rfl
   | true=>exact absurd (BB.2 (.inr (.inr ⟨j,_,b,e,rfl⟩))) h
def Qd {its:List It}{inl:Bool}{u S1:PS}(w:Wr inl its S1)(i:BZ its)(s:∀ it∈its,WA inl it)(hn:its.length<=2000)(hp:S1.pos<=50000000)(fi:Fin u S1) :
  ∃ S,IG u S/\S.db=S1.db/\Tb (Iy its) (CG S):=by
 obtain⟨S,D,cl,a,ay,hD,t,aj⟩:=WU w i s hn hp;refine⟨S,cl u fi,a.same.2.2.2,?_⟩;obtain⟨io,la,bl,R,T,k,o0,o',hf,e,hi⟩:=ADf w i s hn a aj hD t;obtain⟨i1,i2,i3⟩:=Ft S.M.length;have au:S.M.length=11+its.length:=a.len.trans w.len;have hX:∀ c∈VV its,IoX its c (io c):=fun c g=>by
  have f:=hf c g;obtain⟨m1,m2⟩:=Eg f.ino;have aw:=Bo.1 g;have d:=FX w g;have ae:=MW ((alOf its c).map toX);have ar:=(ZR s c).fit;rw[Z0] at ae;refine⟨m2,⟨f.al,by rw[f.al];omega⟩,m1,?_,fun j it b l v=>(f.item j it b l v).1,?_,?_⟩
  ·obtain⟨p,q1,_,q3,_⟩:=f.nd;obtain⟨p0,r1,r2⟩:=AOY w g;have e1:(io c).X.key=(rdD p c).key:=by rw[<-q3];rfl
   rw[e1];refine AHC (Eq.trans ?_ r2);by_cases m:dirB its c=true
   ·obtain⟨q,az,b1,b2,_⟩:=a.in_ _ ((hD _).2 m);rw[q1] at b2;have e1:=V0 (V0 b2);have e2:=b1.at_;rw[r1] at e2;have e3:=V0 (V0 e2);rw[e1,e3];rfl
   ·have ah:c∉D:=fun h=>m ((hD _).1 h);have:=a.out _ ah (by omega);rw[q1,r1] at this;rw[V0 (V0 this)]
  ·intro m;have b:=(f.dir m).2.2;refine⟨IT.1 (by rw[f.en];exact d.2 m),fun k=>GF (modeAt S1.M k),?_⟩;rw[b,MI i,Q1,Q1,D5];have n:dirB its (parOf its c)=true/\parOf its c∈VV its:=by
    by_cases l:c=2
    ·subst l;exact⟨BB.2 (.inl rfl),Bo.2 (.inl rfl)⟩
    ·have b:=(Np i g l).1;refine⟨b,Bo.2 ?_⟩;rcases BB.1 b with h|h|⟨j,it,v,h4,h5⟩
     ·exact .inl h
     ·exact .inr (by omega)
     ·have:=(G0.1 v).1;exact .inr (by omega)
   rw[Qb,Qb,d.2 m,(FX w n.2).2 n.1];rfl
  ·intro m;obtain⟨j,rfl,it,b,l⟩:=s6 (by rw[m];decide) g;exact (f.item j it rfl b l).2
 refine⟨_,_,_,_,_,_,_,hi,io,R,rfl,e,hX,by show 11+its.length<=ipgOf S.M.length;omega,?_⟩;have x2:=hX 2 (Bo.2 (.inl rfl));obtain⟨ao,kd,e2⟩:=x2.dir (BB.2 (.inl rfl));have ai:esOf its 2=(lostN,11)::kidsOf its 2:=by unfold esOf;rw[D0 rfl];rfl
 rw[ai,Q1] at e2;obtain⟨o2,b,l⟩:=Vn hi.walk.walk (o:=io 2) rfl (IT.2 ao) e2 (by decide) (by decide);rw[Q1,Y4,Y0] at b;obtain⟨c,g,rfl⟩:=K4.1 b;rw[g];exact J3 some ((hX c (e.mem_iff.1 (U0 _ (D1 g)))).num.symm.trans l)
def Yd {its:List It}(inl:Bool)(db:Nat)(b:BZ its)(a:∀ it∈its,WA inl it)(f:∀ it∈its,it.al.Perm (dedA it.xs))(j:its.length<=2000)(i:Ik its<=40000000) :
  ∃ c S,Steps (its.flatMap It.ops) (S2 [] inl Gi db) c/\IG c S/\S.db=db/\Tb (Iy its) (CG S):=by
 obtain⟨c,S1,st,fi,w,l,d⟩:=AEq (Vo inl db) (WC inl db) b a f (by omega) (by omega) its.length (I0 _);rw[L1] at st w l;obtain⟨S,cl,e,g⟩:=Qd w b a j (by omega) fi;exact⟨c,S,st,cl,e.trans (d.trans (by rw[Tf];rfl)),g⟩
def AG6 {os:List AA}{L:List Nat}(g:(os.map fun o=>o.X.num).Nodup)(l:∀ o∈os,o.X.num<L.length):∀ m,m<=os.length->∀ i o,i<m->os[i]? = some o->(Il (os.take m) L).getD o.X.num 0=i:=by
 intro m
 induction m with
 | zero=>intro _ i o h;omega
 | succ m n=>
  intro p i o hi c;have b:os[m]? = some os[m]:=B0 (by omega);have a:(Il (os.take m) L).length=L.length:=MX _ _;rw[PL b,Ee (by rw[a];exact l _ (I7 _))];by_cases f:i=m
  ·subst f;rw[b] at c;rw[D0 (by rw[V0 c])]
  ·rw[F0,n (by omega) i o (by omega) c];intro e;unfold List.Nodup at g;rw[Z7] at g;obtain⟨d,j⟩:=G0.1 c;refine g i m (by rw[Z0];exact d) (by rw[Z0];omega) (by omega) ?_;rw[List.getElem_map,List.getElem_map,j,e]
structure NodeX (its:List It) (ix:Nat->Nat) (c:Nat) (t:TN):Prop where
 en:t.X.en<65536
 key:t.X.key=keyF (fOf its c)
 xs:t.xs=srtA (alOf its c)
 it:∀ j it,c=12+j->its[j]? = some it->t.data=(if it.kd=32768 then it.data else [])/\t.link=if it.kd=40960 then it.data else []
 dir:dirB its c=true->kindB t.X.en=16384/\(t.data=[]/\t.link=[])/\t.ks.length=(esOf its c).length/\∀ e∈esOf its c,kidL t.ks e.1=some (ix e.2)
 nodir:dirB its c=false->t.ks=[]
 sub:∀ e∈t.ks,∃ k,(e.1,k)∈esOf its c/\e.2=ix k
structure qv (its:List It) (ts:List TN) (ix:Nat->Nat):Prop where
 len:ts.length=its.length+2
 root:ix 2=0
 lf:ix 11=1
 sur:∀ a,a<ts.length->∃ c∈VV its,ix c=a
 inj:∀ a∈VV its,∀ b∈VV its,ix a=ix b->a=b
 node:∀ c∈VV its,∃ t,ts[ix c]? = some t/\NodeX its ix c t
def AOT {its:List It}{os:List AA}{eh:Nat}(ae:BZ its)(p:Iy its os eh):qv its (os.map (Gx (eh+1) (FJ eh os))) (fun c=>(FJ eh os).getD c 0):=by
 obtain⟨io,R,n,v,hf,aw,hR⟩:=p;have t:(os.map fun o=>o.X.num)=2::R:=by
  rw[n,D5];have:∀ l:List Nat,(∀ c∈l,c∈VV its)->l.map ((fun o:AA=>o.X.num)∘io)=l:=by
   intro l
   induction l with
   | nil=>intro _;rfl
   | cons c l ih=>
    intro h;rw[Q1,ih fun k hk=>h k (U0 _ hk)];show (io c).X.num::l=_;rw[(hf c (h c (T0 ..))).num]
  exact this _ fun c hc=>v.mem_iff.1 hc
 have au:(os.map fun o=>o.X.num).Nodup:=by rw[t];exact v.nodup_iff.2 HV
 have ar:∀ o∈os,o.X.num<(List.replicate (eh+1) 0).length:=fun o ho=>by
  have:o.X.num∈2::R:=by rw[<-t];exact V1.2 ⟨o,ho,rfl⟩
  have:=Bo.1 (v.mem_iff.1 this);rw[M0];omega
 have m:∀ i c,(2::R)[i]? = some c->(FJ eh os).getD c 0=i:=fun i c hi=>by
  have aj:=(G0.1 hi).1;have ho:os[i]? = some (io c):=by rw[n,Y0,hi];rfl
  have:=AG6 au ar os.length (I0 _) i (io c) (by rw[n,Z0];exact aj) ho;rw[L1,(hf c (v.mem_iff.1 (D1 hi))).num] at this;exact this
 refine⟨?_,m 0 2 rfl,m 1 11 hR,fun a ha=>?_,fun a ha b q g=>?_,fun c hc=>?_⟩
 ·rw[Z0,n,Z0,v.length_eq];unfold VV;simp
 ·rw[Z0,n,Z0] at ha;exact⟨(2::R)[a],v.mem_iff.1 (I7 _),m a _ (B0 ha)⟩
 ·obtain⟨i,hi,d⟩:=L6 (v.mem_iff.2 ha);obtain⟨j,hj,w⟩:=L6 (v.mem_iff.2 q);have e1:=m i a (by rw[B0 hi,d]);have e2:=m j b (by rw[B0 hj,w]);have g:(FJ eh os).getD a 0=(FJ eh os).getD b 0:=g;have:i=j:=by omega
  subst this;rw[<-d,<-w]
 ·obtain⟨i,hi,g⟩:=L6 (v.mem_iff.2 hc);have hg:(2::R)[i]? = some c:=by rw[B0 hi,g]
  have ho:os[i]? = some (io c):=by rw[n,Y0,hg];rfl
  have f:=hf c hc;have hq:dirB its c=true->Tg (Gx (eh+1) (FJ eh os) (io c)).ks/\(Gx (eh+1) (FJ eh os) (io c)).ks.Perm ((esOf its c).map fun e=>(e.1,(FJ eh os).getD e.2 0)):=fun q=>by
   obtain⟨d1,kd,d2⟩:=f.dir q;have ao:(Gx (eh+1) (FJ eh os) (io c)).ks=((esOf its c).map fun e=>(e.1,(FJ eh os).getD e.2 0)).foldl (fun ks e=>EV ks e.1 e.2) []:=by
    show (io c).E.foldl (Cg (eh+1) (FJ eh os)) []=_;rw[d2,J4,J4];have s1:∀ ks c,Cg (eh+1) (FJ eh os) ks ([46],c,2)=ks:=fun ks c=>D0 (.inl rfl);have s2:∀ ks c,Cg (eh+1) (FJ eh os) ks ([46,46],c,2)=ks:=fun ks c=>D0 (.inr (.inl rfl));rw[s1,s2];have ai:∀ e∈esOf its c,(e.1≠[46]/\e.1≠[46,46])/\e.2<eh+1:=fun e g=>by
     obtain⟨a1,a2,a3,a4,a5⟩:=Ec ae g;exact⟨(Zg ae g).2,by omega⟩
    revert ai;generalize esOf its c=es;generalize ([]:List (Bs×Nat))=ks
    induction es generalizing ks with
    | nil=>intro _;rfl
    | cons e es ih=>
     intro h;rw[Q1,J4,Q1,J4];obtain⟨⟨n1,n2⟩,n3⟩:=h e (T0 ..);have:Cg (eh+1) (FJ eh os) ks (e.1,e.2,kd e.2)=EV ks e.1 ((FJ eh os).getD e.2 0):=by
      unfold Cg;rw[F0];rintro (d|d|d)
      ·exact n1 d
      ·exact n2 d
      ·have:eh+1<=e.2:=d;omega
     rw[this];exact ih _ fun x hx=>h x (U0 _ hx)
   have u:((([]:List (Bs×Nat))++(esOf its c).map fun e=>(e.1,(FJ eh os).getD e.2 0)).map (·.1)).Nodup:=by
    rw[U2,D5];exact EK ae c
   obtain⟨q1,q2⟩:=jj ((esOf its c).map fun e=>(e.1,(FJ eh os).getD e.2 0)) [] .nil u;rw[<-ao] at q1 q2;exact⟨q1,q2⟩
  have hm:(io c).X.en=CC (fOf its c).en:=by rw[<-MQ,<-f.key];rfl
  refine⟨Gx (eh+1) (FJ eh os) (io c),by rw[m i c hg,Y0,ho];rfl,f.en,f.key,by show srtA (io c).l=_;rw[f.al.1],?_,?_,?_,?_⟩
  ·intro j it d w;have a3:=f.it j it d w;subst d;rw[UR w] at hm;have ah:kindB (io (12+j)).X.en=it.kd:=by rw[hm];exact JN _
   show (if kindL (io (12+j)).X.en=1 then (io (12+j)).C else [])=_/\(if kindL (io (12+j)).X.en=7 then (io (12+j)).C else [])=_;have k1:kindL (io (12+j)).X.en=1↔it.kd=32768:=by
    rw[Fw ah];constructor
    ·intro h
     (repeat' split at h)<;>omega
    ·intro h;rw[h];rfl
   have k7:kindL (io (12+j)).X.en=7↔it.kd=40960:=by
    rw[Fw ah];constructor
    ·intro h
     (repeat' split at h)<;>omega
    ·intro h;rw[h];rfl
   constructor
   ·by_cases s:it.kd=32768
    ·rw[D0 (k1.2 s),D0 s,a3];unfold It.isD;rw[s];rfl
    ·rw[F0 fun h=>s (k1.1 h),F0 s]
   ·by_cases s:it.kd=40960
    ·rw[D0 (k7.2 s),D0 s,a3];unfold It.isD;rw[s];rfl
    ·rw[F0 fun h=>s (k7.1 h),F0 s]
  ·intro q;obtain⟨q1,q2⟩:=hq q;have k2:=IT.2 (f.dir q).1;refine⟨(f.dir q).1,⟨by show (if kindL (io c).X.en=1 then _ else [])=_;rw[k2];rfl,by show (if kindL (io c).X.en=7 then _ else [])=_;rw[k2];rfl⟩,by rw[q2.length_eq];simp,fun e g=>AGp q1 (q2.mem_iff.2 ?_)⟩;exact V1.2 ⟨e,g,rfl⟩
  ·intro q;show (io c).E.foldl (Cg (eh+1) (FJ eh os)) []=_;rw[f.nodir q];rfl
  ·intro e g;cases q:dirB its c with
   | false=>
    have h0:(Gx (eh+1) (FJ eh os) (io c)).ks=[]:=by
     show (io c).E.foldl (Cg (eh+1) (FJ eh os)) []=_;rw[f.nodir q];rfl
    rw[h0] at g;cases g
   | true=>
    obtain⟨e',d,w⟩:=V1.1 ((hq q).2.mem_iff.1 g);rw[<-w];exact⟨e'.2,d,rfl⟩
end
section
attribute [local irreducible] BJ CR Ak Bc An Aa AK Ac
theorem JP:∀ (vs A B:List Vz),vs.length<=B.length->IW (A++B) A.length vs=A++vs++B.drop vs.length
 | [],A,B,_=>by simp[IW]
 | v::vs,A,[],h=>by simp at h
 | v::vs,A,b::B,h=>by
  have e1:(A++b::B).set A.length v=(A++[v])++B:=by
   rw[List.set_append,F0 (by omega),D6];simp
  have:=JP vs (A++[v]) B (by simp at h;omega);rw[C0,U3] at this;rw[IW,e1,this];simp
section
variable {T:Tj} {zt:Option Vz} {zv:Vz} {sz:Nat} {e1 e2:List Vz}
def EJ (w:AN x h)(g:zt=some zv)(j:0<sz)(f:sz<=1000)(i:e1.length=sz)(K:∀ b h,AN (pts b (.cells ⟨e1⟩ T (0,0))+x) h->kt (.slice (some ⟨b,0,none⟩) 1 1) h):AK (.arr sz) T zt sz 1 [(0,.agg ⟨e1⟩)] h kt:=by
 unfold AK;refine⟨zv,⟨e1⟩,g,by omega,?_,fun b d ex a c=>K b d (w.new ex a c)⟩;rw[F0 (by omega),P6];have e:(BN zv.cells sz).toList.length=sz:=by unfold BN;simp
 refine EE _ (BN zv.cells sz).toList _ ?_;unfold Du;simp only[DB,G6,U1];rw[F0 (by rw[e];show ¬(e1.length≠sz\/_);omega)];have:=JP e1 [] (BN zv.cells sz).toList (by omega);rw[U2,C4,List.drop_of_length_le (by omega),X0,U2] at this;unfold Du;exact J3 some this
def WN (w:AN x h)(i:zt=some zv)(l:0<sz)(g:sz<=1000)(d:e1.length=sz)(j:e2.length=sz)(K:∀ v r h,RdV sz v 2 (e1++e2) r->AN (r+x) h->kt v h):AK (.arr sz) T zt sz 2 [(0,.agg ⟨e1⟩),(1,.agg ⟨e2⟩)] h kt:=by
 unfold AK;refine⟨zv,⟨e1++e2⟩,i,by omega,?_,fun b f ex a c=>K _ _ f (.inr ⟨b,0,2,e1++e2,T,_,0,rfl,(Res.add_zero _).symm,by rw[C0];omega,by rw[I5,X2 (by rw[C0];omega)],I0 _⟩) (w.new ex a c)⟩;rw[F0 (by omega)];have e:(BN zv.cells (2*sz)).toList.length=2*sz:=by unfold BN;simp
 refine EE _ (BN zv.cells (2*sz)).toList _ ?_;unfold Du;simp only[DB,G6,U1];rw[F0 (by rw[e];show ¬(e1.length≠sz\/_);omega)];have:=JP e1 [] (BN zv.cells (2*sz)).toList (by omega);rw[U2,C4,U2] at this;show Du _ (IW (BN zv.cells (2*sz)).toList 0 e1) _=_;rw[this];unfold Du;simp only[DB,P6];rw[F0 (by rw[C0,J2,e];show ¬(e2.length≠sz\/_);omega)];have t2:=JP e2 e1 ((BN zv.cells (2*sz)).toList.drop e1.length) (by rw[J2];omega);rw[d] at t2;unfold Du;show some (IW _ sz e2)=_;rw[d,t2,List.drop_of_length_le (by rw[J2];omega),X0]
end
def AP0 {its:List It}{v:VS}{os:List AA}{cs:List Vz}(g:BZ its)(hn:its.length<=2000)(p:Iy its os v.eh)(ok:v.OK x)(d:VecX 81 23 v.iv os.length cs x)(ov:OutV x cs os)(b:∀ o∈os,1<=o.X.num/\o.X.num<=v.eh/\o.X.en<65536)(w:AN (v.res+x) h)
  (K:∀ nsv ns ts ix r y h,qv its ts ix->Vec 63 18 nsv ts.length ns r->TreeV (y+(v.res+x)) ns ts->(∀ t∈ts,t.X.en<65536/\t.ks.length<1000000000)->AN (r+(y+(v.res+x))) h->Q (.agg ⟨[nsv]⟩) h):f14 (Pt v.vb) h Q:=by
 obtain⟨io,R,l,n,hf,u,_⟩:=id p;have m:∀ o∈os,∃ c,c∈VV its/\IoX its c o:=fun o a=>by
  rw[l] at a;obtain⟨c,j,rfl⟩:=V1.1 a;exact⟨c,n.mem_iff.1 j,hf c (n.mem_iff.1 j)⟩
 have q:∀ o∈os,o.l.length<=900/\o.E.length<10000000/\∀ e∈o.E,e.2.1<4294967296:=fun o a=>by
  obtain⟨c,j,f⟩:=m o a;refine⟨C6 f.al.2 (by decide),?_⟩;have ah:c<12+2000:=by rcases Bo.1 j with h|⟨_,h⟩<;>omega
  cases s:dirB its c with
  | false=>rw[f.nodir s];exact⟨by show 0<_;decide,fun e i=>absurd i (by simp)⟩
  | true=>
   obtain⟨_,kd,e⟩:=f.dir s;have:=LO its c;rw[e];refine⟨by simp;omega,fun e i=>?_⟩;simp only[I1,V1] at i;rcases i with rfl|rfl|⟨e,i,rfl⟩
   ·show c<_;omega
   ·show parOf its c<_;have:=Lg g (c:=c) (by rcases Bo.1 j with h|⟨h,_⟩<;>omega);omega
   ·obtain⟨a1,a2,a3,a4,a5⟩:=Ec g i;show e.2<_;omega
 have ae:os.length=its.length+2:=by
  rw[l,Z0,n.length_eq];unfold VV;simp
 refine s14 ok d ov (by omega) (fun o a=>⟨(b o a).2.2,q o a⟩) (fun o a=>(b o a).2.1) w fun nsv ns r y h d tv w=>?_;refine K nsv ns _ _ r y h (AOT g p) (by rw[Z0];exact d) tv (fun t ht=>?_) w;obtain⟨o,a,rfl⟩:=V1.1 ht;refine⟨(b o a).2.2,?_⟩;have:=(q o a).2.1;have:∀ (E:List EN) (ks:List (Bs×Nat)),(E.foldl (Cg (v.eh+1) (FJ v.eh os)) ks).length<=ks.length+E.length:=by
  intro E
  induction E with
  | nil=>intro ks;exact I0 _
  | cons e E ih=>
   intro ks;have h1:=ih (Cg (v.eh+1) (FJ v.eh os) ks e);have h2:=RJ (v.eh+1) (FJ v.eh os) ks e;rw[J4,J1];omega
 have:=this o.E [];show (o.E.foldl _ []).length<_;simp at this;omega
end
end Go.Proofs.YtollddkkdgoonaaGreatDoor
