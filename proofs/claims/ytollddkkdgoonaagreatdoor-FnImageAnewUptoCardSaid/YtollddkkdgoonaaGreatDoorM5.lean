/- A step. No condition. -/
import Derived.Test.YtollddkkdgoonaaGreatDoorM4
namespace Go.Proofs.YtollddkkdgoonaaGreatDoor
open Go
set_option linter.unusedVariables false
set_option linter.unusedSimpArgs false
set_option linter.defProp false
set_option maxRecDepth 100000
variable {h:H} {k:Value->Prop} {kt Q:Kt} {x y z r:Res}
def Lx (l:List Bs)(j:Nat):List Bs:=(l.set j (l.getD (j-1) [])).set (j-1) (l.getD j [])
def FC (less:Bs->Bs->Bool):Nat->List Bs->List Bs
 | 0,l=>l
 | j+1,l=>if less (l.getD (j+1) []) (l.getD j [])=true then FC less j (Lx l (j+1)) else l
def sortL (less:Bs->Bs->Bool):Nat->Nat->List Bs->List Bs
 | 0,_,l=>l
 | m+1,i,l=>sortL less m (i+1) (FC less i l)
def Ly (l:List Bs)(j:Nat):(Lx l j).length=l.length:=by simp[Lx]
theorem Ls (less:Bs->Bs->Bool):∀ (j:Nat) (l:List Bs),(FC less j l).length=l.length
 | 0,_=>rfl
 | j+1,l=>by
  unfold FC;split
  ·rw[Ls less j,Ly]
  ·rfl
def Kq {l:List Bs}{j:Nat}(a:1<=j)(b:j<l.length):(Lx l j).Perm l:=by
 unfold Lx;have e1:l.getD (j-1) []=l[j-1]'(by omega):=by rw[W0,B0 (by omega)];rfl
 have e2:l.getD j []=l[j]:=by rw[W0,B0 (by omega)];rfl
 rw[e1,e2];exact List.set_set_perm (by omega) (by omega)
theorem Ic (less:Bs->Bs->Bool):∀ (j:Nat) (l:List Bs),j<l.length->(FC less j l).Perm l
 | 0,_,_=>N8 _
 | j+1,l,h=>by
  unfold FC;split
  ·exact (Ic less j _ (by rw[Ly];omega)).trans (Kq (by omega) h)
  ·exact N8 _
theorem Pf (less:Bs->Bs->Bool):∀ (m i:Nat) (l:List Bs),i+m<=l.length->(sortL less m i l).Perm l
 | 0,_,_,_=>N8 _
 | m+1,i,l,h=>by
  unfold sortL;exact (Pf less m (i+1) _ (by rw[Ls];omega)).trans (Ic less i l (by omega))
section
variable {less:Bs->Bs->Bool}
def Lb (less:Bs->Bs->Bool)(x:Bs):List Bs->List Bs
 | []=>[x]
 | y::R=>if less x y=true then y::Lb less x R else x::y::R
theorem Jr (x:Bs):∀ R,(Lb less x R).Perm (x::R)
 | []=>.refl _
 | y::R=>by
  unfold Lb;split
  ·exact ((Jr x R).cons y).trans (List.Perm.swap ..)
  ·exact .refl _
theorem Vc (x:Bs):∀ (R B:List Bs),FC less R.length (R.reverse++x::B)=(Lb less x R).reverse++B
 | [],B=>rfl
 | y::R,B=>by
  have e:(y::R).reverse++x::B=R.reverse++y::x::B:=by simp
  have a:R.reverse.length=R.length:=List.length_reverse ..;have g1:(R.reverse++y::x::B).getD (R.length+1) []=x:=by
   rw[W0,X1 (by omega),a,show R.length+1-R.length=1 by omega];rfl
  have g0:(R.reverse++y::x::B).getD R.length []=y:=by
   rw[W0,X1 (by omega),a,D6];rfl
  rw[e,J1,FC,g1,g0];unfold Lb;by_cases h:less x y=true
  ·rw[D0 h,D0 h];have b:Lx (R.reverse++y::x::B) (R.length+1)=R.reverse++x::(y::B):=by
    unfold Lx;rw[S5,g1,g0,E8 _ _ (by omega),a,show R.length+1-R.length=1 by omega,E8 _ _ (by omega),a,D6];rfl
   rw[b,Vc x R (y::B)];simp
  ·rw[F0 h,F0 h];simp
theorem Vh:∀ (B R:List Bs),sortL less B.length R.length (R.reverse++B)=(B.foldl (fun R x=>Lb less x R) R).reverse
 | [],R=>by rw[X0];rfl
 | x::B,R=>by
  rw[J1,sortL,Vc,J4];have:=Vh B (Lb less x R);rw[(Jr x R).length_eq,J1] at this;exact this
def Vg (l:List Bs):sortL less (l.length-1) 1 l=(l.foldl (fun R x=>Lb less x R) []).reverse:=by
 cases l with
 | nil=>rfl
 | cons x B=>exact Vh B [x]
theorem Oh (P:Bs->Prop)(m:∀ a b,P a->P b->a≠b->less a b=false->less b a=true)(tr:∀ a b c,P a->P b->P c->less a b=true->less b c=true->less a c=true) :
  ∀ (l R:List Bs),(∀ a∈l,P a)->(∀ a∈R,P a)->(l++R).Nodup->R.Pairwise (fun a b=>less b a=true)->(l.foldl (fun R x=>Lb less x R) R).Pairwise (fun a b=>less b a=true)/\(l.foldl (fun R x=>Lb less x R) R).Perm (l++R)
 | [],R,_,_,_,h=>⟨h,.refl _⟩
 | x::l,R,hl,f,hd,h=>by
  have s:=hl x (T0 ..);have t:x∉R:=fun p=>by
   rw[Y5,U4] at hd;exact hd.1 (V8 _ p)
  have ins:∀ R:List Bs,(∀ a∈R,P a)->x∉R->R.Pairwise (fun a b=>less b a=true)->(Lb less x R).Pairwise (fun a b=>less b a=true):=by
   intro R
   induction R with
   | nil=>intro _ _ _;exact List.pairwise_singleton ..
   | cons y R w=>
    intro f i h;have u:=f y (T0 ..);rw[V6] at h;unfold Lb;by_cases o:less x y=true
    ·rw[D0 o,V6];refine⟨fun b n=>?_,w (fun a g=>f a (U0 _ g)) (fun p=>i (U0 _ p)) h.2⟩;rcases I1.1 ((Jr x R).mem_iff.1 n) with d|d
     ·rw[d];exact o
     ·exact h.1 b d
    ·rw[F0 o,V6,V6];have j:less y x=true:=m x y s u (fun e=>i (e▸T0 ..)) (by simpa using o);refine⟨fun b n=>?_,h⟩;rcases I1.1 n with d|d
     ·rw[d];exact j
     ·exact tr b y x (f b n) u s (h.1 b d) j
  have q:=Jr (less:=less) x R;obtain⟨q1,q2⟩:=Oh P m tr l (Lb less x R) (fun a g=>hl a (U0 _ g)) (fun a g=>by
    rcases I1.1 (q.mem_iff.1 g) with d|d
    ·rw[d];exact s
    ·exact f a d) (by
    have v:(l++Lb less x R).Perm (x::l++R):=(q.append_left l).trans (List.perm_middle);exact v.nodup_iff.2 hd) (ins R f t h)
  refine⟨q1,q2.trans ((q.append_left l).trans List.perm_middle)⟩
theorem JZ {r:Bs->Bs->Prop}:∀ (l m:List Bs),(∀ a∈l,∀ b∈l,r a b->r b a->False)->l.Perm m->l.Pairwise r->m.Pairwise r->l=m
 | [],m,_,hp,_,_=>(List.nil_perm.1 hp).symm
 | a::l,[],_,hp,_,_=>by cases hp.length_eq
 | a::l,b::m,ir,hp,h1,h2=>by
  rw[V6] at h1 h2;have c:a=b:=by
   rcases I1.1 (hp.mem_iff.1 (T0 ..)) with e|e
   ·exact e
   ·rcases I1.1 (hp.mem_iff.2 (T0 (a:=b))) with e2|e2
    ·exact e2.symm
    ·exact (ir a (T0 ..) b (U0 _ e2) (h1.1 b e2) (h2.1 a e)).elim
  subst c;rw[JZ l m (fun x d y f=>ir x (U0 _ d) y (U0 _ f)) (List.perm_cons _ |>.1 hp) h1.2 h2.2]
end
theorem IP:∀ a:Bs,Op.bytesLess a a=false
 | []=>rfl
 | c::a=>by simp[Op.bytesLess,IP a]
theorem RZ:∀ a b:Bs,a≠b->Op.bytesLess a b=true\/Op.bytesLess b a=true
 | [],[],h=>absurd rfl h
 | [],_::_,_=>.inl rfl
 | _::_,[],_=>.inr rfl
 | c::a,d::b,h=>by
  simp only[Op.bytesLess,N7,W4,W2,beq_iff_eq];by_cases f:c=d
  ·subst f;have:a≠b:=fun e=>h (by rw[e]);rcases RZ a b this with g|g
   ·exact .inl (.inr ⟨rfl,g⟩)
   ·exact .inr (.inr ⟨rfl,g⟩)
  ·have g:c.toNat≠d.toNat:=fun e=>f (J6.1 e);rcases P5 c.toNat d.toNat with i|i
   ·exact .inl (.inl (F8.2 i))
   ·exact .inr (.inl (F8.2 (by omega)))
theorem QL:∀ a b c:Bs,Op.bytesLess a b=true->Op.bytesLess b c=true->Op.bytesLess a c=true
 | a,[],_,h,_=>by simp[Op.bytesLess] at h
 | _,b::l,[],_,h=>by simp[Op.bytesLess] at h
 | [],_::_,_::_,_,_=>rfl
 | x::a,y::b,z::c,e,d=>by
  simp only[Op.bytesLess,N7,W4,W2,beq_iff_eq] at e d ⊢;rcases e with e|⟨e,f⟩
  ·rcases d with d|⟨d,_⟩
   ·refine .inl (F8.2 ?_);have:=F8.1 e;have:=F8.1 d;omega
   ·subst d;exact .inl e
  ·subst e;rcases d with d|⟨d,g⟩
   ·exact .inl d
   ·exact .inr ⟨d,QL a b c f g⟩
def AHZ {l L:List Bs}(g:l.Perm L)(i:L.Pairwise fun a b=>Op.bytesLess a b=true):sortL Op.bytesLess (l.length-1) 1 l=L:=by
 have m:L.Nodup:=i.imp fun {a b} h e=>by subst e;rw[IP] at h;cases h
 have n:(l++[]).Nodup:=by rw[X0];exact g.nodup_iff.2 m
 obtain⟨o,j⟩:=Oh (less:=Op.bytesLess) (fun _=>True) (fun a b _ _ f d=>by
  rcases RZ a b f with h|h
  ·rw[h] at d;cases d
  ·exact h) (fun a b c _ _ _=>QL a b c) l [] (fun _ _=>trivial) (fun _ _=>trivial) n .nil
 rw[Vg];rw[X0] at j;refine JZ (r:=fun a b=>Op.bytesLess a b=true) _ L (fun a _ b _ f d=>?_) ((List.reverse_perm _).trans (j.trans g)) (List.pairwise_reverse.2 o) i;have:=QL a b a f d;rw[IP] at this;cases this
section
variable {x':Res}
abbrev XM:=List (Bs×(Vz×Bs))
abbrev AL:=List (Bs×Bs)
abbrev mapO (es:XM):Obj:=.map (DK (·.1) es) es.length
def EX (x:Res)(es:XM):Prop:=∀ e∈es,RdX x e.2.1 e.2.2
def EX.bf {es:XM}(d:EX x es):EX (y+x) es:=fun e a=>(d e a).bf
def EX.an {es:XM}(d:EX x es):EX (x+y) es:=fun e a=>(d e a).an
def GI (es:XM):AL:=es.map fun e=>(e.1,e.2.2)
def DS {α:Type}:List (Bs×α)->Bs->α->List (Bs×α)
 | [],nm,c=>[(nm,c)]
 | e::l,nm,c=>if e.1=nm then (nm,c)::l else e::DS l nm c
theorem VE {α:Type}(nm:Bs)(c:α):∀ l:List (Bs×α),(DS l nm c).length=if lookE l nm=none then l.length+1 else l.length
 | []=>rfl
 | e::l=>by
  unfold DS;by_cases a:e.1=nm
  ·rw[D0 a];have:lookE (e::l) nm=some e.2:=by unfold lookE;rw[List.find?_cons,beq_iff_eq.2 a];rfl
   rw[this];rfl
  ·rw[F0 a,J1,VE nm c l];have:lookE (e::l) nm=lookE l nm:=by unfold lookE;rw[List.find?_cons,beq_eq_false_iff_ne.2 a]
   rw[this];split<;>rfl
def AOd:Am TP 30=some cst__slice_none_0_0 :=by kernel_rfl
def Us {m:Nat}{es:XM}{nm:Bs}{ok:Bool}(w:AN x h)[f:Be m x (mapO es)](K:k (match lookE es nm with|some c=>(bif ok then .tuple #[c.1,.bool true] else c.1)|none=>(bif ok then .tuple #[.slice none 0 0,.bool false] else .slice none 0 0))) :
  IV (some .string) (Am TP 30) ok (.map (some m)) (str nm) h k:=by
 refine⟨rfl,.slice none 0 0,?_⟩;obtain⟨q,g,a,_⟩:=Fy (fun c:Vz×Bs=>c.1) nm es 0 0;refine⟨q,AOd,?_,?_⟩
 ·unfold Lc;simp only[w.find (b:=m)];exact g
 ·cases e:lookE es nm with
  | none=>
   rw[e] at K a;simp only[Option.map_none,Option.map_eq_none_iff] at a;subst a;exact K
  | some c=>
   rw[e] at K a;simp only[N5,K4] at a;obtain⟨⟨i,v⟩,rfl,d⟩:=a;simp only at d;subst d;exact K
theorem VH {α:Type}(f:α->Vz)(nm:Bs)(c:α):∀ (l:List (Bs×α)) (i j:Nat),∃ q,DI (str nm) (l.zipIdx.map fun p=>(⟨str p.1.1,f p.1.2,p.2+j⟩:MapEntry)) i=some q/\match q with
  | none=>DS l nm c=l++[(nm,c)]
  | some (a,_)=>i<=a/\(DS l nm c).length=l.length/\(l.zipIdx.map fun p=>(⟨str p.1.1,f p.1.2,p.2+j⟩:MapEntry)).modify (a-i) (fun e=>{e with key:=str nm,val:=f c})=(DS l nm c).zipIdx.map fun p=>(⟨str p.1.1,f p.1.2,p.2+j⟩:MapEntry)
 | [],i,j=>⟨none,rfl,rfl⟩
 | (a,d)::l,i,j=>by
  simp only[List.zipIdx_cons,Q1,DI];have s:JM (str nm) (str a)=some (decide (nm=a)):=Qh nm a;rw[s];have n:∀ l:List (Bs×α),(l.zipIdx (0+1)).map (fun p=>(⟨str p.1.1,f p.1.2,p.2+j⟩:MapEntry))=l.zipIdx.map fun p=>(⟨str p.1.1,f p.1.2,p.2+(j+1)⟩:MapEntry):=fun l=>by
   rw[U1,List.zipIdx_succ,D5];apply Q4;intro p _;simp;omega
  by_cases g:nm=a
  ·subst g;refine⟨some (i,f d),by simp,I0 _,?_,?_⟩
   ·unfold DS;rw[D0 rfl];rfl
   ·rw[D6];unfold DS;rw[D0 rfl,List.zipIdx_cons,Q1,List.modify_zero_cons]
  ·obtain⟨q,o,m⟩:=VH f nm c l (i+1) (j+1);have t:DS ((a,d)::l) nm c=(a,d)::DS l nm c:=by
    rw[DS];exact F0 (Ne.symm g)
   refine⟨q,?_,?_⟩
   ·simp only[g,decide_false];rw[n];exact o
   ·rw[t];cases q with
    | none=>simp only at m ⊢;rw[m];rfl
    | some ab=>
     obtain⟨p,b⟩:=ab;simp only at m ⊢;obtain⟨w,u,v⟩:=m;refine⟨by omega,by rw[J1,J1,u],?_⟩;rw[show p-i=(p-(i+1))+1 by omega,List.modify_succ_cons,List.zipIdx_cons,Q1,n,n,v]
def OQ {α:Type}(f:α->Vz)(es:List (Bs×α))(nm:Bs)(c:α):(DK f es).push ⟨str nm,f c,es.length⟩=DK f (es++[(nm,c)]):=by
 unfold DK;rw[List.zipIdx_append];simp
def Si {m:Nat}{es:XM}{nm bs:Bs}{v:Vz}{g:H->Prop}(w:AN x h)[f:Be m x (mapO es)][p:ZQ m x (mapO es) (mapO (DS es nm (v,bs))) x'](K:∀ h,AN x' h->g h):Ld (some .string) (.map (some m)) (str nm) v h g:=by
 obtain⟨q,i,d⟩:=VH (fun c:Vz×Bs=>c.1) nm (v,bs) es 0 0;have e:DI (str nm) (DK (fun c:Vz×Bs=>c.1) es).toList 0=some q:=i;refine⟨rfl,m,_,_,mapO (DS es nm (v,bs)),rfl,w.find,?_,K _ w.put⟩;rw[e];cases q with
 | none=>
  simp only at d;rw[d];show some (Obj.map _ _)=some (Obj.map _ _);rw[OQ (fun c:Vz×Bs=>c.1) es nm (v,bs),C0];rfl
 | some ab=>
  obtain⟨a,b⟩:=ab;simp only at d;obtain⟨_,j,l⟩:=d;show some (Obj.map _ _)=some (Obj.map _ _);rw[j];congr 2;apply P4;rw[Array.toList_modify];exact l
def RdV (sz:Nat)(v:Vz)(n:Nat)(vs:List Vz)(x:Res):Prop:=
 (∃ a c,v=.slice a 0 c/\n=0/\vs=[])\/∃ b o c all T fz y,v=.slice (some ⟨b,o,none⟩) n c/\x=pts b (.cells ⟨all⟩ T fz)+y/\o+n*sz<=all.length/\(all.drop o).take (n*sz)=vs/\n<=c
def RdV.an {sz n:Nat}{v:Vz}{vs:List Vz}(d:RdV sz v n vs x):RdV sz v n vs (x+y):=by
 rcases d with d|⟨b,o,c,all,T,fz,z,a,e,f⟩
 ·exact .inl d
 ·exact .inr ⟨b,o,c,all,T,fz,z+y,a,by rw[e,Res.assoc],f⟩
def RdV.bf {sz n:Nat}{v:Vz}{vs:List Vz}(d:RdV sz v n vs x):RdV sz v n vs (y+x):=by rw[Res.comm];exact d.an
def Vec.rdv {T:Tj}{sz n:Nat}{v:Vz}{vs:List Vz}(d:Vec T sz v n vs r):RdV sz v n vs r:=by
 cases d with
 | nil=>exact .inl ⟨none,0,rfl,rfl,rfl⟩
 | own a b=>
  have:=H3 sz a;exact .inr ⟨_,0,_,_,T,_,0,rfl,(Res.add_zero _).symm,by omega,by rw[I5],a⟩
def VecX.rdv {T:Tj}{sz n:Nat}{v:Vz}{vs:List Vz}(d:VecX T sz v n vs x):RdV sz v n vs x:=by
 obtain⟨r,y,rfl,d⟩:=d;exact d.rdv.an
def RdV.len {sz n:Nat}{v:Vz}{vs:List Vz}(d:RdV sz v n vs x):(∃ a c,v=.slice a n c)/\vs.length=n*sz:=by
 rcases d with⟨j,c,e,f,g⟩|⟨b,o,c,all,T,fz,y,e,f,g,i,l⟩
 ·subst f g;exact⟨⟨_,_,e⟩,by simp⟩
 ·refine⟨⟨_,_,e⟩,?_⟩;rw[<-i,W1,J2];omega
def RdV.one_ {sz n:Nat}{v:Vz}{vs:List Vz}(d:RdV sz v n vs x):Value.oneCell' v=true:=by
 obtain⟨⟨a,c,b⟩,_⟩:=d.len;rw[b];rfl
def LY {b o n c i sz:Nat}{kk:Iq}(hi:i<n):Ap (.slice sz) (.slice (some ⟨b,o,none⟩) n c) (.int kk (i:Int)) k=k (.pointer (some ⟨b,o+i*sz,none⟩)):=by
 refine propext ⟨fun⟨kk',m,h1,a,l,c',h2,h3,h4,h5⟩=>?_,fun d=>⟨kk,i,rfl,_,n,c,rfl,by omega,by omega,?_⟩⟩
 ·cases h1;cases h2;simpa[Cb] using h5
 ·simpa[Cb] using d
def RdV.get {n i:Nat}{kk:Iq}{v u:Vz}{vs:List Vz}(d:RdV 1 v n vs x)(w:AN x h)(e:vs[i]? = some u)(K:k u):Ap (.slice 1) v (.int kk (i:Int)) fun a=>Ae false 1 a h k:=by
 have q:=d.len.2;have hi:i<vs.length:=(G0.1 e).1;rcases d with⟨m,c,f,g,j⟩|⟨b,o,c,all,T,fz,y,f,g,j,l,p⟩
 ·subst j;simp at hi
 ·subst f g;rw[Dq (by omega),AC w];have:(⟨all⟩:Array Vz)[o+i]? = some u:=by
   rw[<-l,I2] at e;split at e
   ·rw[Q3] at e;simpa using e
   ·cases e
  rw[this];exact K
def RdV.two {n i:Nat}{kk:Iq}{v u:Vz}{vs:List Vz}{F:Vz->Vz->Prop}(d:RdV 1 v n vs x)(w:AN x h)(e:vs[i]? = some u)(K:∀ a,(Ae false 1 a h fun v=>v=u)->F a u):Ap (.slice 1) v (.int kk (i:Int)) fun a=>Ae false 1 a h fun u=>F a u:=by
 have q:=d.len.2;have hi:i<vs.length:=(G0.1 e).1;rcases d with⟨m,c,f,g,j⟩|⟨b,o,c,all,T,fz,y,f,g,j,l,p⟩
 ·subst j;simp at hi
 ·subst f g;have:(⟨all⟩:Array Vz)[o+i]? = some u:=by
   rw[<-l,I2] at e;split at e
   ·rw[Q3] at e;simpa using e
   ·cases e
  rw[Dq (by omega),AC w,this];exact K _ (by rw[AC w,this];exact rfl)
def RdV.agg {sz n i:Nat}{kk:Iq}{v:Vz}{vs:List Vz}(d:RdV sz v n vs x)(w:AN x h)(hi:i<n)(K:k (.agg ⟨(vs.drop (i*sz)).take sz⟩)):Ap (.slice sz) v (.int kk (i:Int)) fun a=>Ae true sz a h k:=by
 rcases d with⟨l,c,e,f,g⟩|⟨b,o,c,all,T,fz,y,e,f,g,j,m⟩
 ·omega
 ·subst e f;have p:i*sz+sz<=n*sz:=by
   have:(i+1)*sz<=n*sz:=H3 sz hi;rw[V5,P6] at this;exact this
  rw[LY hi,BC (o:=o+i*sz) (w.left.one) (by simp;omega)];have:(⟨all⟩:Array Vz).extract (o+i*sz) (o+i*sz+sz)=⟨(vs.drop (i*sz)).take sz⟩:=by
   apply P4;rw[<-j];simp only[L8,I3,V3,T6,H5];congr 1;omega
  rw[this];exact K
def RdV.cell {sz n i j:Nat}{kk:Iq}{v u:Vz}{vs:List Vz}(d:RdV sz v n vs x)(w:AN x h)(hi:i<n)(t:j<sz)(e:vs[i*sz+j]? = some u)(K:k u):Ap (.slice sz) v (.int kk (i:Int)) fun a=>Aw j a fun p=>Ae false 1 p h k:=by
 rcases d with⟨q,c,f,g,l⟩|⟨b,o,c,all,T,fz,y,f,g,l,m,s⟩
 ·omega
 ·subst f g;have hm:i*sz+sz<=n*sz:=by
   have:(i+1)*sz<=n*sz:=H3 sz hi;rw[V5,P6] at this;exact this
  rw[LY hi];simp only[Dx,Cb];rw[AC w];have:(⟨all⟩:Array Vz)[o+i*sz+j]? = some u:=by
   rw[<-m,I2] at e;split at e
   ·rw[Q3,<-H8] at e;simpa using e
   ·cases e
  rw[this];exact K
def RdV.slice {sz n i j:Nat}{lo hi:Option Vz}{v:Vz}{vs:List Vz}(d:RdV sz v n vs x)(f:Bb 0 lo=some i)(e:Bb n hi=some j)(q:i<=j)(s:j<=n)(K:∀ m,RdV sz m (j-i) ((vs.take (j*sz)).drop (i*sz)) x->k m):Cf (.slice sz) v lo hi k:=by
 rcases d with⟨g,c,e1,e2,l⟩|⟨b,o,c,all,T,fz,y,e1,e2,l,p,w⟩
 ·subst e1 e2 l;obtain rfl:j=0:=by omega
  obtain rfl:i=0:=by omega
  refine⟨.slice (if c=0 then g else g.map (·.add 0)) 0 c,?_,K _ (.inl ⟨_,c,rfl,rfl,by simp⟩)⟩;simp only[Bi,f,e];rw[D0 ⟨I0 _,Q2 _⟩];simp
 ·subst e1;have u:j*sz<=n*sz:=H3 sz s;have t:i*sz+(j-i)*sz=j*sz:=by rw[<-V5];congr 1;omega
  refine⟨.slice (some ⟨b,if c=i then o else o+i*sz,none⟩) (j-i) (c-i),?_,K _ (.inr ⟨b,if c=i then o else o+i*sz,c-i,all,T,fz,y,rfl,e2,?_,?_,by omega⟩)⟩
  ·simp only[Bi,f,e];rw[D0 ⟨q,by omega⟩];by_cases a:c=i
   ·rw[D0 a,D0 a]
   ·rw[F0 a,F0 a,N5,Cb]
  ·by_cases a:c=i
   ·rw[D0 a];have:j-i=0:=by omega
    rw[this];omega
   ·rw[F0 a];omega
  ·by_cases a:c=i
   ·have:j=i:=by omega
    subst this;rw[D6,G6,K7,V3,D6,K7]
   ·rw[F0 a,<-p,T6,V2 u,V3,H5];congr 1;omega
def RdV.src {sz n:Nat}{v:Vz}{vs:List Vz}(d:RdV sz v n vs x)(w:AN x h):srcLen v=some n/\By sz n h v=some ⟨vs⟩:=by
 rcases d with⟨i,c,a,e,f⟩|⟨b,o,c,all,T,fz,y,a,e,f,g,j⟩
 ·subst a e f;exact⟨rfl,Vi (G6 _)⟩
 ·subst a e;refine⟨rfl,?_⟩;unfold By;simp only[w.left.one,Z5,K3,if_false];rw[D0 (by simpa using f)];congr 1;apply P4;rw[<-g];simp only[L8,I3];congr 1;omega
def Cq {T:Tj}{sz a n m:Nat}{z:Option Vz}{zv v s:Vz}{vs news:List Vz}(d:Vec T sz v n vs r)(e:RdV sz s m news x)(w:AN (r+x) h)(i:z=some zv)(f:zv.cells.size=sz)
  (g:(n+m)*a<=140737488355328) (c:n+m<=140737488355328) (b:news.all Value.oneCell'=true)
  (K:∀ v r h,Vec T sz v (n+m) (vs++news) r->AN (r+x) h->kt v h):Ac T z sz a v s h kt:=by
 obtain⟨s1,s2⟩:=e.src w.right;exact⟨m,⟨news⟩,s1,s2,LV d w i f g c b e.len.2 K⟩
def DQ {T:Tj}{sz:Nat}{z:Option Vz}{zv:Vz}{kt:Kt}(w:AN x h)(f:z=some zv)(K:∀ v r h,Vec T sz v 0 [] r->AN (r+x) h->kt v h):AK (.arr sz) T z sz 0 [] h kt:=by
 refine⟨zv,#[],f,by omega,?_,fun b a e c d=>K _ _ a (.own' (all:=[]) (I0 _) (by simp) (by simp)) (w.new e c d)⟩;rw[D0 (by omega)];rfl
def Vk (l:List Bs):(strs l).all Value.oneCell'=true:=by
 unfold strs;rw[List.all_map,K5];intro a _;rfl
attribute [local irreducible] BJ CR Ak Bc An Aa AK Ac
def KL:List (Nat×Bs)->Nat->Bs->Bs
 | [],_,nm=>nm
 | (i,p)::l,ix,nm=>if i=ix then p++nm else KL l ix nm
theorem Re:∀ (l:List (Nat×Bs)) (nm:Bs),(compL nm l).1=0\/∃ p∈l,p.1=(compL nm l).1
 | [],_=>.inl rfl
 | (i,p)::l,nm=>by
  unfold compL;cases c:Gh nm p with
  | true=>exact .inr ⟨_,T0,rfl⟩
  | false=>
   rcases Re l nm with h|⟨q,a,b⟩
   ·exact .inl h
   ·exact .inr ⟨q,U0 _ a,b⟩
theorem UD:∀ (l:List (Nat×Bs)) (nm:Bs),(∀ p∈l,p.1≠0)->(l.map (·.1)).Nodup->KL l (compL nm l).1 (compL nm l).2=nm
 | [],_,_,_=>rfl
 | (i,p)::l,nm,h0,hn=>by
  unfold compL;cases a:Gh nm p with
  | true=>
   unfold KL;show (if i=i then p++nm.drop p.length else _)=nm;rw[D0 rfl];unfold Gh at a;simp only[W4] at a;have:=B6 p.length nm;rw[a.2] at this;exact this
  | false=>
   have f:=UD l nm (fun q d=>h0 q (U0 _ d)) (U4.1 hn).2;show KL ((i,p)::l) (compL nm l).1 (compL nm l).2=nm;unfold KL;rw[F0 ?_]
   ·exact f
   ·intro e;rcases Re l nm with h|⟨q,b,c⟩
    ·exact h0 (i,p) T0 (by rw[<-h];exact e)
    ·exact (U4.1 hn).1 (V1.2 ⟨q,b,by rw[c,<-e]⟩)
def UE (nm:Bs):KL PX (compL nm PX).1 (compL nm PX).2=nm:=UD PX nm (by decide) (by decide)
theorem ARw (g:HU x)(w:AN x h):∃ c T fz,h[4]? = some (.cells c T fz)/\14<=c.size/\c.extract 0 (0+14)=⟨mu⟩:=by
 obtain⟨c,T,fz,y,m,f⟩:=g;have l:h[4]? = some (.cells c T fz):=by
  have:=w;rw[m] at this;exact this.left.one
 have d:14<=c.size:=by
  rcases P5 c.size 14 with b|a
  ·have e:=f c.size b;rw[Array.getElem?_eq_none (I0 _)] at e;have j:mu.length=14:=rfl;have:=List.getElem?_eq_none_iff.1 e.symm;omega
  ·exact a
 refine⟨c,T,fz,l,d,?_⟩;apply N6;intro i;rw[Array.getElem?_extract];have j:mu.length=14:=rfl;by_cases hi:i<14
 ·rw[D0 (by omega),U1,f i hi];simp
 ·rw[F0 (by omega)];simp[D3 (show mu.length<=i by omega)]
theorem ASR {ix:Nat}{nm:Bs}(g:HU x)(w:AN x h)(hn:nm.length<1000000000)(ae:ix<256)(K:∀ y h,AN (y+x) h->Q (str (KL PX ix nm)) h):AL5 (.int .u8 (ix:Nat)) (str nm) h Q:=by
 obtain⟨c,T,fz,v,ah,f⟩:=ARw g w;unfold AL5 AW;rw[BC v (by omega),f];unfold AAL;refine Bj (fun m q e=>∃ i y,m=7-i/\i<=7/\q=AB (i:Nat)/\AN (y+x) e/\KL PX ix nm=KL (PX.drop i) ix nm) 7 ⟨0,0,rfl,by omega,rfl,w.cast (by rw[Res.zero_add]),rfl⟩ ?_;rintro rec m q e ⟨i,y,rfl,hi,rfl,w,b⟩ d;have g7:∀ k:Vz->Prop,AQ .lss (AB (i:Nat)) (AB 7) k=k (.bool (decide (i<7))):=fun k=>by
  rw[AR];congr 2;simp;omega
 unfold Xl BL;rw[g7];refine AS (fun o=>?_) (fun o=>?_)
 ·obtain⟨j,p,s,t,h3,h4⟩:=AH4 i (by omega);rw[SY (by omega)];have a:(⟨mu⟩:Array Vz).extract (i*2) (i*2+2)=⟨[.int .u8 (j:Nat),str p]⟩:=by
   apply P4;rw[Array.toList_extract,I3,<-V3,t]
  rw[a];refine AV w mo rfl fun pb h w=>?_;refine AD w ⟨[.int .u8 (j:Nat),str p]⟩ (AU (by rfl)) rfl (by simp) rfl fun h w=>?_;rw[AG];refine Af w (u:=.int .u8 (j:Nat)) rfl ?_;have e0:∀ k:Vz->Prop,AQ .eql (.int .u8 (ix:Nat)) (.int .u8 (j:Nat)) k=k (.bool (decide (j=ix))):=fun k=>by
   rw[AT];congr 2;simp;omega
  rw[s,KL] at b;have w:=w.cast (Res.assoc _ _ _).symm;rw[e0];refine AS (fun l=>?_) (fun l=>?_)
  ·rw[D0 l] at b;rw[AG];refine Af w (u:=str p) rfl ?_;rw[Jg (by omega)];rw[b] at K;exact K _ h w
  ·rw[F0 l] at b;rw[Az (n:=1),Bq (by omega)];exact d (7-(i+1)) _ _ ⟨i+1,_,rfl,by omega,rfl,w,b⟩ (by omega)
 ·have:i=7:=by omega
  subst this;have:PX.drop 7=[]:=rfl;rw[this,KL] at b;rw[b] at K;exact K _ e w
def ASQ {v:Vz}{bs:Bs}{a b:UInt8}(d:RdX x v bs)(w:AN x h)(c:bs[0]? = some a)(e:bs[1]? = some b)(K:Q (cU16 (a.toNat+256*b.toNat:Nat)) h):AL4 v h Q:=by
 have g:=a.toNat_lt;have j:=b.toNat_lt;unfold AL4 AW;refine d.get w (i:=0) (kk:=.i64) c ?_;have c1:∀ (u:UInt8) (k:Vz->Prop),GO .u16 (bc u) k=k (cU16 (u.toNat:Nat)):=fun u k=>by
  show GO .u16 (.int .u8 (u.toNat:Nat)) k=_;rw[Ea,AE0 (by have:=u.toNat_lt;omega)]
 rw[c1];refine d.get w (i:=1) (kk:=.i64) e ?_;rw[c1];have f:∀ k:Vz->Prop,AQ .shl (cU16 (b.toNat:Nat)) (AH 8) k=k (cU16 (b.toNat*256:Nat)):=fun k=>by
  have:=Ga (k:=k) (kk:=.u16) (k':=.u64) (a:=b.toNat) (s:=8) (by decide);rw[show ((8:Nat):Int)=8 from rfl] at this;rw[this,AE0 (by omega)]
 rw[f,APc (by omega) (by omega),Nat.or_comm,AD2 (by omega)];exact K
def AEp (n:Nat)(a:n<4294967296):Io (UInt8.ofNat n) (UInt8.ofNat (n/256)) (UInt8.ofNat (n/65536)) (UInt8.ofNat (n/16777216))=n:=by
 rw[Je];exact (Uo n).trans (C2 a)
def AP4 {v:Vz}{bs:Bs}{n:Nat}{R:Bs}(d:RdX x v bs)(e:bs=Ag n++R)(m:n<4294967296)(w:AN x h)(K:Q (AM (n:Nat)) h):AF1 v h Q:=by
 rcases d with⟨a,c,_,f⟩|⟨b,o,c,all,T,fz,y,j,f,q,l,_⟩
 ·subst f;cases e
 ·subst j f;have s:bs.length=4+R.length:=by rw[e,C0,BK]
  have g:∀ i (u:UInt8),bs[i]? = some u->all[o+i]? = some (bc u):=fun i u p=>by
   have:((all.drop o).take bs.length)[i]? = some (bc u):=by rw[l,Y0,p];rfl
   rw[I2] at this;split at this
   ·rw[Q3] at this;exact this
   ·cases this
  refine AN3 w (by omega) (g 0 _ (by rw[e];rfl)) (g 1 _ (by rw[e];rfl)) (g 2 _ (by rw[e];rfl)) (g 3 _ (by rw[e];rfl)) ?_;rw[AEp n m];exact K
theorem PQ {α:Type}{nm:Bs}{c:α}:∀ {l:List (Bs×α)},(∀ e∈l,e.1≠nm)->DS l nm c=l++[(nm,c)]
 | [],_=>rfl
 | e::l,h=>by
  rw[DS,F0 (h e T0),PQ fun e a=>h e (U0 _ a)];rfl
def dnX (a:XA):Bs×Bs:=(KL PX a.ix a.nm,a.bs)
theorem AR4 {l:List XA}{B:Bs}{m em:Nat}{xv:Vz}(d:RdX x xv B)(hB:B=FG 100 l++(zs m++Ey l))(hm:needs l+m=100)(h4:4<=m)(hl:∀ a∈l,a.nm≠[]/\a.ix<256)(ar:(l.map dnX).map (·.1) |>.Nodup)(g:HU x)(w:AN (pts em (mapO [])+(r+x)) h)
  (K:∀ es y h,GI es=l.map dnX->EX x es->AN (pts em (mapO es)+(y+(r+x))) h->Q (.tuple #[]) h):ALM xv (.map (some em)) (cU16 0) h Q:=by
 have ev:=Gm l 100;have bp:B.length=100:=by rw[hB];simp only[C0,M0];omega
 obtain⟨xa,xc,ce⟩:=d.len;unfold ALM tz AW;refine Bj (fun mm u h'=>∃ (l1 l2:List XA) (es:XM) (y:Res) (t:Nat) (P S:Bs),mm=l2.length/\l=l1++l2/\B=P++(FG t l2++(zs m++(Ey l2++S)))/\t+S.length=100/\RdX x u (FG t l2++(zs m++(Ey l2++S)))/\GI es=l1.map dnX/\EX x es/\AN (pts em (mapO es)+(y+(r+x))) h') l.length
  ⟨[],l,[],0,100,[],[],rfl,rfl,by rw[X0];exact hB,rfl,by rw[X0,<-hB];exact d,rfl,fun e q=>by (cases q),by rw[Res.zero_add];exact w⟩ ?_
 rintro rec mm u h' ⟨l1,l2,es,y,t,P,S,rfl,p,o,ht,s,ae,hv,w⟩ aw;have bg:=Gm l2 t;unfold WV BL;obtain⟨ua,uc,hu⟩:=s.len;have aj:(FG t l2++(zs m++(Ey l2++S))).length≠0:=by simp only[C0,M0];omega
 have ao:∀ k:Vz->Prop,DM u k=k (AB ((FG t l2++(zs m++(Ey l2++S))).length:Nat)):=fun k=>by rw[hu,As]
 rw[ao,Ay,H0 (by omega),Ab];cases l2 with
 | nil=>
  refine s.bf.bf.bf.get w (i:=0) (kk:=.i64) (c:=0) ?_ ?_
  ·obtain⟨m',rfl⟩:∃ m',m=m'+1:=⟨m-1,by omega⟩;rfl
  have c0:∀ k:Vz->Prop,AQ .eql (bc 0) BE k=k  AI:=fun k=>by
   show AQ .eql BE   BE k=_;rw[AT];rfl
  rw[c0,Ab];refine K es y h' ?_ hv w;rw[ae,p,X0]
 | cons a l2=>
  obtain⟨bk,ai⟩:=hl a (by rw[p];simp);have bn:needs (a::l2)=Bg a.nm.length+16+Bg a.bs.length+needs l2:=rfl;have u1:a.nm.length<=Bg a.nm.length:=by unfold Bg;omega
  have u2:a.bs.length<=Bg a.bs.length:=by unfold Bg;omega
  have bz:0<a.nm.length:=K6.2 bk;have bj:needs (a::l2)<=needs l:=by
   rw[p];unfold needs;rw[H2,G8];omega
  have bt:P.length+needs (a::l2)+m=t:=by
   have:=J3 List.length o;simp only[C0,M0] at this;omega
  obtain⟨E,hE⟩:∃ E,E=FG t (a::l2)++(zs m++(Ey (a::l2)++S)):=⟨_,rfl⟩;obtain⟨t',bm⟩:∃ t',t'=t-Bg a.bs.length:=⟨_,rfl⟩;obtain⟨R,hR⟩:∃ R,R=FG t' l2++(zs m++(Ey l2++(FY a.bs++S))):=⟨_,rfl⟩;have f:E=[UInt8.ofNat a.nm.length]++([UInt8.ofNat a.ix]++(BR t'++(zs 4++(Ag a.bs.length++(Ag (hashX a.nm a.bs)++(FY a.nm++R)))))):=by
   rw[hE,hR,FG,Ey,<-bm];simp only[P0]
  have bh:B=(P++(FG t (a::l2)++(zs m++Ey l2)))++(a.bs++(zs (Bg a.bs.length-a.bs.length)++S)):=by
   rw[o,Ey];unfold FY;simp only[P0]
  rw[<-hE] at s aj o;have bq:E.length=16+Bg a.nm.length+R.length:=by
   rw[f];simp only[C0,Da,Ba,BK,M0,U3];omega
  have ah:=J3 List.length o;rw[C0] at ah;clear bg hE;have g0:E[0]? = some (UInt8.ofNat a.nm.length):=by rw[f];rfl
  have g1:E[1]? = some (UInt8.ofNat a.ix):=by rw[f];rfl
  have b0:bc (UInt8.ofNat a.nm.length)=.int .u8 (a.nm.length:Nat):=(QJ (by omega)).symm;have b1:bc (UInt8.ofNat a.ix)=.int .u8 (a.ix:Nat):=(QJ ai).symm;refine s.bf.bf.bf.get w (i:=0) (kk:=.i64) g0 ?_;rw[b0,AT,J0 (by omega),AJ];refine s.bf.bf.bf.get w (i:=1) (kk:=.i64) g1 ?_;rw[b1];refine s.slice (i:=2) (j:=E.length) rfl rfl (by omega) (I0 _) fun v1 d1=>?_;rw[L1] at d1;refine AF0 (ASQ d1.bf.bf.bf w (a:=UInt8.ofNat t') (b:=UInt8.ofNat (t'/256)) (by rw[f];rfl) (by rw[f];rfl) ?_);have az:(UInt8.ofNat t').toNat+256*(UInt8.ofNat (t'/256)).toNat=t':=by
   rw[T7,T7];omega
  rw[az,Ci,Int.sub_zero,AE0 (by omega)];refine s.slice (i:=8) (j:=E.length) rfl rfl (by omega) (I0 _) fun v2 d2=>?_;rw[L1] at d2;refine SF (AP4 d2.bf.bf.bf (n:=a.bs.length) (R:=Ag (hashX a.nm a.bs)++(FY a.nm++R)) (by rw[f];rfl) (by omega) w ?_);have a8:∀ k:Vz->Prop,AQ .add (.int .u8 16) (.int .u8 (a.nm.length:Nat)) k=k (.int .u8 (16+a.nm.length:Nat)):=fun k=>by
   rw[BT,lr (by omega) (by omega)];rfl
  rw[a8];refine s.slice (i:=16) (j:=16+a.nm.length) rfl DY (by omega) (by omega) fun v3 d3=>?_;have e3:(E.take (16+a.nm.length)).drop 16=a.nm:=by
   rw[V3,M4,f];show (FY a.nm++R).take a.nm.length=a.nm;unfold FY;rw[P0,L7]
  rw[e3] at d3;refine d3.bf.bf.bf.str w ?_;rw[Ea,Lz (by omega),IJ,Lz (by omega)];refine d.slice (i:=t') (j:=t'+a.bs.length) DY DY (by omega) (by omega) fun v4 d4=>?_;have e4:(B.take (t'+a.bs.length)).drop t'=a.bs:=by
   rw[V3,M4,bh];refine FZ ?_ rfl;simp only[C0,M0];have:=Gm (a::l2) t;rw[Ey,C0,Da] at this;omega
  rw[e4] at d4;obtain⟨va,vc,ay⟩:=d4.len;rw[ay] at d4;rw[ay];refine BA HC rfl (rs:=[str a.nm,.int .u8 (a.ix:Nat),.slice va a.bs.length vc]) rfl ?_;refine AV w HC rfl fun xb h w=>?_;refine And.intro (d3.bf.bf.bf.bf.str w rfl) ?_;refine AD w (xaC a.nm a.ix (.slice va a.bs.length vc)) rfl rfl (by simp) rfl fun h w=>?_;rw[AG];refine Af w (u:=str a.nm) rfl ?_;rw[AG];refine Af w (u:=.slice va a.bs.length vc) rfl ?_;refine AF2 (ASR g.bf.bf.bf.bf w (by omega) ai fun y2 h w=>?_);refine Is w rfl ?_;refine Si (m:=em) (es:=es) (bs:=a.bs) w fun h w=>?_;refine SH (AN4 (nm:=a.nm) (ix:=a.ix) (v:=.slice va a.bs.length vc) (T:=291) w (by omega) ?_);refine s.slice (i:=Bg a.nm.length+16) (j:=E.length) DY rfl (by omega) (I0 _) fun v5 d5=>?_;rw[L1] at d5;have e5:E.drop (Bg a.nm.length+16)=R:=by
   have:E=([UInt8.ofNat a.nm.length]++([UInt8.ofNat a.ix]++(BR t'++(zs 4++(Ag a.bs.length++(Ag (hashX a.nm a.bs)++FY a.nm))))))++R:=by rw[f];simp only[P0]
   rw[this];refine List.drop_left' ?_;simp only[C0,Da,Ba,BK,M0,U3];omega
  rw[e5,hR] at d5;have au:DS es (KL PX a.ix a.nm) (.slice va a.bs.length vc,a.bs)=es++[(KL PX a.ix a.nm,(.slice va a.bs.length vc,a.bs))]:=by
   refine PQ fun e q bi=>?_;rw[p,H2,H2,S4,<-ae] at ar;exact ar.2.2 e.1 (V1.2 ⟨(e.1,e.2.2),V1.2 ⟨e,q,rfl⟩,rfl⟩) (KL PX a.ix a.nm) (by rw[Q1,Q1];exact T0) bi
  rw[au] at w;refine aw l2.length _ _ ⟨l1++[a],l2,_,y2+(pts xb (.cells (xaC a.nm a.ix (.slice va a.bs.length vc)) 291 (0,0))+y),t',P++E.take (Bg a.nm.length+16),FY a.bs++S,rfl,by rw[p,P0];rfl,?_,?_,d5,?_,?_,w.cast (by ac_rfl)⟩ (by simp)
  ·rw[P0,<-hR,<-e5,B6];exact o
  ·rw[C0,Da];omega
  ·unfold GI at ae ⊢;rw[H2,ae,H2];rfl
  ·intro e q;rcases N4.1 q with q|q
   ·exact hv e q
   ·rw[H4] at q;subst q;exact d4
def Jx {m a:Nat}{es:Array MapEntry}(w:AN x h)[f:Be m x (.map es a)](K:∀ b h,AN (pts b (.mapIter (some m) a #[] a)+x) h->kt (Pt b) h):HM (.map (some m)) h kt:=
 ⟨es,a,w.find,fun b c e d g=>K b c (w.new e d g)⟩
def Uz {α:Type}{f:α->Vz}{mb ib:Nat}{es:List (Bs×α)}{I:List Nat}(n:I.Nodup)(m:∀ i∈I,i<es.length)(w:AN x h)[Be ib x (.mapIter (some mb) es.length I.toArray es.length)][Be mb x (.map (DK f es) es.length)](E:(I.filterMap fun i=>es[i]?).Perm es->kt (.tuple #[.bool false]) h)
  (K:∀ i a,es[i]? = some a->i∉I->(I++[i]).Nodup->(∀ j∈I++[i],j<es.length)->I.length<es.length->kt (.tuple #[.bool true,str a.1,f a.2]) (h.setIfInBounds ib (.mapIter (some mb) es.length (I++[i]).toArray es.length))):PH (Pt ib) h kt:=by
 refine⟨ib,rfl,.inr ⟨mb,es.length,I.toArray,DK f es,w.find,w.find,?_,fun l=>?_,fun e q t=>?_⟩⟩
 ·intro e q;obtain⟨i,a,p,rfl⟩:=Hg q;exact (G0.1 p).1
 ·refine E (Mx es I n m fun i hi=>?_);have:=l ⟨str es[i].1,f es[i].2,i⟩ (by
   refine P7 (i:=i) ?_;rw[Jl,B0 hi];rfl)
  simpa using this
 ·obtain⟨i,a,p,rfl⟩:=Hg q;have s:=(G0.1 p).1;have o:i∉I:=by simpa using t
  have e:I.toArray.push i=(I++[i]).toArray:=by simp
  have d:(I++[i]).Nodup:=by
   rw[S4];exact⟨n,by simp,by intro a ha b v;simp at v;subst v;intro e;subst e;exact o ha⟩
  have c:∀ j∈I++[i],j<es.length:=by
   intro j g;rcases N4.1 g with g|g
   ·exact m j g
   ·simp at g;subst g;exact s
  rw[e];refine K i a p o d c ?_;have u:=List.Nodup.length_le_of_subset (l₂:=List.range es.length) d fun i hi=>H6.2 (c i hi);rw[C0,List.length_range] at u;simp at u;omega
def QT {α:Type}{f:α->Vz}{mb ib i:Nat}{es:List (Bs×α)}{I:List Nat}{a:Bs×α}(b:es[i]? = some a)(w:AN x h)[Be ib x (.mapIter (some mb) es.length (I++[i]).toArray es.length)][Be mb x (.map (DK f es) es.length)](K:k (.tuple #[str a.1,f a.2])):OO (Pt ib) h k:=
 ⟨ib,mb,es.length,(I++[i]).toArray,DK f es,es.length,i,⟨str a.1,f a.2,i⟩,rfl,w.find,by simp,w.find,OP _ b,K⟩
theorem YY {α:Type}{es:List α}:∀ {I:List Nat},(∀ i∈I,i<es.length)->(I.filterMap fun i=>es[i]?).length=I.length
 | [],_=>rfl
 | a::I,hh=>by
  rw[List.filterMap_cons,B0 (hh a (by simp))];have:=YY (es:=es) (I:=I) fun i hi=>hh i (U0 _ hi);simp[this]
def i7 {α:Type}{es:List α}{I:List Nat}{i:Nat}{a:α}(b:es[i]? = some a):(I++[i]).filterMap (fun i=>es[i]?)=(I.filterMap fun i=>es[i]?)++[a]:=by
 rw[List.filterMap_append];simp[b]
def HD:Am TP 9=some (str []):=by kernel_rfl
section
variable {x0 x1 x2 x9 x12 x13 v:Vz} {mb ib:Nat} {es:XM}
def ARA (ae:es.length<=100000)(w:AN (pts ib (.mapIter (some mb) es.length #[] es.length)+x) h)[F:Be mb x (mapO es)]
  (K:∀ l v r y h,List.Perm l (es.map (·.1))->Vec 9 1 v l.length (strs l) r->AN (r+(y+x)) h->iw Q x0 x1 x2 x9 x12 x13 v AX  h):iy Q x0 x1 x2 x9 x12 x13 (Pt ib) cst__slice_none_0_0  h:=by
 unfold iy;refine Bj (fun m u o=>∃ (I:List Nat) (r:Res),m=es.length-I.length/\I.Nodup/\(∀ i∈I,i<es.length)/\Vec 9 1 u I.length (strs ((I.filterMap fun i=>es[i]?).map (·.1))) r/\AN (r+(pts ib (.mapIter (some mb) es.length I.toArray es.length)+x)) o) es.length
  ⟨[],0,by simp,List.nodup_nil,by simp,.nil,by rw[Res.zero_add];exact w⟩ ?_
 rintro rec m u o ⟨I,r,rfl,p,b,d,w⟩ n;unfold ADI BL;refine Uz (f:=fun c:Vz×Bs=>c.1) (mb:=mb) p b w (fun hp=>?_) fun i a q ah j g t=>?_
 ·rw[BF,AJ];have e:((I.filterMap fun i=>es[i]?).map (·.1)).length=I.length:=by rw[Z0,YY b]
  rw[<-e] at d;exact K _ u r _ o (hp.map _) d w
 ·have s:AN (pts ib (.mapIter (some mb) es.length (I++[i]).toArray es.length)+(r+x)) _:=(w.cast (y:=pts ib (.mapIter (some mb) es.length I.toArray es.length)+(r+x)) (by ac_rfl)).set (o':=.mapIter (some mb) es.length (I++[i]).toArray es.length);rw[BF,Ab];refine QT (f:=fun c:Vz×Bs=>c.1) (mb:=mb) (I:=I) q s ?_;rw[BF];refine DC (x:=pts ib (.mapIter (some mb) es.length (I++[i]).toArray es.length)+x) d (s.cast (by ac_rfl)) HD rfl rfl rfl (by omega) (by omega) fun v' r' h d w=>?_;refine n (es.length-(I++[i]).length) _ _ ⟨I++[i],r',rfl,j,g,?_,w⟩ (by rw[C0,U3];omega);rw[i7 q];unfold strs at d ⊢;simpa using d
end
def AGr {m a:Nat}{es:Array MapEntry}(w:AN x h)[Be m x (.map es a)](K:k (AB es.size)):Uq (.map (some m)) h k:=.inr ⟨m,es,a,rfl,w.find,K⟩
def Nm (w:AN x h)(K:∀ b h,AN (pts b (.map #[] 0)+x) h->kt (.map (some b)) h):Sn h kt:=fun b a e c d=>K b a (w.new e c d)
section
variable {x0 x1 x2 x9 x12 x13 v:Vz} {mb ib:Nat} {es:XM} {l0:List Bs}
def AQ9 (au:l0.length<=100000)(d:Vec 9 1 v l0.length (strs l0) r)(w:AN (r+x) h)
  (K:∀ r h,Vec 9 1 v l0.length (strs (sortL Op.bytesLess (l0.length-1) 1 l0)) r->AN (r+x) h->iu Q x0 x1 x2 x9 x12 x13 v (AB (l0.length:Nat))  AF  h):iw Q x0 x1 x2 x9 x12 x13 v AX  h:=by
 have q:∀ (l:List Bs) (i:Nat),i<l.length->l[i]? = some (l.getD i []):=fun l i hi=>by rw[W0,B0 hi];rfl
 obtain⟨⟨va,vm,hv⟩,_⟩:=d.len;have ln:∀ k:Vz->Prop,DM v k=k (AB (l0.length:Nat)):=fun k=>by rw[hv,As]
 unfold iw;refine Bj (fun m u p=>∃ (i:Nat) (l:List Bs) (r:Res),m=l0.length+1-i/\1<=i/\u=AB (i:Nat)/\l.Perm l0/\sortL Op.bytesLess (l0.length-i) i l=sortL Op.bytesLess (l0.length-1) 1 l0/\Vec 9 1 v l0.length (strs l) r/\AN (r+x) p) l0.length
  ⟨1,l0,r,rfl,I0 _,rfl,N8 _,rfl,d,w⟩ ?_
 rintro rec2 m u p ⟨i,l,r,rfl,ao,rfl,f,hs,d,w⟩ g;have aw:=f.length_eq;unfold ADG BL;rw[ln,AR];refine AS (fun ay=>?_) (fun aj=>?_)
 ·have ai:i<l0.length:=by omega
  have hm:l0.length-i=(l0.length-(i+1))+1:=by omega
  rw[hm,sortL] at hs;have next:∀ (l':List Bs) (r:Res) (h:H),l'=FC Op.bytesLess i l->Vec 9 1 v l0.length (strs l') r->AN (r+x) h->AQ .add (AB (i:Nat)) AX  fun t=>rec2 t h:=fun l' r h e d w=>by
   subst e;rw[Az (n:=1),Bq (by omega)];exact g _ _ _ ⟨i+1,FC Op.bytesLess i l,r,rfl,by omega,rfl,(Ic _ _ _ (by omega)).trans f,hs,d,w⟩ (by omega)
  unfold AKl;refine Bj (fun m u p=>∃ (j:Nat) (l':List Bs) (r:Res),m=j/\j<=i/\u=AB (j:Nat)/\l'.Perm l0/\FC Op.bytesLess j l'=FC Op.bytesLess i l/\Vec 9 1 v l0.length (strs l') r/\AN (r+x) p) i ⟨i,l,r,rfl,I0 _,rfl,f,rfl,d,w⟩ ?_;rintro rec3 m u p ⟨j,l',r,az,ar,rfl,c,a,d,w⟩ o;have ah:=c.length_eq;unfold ADH BL;rw[Ah];refine Ct (fun hj=>?_) (fun hj=>?_)
  ·obtain⟨b,rfl⟩:∃ b,j=b+1:=⟨j-1,by omega⟩;have ga:=Fd (q l' (b+1) (by omega));have gb:=Fd (q l' b (by omega));have sb:∀ k:Vz->Prop,AQ .sub (AB ((b+1:Nat):Int))  AX k=k (AB (b:Nat)):=fun k=>by
    rw[ZD (n:=1) (Int.ofNat_le.2 (by omega)),Bq (by omega),S5]
   refine CF d w ga ?_;rw[sb];refine CF d w gb ?_;rw[Nk];rw[FC] at a;cases s:Op.bytesLess (l'.getD (b+1) []) (l'.getD b []) with
   | false=>
    rw[s,F0 (by simp)] at a;rw[AJ];exact next l' r _ a d w
   | true=>
    rw[s,D0 rfl] at a;rw[Ab];unfold AKk AW;rw[sb,sb];refine CF d w gb ?_;refine CF d w ga ?_;refine DV d w (by omega) rfl rfl fun r h d w=>?_;refine DV d w (by omega) rfl rfl fun r h d w=>?_;rw[Lv,Lv] at d;rw[sb];exact o b _ _ ⟨b,Lx l' (b+1),r,rfl,by omega,rfl,(Kq (by omega) (by omega)).trans c,a,d,w⟩ (by omega)
  ·have ae:j=0:=by omega
   subst ae;exact next l' r _ a d w
 ·have h0:l0.length-i=0:=by omega
  rw[h0,sortL] at hs;subst hs;rw[ln];exact K r _ d w
def xaM (es:XM)(nm:Bs):XA:=match lookE es nm with
 | some c=>⟨(compL nm PX).2,(compL nm PX).1,c.1,c.2⟩
 | none=>⟨[],0,.slice none 0 0,[]⟩
theorem IX (a:XA)(l:List XA):needs (a::l)=a.need+needs l:=rfl
def MU (l m:List XA):needs (l++m)=needs l+needs m:=by
 unfold needs;rw[H2,G8]
theorem Rf (nm:Bs):∀ l,(compL nm l).2.length<=nm.length
 | []=>I0 _
 | (i,p)::l=>by
  unfold compL;cases Gh nm p with
  | true=>show (nm.drop p.length).length<=_;rw[J2];omega
  | false=>exact Rf nm l
def AQ8 {L:List Bs}{fb fm sb:Nat}{fc:List Vz}{s:XS}(hL:L.length<=900)(d:Vec 9 1 v L.length (strs L) r)(aj:∀ nm∈L,∃ c,lookE es nm=some c/\c.2.length<100000/\nm.length<100000)(hv:EX x es)(ao:fc[19]? = some (.map (some fm)))(ok:s.OK)(az:s.il.length+s.bl.length<=90)(e:needs (L.map (xaM es))<=s.ef)(g:HU x)
  [F1:Be fb x (.cells ⟨fc⟩ 191 (0,0))] [F2:Be fm x (mapO es)] (w:AN (s.res sb+(r+x)) h)
  (K:∀ s' h,s'.OK->s'.il=s.il++L.map (xaM es)->s'.bl=s.bl->s'.bw=s.bw->AN (XS.res sb s'+(r+x)) h->LP Q x0 (Pt fb) x2 x9 (Pt sb) x13 h):iu Q x0 (Pt fb) x2 x9 (Pt sb) x13 v (AB (L.length:Nat))  AF h:=by
 unfold iu;refine Bj (fun m u h'=>∃ (i:Nat) (s':XS),m+i=L.length/\u=AB (i:Nat)/\s'.OK/\s'.il=s.il++(L.take i).map (xaM es)/\s'.bl=s.bl/\s'.bw=s.bw/\needs ((L.drop i).map (xaM es))<=s'.ef/\AN (XS.res sb s'+(r+x)) h') L.length
  ⟨0,s,rfl,rfl,ok,by simp,rfl,rfl,e,w⟩ ?_
 rintro rec m u h' ⟨i,s',ay,rfl,ok,j,l,q,e,w⟩ ae;unfold ADF BL;rw[AR];refine AS (fun hc=>?_) (fun hc=>?_)
 ·have o:i<L.length:=by omega
  obtain⟨nm,f⟩:∃ nm,L[i]? = some nm:=⟨_,B0 o⟩;obtain⟨c,t,ai,ar⟩:=aj nm (D1 f);have hm:(nm,c)∈es:=by
   unfold lookE at t;rw[K4] at t;obtain⟨p,h1,h2⟩:=t;have h4:=List.find?_some h1;simp only[beq_iff_eq] at h4;obtain⟨a,b⟩:=p;simp only at h2 h4;subst h2 h4;exact List.mem_of_find?_eq_some h1
  have au:RdX x c.1 c.2:=hv _ hm;have ah:xaM es nm=⟨(compL nm PX).2,(compL nm PX).1,c.1,c.2⟩:=by unfold xaM;rw[t]
  have n:L.drop i=nm::L.drop (i+1):=by
   rw[N3 o];rw[B0 o] at f;rw[V0 f]
  rw[n,Q1,IX,ah] at e;refine CF d (w.cast (Res.left_comm _ _ _)) (Fd f) ?_;simp only[go_sem];refine Af w (u:=.map (some fm)) (by simpa using ao) ?_;refine Us w ?_;rw[t];show Call TP 155 [Pt sb,str nm,c.1] h' _;refine fk (AP1 (g.bf) ok w ar au.bf ai (by omega) (Rf _ _) (fun iv ir h aw w=>?_) (by rw[j,l];simp;omega));rw[CI,P3,AJ,Bq (by omega)];refine ae (m-1) _ _ ⟨i+1,_,by omega,rfl,aw,?_,l,q,by show _<=s'.ef-_;omega,w⟩ (by omega);show s'.il++_=_;rw[O3,f,H2,<-P0,<-j];show _=s'.il++[xaM es nm];rw[ah]
 ·have:i=L.length:=by omega
  subst this;rw[L1] at j;exact K s' _ ok j l q w
end
def o9 {α:Type}(l m:List (Bs×α))(nm:Bs):lookE (l++m) nm=(lookE l nm).or (lookE m nm):=by
 unfold lookE;rw[List.find?_append];cases l.find? fun p=>p.1 == nm<;>rfl
def ADp {α:Type}{l:List (Bs×α)}{nm:Bs}(h:lookE l nm=none):∀ e∈l,e.1≠nm:=by
 intro e b a;unfold lookE at h;rw[Option.map_eq_none_iff,List.find?_eq_none] at h;exact h e b (by simpa using a)
def Dk (es es2:XM):XM:=es2.filter fun e=>(lookE es e.1).isNone
def xaE (e:Bs×(Vz×Bs)):XA:=⟨(compL e.1 PX).2,(compL e.1 PX).1,e.2.1,e.2.2⟩
section
variable {x0 x2 x9 x12 x13 v:Vz} {fb fm em sb:Nat} {fc:List Vz} {es es2 S:XM} {s:XS}
def Ys {P:XM}{a:Bs×(Vz×Bs)}:Dk es (P++[a])=Dk es P++if lookE es a.1=none then [a] else []:=by
 unfold Dk;rw[L5];congr 1;cases h:lookE es a.1 with
 | none=>rw[D0 rfl];simp[h]
 | some c=>rw[F0 (by simp)];simp[h]
def ZA (i:S.Pairwise fun a b=>Op.bytesLess a.1 b.1=true){es':XM}(c:es'.Perm S){l:List Bs}(j:l.Perm (es'.map (·.1))) :
  sortL Op.bytesLess (l.length-1) 1 l=S.map (·.1)/\(S.map (·.1)).map (xaM es')=S.map xaE/\∀ e∈S,lookE es' e.1=some e.2:=by
 have g:(S.map (·.1)).Pairwise fun a b=>Op.bytesLess a b=true:=E6.2 i;have f:(es'.map (·.1)).Nodup:=(c.map _).nodup_iff.2 (g.imp fun {a b} h e=>by subst e;rw[IP] at h;cases h);have lk:∀ e∈S,lookE es' e.1=some e.2:=fun e d=>Hr f (c.mem_iff.2 d);refine⟨AHZ (j.trans (c.map _)) g,?_,lk⟩;rw[D5];refine Q4 fun e d=>?_;show xaM es' e.1=xaE e;unfold xaM;rw[lk e d];rfl
def AOI {es':XM}{x1:Vz}(hS:S.Pairwise fun a b=>Op.bytesLess a.1 b.1=true)(q:es'.Perm S)(hv:EX x es')(ai:es'.length<=800)(hb:∀ e∈S,e.1.length<100000/\e.2.2.length<100000)(f:fc[19]? = some (.map (some fm)))(ok:s.OK)(ah:s.il.length+s.bl.length<=90)(i:needs (S.map xaE)<=s.ef)(g:HU x)
  [F1:Be fb x (.cells ⟨fc⟩ 191 (0,0))] [F2:Be fm x (mapO es')] (w:AN (s.res sb+x) h) (K:∀ s' y h,s'.OK->s'.il=s.il++S.map xaE->s'.bl=s.bl->s'.bw=s.bw->AN (XS.res sb s'+(y+x)) h->LP Q x0 (Pt fb) x2 x9 (Pt sb) x13 h) :
  BS (Pt fb) fun a=>Aw 19 a fun a=>Ae false 1 a h fun j=>Uq j h fun n=>AQ .neq n  AF  fun uu=>BJ uu (BS (Pt fb) fun a=>Aw 19 a fun a=>Ae false 1 a h fun o=>HM o h fun p h=>iy Q x0 (Pt fb) x2 x9 (Pt sb) x13 p (.slice none 0 0) h) (LP Q x0 (Pt fb) x2 x9 (Pt sb) x13 h):=by
 simp only[go_sem];refine Af w (u:=.map (some fm)) (by simpa using f) ?_;refine AGr (m:=fm) w ?_;have e0:(DK (fun c:Vz×Bs=>c.1) es').size=es'.length:=by unfold DK;simp
 rw[e0,Ay];refine AS (fun hc=>?_) (fun hc=>?_)
 ·refine Af w (u:=.map (some fm)) (by simpa using f) ?_;refine Jx (m:=fm) w fun ib h w=>?_;refine ARA (es:=es') (mb:=fm) (by omega) w fun l v r y h hl d w=>?_;obtain⟨q1,q2,q3⟩:=ZA hS q hl;have ae:l.length=es'.length:=by rw[hl.length_eq,Z0]
  refine AQ9 (by omega) d w fun r h d w=>?_;rw[q1] at d;have e1:l.length=(S.map (·.1)).length:=by rw[Z0,ae,q.length_eq]
  rw[e1] at d ⊢;refine AQ8 (es:=es') (fc:=fc) (fm:=fm) (s:=s) (x:=y+x) (by rw[<-e1];omega) d (fun nm hn=>?_) hv.bf f ok ah (by rw[q2];exact i) g.bf (w.cast (by ac_rfl)) fun s' h o1 o2 o3 o4 w=>?_
  ·obtain⟨e,he,rfl⟩:=V1.1 hn;exact⟨e.2,q3 e he,(hb e he).2,(hb e he).1⟩
  ·rw[q2] at o2;exact K s' (r+y) h o1 o2 o3 o4 (w.cast (by ac_rfl))
 ·have h0:es'.length=0:=by
   rcases X7 es'.length with h|h
   ·exact h
   ·exact absurd (by omega) hc
  have t:S=[]:=X4.1 (by rw[<-q.length_eq];exact h0);subst t;exact K s 0 h ok (by simp) rfl rfl (w.cast (by rw[Res.zero_add]))
def AQ4 (hS:S.Pairwise fun a b=>Op.bytesLess a.1 b.1=true)(hP:S.Perm (es++Dk es es2))(hv:EX x es)(bi:EX x es2)(ah:(es2.map (·.1)).Nodup)(bj:es.length+es2.length<=800)(hb:∀ e∈S,e.1.length<100000/\e.2.2.length<100000)(p:fc[19]? = some (.map (some fm)))(ok:s.OK)(bg:s.il.length+s.bl.length<=90)(q:needs (S.map xaE)<=s.ef)(g:HU x)
  (w:AN (s.res sb+(pts fm (mapO es)+(pts em (mapO es2)+(pts fb (.cells ⟨fc⟩ 191 (0,0))+x)))) h) (K:∀ s' y h,s'.OK->s'.il=s.il++S.map xaE->s'.bl=s.bl->s'.bw=s.bw->AN (XS.res sb s'+(pts fb (.cells ⟨fc⟩ 191 (0,0))+(y+x))) h->LP Q x0 (Pt fb) x2 x9 (Pt sb) x13 h) :
  Oa Q x0 (Pt fb) x2 x9 (.map (some em)) (Pt sb) x13 h:=by
 unfold Oa AW;refine Jx (m:=em) w fun ib h w=>?_;unfold AKm;refine AKq (fun m h'=>∃ I:List Nat,m=es2.length-I.length/\I.Nodup/\(∀ i∈I,i<es2.length)/\AN (pts ib (.mapIter (some em) es2.length I.toArray es2.length)+(s.res sb+(pts fm (mapO (es++Dk es (I.filterMap fun i=>es2[i]?)))+(pts em (mapO es2)+(pts fb (.cells ⟨fc⟩ 191 (0,0))+x))))) h') es2.length
  ⟨[],by simp,List.nodup_nil,by simp,w.cast (by rw[List.filterMap_nil];unfold Dk;rw[List.filter_nil,X0])⟩ ?_
 rintro rec m h' ⟨I,rfl,aw,u,w⟩ aj;unfold ADJ BL;have bm:=YY (es:=es2) u;refine Uz (f:=fun c:Vz×Bs=>c.1) (mb:=em) aw u w (fun hp=>?_) fun i a ha ay ae v bk=>?_
 ·rw[BF,AJ];have az:(es++Dk es (I.filterMap fun i=>es2[i]?)).Perm S:=((hp.filter _).append_left es).trans hP.symm;have bn:(Dk es (I.filterMap fun i=>es2[i]?)).length<=es2.length:=C6 (G7 _ _) (by rw[hp.length_eq];exact I0 _);refine AOI (es':=es++Dk es (I.filterMap fun i=>es2[i]?)) (x1:=undef) (fm:=fm) (fc:=fc) (x:=pts ib (.mapIter (some em) es2.length I.toArray es2.length)+(pts fm (mapO (es++Dk es (I.filterMap fun i=>es2[i]?)))+(pts em (mapO es2)+(pts fb (.cells ⟨fc⟩ 191 (0,0))+x)))) hS az (fun e n=>?_) (by rw[C0];omega) hb p ok bg q g.bf.bf.bf.bf (w.cast (by ac_rfl)) fun s' y h o1 o2 o3 o4 w=>?_
  ·rcases N4.1 n with n|n
   ·exact (hv e n).bf.bf.bf.bf
   ·exact (bi e (hp.mem_iff.1 (G5.1 n).1)).bf.bf.bf.bf
  ·exact K s' (y+(pts ib (.mapIter (some em) es2.length I.toArray es2.length)+(pts fm (mapO (es++Dk es (I.filterMap fun i=>es2[i]?)))+pts em (mapO es2)))) h o1 o2 o3 o4 (w.cast (by ac_rfl))
 ·have o:AN (pts ib (.mapIter (some em) es2.length (I++[i]).toArray es2.length)+(s.res sb+(pts fm (mapO (es++Dk es (I.filterMap fun i=>es2[i]?)))+(pts em (mapO es2)+(pts fb (.cells ⟨fc⟩ 191 (0,0))+x))))) _:=w.set (o':=.mapIter (some em) es2.length (I++[i]).toArray es2.length);rw[BF,Ab];refine QT (f:=fun c:Vz×Bs=>c.1) (mb:=em) (I:=I) ha o ?_;rw[BF,BO];simp only[go_sem];have l:(⟨fc⟩:Array Vz)[19]? = some (.map (some fm)):=by simpa using p
  refine Af o l ?_;refine Us (m:=fm) o ?_;have t:lookE (es++Dk es (I.filterMap fun i=>es2[i]?)) a.1=lookE es a.1:=by
   rw[o9];have:lookE (Dk es (I.filterMap fun i=>es2[i]?)) a.1=none:=by
    refine Ki fun e n ao=>?_;obtain⟨j,hj,ar⟩:=List.mem_filterMap.1 (G5.1 n).1;have au:j=i:=by
     have h1:(es2.map (·.1))[j]? = some e.1:=by rw[Y0,ar];rfl
     have h2:(es2.map (·.1))[i]? = some a.1:=by rw[Y0,ha];rfl
     rw[ao] at h1;exact (List.getElem?_inj (G0.1 h1).1 ah).1 (h1.trans h2.symm)
    exact ay (au▸hj)
   rw[this];cases lookE es a.1<;>rfl
  rw[t];have d:∀ h,AN (pts ib (.mapIter (some em) es2.length (I++[i]).toArray es2.length)+(s.res sb+(pts fm (mapO (es++Dk es ((I++[i]).filterMap fun i=>es2[i]?)))+(pts em (mapO es2)+(pts fb (.cells ⟨fc⟩ 191 (0,0))+x))))) h->rec h:=fun h w=>
   aj (es2.length-(I++[i]).length) h ⟨I++[i],rfl,ae,v,w⟩ (by rw[C0,U3];omega)
  have bh:es++Dk es ((I++[i]).filterMap fun i=>es2[i]?)=(es++Dk es (I.filterMap fun i=>es2[i]?))++if lookE es a.1=none then [a] else []:=by
   rw[i7 ha,Ys,P0]
  rw[bh] at d;cases hl:lookE es a.1 with
  | none=>
   rw[hl,D0 rfl] at d;simp only[cond,go_sem,T5];refine Af o l ?_;have ai:DS (es++Dk es (I.filterMap fun i=>es2[i]?)) a.1 (a.2.1,a.2.2)=(es++Dk es (I.filterMap fun i=>es2[i]?))++[a]:=PQ (ADp (by rw[t,hl]));refine Si (m:=fm) (es:=es++Dk es (I.filterMap fun i=>es2[i]?)) (bs:=a.2.2) o fun h w=>?_;rw[ai] at w;exact d h w
  | some c=>
   rw[hl,F0 (by simp),X0] at d;simp only[cond,go_sem,P3];exact d _ o
end
def km {T:Tj}{l:Bs}(w:AN x h)(K:∀ v r h,RdX r v l->AN (r+x) h->kt v h):AEU T (str l) h kt:=by
 refine⟨_,rfl,fun b cap d c e g a=>?_⟩;rw[EC] at c a;have f:DJ ⟨l.toArray⟩++Array.replicate (cap-l.length)  BE =bcs (l++List.replicate (cap-l.length) 0):=by
  rw[IM,FP];congr 1;apply P4;simp[DJ,bcs,bc]
 rw[f] at a;rw[EC];refine K _ (pts b (.cells (bcs (l++List.replicate (cap-l.length) 0)) T (cap,cap+1))) d (.inr ⟨b,0,cap,_,T,_,0,rfl,(Res.add_zero _).symm,by simp,by simp,c⟩) (w.new e g a)
end
def AQX {v:Vz}{v0:Vz}{c:Nat}{a:Option Addr}(b:v=.slice a 0 c)(K:Q (.tuple #[AB 0,.nilIface]) h):f57 v0 v h Q:=by
 subst b;unfold f57 AW;simp (disch:=omega) only[go_sem,H0];exact K
def AS8 {s:WS}{n:Nd}{nb:Nat}{v:Vz}{news ck:Bs}(ok:s.OK)(w:AN (s.res+(pts nb (.cells n.cells 197 (0,0))+(r+x))) h)(d:RdX x v news)(f:s.cur=Pt nb)(j:n.ed=268697600)(q:BufV n.data ck r)(u:0<news.length)
  (p:s.dw+news.length<=s.dm) (g:s.dm=ck.length) (e:ck.length<=1000000)
  (K:∀ dv dr h,BufV dv (setL ck s.dw news) dr->AN (WS.res {s with dw:=s.dw+news.length}+(pts nb (.cells n.cells 197 (0,0))+(dr+x))) h->dv=n.data->Q (.tuple #[AB (news.length:Nat),.nilIface]) h):f57 (Pt s.wb) v h Q:=by
 obtain⟨a,c,t⟩:=d.len;subst t;unfold f57 AW;simp (disch:=omega) only[go_sem,AC w,f,J0];have b:n.ed &&& 268435456=268435456:=by rw[j];rfl
 simp (disch:=omega) only[go_sem,AC w,b,H0];generalize i:n.data=dv0 at *;cases q with
 | nil=>simp at g;omega
 | own o=>
  rename_i bb m all;have l:(all.take m).length=m:=by simp[V2 o]
  rw[l] at g e;simp (disch:=omega) only[go_sem,AC w,i,JX];refine Hc (all:=all) (w.cast (y:=pts bb (.cells (bcs all) 5 (0,0))+(s.res+(pts nb (.cells n.cells 197 (0,0))+x))) (by unfold WS.res buf;ac_rfl)) d.bf.bf (by omega) (by omega) fun h w=>?_;simp (disch:=omega) only[go_sem,AC w];refine AD w (WS.cells {s with dw:=s.dw+news.length}) rfl rfl (by simp) rfl fun h w=>?_;exact K _ _ h (.own' (by rw[Ad (by omega)];exact o) (Ad (by omega)) (Mc (by omega) o)) (w.cast (by unfold WS.res;ac_rfl)) rfl
def AQW {s:WS}{n:Nd}{nb:Nat}{v:Vz}{news:Bs}(ok:s.OK)(w:AN (s.res+(pts nb (.cells n.cells 197 (0,0))+x)) h)(d:RdX x v news)(e:s.cur=Pt nb)(g:n.ed=262144)(m:0<news.length)
  (i:s.dw+news.length<=s.dm) (j:s.dm<9223372036854775808) (l:s.pos+news.length<=s.max) (f:s.d9=s.pos)
  (K:∀ dv r h,WS.OK {s with dv:=dv,dr:=r,B:=putL s.B s.pos news,d9:=s.pos+news.length,pos:=s.pos+news.length,dw:=s.dw+news.length} ->
   AN (WS.res {s with dv:=dv,dr:=r,B:=putL s.B s.pos news,d9:=s.pos+news.length,pos:=s.pos+news.length,dw:=s.dw+news.length}+(pts nb (.cells n.cells 197 (0,0))+x)) h->Q (.tuple #[AB (news.length:Nat),.nilIface]) h):f57 (Pt s.wb) v h Q:=by
 obtain⟨a,c,o⟩:=d.len;subst o;unfold f57 AW;simp (disch:=omega) only[go_sem,AC w,e,J0];have b:n.ed &&& 268435456=0:=by rw[g];rfl
 simp (disch:=omega) only[go_sem,AC w,b,J0];refine ST (s98 ok w d.bf m l f fun dv r h ok w=>?_);simp (disch:=omega) only[go_sem,AC w];refine AD w (WS.cells {s with pos:=s.pos+news.length,dw:=s.dw+news.length}) rfl rfl (by simp) rfl fun h w=>?_;exact K dv r h ⟨ok.buf,ok.len,ok.max⟩ (w.cast (by unfold WS.res;first|rfl|ac_rfl))
def VZ {v:Vz}{bs:Bs}{n:Nat}(b:BufV v bs r)(w:AN (r+x) h)(a:bs.length+2<=140737488355328)(K:∀ v r h,BufV v (bs++BR n) r->AN (r+x) h->Q v h):AMI v (cU16 n) h Q:=by
 unfold AMI AW;simp only[go_sem];refine Dh (l:=BR n) w (by decide) ?_ rfl fun b1 h w=>?_
 ·simp only[QK];rfl
 ·rw[Res.left_comm] at w;exact Bu b w (Yv w rfl) (by simpa[BR] using a) fun v r h b w=>K v r h b (by rw[Res.left_comm] at w;exact w.right)
def OR (magic entries most depth gen:Nat):Bs:=BR magic++BR entries++BR most++BR depth++Ag gen
def ASl {a b c d e:Nat}(w:AN x h)(K:∀ v r h,BufV v (OR a b c d e) r->AN (r+x) h->Q v h):AMa (.agg ⟨[cU16 a,cU16 b,cU16 c,cU16 d,AM e]⟩) h Q:=by
 unfold AMa AW;refine BG w fun pb h w=>?_;simp only[go_sem,AC w];refine Gq (VZ (bs:=[]) .nil (w.cast (Res.zero_add _).symm) (by simp) fun v r h bv w=>?_);rw[AC w];simp only[go_sem];refine Gq (VZ bv w (by simp[Ba]) fun v r h bv w=>?_);rw[AC w];simp only[go_sem];refine Gq (VZ bv w (by simp[Ba]) fun v r h bv w=>?_);rw[AC w];simp only[go_sem];refine Gq (VZ bv w (by simp[Ba]) fun v r h bv w=>?_);rw[AC w];simp only[go_sem];refine Gp (VY bv w (by simp[Ba]) fun v r h bv w=>?_);exact K v r h bv (AN.right (x:=pts pb _) (w.cast (Res.left_comm _ _ _)))
def FQ (block len hi lo:Nat):Bs:=Ag block++BR len++BR hi++Ag lo
def ASm {a b c d:Nat}(w:AN x h)(K:∀ v r h,BufV v (FQ a b c d) r->AN (r+x) h->Q v h):AMb (.agg ⟨[AM a,cU16 b,cU16 c,AM d]⟩) h Q:=by
 unfold AMb AW;refine BG w fun pb h w=>?_;simp only[go_sem,AC w];refine Gp (VY (bs:=[]) .nil (w.cast (Res.zero_add _).symm) (by simp) fun v r h bv w=>?_);rw[AC w];simp only[go_sem];refine Gq (VZ bv w (by simp[BK]) fun v r h bv w=>?_);rw[AC w];simp only[go_sem];refine Gq (VZ bv w (by simp[Ba,BK]) fun v r h bv w=>?_);rw[AC w];simp only[go_sem];refine Gp (VY bv w (by simp[Ba,BK]) fun v r h bv w=>?_);exact K v r h bv (AN.right (x:=pts pb _) (w.cast (Res.left_comm _ _ _)))
def AHw:Am TP 325=some (.agg ⟨[Ex,Ex,Ex,Ex,Al]⟩):=by kernel_rfl
def mn:Am TP 327=some (.agg ⟨[Al,Ex,Ex,Al]⟩):=by kernel_rfl
@[go_sem] def ATO {a:Option Addr}{n c:Nat}:ZV (.slice a n c) k=k (AB c):=propext ⟨fun⟨_,_,_,h,b⟩=>by cases h;exact b,fun b=>⟨_,_,_,rfl,b⟩⟩
def Yc {b o n c i sz:Nat}{kk:Iq}(hi:i<n):Ap (.slice sz) (.slice (some ⟨b,o,none⟩) n c) (.int kk (i:Int)) k=k (.pointer (some ⟨b,o+i*sz,none⟩)):=by
 unfold Ap;refine propext ⟨fun⟨kk',m,h1,a,l,c',h2,h3,h4,h5⟩=>?_,fun d=>⟨kk,i,rfl,_,n,c,rfl,by omega,by omega,?_⟩⟩
 ·cases h1;cases h2;rw[J5,Cb] at h5;exact h5
 ·rw[J5,Cb];exact d
abbrev exC (e m blocks start:Nat):Array Vz:=⟨[cU16 62218,cU16 e,cU16 m,Ex,Al,Al,cU16 blocks,Ex,AM start,Al,Ex,Ex,Al,Al,Ex,Ex,Al,Al,Ex,Ex,Al]⟩
abbrev AFX (a b c d:Int):Array Vz:=⟨[cU16 a,cU16 b,cU16 c,cU16 d,Al,Al,Ex,Ex,Al,Al,Ex,Ex,Al,Al,Ex,Ex,Al,Al,Ex,Ex,Al]⟩
theorem ASk {eb blocks start:Nat}{T:Tj}(w:AN (pts eb (.cells (AFX 0 0 0 0) T (0,0))+x) h)(h1:1<=blocks)(h2:blocks<=32768)(h3:start+32768<4294967296)
  (K:∀ h,AN (pts eb (.cells (exC 1 4 blocks start) T (0,0))+x) h->Q (.tuple #[]) h):AMZ (Pt eb) (.slice (some ⟨eb,5,none⟩) 1 4) (.int .u32 start) (.int .u32 0) (.int .u32 blocks) h Q:=by
 unfold AMZ AW;simp (disch:=omega) only[go_sem];refine BA (rs:=[.int .u16 62218,.int .u16 ((1:Nat):Int),.int .u16 ((4:Nat):Int),.int .u16 0,.int .u32 0]) AHw rfl rfl ?_;refine AD w (AFX 62218 1 4 0) ((AY _ _ _).trans rfl) rfl (by exact Nat.le_add_left 5 16) rfl fun h w=>?_;unfold AA2;refine Bj (fun m v h'=>(m=1/\v=.int .i64 0/\AN (pts eb (.cells (AFX 62218 1 4 0) T (0,0))+x) h')\/(m=0/\v=.int .i64 1/\AN (pts eb (.cells (exC 1 4 blocks start) T (0,0))+x) h')) 1 (.inl ⟨rfl,rfl,w⟩) ?_;rintro rec m v h' (⟨rfl,rfl,w⟩|⟨rfl,rfl,w⟩) hrec
 ·unfold SO BL;have e0:(Value.int .i64 0)=.int .i64 ((0:Nat):Int):=rfl;have e1:(Value.int .u32 0)=.int .u32 ((0:Nat):Int):=rfl;rw[e0,e1];simp (disch:=omega) only[go_sem,H0,J0,G6,Z4,C8];unfold AA1 AW;simp (disch:=omega) only[go_sem,Z4];refine BA mn rfl rfl ?_;rw[Yc (by omega)];refine AD w (exC 1 4 blocks start) ((AY _ _ _).trans rfl) rfl (by exact Nat.le_add_left 9 12) rfl fun h w=>?_;exact hrec 0 _ _ (.inr ⟨rfl,rfl,w⟩) (by omega)
 ·unfold SO BL;simp (disch:=omega) only[go_sem,J0];exact K _ w
def AN1 {s:WS}{n:Nd}{nb b:Nat}{dv:Vz}{a:Option Addr}{m c:Nat}(d:dv=.slice a m c)(w:AN (s.res+(pts nb (.cells n.cells 197 (0,0))+x)) h)(e:n.ed<4294967296)(f:n.bu+b<4294967296)
  (K:∀ h,AN (s.res+(pts nb (.cells (Nd.cells {n with data:=dv,ed:=n.ed ||| 524288,bu:=n.bu+b}) 197 (0,0))+x)) h->Q .nilIface h):SD Q (Pt s.wb) (Pt nb) (AM b) dv h:=by
 subst d;unfold SD AW;simp (disch:=omega) only[go_sem];refine AD w (Nd.cells {n with data:=.slice a m c}) rfl rfl (by simp) rfl fun h w=>?_;simp (disch:=omega) only[go_sem,AC w];refine AD w (Nd.cells {n with data:=.slice a m c,ed:=n.ed ||| 524288}) rfl rfl (by simp) rfl fun h w=>?_;simp (disch:=omega) only[go_sem,AC w];refine AD w (Nd.cells {n with data:=.slice a m c,ed:=n.ed ||| 524288,bu:=n.bu+b}) rfl rfl (by simp) rfl fun h w=>?_;simp (disch:=omega) only[go_sem,AC w];exact K _ w
abbrev lfC (a b c d:Nat):List Vz:=[AM a,cU16 b,cU16 c,AM d]
abbrev lfs (blocks start:Nat):List Vz:=lfC 0 blocks 0 start++lfC 0 0 0 0++lfC 0 0 0 0++lfC 0 0 0 0
def Up (blocks start i:Nat):Bs:=if i=0 then FQ 0 blocks 0 start else FQ 0 0 0 0
def DL (blocks start:Nat):Nat->Bs
 | 0=>[]
 | i+1=>DL blocks start i++Up blocks start i
theorem PA (b s:Nat):∀ i,(DL b s i).length=12*i
 | 0=>rfl
 | i+1=>by
  rw[DL,C0,PA b s i];have:(Up b s i).length=12:=by unfold Up;split<;>rfl
  omega
def ANU (e start:Nat):∀ i,i<4->∃ a b c d,(⟨lfs e start⟩:Array Vz).extract (i*4) (i*4+4)=⟨lfC a b c d⟩/\Up e start i=FQ a b c d:=by
 intro i hi;have:i=0\/i=1\/i=2\/i=3:=by omega
 rcases this with rfl|rfl|rfl|rfl
 ·exact⟨0,e,0,start,rfl,rfl⟩
 ·exact⟨0,0,0,0,rfl,rfl⟩
 ·exact⟨0,0,0,0,rfl,rfl⟩
 ·exact⟨0,0,0,0,rfl,rfl⟩
def AN2 {v0 v1 j c:Vz}{bs:Bs}{a start:Nat}(b:BufV c bs r)(w:AN (r+x) h)(n:bs.length<=100)(K:∀ v r h,BufV v (bs++DL a start 4) r->AN (r+x) h->SD Q v0 v1 j v h) :
  Xh Q v0 v1 j (.agg ⟨lfs a start⟩) c (AB ((0:Nat):Int)) h:=by
 unfold Xh;refine DF (fun m c e f=>∃ i r,m=4-i/\i<=4/\BufV c (bs++DL a start i) r/\e=AB (i:Nat)/\AN (r+x) f) 4 ⟨0,r,rfl,by omega,by rw[DL,X0];exact b,rfl,w⟩ ?_;rintro rec m c e f ⟨i,r,rfl,hi,b,rfl,w⟩ d;unfold Xg BL;simp (disch:=omega) only[go_sem];refine AS (fun l=>?_) (fun l=>?_)
 ·obtain⟨a1,a2,a3,a4,e1,e2⟩:=ANU a start i (by omega);rw[SY (by omega),e1];refine AV w mn rfl fun pb h w=>?_;refine AD w ⟨lfC a1 a2 a3 a4⟩ ((AY _ _ _).trans rfl) rfl (by simp) rfl fun h w=>?_;rw[BC (w.find (b:=pb)) (by simp)];refine AGO (ASm w fun sv g h sb w=>?_);refine Bu (x:=g+(pts pb (.cells ⟨lfC a1 a2 a3 a4⟩ 327 (0,0))+x)) b (w.cast (by ac_rfl)) (sb.rd w) (by rw[C0,PA];simp[FQ,Ba,BK];omega) fun v r h b w=>?_;refine d (4-(i+1)) _ _ _ ⟨i+1,r,rfl,by omega,?_,rfl,AN.left (y:=g+pts pb (.cells ⟨lfC a1 a2 a3 a4⟩ 327 (0,0))) (w.cast (by ac_rfl))⟩ (by omega);rw[DL,e2,<-P0];exact b
 ·have:i=4:=by omega
  subst this;exact K _ _ _ b w
def AHx:Am TP 329=some (.agg ⟨(AFX 0 0 0 0).toList⟩):=by kernel_rfl
def extRoot (blocks start:Nat):Bs:=OR 62218 1 4 0 0++DL blocks start 4
def NG {b o n sz j:Nat}{kk:Iq}(d:j<=n)(e:0<n):Cf (.arr n sz) (.pointer (some ⟨b,o,none⟩)) none (some (.int kk (j:Int))) k=k (.slice (some ⟨b,o,none⟩) j n):=by
 have c:Bi (.arr n sz) (.pointer (some ⟨b,o,none⟩)) none (some (.int kk (j:Int)))=some (.slice (some ⟨b,o,none⟩) j n):=by
  simp only[Bi,DY];simp only[Bb];rw[D0 ⟨Q2 _,d⟩,F0 (by omega),G6];rfl
 exact propext ⟨fun⟨v,a,b⟩=>by rw[c] at a;cases a;exact b,fun a=>⟨_,c,a⟩⟩
theorem ASM {s:WS}{n:Nd}{nb:Nat}(ok:s.OK)(w:AN (s.res+(pts nb (.cells n.cells 197 (0,0))+x)) h)(ao:s.dw<=s.pos)(ai:(s.pos-s.dw)%4096=0)(f:s.d9=s.pos)(hB:s.B.length<=s.pos)(h1:1<=s.dw)(h2:s.dw<=134000000)(hm:s.pos+4096<=s.max)
  (l:n.ed<4294967296) (aj:n.bu<1000000)
  (K:∀ dv r ev u h p,p=s.pos+(4096-s.pos%4096)%4096->WS.OK {s with dv:=dv,dr:=r,B:=if p=s.pos then s.B else putL s.B s.pos (List.replicate (p-s.pos) 0),d9:=p,pos:=p} ->
   BufV ev (extRoot ((p-(s.pos-s.dw))/4096) ((s.pos-s.dw)/4096)) u ->
   AN (WS.res {s with dv:=dv,dr:=r,B:=if p=s.pos then s.B else putL s.B s.pos (List.replicate (p-s.pos) 0),d9:=p,pos:=p}+(pts nb (.cells (Nd.cells {n with data:=ev,ed:=n.ed ||| 524288,bu:=n.bu+(p-(s.pos-s.dw))/4096}) 197 (0,0))+(u+x))) h->Q .nilIface h) :
  ALt (Pt s.wb) (Pt nb) h Q:=by
 have ah:=ok.max;unfold ALt AW;simp (disch:=omega) only[go_sem,AC w,J0];refine AGL (ASj ok w hm f hB fun dv r h q hq ok w=>?_);obtain⟨p,o⟩:∃ p,p=s.pos+q:=⟨_,rfl⟩;obtain⟨bl,d⟩:∃ bl,bl=(p-(s.pos-s.dw))/4096:=⟨_,rfl⟩;obtain⟨st,i⟩:∃ st,st=(s.pos-s.dw)/4096:=⟨_,rfl⟩;have ar:p%4096=0:=by omega
 have ae:1<=bl/\bl<=32768:=by omega
 have t:p/4096=st+bl:=by omega
 refine Rk (s100 (s:={s with dv:=dv,dr:=r,B:=if q=0 then s.B else putL s.B s.pos (List.replicate q 0),d9:=s.pos+q,pos:=s.pos+q}) ok (by show s.pos+q<=s.max;omega) w ?_);show (fun _=>_) _;rw[<-o,<-i,t];simp (disch:=omega) only[go_sem,M4];have he:(bl+32768-1)/32768=1:=by omega
 rw[he];have eB:(if q=0 then s.B else putL s.B s.pos (List.replicate q 0))=if p=s.pos then s.B else putL s.B s.pos (List.replicate (p-s.pos) 0):=by
  rw[o,M4];by_cases g:q=0
  ·rw[D0 g,D0 (by omega)]
  ·rw[F0 g,F0 (by omega)]
 rw[eB,<-o] at ok w;rw[show decide (((1:Nat):Int)=0)=false from rfl,show decide (((1:Nat):Int)<=4)=true from rfl];simp only[go_sem];refine AV w AHx rfl fun xb h w=>?_;simp only[go_sem,Z4,U1];rw[NG (by omega) (by omega)];refine AGM (ASk w (by omega) (by omega) (by omega) fun h w=>?_);rw[BC (w.find (b:=xb)) (by exact Nat.le_add_left 5 16)];refine AGN (ASl w fun v r' h bv w=>?_);refine Bu (bs:=[]) (r:=0) .nil (w.cast (Res.zero_add _).symm) (bv.rd w) (by simp[OR,Ba,BK]) fun v' r2 h j w=>?_;have e5:(exC 1 4 bl st).extract 5 (5+16)=⟨lfs bl st⟩:=rfl;rw[BC (w.find (b:=xb)) (by exact I0 21),e5];refine AN2 (x:=WS.res {s with dv:=dv,B:=if p=s.pos then s.B else putL s.B s.pos (List.replicate (p-s.pos) 0),dr:=r,d9:=p,pos:=p}+(pts nb (.cells n.cells 197 (0,0))+x)) j (AN.left (y:=r'+pts xb (.cells (exC 1 4 bl st) 329 (0,0))) (w.cast (by ac_rfl))) (by simp[OR,Ba,BK]) fun v r2 h bv w=>?_;obtain⟨a,m,c,rfl⟩:∃ a m c,v=.slice a m c:=let ⟨a,c,e⟩:=bv.len;⟨a,_,c,e⟩;refine AN1 (x:=r2+x) (s:={s with dv:=dv,B:=if p=s.pos then s.B else putL s.B s.pos (List.replicate (p-s.pos) 0),dr:=r,d9:=p,pos:=p}) rfl (AN.cast w (by ac_rfl)) l (by omega) fun h w=>?_;rw[d] at w;rw[U2,d,i] at bv;exact K _ _ _ _ _ p (by omega) ok bv w
@[go_sem] def ATQ {c:Bool}{p:Addr}:HF .ptr c true h Au  (.pointer (some p)) k=k  AI:=by simp[HF,HS]
def AOk (L:List (Option Nd))(n:Nd):Prop:=
 (BufV n.data n.ck n.dr/\BufV n.ff n.fe n.xr/\n.en<65536/\n.ek<100000/\n.ed<4294967296)/\∀ mb es,n.dir=some (mb,es)->∀ e∈es,1<=e.2/\∃ c,L[e.2-1]? = some (some c)
def FOK.ndOK {s:WS}{ad:Nat->Nat}{L:List (Option Nd)}{tr:Res}{c:Nat}{n:Nd}(ok:FOK s ad L tr)(a:L[c]? = some (some n)):AOk L n:=
 ⟨ok.nd _ _ a,fun mb es=>ok.kid _ _ mb es a⟩
def LU {L:List (Option Nd)}{c:Nat}{n':Nd}{i:Nat}(h:∃ m,L[i]? = some (some m)):∃ m,(L.set c (some n'))[i]? = some (some m):=by
 obtain⟨m,b⟩:=h;have d:=(G0.1 b).1;rw[G4];by_cases a:c=i
 ·subst a;rw[D0 rfl,D0 d];exact⟨_,rfl⟩
 ·rw[F0 a];exact⟨m,b⟩
def Gs {s s':WS}{ad:Nat->Nat}{L:List (Option Nd)}{tr:Res}{c:Nat}{n n':Nd}(ok:FOK s ad L tr)(t:s'.OK)(hi:s'.inv=s.inv)(o:L[c]? = some (some n))(p:n'.num=n.num)(g:AOk L n'):FOK s' ad (L.set c (some n')) tr:=by
 have q:=(G0.1 o).1;have f:(L.set c (some n')).map (ptrO ad)=L.map (ptrO ad):=by
  apply O4;intro i;rw[Y0,Y0,G4];by_cases d:c=i
  ·subst d;rw[D0 rfl,D0 q,o];simp[ptrO,p]
  ·rw[F0 d]
 have b:∀ i m,(L.set c (some n'))[i]? = some (some m)->(i=c/\m=n')\/L[i]? = some (some m):=by
  intro i m a;rw[G4] at a;by_cases d:c=i
  ·subst d;rw[D0 rfl,D0 q] at a;cases a;exact .inl ⟨rfl,rfl⟩
  ·rw[F0 d] at a;exact .inr a
 refine⟨t,?_,?_,?_,?_,by simpa using ok.len⟩
 ·rw[f,O5,hi];exact ok.vec
 ·intro i m a;rcases b i m a with⟨rfl,rfl⟩|a
  ·rw[p];exact ok.num _ _ o
  ·exact ok.num _ _ a
 ·intro i m a;rcases b i m a with⟨rfl,rfl⟩|a
  ·exact g.1
  ·exact ok.nd _ _ a
 ·intro i m mb es a j e l;rcases b i m a with⟨rfl,rfl⟩|a
  ·exact⟨(g.2 mb es j e l).1,LU (g.2 mb es j e l).2⟩
  ·have:=ok.kid i m mb es a j e l;exact⟨this.1,LU this.2⟩
def FOK.ws' {s s':WS}{ad:Nat->Nat}{L:List (Option Nd)}{tr:Res}(ok:FOK s ad L tr)(a:s'.OK)(hi:s'.inv=s.inv):FOK s' ad L tr:=
 ⟨a,by rw[hi];exact ok.vec,ok.num,ok.nd,ok.kid,ok.len⟩
def Hz {ad:Nat->Nat}{L:List (Option Nd)}{c:Nat}{n:Nd}(a:c<L.length):sumR ad (L.set c (some n))=n.res ad+sumR ad (L.set c none):=Pi ad (some n) L c a
abbrev WS.idle (s:WS):WS:={s with cur:=.pointer none,dw:=0,dm:=0}
def ATH {s:WS}(w:AN (s.res+x) h)(a:s.ini=true)(b:s.cur=.pointer none)(K:Q .nilIface h):YU (Pt s.wb) h Q:=by
 unfold YU AW;simp (disch:=omega) only[go_sem,AC w,a,P3];unfold UO AW;simp (disch:=omega) only[go_sem,AC w,b];exact K
def AOG {s:WS}(w:AN (s.res+x) h)(K:∀ h,AN (s.idle.res+x) h->Q .nilIface h):BV 1 (.pointer (some ⟨s.wb,5,none⟩))  AF  h fun h=>BV 1 (.pointer (some ⟨s.wb,6,none⟩))  AF  h fun h=>BV 1 (.pointer (some ⟨s.wb,3,none⟩))  Au  h fun h=>Ae false 1 (.pointer (some ⟨s.wb,7,none⟩)) h fun a=>Q a h:=by
 refine AD w (WS.cells {s with dw:=0}) rfl rfl (by simp) rfl fun h w=>?_;refine AD w (WS.cells {s with dw:=0,dm:=0}) rfl rfl (by simp) rfl fun h w=>?_;refine AD w (WS.cells s.idle) rfl rfl (by simp) rfl fun h w=>?_;simp (disch:=omega) only[go_sem,AC w];exact K _ w
def ATG {s:WS}{ad:Nat->Nat}{L:List (Option Nd)}{tr:Res}{c:Nat}{n:Nd}(ok:FOK s ad L tr)(w:AN (FR s ad L tr+x) h)(d:s.ini=true)(l:s.cur=Pt (ad c))(j:1<=c)(p:L[c-1]? = some (some n))(f:s.dw=s.dm)
  (b:s.dm=0\/n.ed=268697600) (K:∀ h,FOK s.idle ad L tr->AN (FR s.idle ad L tr+x) h->Q .nilIface h):YU (Pt s.wb) h Q:=by
 have g:∀ h,AN (s.idle.res+(tr+sumR ad L+x)) h->Q .nilIface h:=fun h w=>K h (ok.ws' ⟨ok.ws.buf,ok.ws.len,ok.ws.max⟩ rfl) (w.cast (by unfold FR;ac_rfl));unfold YU AW;simp (disch:=omega) only[go_sem,AC w,d,P3];unfold UO AW;have m:decide ((s.dm:Int)≠(s.dm:Int))=false:=by simp
 simp (disch:=omega) only[go_sem,AC w,l,f,m];refine Ct (fun q=>?_) (fun q=>?_)
 ·have b:n.ed=268697600:=by omega
  obtain⟨t,e⟩:=Cs ok j p w;have a:n.ed &&& 268435456=268435456:=by rw[b];rfl
  have o:n.ed<4294967296:=by omega
  have i:decide (((268435456:Nat):Int)=0)=false:=by simp
  rw[<-e];simp (disch:=omega) only[go_sem,AC t,a,i];unfold ik AW;simp only[go_sem];exact AOG (x:=tr+sumR ad L+x) (w.cast (by unfold FR;ac_rfl)) g
 ·unfold ik AW;simp only[go_sem];exact AOG (x:=tr+sumR ad L+x) (w.cast (by unfold FR;ac_rfl)) g
def upB (p:Nat):Nat:=(p+4095)/4096*4096
def padB (B:Bs)(p:Nat):Bs:=if upB p=p then B else putL B p (List.replicate (upB p-p) 0)
abbrev WS.shut (s:WS)(dv:Vz)(r:Res):WS:={s with dv:=dv,dr:=r,B:=padB s.B s.pos,d9:=upB s.pos,pos:=upB s.pos,cur:=.pointer none,dw:=0,dm:=0}
abbrev Nd.ext (n:Nd)(s:WS)(ev:Vz)(er:Res):Nd:={n with data:=ev,ck:=extRoot ((upB s.pos-(s.pos-s.dw))/4096) ((s.pos-s.dw)/4096),dr:=er,ed:=n.ed ||| 524288,bu:=n.bu+(upB s.pos-(s.pos-s.dw))/4096}
def AQ2 {s:WS}{n:Nd}{nb:Nat}(ok:s.OK)(w:AN (s.res+(pts nb (.cells n.cells 197 (0,0))+x)) h)(d:s.ini=true)(o:s.cur=Pt nb)(i:s.dw=s.dm)(ae:1<=s.dm)(j:n.ed=262144)(l:s.dw<=s.pos)(f:(s.pos-s.dw)%4096=0)(e:s.d9=s.pos)(v:s.B.length<=s.pos)(u:s.dw<=134000000)
  (hm:s.pos+4096<=s.max) (g:n.bu<1000000) (K:∀ dv r ev b h,WS.OK (s.shut dv r)->BufV ev (extRoot ((upB s.pos-(s.pos-s.dw))/4096) ((s.pos-s.dw)/4096)) b->AN ((s.shut dv r).res+(pts nb (.cells (n.ext s ev b).cells 197 (0,0))+(b+x))) h->Q .nilIface h):YU (Pt s.wb) h Q:=by
 unfold YU AW;simp (disch:=omega) only[go_sem,AC w,d,P3];unfold UO AW;have he:decide ((s.dm:Int)≠(s.dm:Int))=false:=by simp
 have hz:decide ((s.dm:Int)≠0)=true:=by simp;omega
 simp (disch:=omega) only[go_sem,AC w,o,i,he,hz];have c:n.ed &&& 268435456=0:=by rw[j];rfl
 have t:decide (((0:Nat):Int)=0)=true:=by simp
 simp (disch:=omega) only[go_sem,AC w,c,t];unfold ik AW;simp only[go_sem,AC w,o];refine AFv (ASM (n:=n) ok w l f e v (by omega) u hm (by omega) g fun dv r ev b h p hp a q w=>?_);have m:p=upB s.pos:=by unfold upB;omega
 subst m;simp only[go_sem];exact AOG (s:={s with dv:=dv,dr:=r,B:=if upB s.pos=s.pos then s.B else putL s.B s.pos (List.replicate (upB s.pos-s.pos) 0),d9:=upB s.pos,pos:=upB s.pos}) w fun h w=>K dv r ev b h ⟨a.buf,a.len,a.max⟩ q w
def ATF {s:WS}{ad:Nat->Nat}{L:List (Option Nd)}{tr:Res}{c:Nat}{n:Nd}(ok:FOK s ad L tr)(w:AN (FR s ad L tr+x) h)(f:s.ini=true)(hc:s.cur=Pt (ad c))(u:1<=c)(j:L[c-1]? = some (some n))(p:s.dw=s.dm)(o:1<=s.dm)
  (e:n.ed=262144) (q:s.dw<=s.pos) (l:(s.pos-s.dw)%4096=0) (g:s.d9=s.pos) (hB:s.B.length<=s.pos) (v:s.dw<=134000000) (hm:s.pos+4096<=s.max) (m:n.bu<1000000)
  (K:∀ dv r ev i h,FOK (s.shut dv r) ad (L.set (c-1) (some (n.ext s ev i))) tr->AN (FR (s.shut dv r) ad (L.set (c-1) (some (n.ext s ev i))) tr+x) h->Q .nilIface h):YU (Pt s.wb) h Q:=by
 obtain⟨w',b⟩:=Cs ok u j w;have hl:=(G0.1 j).1;have a:=ok.ndOK j;refine AQ2 (n:=n) (x:=n.dr+(n.xr+n.kr ad)+(tr+sumR ad (L.set (c-1) none)+x)) ok.ws (w'.cast (by unfold Nd.res;rw[b];ac_rfl)) f hc p o e q l g hB v hm m fun dv r ev i h d t w=>?_;refine K dv r ev i h ?_ ?_
 ·refine Gs ok ⟨d.buf,d.len,d.max⟩ rfl j rfl ⟨⟨t,a.1.2.1,a.1.2.2.1,a.1.2.2.2.1,?_⟩,a.2⟩;show n.ed ||| 524288<4294967296
  rw[e];decide
 ·refine AN.left (y:=n.dr) (w.cast ?_);unfold FR;rw[Hz hl];unfold Nd.res WS.res Nd.kr;dsimp only;rw[b];ac_rfl
theorem Ph {ad a:Nat->Nat}:∀ (L:List (Option Nd)),(∀ n,some n∈L->ad n.num=a n.num/\∀ mb es,n.dir=some (mb,es)->∀ e∈es,ad e.2=a e.2)->sumR ad L=sumR a L
 | [],_=>rfl
 | o::l,hh=>by
  rw[sumR,sumR,Ph l fun n i=>hh n (U0 _ i)];congr 1;cases o with
  | none=>rfl
  | some n=>
   obtain⟨b,d⟩:=hh n (T0 ..);show Nd.res ad n=Nd.res a n;unfold Nd.res Nd.kr;rw[b];cases f:n.dir with
   | none=>rfl
   | some me=>
    obtain⟨mb,es⟩:=me;have:DK (fun c=>Pt (ad c)) es=DK (fun c=>Pt (a c)) es:=by
     unfold DK;congr 1;apply Q4;intro p j;have g:p.1∈es:=(List.mem_zipIdx' j).2▸I7 _;simp only[d mb es f p.1 g]
    simp only[De,this]
theorem Fe {ad:Nat->Nat}(o:Option Nd):∀ L:List (Option Nd),sumR ad (L++[o])=ndR ad o+sumR ad L
 | []=>by simp[sumR]
 | a::l=>by rw[Y5,sumR,Fe o l,sumR,Res.left_comm]
def UQ (Q:Kt)(x0 x2:Vz)(h:H):Prop:=BS x2 fun a=>Aw 5 a fun a=>Ae false 1 a h fun x404=>AQ .sub x404  BW  fun x405=>GO .i64 x405 fun x406=>BS x0 fun a=>Aw 1 a fun a=>Ae false 1 a h fun x410=>DM x410 fun x411=>AQ .geq x406 x411 fun uu=>BJ uu (BS x0 fun a=>Aw 1 a fun a=>Ae false 1 a h fun x417=>AK (.arr 1) 182 (Am TP 182) 1 1 [(0,x2)] h fun x419 h=>Ac 182 (Am TP 182) 1 8 x417 x419 h fun x420 h=>BS x0 fun a=>Aw 1 a fun x422=>BV 1 x422 x420 h fun h=>Q (.tuple #[x2,.nilIface]) h) (Q (.tuple #[x2,.nilIface]) h)
section
variable {s:WS} {n:Nd} {nb N fb:Nat} {tr:Res} {vs fc:List Vz} {v13:Vz} {lk:Bs}
def ADM (dv:Vec 182 1 s.inv N vs tr)(w:AN (s.res+(tr+(pts nb (.cells n.cells 197 (0,0))+x))) h)(b:n.num=N+1)(g:N<9999)
  (K:∀ inv tr' h,Vec 182 1 inv (N+1) (vs++[Pt nb]) tr'->AN (WS.res {s with inv:=inv}+(tr'+(pts nb (.cells n.cells 197 (0,0))+x))) h->Q (.tuple #[Pt nb,.nilIface]) h):UQ Q (Pt s.wb) (Pt nb) h:=by
 obtain⟨⟨a,c,e⟩,f⟩:=dv.len;unfold UQ;simp (disch:=omega) only[go_sem,AC w,b,e,S5,H0];rw[e] at dv;refine DC (x:=s.res+(pts nb (.cells n.cells 197 (0,0))+x)) dv (w.cast (by ac_rfl)) MB rfl rfl rfl (by omega) (by omega) fun inv tr' h dv w=>?_;obtain⟨⟨a2,c2,d⟩,_⟩:=dv.len;subst d;refine AD w (WS.cells {s with inv:=.slice a2 (N+1) c2}) rfl rfl (by simp) rfl fun h w=>?_;exact K _ tr' h dv (w.cast (by unfold WS.res;ac_rfl))
def ADN (dv:Vec 182 1 s.inv N vs tr)(w:AN (s.res+(tr+(pts nb (.cells n.cells 197 (0,0))+x))) h)(e:1<=n.num)(f:n.num<=N)(g:N<=10000)(K:Q (.tuple #[Pt nb,.nilIface]) h):UQ Q (Pt s.wb) (Pt nb) h:=by
 obtain⟨⟨a,c,b⟩,d⟩:=dv.len;unfold UQ;simp (disch:=omega) only[go_sem,AC w,b,J0];exact K
def AOH (ok:s.OK)(m:fc[0]? = some (str lk))(f:s.ini=true)(a:s.cur=.pointer none)(g:s.d9=s.pos)(j:s.pos%4096=0)(hB:s.B.length<=s.pos)(q:1<=lk.length)(ae:lk.length<=100000)(hm:s.pos+lk.length+4096<=s.max)(e:n.ed=262144)(l:n.bu<1000000)
  [F:Be fb x (.cells ⟨fc⟩ 191 (0,0))] (w:AN (s.res+(pts nb (.cells n.cells 197 (0,0))+x)) h)
  (K:∀ s' ev c y h,(∃ dv dr nm,s' = {s with dv:=dv,dr:=dr,nm:=nm,B:=padB (putL s.B s.pos lk) (s.pos+lk.length),d9:=upB (s.pos+lk.length),pos:=upB (s.pos+lk.length),dw:=0,dm:=0})->s'.OK->BufV ev (extRoot ((upB (s.pos+lk.length)-s.pos)/4096) (s.pos/4096)) c ->
   AN (s'.res+(pts nb (.cells (Nd.cells {n with data:=ev,ed:=n.ed ||| 524288,bu:=n.bu+(upB (s.pos+lk.length)-s.pos)/4096}) 197 (0,0))+(c+(y+x)))) h->UQ Q (Pt s.wb) (Pt nb) h):QY Q (Pt s.wb) (Pt fb) (Pt nb) (AB (lk.length:Nat)) AI h:=by
 unfold QY AW;rw[Ab];refine YW (s96 w a ⟨_,rfl⟩ fun h w=>?_);rw[Gw,AG];refine Af w (u:=str lk) (by simpa using m) ?_;refine km w fun v r h d w=>?_;refine Kc (AQW (s:={s with nm:=.string ⟨#[]⟩,cur:=Pt nb,dw:=0,dm:=lk.length}) (n:=n) (nb:=nb) (x:=r+x) ⟨ok.buf,ok.len,ok.max⟩ (w.cast (Kq6 _ _ _ _)) d.an rfl e q (by show 0+lk.length<=lk.length;omega) (by show lk.length<_;omega) (by show s.pos+lk.length<=s.max;omega) g fun dv dr h p w=>?_);rw[BF,BO,Ij,AJ];have e1:s.pos+lk.length-(0+lk.length)=s.pos:=by omega
 refine MM (AQ2 (s:={s with dv:=dv,dr:=dr,B:=putL s.B s.pos lk,d9:=s.pos+lk.length,nm:=.string ⟨#[]⟩,cur:=Pt nb,pos:=s.pos+lk.length,dw:=0+lk.length,dm:=lk.length}) (n:=n) (nb:=nb) (x:=r+x) p w f rfl (by show 0+lk.length=lk.length;omega) q e (by show 0+lk.length<=s.pos+lk.length;omega) (by show (s.pos+lk.length-(0+lk.length))%4096=0;rw[e1];exact j) rfl ?_ (by show 0+lk.length<=_;omega) hm l fun i r2 ev c h o t w=>?_)
 ·show (putL s.B s.pos lk).length<=s.pos+lk.length;rw[Fa];omega
 ·rw[Ij,AJ];have b:BufV ev (extRoot ((upB (s.pos+lk.length)-(s.pos+lk.length-(0+lk.length)))/4096) ((s.pos+lk.length-(0+lk.length))/4096)) c:=t;rw[e1] at b;refine K _ ev c r h ⟨i,r2,.string ⟨#[]⟩,?_⟩ o b (w.cast ?_)
  ·unfold WS.shut;rw[a]
  ·unfold Nd.ext WS.shut;dsimp only;rw[e1]
end
structure Tm where
 set:Bool
 sec:Int
 ns:Int
structure FL where
 link:Bs
 size:Nat
 en:Nat
 uid:Nat
 gid:Nat
 at_:Tm
 ct:Tm
 mt:Tm
 cr:Tm
 d7:Nat
 d8:Nat
abbrev FL.cells (f:FL)(xa:Vz):List Vz:=[str f.link,AB f.size,cU16 f.en,AM f.uid,AM f.gid,.bool f.at_.set,AB f.at_.sec,AB f.at_.ns,.bool f.ct.set,AB f.ct.sec,AB f.ct.ns,
 .bool f.mt.set,AB f.mt.sec,AB f.mt.ns,.bool f.cr.set,AB f.cr.sec,AB f.cr.ns,AM f.d7,AM f.d8,xa]
def Tm.ok (t:Tm):Prop:=t.set=true->0<=t.sec/\t.sec<9223372036854775808/\0<=t.ns/\t.ns<1000000000
def Tm.laid (t:Tm):Nat:=Pk t.set t.sec.toNat t.ns.toNat
inductive MvR:Vz->XM->Res->Prop
 | no:MvR  cst__map_none [] 0
 | yes (fm:Nat) (es:XM):MvR (.map (some fm)) es (pts fm (mapO es))
def Nd.of (n:Nd)(f:FL)(m:Nat):Nd:={n with en:=m,uid:=f.uid,gid:=f.gid,ed:=262144,at_:=f.at_.laid,ct:=f.ct.laid,mt:=f.mt.laid,cr:=f.cr.laid,d7:=f.d7,d8:=f.d8,data:=.slice none 0 0}
def AQ7 {n:Nd}{nb fb m:Nat}{f:FL}{v0 c xm:Vz}{es:XM}(j:MvR xm es r)(w:AN (pts nb (.cells n.cells 197 (0,0))+(pts fb (.cells ⟨f.cells xm⟩ 191 (0,0))+(r+x))) h)(d:f.at_.ok)(e:f.ct.ok)(g:f.mt.ok)(i:f.cr.ok)
  (K:∀ fm h,AN (pts nb (.cells (n.of f m).cells 197 (0,0))+(pts fb (.cells ⟨f.cells (.map (some fm))⟩ 191 (0,0))+(pts fm (mapO es)+x))) h->iq Q v0 (Pt fb) (Pt nb) c h) :
  UP Q v0 (Pt fb) (Pt nb) (cU16 (m:Int)) c h:=by
 unfold UP AW;simp (disch:=omega) only[go_sem,AC w];refine AD w (Nd.cells {n with en:=m}) rfl rfl (by simp) rfl fun h w=>?_;simp (disch:=omega) only[go_sem,AC w];refine AD w (Nd.cells {n with en:=m,uid:=f.uid}) rfl rfl (by simp) rfl fun h w=>?_;simp (disch:=omega) only[go_sem,AC w];refine AD w (Nd.cells {n with en:=m,uid:=f.uid,gid:=f.gid}) rfl rfl (by simp) rfl fun h w=>?_;refine AD w (Nd.cells {n with en:=m,uid:=f.uid,gid:=f.gid,ed:=262144}) rfl rfl (by simp) rfl fun h w=>?_;rw[BC (w.find (b:=fb)) (by simp)];refine Nc (AHP (set:=f.at_.set) (sec:=f.at_.sec) (ns:=f.at_.ns) w d fun h w=>?_);refine AD w (Nd.cells {n with en:=m,uid:=f.uid,gid:=f.gid,ed:=262144,at_:=f.at_.laid}) rfl rfl (by simp) rfl fun h w=>?_;rw[BC (w.find (b:=fb)) (by simp)];refine Nc (AHP (set:=f.ct.set) (sec:=f.ct.sec) (ns:=f.ct.ns) w e fun h w=>?_);refine AD w (Nd.cells {n with en:=m,uid:=f.uid,gid:=f.gid,ed:=262144,at_:=f.at_.laid,ct:=f.ct.laid}) rfl rfl (by simp) rfl fun h w=>?_;rw[BC (w.find (b:=fb)) (by simp)];refine Nc (AHP (set:=f.mt.set) (sec:=f.mt.sec) (ns:=f.mt.ns) w g fun h w=>?_);refine AD w (Nd.cells {n with en:=m,uid:=f.uid,gid:=f.gid,ed:=262144,at_:=f.at_.laid,ct:=f.ct.laid,mt:=f.mt.laid}) rfl rfl (by simp) rfl fun h w=>?_;rw[BC (w.find (b:=fb)) (by simp)];refine Nc (AHP (set:=f.cr.set) (sec:=f.cr.sec) (ns:=f.cr.ns) w i fun h w=>?_);refine AD w (Nd.cells {n with en:=m,uid:=f.uid,gid:=f.gid,ed:=262144,at_:=f.at_.laid,ct:=f.ct.laid,mt:=f.mt.laid,cr:=f.cr.laid}) rfl rfl (by simp) rfl fun h w=>?_;simp (disch:=omega) only[go_sem,AC w];refine AD w (Nd.cells {n with en:=m,uid:=f.uid,gid:=f.gid,ed:=262144,at_:=f.at_.laid,ct:=f.ct.laid,mt:=f.mt.laid,cr:=f.cr.laid,d7:=f.d7}) rfl rfl (by simp) rfl fun h w=>?_;simp (disch:=omega) only[go_sem,AC w];refine AD w (Nd.cells {n with en:=m,uid:=f.uid,gid:=f.gid,ed:=262144,at_:=f.at_.laid,ct:=f.ct.laid,mt:=f.mt.laid,cr:=f.cr.laid,d7:=f.d7,d8:=f.d8}) rfl rfl (by simp) rfl fun h w=>?_;refine AD w (n.of f m).cells rfl rfl (by simp) rfl fun h w=>?_;simp (disch:=omega) only[go_sem,AC w];cases j with
 | no=>
  have a:∀ k:Vz->Prop,HF .map true false h cst__map_none cst__map_none  k=k  AI :=fun k=>by simp[HF,HS]
  rw[a,Ab];refine Nm w fun fm h w=>?_;refine AD w ⟨f.cells (.map (some fm))⟩ rfl rfl (by simp) rfl fun h w=>?_;exact K fm h (w.cast (by rw[Res.zero_add];ac_rfl))
 | yes fm es=>
  have a:∀ k:Vz->Prop,HF .map true false h (.map (some fm))  cst__map_none  k=k AE:=fun k=>by simp[HF,HS]
  rw[a,AJ];exact K fm h w
def ADl {m:Nat}(h:m<65536):kindB m<65536:=U6 O7 h
def modeK (m:Nat):Nat:=if kindB m=0 then m ||| 32768 else m
def Uj {m:Nat}(b:m<65536)(a:kindB m=0):kindB (m ||| 32768)=32768/\m ||| 32768<65536:=by
 refine⟨?_,Q6 (n:=16) b (by omega)⟩;unfold kindB at *;rw[Nat.and_or_distrib_right,a];rfl
def CC (m:Nat):Nat:=if kindB (modeK m)=40960 then modeK m ||| 511 else modeK m
def Dj {m:Nat}(h:m<65536):modeK m<65536/\CC m<65536/\kindB (CC m)=kindB (modeK m):=by
 have a:modeK m<65536:=by
  unfold modeK;split
  ·rename_i b;exact (Uj h b).2
  ·exact h
 refine⟨a,?_,?_⟩
 ·unfold CC;split
  ·exact Q6 (n:=16) a (by decide)
  ·exact a
 ·unfold CC;split
  ·unfold kindB;rw[Nat.and_or_distrib_right];exact Nat.or_zero _
  ·rfl
def Vr (l:List XA):Bs:=if l=[] then [] else NM l
def ASP {n:Nd}{nb sb:Nat}{s:XS}{v0:Vz}(ok:s.OK)(w:AN (pts nb (.cells n.cells 197 (0,0))+(s.res sb+x)) h)(e:s.bl=[])(i:n.xblk=0)(f:n.ff=.slice none 0 0)(d:needs s.il<=96)
  (g:∀ a∈s.il,RdX x a.v a.bs/\a.nm.length<256/\a.ix<256/\a.bs.length<100000)
  (K:∀ xv xr h,BufV xv (Vr s.il) xr->AN (pts nb (.cells (Nd.cells {n with ff:=xv}) 197 (0,0))+(xr+(s.res sb+x))) h->Q .nilIface h):ou v0 (Pt nb) (Pt sb) h Q:=by
 by_cases c:s.il=[]
 ·refine AP2 ok w c e i fun h w=>K cst__slice_none_0_0  0 h ?_ ?_
  ·unfold Vr;rw[D0 c];exact .nil
  ·have:({n with ff:=.slice none 0 0}:Nd)=n:=by rw[<-f]
   rw[this,Res.zero_add];exact w
 ·refine AP3 ok w c e i d g fun xv xr h b w=>K xv xr h ?_ w;unfold Vr;rw[F0 c];exact b
def XA.key (a:XA):Bs×Nat×Bs:=(a.nm,a.ix,a.bs)
def ADk {a b:XA}(h:a.key=b.key):a.nm=b.nm/\a.ix=b.ix/\a.bs=b.bs:=by
 simp only[XA.key,D7] at h;exact h
theorem Qt (o d:Nat):∀ (l l':List XA) (e t:Nat) (all:Bs),l.map XA.key=l'.map XA.key->Ej o d l e t all=Ej o d l' e t all
 | [],[],_,_,_,_=>rfl
 | [],b::l',_,_,_,h=>by cases h
 | a::l,[],_,_,_,h=>by cases h
 | a::l,b::l',e,t,all,h=>by
  simp only[Q1,List.cons.injEq] at h;obtain⟨k1,k2,c⟩:=ADk h.1;have f:JR all o e t d a=JR all o e t d b:=by rw[FS,FS,k1,k2,c]
  rw[Ej,Ej,f,k1,c];exact Qt o d l l' _ _ _ h.2
theorem MV {l l':List XA}(h:l.map XA.key=l'.map XA.key):needs l=needs l':=by
 have e:∀ a:XA,a.need=(fun q:Bs×Nat×Bs=>Bg q.1.length+16+Bg q.2.2.length) a.key:=fun _=>rfl;have:l.map XA.need=l'.map XA.need:=by
  have e2:XA.need=(fun q:Bs×Nat×Bs=>Bg q.1.length+16+Bg q.2.2.length)∘XA.key:=funext e;rw[e2,<-D5,h,D5]
 unfold needs;rw[this]
def toX (a:Bs×Bs):XA:=⟨(compL a.1 PX).2,(compL a.1 PX).1,.slice none 0 0,a.2⟩
def xinA (l:AL):Bs:=if l=[] then [] else NM (l.map toX)
def AOa {il:List XA}{al:AL}(h:il.map XA.key=(al.map toX).map XA.key):Vr il=xinA al:=by
 unfold Vr xinA;have c:il=[]↔al=[]:=by
  constructor
  ·intro e;subst e;cases al with
   | nil=>rfl
   | cons a l=>cases h
  ·intro e;subst e;cases il with
   | nil=>rfl
   | cons a l=>cases h
 by_cases b:al=[]
 ·rw[D0 b,D0 (c.2 b)]
 ·rw[F0 b,F0 fun e=>b (c.1 e)];exact Qt _ _ _ _ _ _ _ h
def Hw (a:Bs×Bs):Nat:=16+Bg (compL a.1 PX).2.length+Bg a.2.length
def Yr (l:AL):needs (l.map toX)=(l.map Hw).sum:=by
 unfold needs;rw[D5];congr 1;refine Q4 fun a _=>?_;show Bg (compL a.1 PX).2.length+16+Bg a.2.length=16+Bg (compL a.1 PX).2.length+Bg a.2.length;omega
section
variable {n:Nd} {nb sb kd sz fb:Nat} {xs:XS} {w0:Vz}
def AQ3 (i:xs.OK)(w:AN (pts nb (.cells n.cells 197 (0,0))+(xs.res sb+x)) h)(e:xs.bl=[])(p:n.xblk=0)(d:n.ff=.slice none 0 0)(c:needs xs.il<=96)(g:∀ a∈xs.il,RdX x a.v a.bs/\a.nm.length<256/\a.ix<256/\a.bs.length<100000)(m:kd<65536)(o:sz<9223372036854775808)
  (j:¬(kd=40960/\59<sz)->∀ xv xr h,BufV xv (Vr xs.il) xr->AN (pts nb (.cells (Nd.cells {n with ff:=xv,size:=sz}) 197 (0,0))+(xr+(xs.res sb+x))) h->UQ Q w0 (Pt nb) h)
  (l:kd=40960->59<sz->∀ xv xr h,BufV xv (Vr xs.il) xr->AN (pts nb (.cells (Nd.cells {n with ff:=xv,size:=sz}) 197 (0,0))+(xr+(xs.res sb+x))) h->QY Q w0 (Pt fb) (Pt nb) (AB (sz:Nat)) AI  h) :
  LP Q w0 (Pt fb) (Pt nb) (cU16 (kd:Int)) (Pt sb) (AB (sz:Int)) h:=by
 have t0:∀ h,UQ Q w0 (Pt nb) h->QY Q w0 (Pt fb) (Pt nb) (AB (sz:Nat))  AE  h:=fun h K=>by
  unfold QY AW;rw[AJ];exact K
 unfold LP AW;refine AFz (ASP i w e p d c g fun xv xr h bx w=>?_);rw[Ij,AJ,Gw,AG];refine AD w (Nd.cells {n with ff:=xv,size:=sz}) rfl rfl (by simp) rfl fun h w=>?_;have k1:∀ k:Vz->Prop,AQ .eql (cU16 (kd:Nat)) (cU16 40960) k=k (.bool (decide (kd=40960))):=fun k=>by rw[AT];congr 2;simp;omega
 have k2:∀ k:Vz->Prop,AQ .gtr (AB (sz:Nat)) (AB 59) k=k (.bool (decide (59<sz))):=fun k=>by rw[Ah];congr 2;simp;omega
 rw[k1];refine Ct (fun f=>?_) (fun f=>t0 h (j (fun hh=>f hh.1) xv xr h bx w));rw[k2];by_cases b:59<sz
 ·rw[H0 b];exact l f b xv xr h bx w
 ·rw[J0 b];exact t0 h (j (fun hh=>b hh.2) xv xr h bx w)
end
def AHv:Am TP 284=some (.agg ⟨[.slice none 0 0,.slice none 0 0,AB 0,AB 0]⟩):=by kernel_rfl
def RE {kk:Iq}{b o n c j:Nat}(f:j<=c):Cf (.slice 1) (.slice (some ⟨b,o,none⟩) n c) none (some (.int kk (j:Int))) k=k (.slice (some ⟨b,o,none⟩) j c):=by
 have e:Bi (.slice 1) (.slice (some ⟨b,o,none⟩) n c) none (some (.int kk (j:Int)))=some (.slice (some ⟨b,o,none⟩) j c):=by
  simp only[Bi,DY];simp only[Bb];rw[D0 ⟨Q2 _,f⟩];by_cases d:c=0
  ·rw[D0 d];simp[d]
  ·rw[F0 d];simp[Addr.add]
 exact propext ⟨fun⟨v,a,b⟩=>by rw[e] at a;cases a;exact b,fun a=>⟨_,e,a⟩⟩
def GP:Bs:=[115,121,115,116,101,109,46,100,97,116,97]
def QO:compL GP PX=(7,[100,97,116,97]):=by decide
def inlK (inl:Bool)(kd sz:Nat):Bool:=inl&&kd == 32768&&decide (sz<=136)
def sdA (inl:Bool)(kd sz:Nat):AL:=if inlK inl kd sz=true then [(GP,List.replicate (sz-60) 0)] else []
def TM (inl:Bool)(kd sz:Nat)(al:AL):Bs:=xinA (sdA inl kd sz++al)
def kindOk (kd:Nat):Prop:=kd=32768\/kd=16384\/kd=4096\/kd=49152\/kd=8192\/kd=24576\/kd=40960
def Pj (kd sz:Nat)(lk:Bs):Nat:=if kd=32768 then sz else if kd=40960 then lk.length else 0
def LQ (inl:Bool)(kd sz:Nat):Nat:=if inlK inl kd sz=true then 268697600 else 262144
def LG (inl:Bool)(kd sz:Nat)(lk:Bs):Bs:=if inlK inl kd sz=true then List.replicate sz 0 else if kd=40960/\lk.length<=59 then lk else []
def AKs {b m n:Nat}{T:Tj}{fz:Nat×Nat}(a:m<=n):RdX (pts b (.cells (bcs (List.replicate n 0)) T fz)+y) (.slice (some ⟨b,0,none⟩) m n) (List.replicate m 0):=
 .inr ⟨b,0,n,(List.replicate n 0).map bc,T,fz,y,by rw[M0],rfl,by simp;omega,by rw[I5,M0,<-J7,S8,V2 a],by simp;omega⟩
theorem Uw {a:XA}:∀ {l:List XA},a∈l->a.need<=needs l
 | b::l,h=>by
  rw[IX];rcases I1.1 h with h|h
  ·subst h;omega
  ·have:=Uw h;omega
def Ka (nm:Bs):(compL nm PX).1<256:=by
 rcases Re PX nm with e|⟨p,a,e⟩
 ·rw[e];decide
 ·rw[<-e];have:∀ p∈PX,p.1<256:=by decide
  exact this p a
theorem AQ5 {s:WS}{n:Nd}{nb kd fb fm em:Nat}{f:FL}{es es2 S:XM}(g:HU x)(hS:S.Pairwise fun a b=>Op.bytesLess a.1 b.1=true)(hP:S.Perm (es++Dk es es2))(hv:EX x es)(bj:EX x es2)(ay:(es2.map (·.1)).Nodup)(aw:es.length+es2.length<=800)(hb:∀ e∈S,e.1.length<100000/\e.2.2.length<100000)
  (w:AN (s.res+(pts nb (.cells n.cells 197 (0,0))+(pts fm (mapO es)+(pts em (mapO es2)+(pts fb (.cells ⟨f.cells (.map (some fm))⟩ 191 (0,0))+x))))) h) (hm:n.en=modeK f.en) (bn:f.en<65536) (ah:kd=kindB (modeK f.en)) (ae:n.ed=262144) (q:n.data=.slice none 0 0)
  (hk:kindOk kd) (bh:f.size<=137438953472) (ce:f.link.length<=100000) (ar:needs ((sdA s.inl kd f.size++GI S).map toX)<=96)
  (K:∀ dv dr sb xs y h,BufV dv (LG s.inl kd f.size f.link) dr->xs.OK->xs.il.map XA.key=((sdA s.inl kd f.size++GI S).map toX).map XA.key->xs.bl=[]->(∀ a∈xs.il,RdX (dr+(y+x)) a.v a.bs/\a.nm.length<256/\a.ix<256/\a.bs.length<100000)->
   AN (s.res+(pts nb (.cells (Nd.cells {n with en:=CC f.en,ff:=.slice none 0 0,data:=dv,ed:=LQ s.inl kd f.size}) 197 (0,0))+(XS.res sb xs+(pts fb (.cells ⟨f.cells (.map (some fm))⟩ 191 (0,0))+(dr+(y+x)))))) h->LP Q (Pt s.wb) (Pt fb) (Pt nb) (cU16 (kd:Int)) (Pt sb) (AB (Pj kd f.size f.link:Nat)) h) :
  ip Q (Pt s.wb) (Pt fb) (Pt nb) (cU16 (kd:Int)) (.map (some em)) h:=by
 have bg:needs ((GI S).map toX)=needs (S.map xaE):=MV (by unfold GI;simp only[D5];rfl);rw[H2,MU,bg] at ar;unfold ip AW;simp (disch:=omega) only[go_sem,AC w];refine AD w (Nd.cells {n with ff:=.slice none 0 0}) rfl rfl (by simp) rfl fun h w=>?_;refine AV w AHv rfl fun sb h w=>?_;refine AFy (ASO w fun h w=>?_);have go:∀ (dv:Vz) (dr:Res) (xs:XS) (sz:Nat) (h:H),BufV dv (LG s.inl kd f.size f.link) dr->xs.OK->xs.il.map XA.key=((sdA s.inl kd f.size).map toX).map XA.key->xs.bl=[]->needs (S.map xaE)<=xs.ef->(∀ a∈xs.il,RdX dr a.v a.bs)->sz=Pj kd f.size f.link ->
   AN (XS.res sb xs+(s.res+(pts nb (.cells (Nd.cells {n with en:=CC f.en,ff:=.slice none 0 0,data:=dv,ed:=LQ s.inl kd f.size}) 197 (0,0))+(dr+(pts fm (mapO es)+(pts em (mapO es2)+(pts fb (.cells ⟨f.cells (.map (some fm))⟩ 191 (0,0))+x))))))) h ->
   Oa Q (Pt s.wb) (Pt fb) (Pt nb) (cU16 (kd:Int)) (.map (some em)) (Pt sb) (AB (sz:Int)) h:=by
  intro dv dr xs sz h bd bq t aj ai bp bi w;subst bi;have bz:xs.il.length<=1:=by
   have:=J3 List.length t;rw[Z0,Z0,Z0] at this;rw[this];unfold sdA;split<;>simp
  refine AQ4 (fm:=fm) (fc:=f.cells (.map (some fm))) (es:=es) (es2:=es2) (S:=S) (x:=s.res+(pts nb (.cells (Nd.cells {n with en:=CC f.en,ff:=.slice none 0 0,data:=dv,ed:=LQ s.inl kd f.size}) 197 (0,0))+(dr+x))) hS hP hv.bf.bf.bf bj.bf.bf.bf ay aw hb rfl bq (by rw[aj];simp;omega) ai g.bf.bf.bf (w.cast (by ac_rfl)) fun s' y h o1 o2 o3 o4 w=>?_;have c:s'.il.map XA.key=((sdA s.inl kd f.size++GI S).map toX).map XA.key:=by
   rw[o2,H2,t,H2,H2];unfold GI;simp only[D5];rfl
  refine K dv dr sb s' y h bd o1 c (by rw[o3,aj]) (fun a i=>?_) (w.cast (by ac_rfl));have hn:a.need<=needs s'.il:=Uw i;rw[MV c,H2,MU,bg] at hn;have hu:a.need=Bg a.nm.length+16+Bg a.bs.length:=rfl;have u1:a.nm.length<=Bg a.nm.length:=by unfold Bg;omega
  have u2:a.bs.length<=Bg a.bs.length:=by unfold Bg;omega
  refine⟨?_,by omega,?_,by omega⟩
  ·rw[o2] at i;rcases N4.1 i with i|i
   ·exact (bp a i).an
   ·obtain⟨e,he,rfl⟩:=V1.1 i;rcases N4.1 (hP.mem_iff.1 he) with he|he
    ·exact (hv e he).bf.bf
    ·exact (bj e (G5.1 he).1).bf.bf
  ·have:a.key∈s'.il.map XA.key:=V1.2 ⟨a,i,rfl⟩;rw[c,D5] at this;obtain⟨b,_,bm⟩:=V1.1 this;have:=(ADk bm).2.1;rw[<-this];exact Ka b.1
 have d:XS.OK ⟨.slice none 0 0,[],0,.slice none 0 0,[],0,96,4060⟩:=⟨.nil,.nil,by simp,by simp⟩;have o:∀ sz,kd≠40960->inlK s.inl kd f.size=false->sz=Pj kd f.size f.link->Oa Q (Pt s.wb) (Pt fb) (Pt nb) (cU16 (kd:Int)) (.map (some em)) (Pt sb) (AB (sz:Int)) h:=by
  intro sz u hi bh;have e1:LG s.inl kd f.size f.link=[]:=by unfold LG;rw[hi,F0 (by decide),F0 fun h=>u h.1]
  have e2:sdA s.inl kd f.size=[]:=by unfold sdA;rw[hi];rfl
  have e3:LQ s.inl kd f.size=n.ed:=by unfold LQ;rw[hi,ae];rfl
  have e4:CC f.en=n.en:=by unfold CC;rw[<-ah,F0 u,hm]
  refine go  cst__slice_none_0_0  0 ⟨.slice none 0 0,[],0,.slice none 0 0,[],0,96,4060⟩ sz h (by rw[e1];exact .nil) d (by rw[e2];rfl) rfl (by show _<=96;omega) (by simp) bh ?_;have e5:Nd.cells {n with en:=CC f.en,ff:=.slice none 0 0,data:=.slice none 0 0,ed:=LQ s.inl kd f.size}=Nd.cells {n with ff:=.slice none 0 0}:=by unfold Nd.cells;rw[e3,e4,q]
  rw[e5];exact w.cast (by unfold XS.res;simp only[Res.add_zero,Res.zero_add]<;>ac_rfl)
 have ni:kd≠32768->inlK s.inl kd f.size=false:=fun hh=>by
  unfold inlK;have:(kd == 32768)=false:=by simpa using hh
  rw[this];simp
 refine AS (fun g1=>?_) (fun g1=>?_)
 ·have h1:kd=32768:=by omega
  have pl:inlK s.inl kd f.size=false->Oa Q (Pt s.wb) (Pt fb) (Pt nb) (cU16 (kd:Int)) (.map (some em)) (Pt sb) (AB (f.size:Int)) h:=fun hi=>o f.size (by omega) hi (by unfold Pj;rw[D0 h1]);simp (disch:=omega) only[AC w,go_sem,J0];refine Ct (fun hc=>?_) (fun hc=>?_)
  ·unfold ADL AW;cases au:s.inl with
   | false=>
    simp only[go_sem];exact pl (by unfold inlK;rw[au];rfl)
   | true=>
    have hI:inlK s.inl kd f.size=true:=by unfold inlK;rw[au,h1];simp;omega
    have eS:sdA s.inl kd f.size=[(GP,List.replicate (f.size-60) 0)]:=by unfold sdA;rw[hI];rfl
    simp (disch:=omega) only[go_sem,AC w];refine Ei w (by omega) fun mb h w=>?_;refine AD w (Nd.cells {n with ff:=.slice none 0 0,data:=.slice (some ⟨mb,0,none⟩) f.size f.size}) rfl rfl (by simp) rfl fun h w=>?_;simp (disch:=omega) only[go_sem,AC w];have fin:∀ ex,ex=f.size-60->ADK Q (Pt s.wb) (Pt fb) (Pt nb) (cU16 (kd:Int)) (.map (some em)) (Pt sb) (AB (f.size:Int)) (AB (ex:Int)) h:=by
     intro ex ao;unfold ADK AW;simp (disch:=omega) only[go_sem,AC w];rw[RE (by omega)];have j:=QO;have az:XA.need ⟨[100,97,116,97],7,.slice (some ⟨mb,0,none⟩) ex f.size,List.replicate ex 0⟩=20+Bg ex:=by
      unfold XA.need;simp;unfold Bg;omega
     have ch:needs ((sdA s.inl kd f.size).map toX)=20+Bg ex:=by
      rw[eS,<-ao];show XA.need (toX (GP,List.replicate ex 0))+0=_;unfold toX;rw[j];unfold XA.need;simp;unfold Bg;omega
     have hu:Bg ex<=76:=by unfold Bg;omega
     refine fk (AP1 (nm:=GP) (bs:=List.replicate ex 0) (s:=⟨.slice none 0 0,[],0,.slice none 0 0,[],0,96,4060⟩)
      (x:=buf mb (List.replicate f.size 0)+(s.res+(pts nb (.cells (Nd.cells {n with ff:=.slice none 0 0,data:=.slice (some ⟨mb,0,none⟩) f.size f.size}) 197 (0,0))+(pts fm (mapO es)+(pts em (mapO es2)+(pts fb (.cells ⟨f.cells (.map (some fm))⟩ 191 (0,0))+x)))))) g.bf.bf.bf.bf.bf.bf d (w.cast ?_) (by decide) (AKs (by omega)) (by simp;omega) ?_ (by rw[j];decide) (fun iv ir h v w=>?_) (by simp))
     ·unfold WS.res XS.res;simp only[Res.add_zero];ac_rfl
     ·rw[j,az];show _<=96;omega
     ·rw[j] at w v;simp (disch:=omega) only[go_sem,P3,AC w];refine AD w (Nd.cells {n with ff:=.slice none 0 0,data:=.slice (some ⟨mb,0,none⟩) f.size f.size,ed:=n.ed ||| 268435456}) rfl rfl (by simp) rfl fun h w=>?_;have e3:LQ s.inl kd f.size=n.ed ||| 268435456:=by unfold LQ;rw[D0 hI,ae];rfl
      have e4:CC f.en=n.en:=by unfold CC;rw[<-ah,F0 (by omega),hm]
      refine go (.slice (some ⟨mb,0,none⟩) f.size f.size) (buf mb (List.replicate f.size 0)) _ f.size h (.own' (by simp) (by simp) (by unfold LG;rw[D0 hI];simp)) v ?_ rfl ?_ (fun a i=>?_) (by unfold Pj;rw[D0 h1]) ?_
      ·rw[eS,<-ao];show [XA.key _]=[XA.key (toX (GP,List.replicate ex 0))];unfold toX;rw[j];rfl
      ·rw[az];show _<=96-_;omega
      ·dsimp only at i;rw[U2,H4] at i;subst i;have:=AKs (b:=mb) (m:=ex) (n:=f.size) (T:=5) (fz:=(0,0)) (y:=0) (by omega);rw[Res.add_zero] at this;exact this
      ·rw[e3,e4];exact w.cast (by unfold XS.res;dsimp only;ac_rfl)
    refine AS (fun bk=>?_) (fun bk=>?_)
    ·simp (disch:=omega) only[go_sem];exact fin (f.size-60) rfl
    ·exact fin 0 (by omega)
  ·unfold ADL AW;simp only[go_sem];exact pl (by
          unfold inlK;have:decide (f.size<=136)=false:=by simp;omega
          rw[this];simp)
 ·have h1:kd≠32768:=by omega
  have l:=ni h1;have z0:kd≠40960->Oa Q (Pt s.wb) (Pt fb) (Pt nb) (cU16 (kd:Int)) (.map (some em)) (Pt sb)  AF  h:=fun hh=>o 0 hh l (by unfold Pj;rw[F0 h1,F0 hh]);refine AS (fun g2=>?_) (fun g2=>?_)
  ·have p:kd=40960:=by omega
   have bt:n.en<65536:=by rw[hm];exact (Dj bn).1
   have eM:CC f.en=n.en ||| 511:=by unfold CC;rw[<-ah,D0 p,hm]
   have eF:LQ s.inl kd f.size=n.ed:=by unfold LQ;rw[l,ae];rfl
   have eS:sdA s.inl kd f.size=[]:=by unfold sdA;rw[l];rfl
   have eZ:f.link.length=Pj kd f.size f.link:=by unfold Pj;rw[F0 h1,D0 p]
   simp (disch:=omega) only[AC w,go_sem];refine AD w (Nd.cells {n with ff:=.slice none 0 0,en:=n.en ||| 511}) rfl rfl (by simp) rfl fun h w=>?_;simp (disch:=omega) only[AC w,go_sem];refine AS (fun hc=>?_) (fun hc=>?_)
   ·refine Ei w (by omega) fun mb h w=>?_;refine AD w (Nd.cells {n with ff:=.slice none 0 0,en:=n.en ||| 511,data:=.slice (some ⟨mb,0,none⟩) f.link.length f.link.length}) rfl rfl (by simp) rfl fun h w=>?_;simp (disch:=omega) only[AC w,go_sem];refine OI w (by simp) (I0 _) fun h w=>?_;have eL:setL (List.replicate f.link.length 0) 0 f.link=f.link:=by
     have:=Dr (b:=List.replicate f.link.length (0:UInt8)) (r:=[]) (m:=f.link) (by simp);rw[X0,X0] at this;exact this
    rw[eL] at w;refine go (.slice (some ⟨mb,0,none⟩) f.link.length f.link.length) (pts mb (.cells (bcs f.link) 5 (0,0))) ⟨.slice none 0 0,[],0,.slice none 0 0,[],0,96,4060⟩ f.link.length h (.own' (I0 _) rfl ?_) d (by rw[eS];rfl) rfl (by show _<=96;omega) (by simp) eZ ?_
    ·unfold LG;rw[l,F0 (by decide),D0 ⟨p,by omega⟩,L1]
    ·rw[eM,eF];exact w.cast (by unfold XS.res;simp only[Res.add_zero];ac_rfl)
   ·refine go  cst__slice_none_0_0 0 ⟨.slice none 0 0,[],0,.slice none 0 0,[],0,96,4060⟩ f.link.length h ?_ d (by rw[eS];rfl) rfl (by show _<=96;omega) (by simp) eZ ?_
    ·unfold LG;rw[l,F0 (by decide),F0 fun hh=>hc (by omega)];exact .nil
    ·have e5:Nd.cells {n with en:=CC f.en,ff:=.slice none 0 0,data:=.slice none 0 0,ed:=LQ s.inl kd f.size}=Nd.cells {n with ff:=.slice none 0 0,en:=n.en ||| 511}:=by unfold Nd.cells;rw[eM,eF,q]
     rw[e5];exact w.cast (by unfold XS.res;simp only[Res.add_zero,Res.zero_add]<;>ac_rfl)
  ·have p:kd≠40960:=by omega
   refine AS (fun _=>z0 p) (fun h3=>?_);refine AS (fun _=>z0 p) (fun h4=>?_);refine AS (fun _=>z0 p) (fun h5=>?_);refine AS (fun _=>z0 p) (fun h6=>?_);refine AS (fun _=>z0 p) (fun h7=>?_);unfold kindOk at hk;omega
end Go.Proofs.YtollddkkdgoonaaGreatDoor
