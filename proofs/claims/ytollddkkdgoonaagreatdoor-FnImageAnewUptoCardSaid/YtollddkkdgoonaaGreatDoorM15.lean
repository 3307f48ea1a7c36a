/- FnImageAnew answers true, where what it reads is of bulk at most 1048576: the card. No condition but the row's own. -/
import Derived.Test.YtollddkkdgoonaaGreatDoorM14
namespace Go.Proofs.YtollddkkdgoonaaGreatDoor
open Go
set_option linter.unusedVariables false
set_option linter.unusedSimpArgs false
set_option linter.defProp false
set_option maxRecDepth 100000
variable {h:H} {k:Value->Prop} {kt Q:Kt} {x y z r:Res}
section
attribute [local irreducible] BJ CR Ak Bc An Aa AK Ac
def NDC (x:Res)(vs:List Vz)(i:Nat)(n:ND):Prop:=∃ dv xv nv kv xcs,(vs.drop (i*18)).take 18=n.cells dv xv nv kv/\TV x n dv xv nv kv xcs
section
variable {n n0 n1 n2:ND} {dv xv nv kv nsv nsv':Vz} {xcs vs vs':List Vz} {i:Nat}
def ADv (R:TV x n dv xv nv kv xcs):(n.cells dv xv nv kv).all Value.oneCell'=true:=by
 obtain⟨a1,a2,rfl⟩:=R.d.len;obtain⟨⟨b1,b2,rfl⟩,_⟩:=R.xd.len;obtain⟨⟨c1,c2,rfl⟩,_⟩:=R.nm.len;obtain⟨⟨d1,a,rfl⟩,_⟩:=R.kd.len;rfl
def Qm {ks:List Nat}(e:(vs.drop (i*18)).take 18=n.cells dv xv nv kv)(R:TV x n dv xv nv kv xcs)(a:n.kds=ks):NC x vs i (n.cells dv xv nv kv) kv ks:=
 ⟨e,rfl,ADv R,rfl,by rw[<-a];exact R.kd⟩
def Qn {k':Vz}{ks:List Nat}(R:TV x n dv xv nv kv xcs)(d:RdV 1 k' ks.length (ints ks) y)(a:ks.length=n.kds.length):TV (y+x) {n with kds:=ks} dv xv nv k' xcs:=
 ⟨R.d.bf,R.xd.bf,R.at_.mono,R.nm.bf,d.an,R.lens.1,R.lens.2.1,R.lens.2.2.1,a.trans R.lens.2.2.2⟩
def s17 (d:RdV 18 nsv 3 vs x)(d':RdV 18 nsv' 3 vs' x)(h0:NDC x vs 0 n0)(h1:NDC x vs 1 n1)(h2:NDC x vs 2 n2)(cm:NDC x vs' 0 n0)(cp:NDC x vs' 1 n1)(cq:NDC x vs' 2 n2)(k0:n0.kds=[2,1])(k1:n1.kds=[])(k2:n2.kds=[])(w:AN x h)
  (K:∀ y h,AN (y+x) h->Q  AI h):f17 (.agg ⟨[nsv]⟩) (.agg ⟨[nsv']⟩) h Q:=by
 obtain⟨ah,bk,nv0,kv0,bz,e0,R0⟩:=h0;obtain⟨ai,xv1,ar,kv1,xcs1,e1,R1⟩:=h1;obtain⟨aj,xv2,au,kv2,xcs2,e2,R2⟩:=h2;obtain⟨c,m,g,s,bh,ce,bm⟩:=cm;obtain⟨e,o,j,t,bi,ch,bn⟩:=cp;obtain⟨f,p,l,v,bj,ci,bp⟩:=cq;obtain⟨⟨na,nc,dg⟩,_⟩:=d.len;obtain⟨⟨dh,dj,df⟩,_⟩:=d'.len;unfold f17 AW;refine BG w fun b2 h w=>?_;have w:AN (pts b2 (.cells ⟨[nsv]⟩ 40 (0,0))+x) h:=w;refine BG w fun b3 h w=>?_;have w:AN (pts b3 (.cells ⟨[nsv']⟩ 40 (0,0))+(pts b2 (.cells ⟨[nsv]⟩ 40 (0,0))+x)) h:=w;refine BD (b:=b2) w rfl ?_;refine BD (b:=b3) w rfl ?_;refine ABl (AQR (d.bf.bf) (Qm e0 R0.bf.bf k0) (Qm e1 R1.bf.bf k1) (Qm e2 R2.bf.bf k2) w fun ov p0 p1 p2 rO y h aO q0 q1 q2 w=>?_);refine⟨GW w (by simp) rfl,?_⟩;refine ABl (AQR (d'.bf.bf.bf.bf) (Qm ce bm.bf.bf.bf.bf k0) (Qm ch bn.bf.bf.bf.bf k1) (Qm ci bp.bf.bf.bf.bf k2) w fun a aw ay az bg y' h ae cw cy cz w=>?_);obtain⟨⟨oa,oc,bq⟩,_⟩:=aO.len;obtain⟨⟨dp,dq,q⟩,_⟩:=ae.len;have w:=w.cast (show _=pts b2 (.cells ⟨[nsv]⟩ 40 (0,0))+(pts b3 (.cells ⟨[nsv']⟩ 40 (0,0))+(rO+(bg+(0+(y'+(y+x)))))) by rw[Res.zero_add];ac_rfl);refine AD w ⟨[ov]⟩ (AU (by rfl)) rfl (by simp) (by rw[bq];rfl) fun h w=>?_;refine AD w ⟨[a]⟩ (AU (by rfl)) rfl (by simp) (by rw[q];rfl) fun h w=>?_;have all:∀ i,i<3->∃ n dv xv nv kv xcs dv' xv' nv' kv' xcs',(((n0.cells ah bk nv0 kv0).set 17 p0++((n2.cells aj xv2 au kv2).set 17 p2++(n1.cells ai xv1 ar kv1).set 17 p1)).drop (i*18)).take 18=ND.cells n dv xv nv kv /\
   (((n0.cells c m g s).set 17 aw++((n2.cells f p l v).set 17 az++(n1.cells e o j t).set 17 ay)).drop (i*18)).take 18=n.cells dv' xv' nv' kv'/\TV (y'+(y+x)) n dv xv nv kv xcs/\TV (y'+(y+x)) n dv' xv' nv' kv' xcs':=by
  have sw:∀ {n:ND} {dv xv nv kv:Vz} {xcs:List Vz},TV (y'+x) n dv xv nv kv xcs->TV (y'+(y+x)) n dv xv nv kv xcs:=fun R=>by rw[Res.left_comm];exact R.bf
  intro i hi;have:i=0\/i=1\/i=2:=by omega
  rcases this with rfl|rfl|rfl
  ·exact⟨{n0 with kds:=[1,2]},ah,bk,nv0,p0,bz,c,m,g,aw,bh,rfl,rfl,(Qn R0 q0 (by rw[k0];rfl)).bf,sw (Qn bm cw (by rw[k0];rfl))⟩
  ·exact⟨{n2 with kds:=[]},aj,xv2,au,p2,xcs2,f,p,l,az,bj,rfl,rfl,(Qn R2 q2 (by rw[k2])).bf,sw (Qn bp cz (by rw[k2]))⟩
  ·exact⟨{n1 with kds:=[]},ai,xv1,ar,p1,xcs1,e,o,j,ay,bi,rfl,rfl,(Qn R1 q1 (by rw[k1])).bf,sw (Qn bn cy (by rw[k1]))⟩
 generalize (n0.cells ah bk nv0 kv0).set 17 p0++((n2.cells aj xv2 au kv2).set 17 p2++(n1.cells ai xv1 ar kv1).set 17 p1)=W at aO all;generalize (n0.cells c m g s).set 17 aw++((n2.cells f p l v).set 17 az++(n1.cells e o j t).set 17 ay)=W' at ae all;have ln:∀ k:Vz->Prop,DM ov k=k (AB ((3:Nat):Int)):=fun k=>by rw[bq,As]
 have cu:∀ k:Vz->Prop,DM a k=k (AB ((3:Nat):Int)):=fun k=>by rw[q,As]
 rw[AG];refine Af w (u:=ov) rfl ?_;rw[ln,AG];refine Af w (u:=a) rfl ?_;rw[cu,Fl,AJ,AG];refine Af w (u:=ov) rfl ?_;rw[ln];unfold AIN;refine Bj (fun mm u h'=>∃ i z,mm+i=3/\u=AB (i:Nat)/\AN (pts b2 (.cells ⟨[ov]⟩ 40 (0,0))+(pts b3 (.cells ⟨[a]⟩ 40 (0,0))+(rO+(bg+(z+(y'+(y+x))))))) h') 3 ⟨0,0,rfl,rfl,w⟩ ?_;rintro rec mm u h' ⟨i,z,hi,rfl,w⟩ bt;unfold AAo BL;rw[AR];refine AS (fun hc=>?_) (fun hc=>?_)
 ·have ao:i<3:=by omega
  obtain⟨n,dv,xv,nv,kv,xcs,dv',xv',nv',kv',xcs',g1,g2,g3,g4⟩:=all i ao;refine (aO.vx.an.bf.bf:VecX 63 18 ov 3 W _).agg w ao ?_;rw[g1];refine AV w CT rfl fun b6 h w=>?_;refine AD w ⟨n.cells dv xv nv kv⟩ (AU (by rfl)) rfl (by simp) (ADv g3) fun h w=>?_;refine BD (b:=b6) w rfl ?_;rw[AG];refine Af w (u:=a) rfl ?_;refine (ae.vx.an.bf.bf.bf.bf:VecX 63 18 a 3 W' _).agg w ao ?_;rw[g2];refine AM2 (s48 g3.bf.bf.bf.bf.bf.bf g4.bf.bf.bf.bf.bf.bf w fun y2 h w=>?_);have un:∀ k:Vz->Prop,unN .not  AI k=k AE :=fun k=>by simp only[go_sem];rfl
  rw[un,AJ,Az (n:=1),Bq (by omega)];exact bt (mm-1) _ _ ⟨i+1,y2+(pts b6 (.cells ⟨n.cells dv xv nv kv⟩ 63 (0,0))+z),by omega,rfl,w.cast (by ac_rfl)⟩ (by omega)
 ·exact K (pts b2 (.cells ⟨[ov]⟩ 40 (0,0))+(pts b3 (.cells ⟨[a]⟩ 40 (0,0))+(rO+(bg+(z+(y'+y)))))) h' (w.cast (by ac_rfl))
end
end
def LA (l:AL):Prop:=l.Pairwise fun a b=>Op.bytesLess a.1 b.1=true
def LA.nodup {l:AL}(h:LA l):(l.map (·.1)).Nodup:=by
 unfold List.Nodup;rw[E6];exact h.imp fun {a b} h e=>by rw[e,IP] at h;cases h
def PG {l:AL}(h:(l.map (·.1)).Nodup):l.Nodup:=by
 unfold List.Nodup at *;rw[E6] at h;exact h.imp fun {a b} h e=>h (by rw[e])
theorem ZB:∀ (l m:AL),LA l->LA m->(∀ e,e∈l↔e∈m)->l=m
 | [],[],_,_,_=>rfl
 | [],b::m,_,_,h=>by cases (h b).2 T0
 | a::l,[],_,_,h=>by cases (h a).1 T0
 | a::l,b::m,h1,h2,h=>by
  have n1:=PG h1.nodup;have n2:=PG h2.nodup;unfold LA at h1 h2;rw[V6] at h1 h2;have d:a=b:=by
   rcases I1.1 ((h a).1 T0) with e|e
   ·exact e
   ·rcases I1.1 ((h b).2 T0) with e2|e2
    ·exact e2.symm
    ·have:=QL _ _ _ (h1.1 b e2) (h2.1 a e);rw[IP] at this;cases this
  subst d;rw[ZB l m h1.2 h2.2 fun e=>?_];rw[U4] at n1 n2;constructor
  ·intro c;rcases I1.1 ((h e).1 (U0 _ c)) with e2|e2
   ·subst e2;exact absurd c n1.1
   ·exact e2
  ·intro c;rcases I1.1 ((h e).2 (U0 _ c)) with e2|e2
   ·subst e2;exact absurd c n2.1
   ·exact e2
def AOq {a b:Bs}(h:Op.bytesLess a b=true):a≠b:=fun e=>by rw[e,IP] at h;cases h
def AHl {l:AL}{nm v:Bs}{e:Bs×Bs}:e∈Ks l nm v↔e=(nm,v)\/(e∈l/\e.1≠nm):=by
 unfold Ks;simp only[N4,I1,G5,M7,Bool.or_eq_false_iff,beq_eq_false_iff_ne];constructor
 ·rintro (⟨a,b⟩|h|⟨a,b,c⟩)
  ·exact .inr ⟨a,AOq b⟩
  ·exact .inl h
  ·exact .inr ⟨a,c⟩
 ·rintro (h|⟨a,b⟩)
  ·exact .inr (.inl h)
  ·cases d:Op.bytesLess e.1 nm with
   | true=>exact .inl ⟨a,rfl⟩
   | false=>exact .inr (.inr ⟨a,rfl,b⟩)
def AHn {l:AL}{nm v:Bs}(h:LA l):LA (Ks l nm v):=by
 have f:∀ a∈l.filter (fun a=>!(Op.bytesLess a.1 nm||a.1 == nm)),Op.bytesLess nm a.1=true:=fun a c=>by
  have:=(G5.1 c).2;simp only[M7,Bool.or_eq_false_iff,beq_eq_false_iff_ne] at this;rcases RZ a.1 nm this.2 with e|e
  ·rw[e] at this;cases this.1
  ·exact e
 have lt:∀ a∈l.filter (fun a=>Op.bytesLess a.1 nm),Op.bytesLess a.1 nm=true:=fun a c=>(G5.1 c).2;unfold LA Ks;rw[M8,V6];refine⟨List.Pairwise.filter _ h,⟨f,List.Pairwise.filter _ h⟩,fun a c b d=>?_⟩;rcases I1.1 d with d|d
 ·subst d;exact lt a c
 ·exact QL _ _ _ (lt a c) (f b d)
theorem LT:∀ (xs o:AL),LA o->LA (xs.foldl (fun o a=>Ks o a.1 a.2) o)
 | [],_,h=>h
 | a::xs,o,h=>LT xs (Ks o a.1 a.2) (AHn h)
def LW:AL->Bs×Bs->Prop
 | [],_=>False
 | a::xs,e=>LW xs e\/(e=a/\∀ b∈xs,b.1≠a.1)
def Vj {P:Bs×Bs->Prop}{a e:Bs×Bs}{xs:AL}{o:Prop}(h:P e↔e=a\/(o/\e.1≠a.1)):(LW xs e\/(P e/\∀ b∈xs,b.1≠e.1))↔(LW (a::xs) e\/(o/\∀ b∈a::xs,b.1≠e.1)):=by
 rw[h];constructor
 ·rintro (c|⟨c|⟨c,f⟩,g⟩)
  ·exact .inl (.inl c)
  ·subst c;exact .inl (.inr ⟨rfl,g⟩)
  ·refine .inr ⟨c,fun b d=>?_⟩;rcases I1.1 d with d|d
   ·subst d;exact fun e=>f e.symm
   ·exact g b d
 ·rintro ((c|⟨c,f⟩)|⟨c,f⟩)
  ·exact .inl c
  ·subst c;exact .inr ⟨.inl rfl,f⟩
  ·exact .inr ⟨.inr ⟨c,fun e=>f a T0 e.symm⟩,fun b d=>f b (U0 _ d)⟩
theorem LS:∀ (xs o:AL) (e:Bs×Bs),e∈xs.foldl (fun o a=>Ks o a.1 a.2) o↔LW xs e\/(e∈o/\∀ b∈xs,b.1≠e.1)
 | [],o,e=>by simp[LW]
 | a::xs,o,e=>by
  rw[J4,LS xs _ e];exact Vj (P:=fun e=>e∈Ks o a.1 a.2) (o:=e∈o) AHl
theorem PP {nm c:Bs}{e:Bs×Bs}:∀ {l:AL},(l.map (·.1)).Nodup->(e∈DS l nm c↔e=(nm,c)\/(e∈l/\e.1≠nm))
 | [],_=>by simp[DS]
 | a::l,h=>by
  rw[Q1,U4] at h;unfold DS;by_cases f:a.1=nm
  ·rw[D0 f,I1];constructor
   ·rintro (b|b)
    ·exact .inl b
    ·exact .inr ⟨U0 _ b,fun i=>h.1 (V1.2 ⟨e,b,i.trans f.symm⟩)⟩
   ·rintro (b|⟨b,d⟩)
    ·exact .inl b
    ·rcases I1.1 b with g|g
     ·subst g;exact absurd f d
     ·exact .inr g
  ·rw[F0 f,I1,PP h.2,I1];constructor
   ·rintro (b|b|⟨b,d⟩)
    ·exact .inr ⟨.inl b,by rw[b];exact f⟩
    ·exact .inl b
    ·exact .inr ⟨.inr b,d⟩
   ·rintro (b|⟨b|b,d⟩)
    ·exact .inr (.inl b)
    ·exact .inl b
    ·exact .inr (.inr ⟨b,d⟩)
theorem j0 {nm c:Bs}:∀ {l:AL},(l.map (·.1)).Nodup->((DS l nm c).map (·.1)).Nodup
 | [],_=>by simp[DS]
 | a::l,h=>by
  have g:=h;rw[Q1,U4] at h;unfold DS;by_cases b:a.1=nm
  ·rw[D0 b,Q1,<-b];exact g
  ·rw[F0 b,Q1,U4];refine⟨fun j=>?_,j0 h.2⟩;obtain⟨e,i,d⟩:=V1.1 j;rcases (PP h.2).1 i with f|⟨f,_⟩
   ·rw[f] at d;exact b d.symm
   ·exact h.1 (V1.2 ⟨e,f,d⟩)
theorem Ri:∀ (xs o:AL) (e:Bs×Bs),(o.map (·.1)).Nodup->(e∈xs.foldl (fun o a=>DS o a.1 a.2) o↔LW xs e\/(e∈o/\∀ b∈xs,b.1≠e.1))/\((xs.foldl (fun o a=>DS o a.1 a.2) o).map (·.1)).Nodup
 | [],o,e,h=>⟨by simp[LW],h⟩
 | a::xs,o,e,h=>by
  rw[J4];obtain⟨c,d⟩:=Ri xs (DS o a.1 a.2) e (j0 h);exact⟨c.trans (Vj (P:=fun e=>e∈DS o a.1 a.2) (o:=e∈o) (PP h)),d⟩
def Db {xs:AL}{e:Bs×Bs}:e∈srtA xs↔LW xs e:=by
 unfold srtA;rw[LS];simp
def Es (xs:AL):LA (srtA xs):=LT xs [] .nil
def JC {xs:AL}{e:Bs×Bs}:e∈dedA xs↔LW xs e:=by
 unfold dedA;rw[(Ri xs [] e .nil).1];simp
def Rh (xs:AL):((dedA xs).map (·.1)).Nodup:=(Ri xs [] ([],[]) .nil).2
def ky (xs:AL):(srtA xs).Perm (dedA xs):=Hu _ _ (PG (Es xs).nodup) (PG (Rh xs)) fun e=>Db.trans JC.symm
theorem HE:∀ {xs:AL} {e:Bs×Bs},LW xs e->e∈xs
 | _::_,_,.inl h=>U0 _ (HE h)
 | _::_,_,.inr ⟨h,_⟩=>by rw[h];exact T0
theorem ZO:∀ {xs:AL} {a:Bs×Bs},a∈xs->∃ e,LW xs e/\e.1=a.1
 | b::xs,a,h=>by
  by_cases i:∃ c∈xs,c.1=a.1
  ·obtain⟨c,f,g⟩:=i;obtain⟨e,d,j⟩:=ZO f;exact⟨e,.inl d,j.trans g⟩
  ·rcases I1.1 h with d|d
   ·subst d;exact⟨a,.inr ⟨rfl,fun c f g=>i ⟨c,f,g⟩⟩,rfl⟩
   ·exact absurd ⟨a,d,rfl⟩ i
def AH0 {xs:AL}{e:Bs×Bs}:(xs.map (·.1)).Nodup->e∈xs->LW xs e:=by
 induction xs with
 | nil=>intro _ h;cases h
 | cons a xs i=>
  intro d h;rw[Q1,U4] at d;rcases I1.1 h with c|c
  ·subst c;exact .inr ⟨rfl,fun b f g=>d.1 (V1.2 ⟨b,f,g⟩)⟩
  ·exact .inl (i d.2 c)
theorem ME {p:Bs->Bool}:∀ {xs:AL} {e:Bs×Bs},LW (xs.filter fun a=>p a.1) e↔LW xs e/\p e.1=true
 | [],e=>by simp[LW]
 | a::xs,e=>by
  rw[List.filter_cons];by_cases g:p a.1=true
  ·rw[D0 g];show LW (xs.filter _) e\/_↔(LW xs e\/_)/\_;rw[ME];constructor
   ·rintro (⟨c,d⟩|⟨c,d⟩)
    ·exact⟨.inl c,d⟩
    ·subst c;refine⟨.inr ⟨rfl,fun b i j=>?_⟩,g⟩;exact d b (G5.2 ⟨i,by rw[j];exact g⟩) j
   ·rintro⟨c|⟨c,d⟩,f⟩
    ·exact .inl ⟨c,f⟩
    ·exact .inr ⟨c,fun b i=>d b (G5.1 i).1⟩
  ·rw[F0 g,ME];show _↔(LW xs e\/_)/\_;constructor
   ·rintro⟨c,d⟩;exact⟨.inl c,d⟩
   ·rintro⟨c|⟨c,_⟩,f⟩
    ·exact⟨c,f⟩
    ·rw[c] at f;exact absurd f g
def RH {l:AL}(h:LA l):srtA l=l:=ZB _ _ (Es l) h fun e=>by
 rw[Db];exact⟨HE,AH0 h.nodup⟩
def Iu (xs:AL)(nm:Bs):Bool:=xs.all fun a=>a.1 != nm
def Ht {xs:AL}{nm:Bs}:Iu xs nm=true↔∀ a∈xs,a.1≠nm:=by
 unfold Iu;simp[K5]
def Le {a b:AL}{e:Bs×Bs}:e∈Fz (srtA a) (srtA b)↔LW b e\/(LW a e/\Iu b e.1=true):=by
 unfold Fz;rw[LS,Db,Ht];have g:LW (srtA b) e↔LW b e:=⟨fun h=>Db.1 (HE h),fun h=>AH0 (Es b).nodup (Db.2 h)⟩;have i:(∀ c∈srtA b,c.1≠e.1)↔∀ c∈b,c.1≠e.1:=by
  constructor
  ·intro h c f m;obtain⟨d,j,l⟩:=ZO f;exact h d (Db.2 j) (l.trans m)
  ·intro h c f;exact h c (HE (Db.1 f))
 rw[g,i]
def Nl (a b:AL):LA (Fz (srtA a) (srtA b)):=LT _ _ (Es a)
def ADu (a b:AL):(Fz (srtA a) (srtA b)).Perm (dedA b++notA (dedA b) (srtA a)):=by
 have l:∀ e∈notA (dedA b) (srtA a),LW a e/\Iu b e.1=true:=fun e q=>by
  obtain⟨i,g⟩:=G5.1 q;refine⟨Db.1 i,Ht.2 fun c f m=>?_⟩;obtain⟨d,n,o⟩:=ZO f;have:=Hr (Rh b) (JC.2 n);rw[o,m] at this;rw[this] at g;cases g
 refine Hu _ _ (PG (Nl a b).nodup) ?_ fun e=>?_
 ·rw[S4];refine⟨PG (Rh b),(PG (Es a).nodup).filter _,fun c f d p j=>?_⟩;have:=Ht.1 (l d p).2 c (HE (JC.1 f));rw[j] at this;exact this rfl
 ·rw[Le,N4,JC];constructor
  ·rintro (h|⟨i,g⟩)
   ·exact .inl h
   ·refine .inr (G5.2 ⟨Db.2 i,?_⟩);rw[Ki fun c f=>Ht.1 g c (HE (JC.1 f))];rfl
  ·rintro (h|h)
   ·exact .inl h
   ·exact .inr (l e h)
def AGy (a b:AL):(a.filter fun c=>Iu b c.1).foldl (fun o c=>Ks o c.1 c.2) (srtA b)=Fz (srtA a) (srtA b):=by
 refine ZB _ _ (LT _ _ (Es b)) (Nl a b) fun e=>?_;rw[LS,Le,ME (p:=fun n=>Iu b n),Db];constructor
 ·rintro (h|⟨h,_⟩)
  ·exact .inr h
  ·exact .inl h
 ·rintro (h|h)
  ·refine .inr ⟨h,fun c d f=>?_⟩;have:=Ht.1 (G5.1 d).2 e (HE h);exact this f.symm
  ·exact .inl h
def tmF (t:Tm3):Tm:=⟨t.1,t.2.1,t.2.2⟩
def FA.fl (f:FA):FL:=⟨f.link,0,f.en,f.uid,f.gid,tmF f.t1,tmF f.t2,tmF f.t3,tmF f.t4,f.maj,f.min⟩
structure FA.Fit (f:FA):Prop where
 ok:f.OK
 tm:∀ t∈f.tms,t.2.1<9223372036854775808
 spk:spkB f=true
theorem UB:∀ (l:List (Nat×Bs)) (nm:Bs),(∀ p∈l,p.2.length<=100)->nm.length<=(compL nm l).2.length+100
 | [],nm,_=>by show nm.length<=nm.length+100;omega
 | (i,p)::l,nm,h=>by
  rw[compL];have:p.length<=100:=h _ T0;cases Gh nm p with
  | true=>show nm.length<=(nm.drop p.length).length+100;rw[J2];omega
  | false=>exact UB l nm fun q a=>h q (U0 _ a)
def ARU {t:Tm3}(h:ZF t=true)(b:t.2.1<9223372036854775808):(tmF t).ok:=fun a=>by
 unfold ZF at h;have a:t.1=true:=a;rw[a] at h;simp at h;exact⟨h.1.1.1,b,h.1.2,h.2⟩
section
variable {inl:Bool} {f f1 f2:FA} {al:AL}
def Fit.parts (F:f.Fit):(tmF f.t1).ok/\(tmF f.t2).ok/\(tmF f.t3).ok/\(tmF f.t4).ok/\f.link.length<=4000/\f.xs.length<=12/\∀ a∈f.xs,Nv a=true:=by
 have h:=F.spk;unfold spkB at h;simp only[W2,W4,K5] at h;obtain⟨⟨⟨⟨⟨⟨_,c⟩,d⟩,_⟩,_⟩,e⟩,g⟩:=h;have t:∀ t∈f.tms,(tmF t).ok:=fun t b=>ARU (e t b) (F.tm t b);exact⟨t _ (by simp[FA.tms]),t _ (by simp[FA.tms]),t _ (by simp[FA.tms]),t _ (by simp[FA.tms]),c,d,g⟩
def AOM {n:SN}{kd:Nat}(a:kindB n.en=kd):((sdA inl kd 0++n.xs).map Hw).sum=((oy inl n).map Hw).sum:=by
 have h:inlK inl kd 0=(inl&&decide (kindB n.en=32768)):=by
  unfold inlK;rw[a];cases inl
  ·rfl
  ·by_cases h:kd=32768<;>simp[h]
 unfold sdA oy;rw[h];split<;>rfl
def ADP (F:f.Fit)(g:kindL f.node.en≠0)(a:Dy inl {f.node with xs:=al}=(0,true))(j:LA al)(l:∀ e∈al,Nv e=true/\e.2.length<=4096):FilOK f.fl inl al:=by
 obtain⟨a1,a2,a3,a4,a5,a6,a7⟩:=Fit.parts F;have b:kindB f.node.en=kindB (modeK f.en):=JN _;refine⟨F.ok.en,?_,a1,a2,a3,a4,by show (0:Nat)<=_;omega,by show f.link.length<=_;omega,?_,fun e i=>?_,j⟩
 ·show kindOk (kindB (modeK f.en));unfold kindOk;rw[Fw b] at g
  (repeat' split at g)<;>omega
 ·rw[Yr];have c:=UT _ _ _ a;have d:=AOM (inl:=inl) (n:={f.node with xs:=al}) b;show ((sdA inl (kindB (modeK f.en)) 0++al).map Hw).sum<=96;rw[d];exact c
 ·obtain⟨c,d⟩:=l e i;unfold Nv at c;simp only[W2,W4] at c;have:=UB PX e.1 (by decide);exact⟨by omega,by omega⟩
def AOc (F:f.Fit){e:Bs×Bs}(h:e∈f.xs):Nv e=true/\e.2.length<=4096:=by
 have a:=(Fit.parts F).2.2.2.2.2.2 e h;refine⟨a,?_⟩;unfold Nv at a;simp only[W2,W4] at a;exact a.2
def Iv (f:FA)(xs al:AL):It:=⟨2,[102],f.fl,if kindB (modeK f.en)=40960 then f.link else [],[102],false,xs,al⟩
def Yi (F:f.Fit)(xs:AL):Ku [] (Iv f xs al):=by
 have h:=(Fit.parts F).2.2.2.2.1;refine⟨⟨[],.root,by show cleanR [102]=[[102]];decide⟩,by show 1<=100000;decide,by show 1<=1;decide,by show 1<=255;decide,by show (47:UInt8)∉([102]:Bs);decide,by show ([102]:Bs)≠[46]/\([102]:Bs)≠[46,46];decide,fun x h=>(by cases h),fun _=>(by show ([102]:Bs)≠lostN;decide),?_,?_,?_⟩
 ·show if kindB (modeK f.en)=32768 then 0=(if kindB (modeK f.en)=40960 then f.link else []).length else (if kindB (modeK f.en)=40960 then f.link else [])=if kindB (modeK f.en)=40960 then f.link else []
  split
  ·rename_i h;rw[h];rfl
  ·rfl
 ·show (if kindB (modeK f.en)=40960 then f.link else []).length<=_;split
  ·omega
  ·simp
 ·intro b;refine⟨fun h=>(by cases h),fun a=>absurd ?_ b⟩;have a:kindB (modeK f.en)=32768:=a;show (if kindB (modeK f.en)=40960 then f.link else [])=[];rw[a];rfl
def Ni (F:f.Fit)(xs:AL):BZ [Iv f xs al]:=by
 have:BZ ([]++[Iv f xs al]):=BZ.eu (fun j it h=>by simp at h) (Yi F xs);exact this
def ADi (F:f.Fit)(b:FilOK f.fl inl al)(d:∀ e∈al,Nv e=true/\e.2.length<=4096)(xs:AL):WA inl (Iv f xs al):=by
 refine⟨F.ok.uid,F.ok.gid,F.ok.maj,F.ok.min,b,fun e c=>?_⟩;have a:=(d e c).1;unfold Nv at a;simp only[W2,W4] at a;exact a.1.1.1
def SZ (F:f.Fit)(xs:AL):(Iv f xs al).data.length<=4000:=by
 have h:=(Fit.parts F).2.2.2.2.1;show (if kindB (modeK f.en)=40960 then f.link else []).length<=_;split
 ·exact h
 ·simp
def AEc (F:f.Fit):∀ e∈srtA f.xs,Nv e=true/\e.2.length<=4096:=fun e a=>AOc F (HE (Db.1 a))
def iz (F:f.Fit)(c:C1 inl f)(a:(Dy inl f.node).1=0):FilOK f.fl inl (srtA f.xs):=
 ADP F c.1 (Prod.ext a c.2) (Es _) (AEc F)
def AG1 (F:f.Fit)(c:C1 inl f)(d:(Dy inl f.node).1=0)(db:Nat) :
  ∃ a S,Steps [.create [102] f.fl f.xs] (S2 [] inl Gi db) a/\IG a S/\S.db=db/\Tb (Iy [Iv f f.xs (srtA f.xs)]) (CG S):=by
 have b:=iz F c d;refine Yd inl db (its:=[Iv f f.xs (srtA f.xs)]) (Ni F _) (fun it h=>?_) (fun it h=>?_) (by simp) ?_
 ·rw[H4] at h;subst h;exact ADi F b (AEc F) _
 ·rw[H4] at h;subst h;exact ky _
 ·have:=SZ (al:=srtA f.xs) F f.xs;show (Iv f f.xs (srtA f.xs)).data.length+4095+0<=_;omega
end
section
variable {inl:Bool}{f1 f2:FA}
abbrev Mm (f1 f2:FA):AL:=Fz (srtA f1.xs) (srtA f2.xs)
def AKr (a:f1.Fit)(b:f2.Fit):∀ e∈Mm f1 f2,Nv e=true/\e.2.length<=4096:=fun e c=>by
 rcases Le.1 c with h|⟨h,_⟩
 ·exact AOc b (HE h)
 ·exact AOc a (HE h)
def Sm (f:FA):kindB f.node.en=kindB (modeK f.en):=JN _
def ANV (h:¬(kindB f1.node.en=40960/\59<f1.node.lk.length)):lnkB f1.fl=false:=J0 fun hh=>h ⟨(Sm f1).trans hh.1,by
 show 59<(if kindB (modeK f1.en)=40960 then f1.link else []).length;rw[D0 (show kindB (modeK f1.en)=40960 from hh.1)];exact hh.2⟩
def ANd {n pos:Nat}{f al:AL}{P:PN}(c:P=newP f1.fl n inl f pos)(i:lnkB f1.fl=false)(d:kindB (modeK f1.en)=16384↔kindB (modeK f2.en)=16384) :
  mkP (reP {P with ek:=P.ek+1} f2.fl) f2.fl inl al pos = {newP f2.fl n inl al pos with ek:=(newP f2.fl n inl al pos).ek+1}:=by
 have e:∀ {α:Type} (a b:α),(if kindB (modeK f1.fl.en)=16384 then a else b)=if kindB (modeK f2.fl.en)=16384 then a else b:=fun a b=>by
  have d:kindB (modeK f1.fl.en)=16384↔kindB (modeK f2.fl.en)=16384:=d;by_cases h:kindB (modeK f2.fl.en)=16384
  ·rw[D0 h,D0 (d.2 h)]
  ·rw[F0 h,F0 fun g=>h (d.1 g)]
 have j:P.ek=if kindB (modeK f2.fl.en)=16384 then 1 else 0:=by rw[c];exact e 1 0
 have l:P.kids=if kindB (modeK f2.fl.en)=16384 then some [] else none:=by rw[c];exact e (some []) none
 have m:P.bu=0:=by
  rw[c];show (if lnkB f1.fl=true then _ else 0)=0;rw[i];rfl
 have o:P.num=n:=by rw[c];rfl
 have p:P.xblk=0:=by rw[c];rfl
 unfold newP mkP reP ZT;dsimp only;rw[j,l,m,o,p]
def AG7 {T:PS}{M:List (Option PN)}(a:T.cur=none)(b:T.dw=0)(c:T.dm=0):({T with M:=M,cur:=none,dw:=0,dm:=0}:PS) = {T with M:=M}:=by
 cases T;dsimp only at a b c;subst a b c;rfl
theorem AHh (t:f1.Fit)(u:f2.Fit)(c1:C1 inl f1)(c2:C1 inl f2)(A:AnF inl f1.node f2.node)(db:Nat) :
  ∃ SE S,Steps [.create [102] f1.fl f1.xs,.create [102] f2.fl f2.xs] (S2 [] inl Gi db) SE/\IG SE S/\S.db=db/\Tb (Iy [Iv f2 [] (Mm f1 f2)]) (CG S):=by
 obtain⟨A1,A2,A3,A4,A5,A6,A7⟩:=A;have k1:=Sm f1;have k2:=Sm f2;have ar:=iz t c1 A5;have au:FilOK f2.fl inl (Mm f1 f2):=ADP u c2.1 A3 (Nl _ _) (AKr t u);have aj:lnkB f1.fl=false:=by
  refine ANV fun h=>?_;by_cases hd:kindB f2.node.en=16384
  ·rw[A1.2 hd] at h;exact absurd h.1 (by decide)
  ·exact A2 hd h
 have s:kindB (modeK f1.en)=16384↔kindB (modeK f2.en)=16384:=by rw[<-k1,<-k2];exact A1
 have w0:=Vo inl db;have bj:BZ []:=fun j it h=>by simp at h
 have f:=WC inl db;have ay:=ADi t ar (AEc t) f1.xs;have cq:=Yi (al:=srtA f1.xs) t f1.xs;have dy:=SZ (al:=srtA f1.xs) t f1.xs;obtain⟨st,q,hq,cr⟩:=AEs (it:=Iv f1 f1.xs (srtA f1.xs)) (xs:=f1.xs) w0 bj cq ay (by simp) (by rw[f];omega) (ky _);have cu:=Yi (al:=Mm f1 f2) u [];have dz:=SZ (al:=Mm f1 f2) u [];obtain⟨S',⟨Sy,s2,fi⟩,w2,dg,bg⟩:=AEv (it:=Iv f2 [] (Mm f1 f2)) (q:=q) w0 bj cu hq (by rw[f];omega);have bi:∀ it∈[Iv f2 [] (Mm f1 f2)],WA inl it:=fun it h=>by
  rw[H4] at h;subst h;exact ADi u au (AKr t u) _
 obtain⟨S,cl,ci,g⟩:=Qd (its:=[Iv f2 [] (Mm f1 f2)]) w2 (Ni u _) bi (by simp) (by rw[f] at dg;omega) fi;have az:(S2 [] inl Gi db).db=db:=by rw[Tf];rfl
 refine⟨Sy,S,?_,cl,ci.trans (bg.trans az),g⟩;have bm:(Iv f2 [] (Mm f1 f2)).wrs=[]:=rfl;rw[bm] at s2;obtain⟨T,v⟩:∃ T,T=S2 [] inl Gi db:=⟨_,rfl⟩;have l:T.M.length=11:=by rw[v];exact w0.len
 have o:T.inl=inl:=by rw[v];exact w0.inlS
 have m:T.cur=none:=by rw[v];exact w0.cur
 have aw:T.dw=0/\T.dm=0:=by rw[v,Tf];exact⟨rfl,rfl⟩
 have ch:T.max=17179869184:=by rw[v];exact w0.max
 have ah:T.pos%4096=0/\T.B.length<=T.pos/\T.pos=8192:=by rw[v];exact⟨w0.al,w0.B,f⟩
 have dq:∃ n,T.M[1]? = some (some n):=by rw[v];exact⟨_,w0.root⟩
 rw[<-v] at cr hq s2 w0 ⊢;obtain⟨P,w⟩:∃ P,P=newP f1.fl 12 inl (srtA f1.xs) T.pos:=⟨_,rfl⟩;have bh:2-1<T.M.length:=by omega
 obtain⟨a1,a2,a3⟩:=HW (M:=T.M) (d:=2) (q:=q) (p:=P) (p':={P with ek:=P.ek+1}) (es:=esOf [] 2) (e:=[102]) bh;have dh:∃ i,Fin (T.made 2 q (esOf [] 2) [102] f1.fl (srtA f1.xs)) i/\i = {T with M:=Dd T.M 2 q P (esOf [] 2) [102]}:=by
  have e0:T.made 2 q (esOf [] 2) [102] f1.fl (srtA f1.xs)=({T with M:=Dd T.M 2 q P (esOf [] 2) [102]}:PS).openF f1.fl 12:=by
   unfold PS.made PS.ej;rw[aj,F0 (by decide),show newP f1.fl (T.M.length+1) T.inl (srtA f1.xs) T.pos=P by rw[l,o,w],show T.M.length+1=12 by omega]
  rw[e0];unfold PS.openF;by_cases hr:kindB (modeK f1.fl.en)=32768
  ·rw[D0 hr];refine⟨_,.small (c:=12) (n:={P with ek:=P.ek+1}) rfl (by decide) (by show _[12-1]? = _;rw[show 12-1=T.M.length by omega];exact a1) rfl (.inl rfl),?_⟩;exact AG7 m aw.1 aw.2
  ·rw[F0 hr];exact⟨_,.none m,rfl⟩
 obtain⟨i,fb,b⟩:=dh;have cm:esOf [] 2=[(lostN,11)]:=rfl;have hM:(Dd T.M 2 q P (esOf [] 2) [102])=(T.M++[some {P with ek:=P.ek+1}]).set 1 (some {q with kids:=some (esOf [] 2++[([102],12)]),ek:=q.ek+(if kindB P.en=16384 then 1 else 0)}):=by
  unfold Dd;rw[l]
 have g1:i.M[1]? = some (some {q with kids:=some (esOf [] 2++[([102],12)]),ek:=q.ek+(if kindB P.en=16384 then 1 else 0)}):=by
  rw[b];show (Dd T.M 2 q P (esOf [] 2) [102])[1]? = _;rw[hM,G4,D0 rfl,D0 (by rw[C0];omega)]
 have bn:i.M[12-1]? = some (some {P with ek:=P.ek+1}):=by
  rw[b];show (Dd T.M 2 q P (esOf [] 2) [102])[12-1]? = _;rw[show 12-1=T.M.length by omega];exact a1
 obtain⟨x1,x2,x3⟩:=Ut (it:=Iv f1 f1.xs (srtA f1.xs)) (n:=12) (inl:=inl) (pos:=T.pos) aj;have e1:newP (Iv f1 f1.xs (srtA f1.xs)).f 12 inl (Iv f1 f1.xs (srtA f1.xs)).al T.pos=P:=w.symm;rw[e1] at x1 x2 x3;have bk:inlK inl (kindB (modeK f1.en)) 0=false:=by
  rw[<-k1];unfold inlK;cases hI:inl with
  | false=>rfl
  | true=>
   by_cases h:kindB f1.node.en=32768
   ·exact absurd ⟨hI,h⟩ A6
   ·simp[h]
 have cp:P.ed=262144:=by
  rw[x1];show LQ inl (kindB (modeK f1.en)) 0=_;unfold LQ;rw[bk];rfl
 have dj:P.fe=xinA (srtA f1.xs):=by
  rw[w];show xinA (sdA inl (kindB (modeK f1.en)) 0++srtA f1.xs)=_;unfold sdA;rw[bk];rfl
 have ae:kindB P.en=kindB (modeK f1.en):=by rw[w];exact JN _
 have bq:kindB P.en≠16384->P.ek=0:=fun h=>by
  rw[ae] at h;rw[w];exact F0 h
 have ai:=(ar.al ay.ew).fit;have cz:(srtA f1.xs).length<=12:=by
  have h1:=Lu f1.xs [];have h2:=(Fit.parts t).2.2.2.2.2.1;unfold srtA;rw[C4,U1] at h1;omega
 have ag:AgOK i [102] f2.fl f2.xs (srtA f1.xs) (Mm f1 f2) [] [102] 2 {q with kids:=some (esOf [] 2++[([102],12)]),ek:=q.ek+(if kindB P.en=16384 then 1 else 0)} (esOf [] 2++[([102],12)]) 12 {P with ek:=P.ek+1}:=by
  refine⟨by rw[b];exact m,⟨⟨_,g1⟩,by decide,by decide,by decide,rfl,by decide,g1,hq.en⟩,rfl,by rw[cm];decide,by decide,bn,?_,fun h=>?_,?_,?_,ADu _ _,dj,ai,by omega,?_,(Es _).nodup,?_,?_,?_⟩
  ·show kindB P.en=16384↔_;rw[ae];exact s
  ·show P.ek+1<2;rw[bq h];decide
  ·have:i.inl=inl:=by rw[b];exact o
   rw[this];exact au
  ·intro hl;have h4:=(Fit.parts u).2.2.2.2.1;rw[b];refine⟨ah.1,ah.2.1,?_⟩;show T.pos+f2.link.length+4096<=T.max;rw[ch,ah.2.2];omega
  ·intro a ha;have h1:=Db.1 ha;by_cases hn:Iu f2.xs a.1=true
   ·exact A7 a (Le.2 (.inr ⟨h1,hn⟩))
   ·have:∃ c∈f2.xs,c.1=a.1:=by
     refine Decidable.byContradiction fun h=>hn (Ht.2 fun c hc he=>h ⟨c,hc,he⟩)
    obtain⟨c,hc,he⟩:=this;obtain⟨d,h3,h4⟩:=ZO hc;have:=A7 d (Le.2 (.inl h3));rw[h4,he] at this;exact this
  ·show P.ed &&& 524288=0;rw[cp];rfl
  ·show P.xblk=0;rw[w];rfl
  ·show P.bu<1000000;rw[x3];decide
 have ao:i.anew 12 {P with ek:=P.ek+1} f2.fl (Mm f1 f2)=T.made 2 q (esOf [] 2) [102] f2.fl (Mm f1 f2):=by
  have r:=ANd (f2:=f2) (inl:=inl) (n:=12) (pos:=T.pos) (al:=Mm f1 f2) w aj s;have bp:(Dd T.M 2 q P (esOf [] 2) [102]).set 11 (some (mkP (reP {P with ek:=P.ek+1} f2.fl) f2.fl inl (Mm f1 f2) T.pos))=Dd T.M 2 q (newP f2.fl 12 inl (Mm f1 f2) T.pos) (esOf [] 2) [102]:=by
   have e3:=(HW (M:=T.M) (d:=2) (q:=q) (p:=P) (p':=mkP (reP {P with ek:=P.ek+1} f2.fl) f2.fl inl (Mm f1 f2) T.pos) (es:=esOf [] 2) (e:=[102]) bh).2.2;rw[l] at e3;rw[e3,r];unfold Dd;have cw:kindB (newP f2.fl 12 inl (Mm f1 f2) T.pos).en=kindB (modeK f2.en):=JN _;have cy:(if kindB P.en=16384 then 1 else 0)=if kindB (newP f2.fl 12 inl (Mm f1 f2) T.pos).en=16384 then 1 else 0:=by
    rw[cw,ae];by_cases h:kindB (modeK f2.en)=16384
    ·rw[D0 h,D0 (s.2 h)]
    ·rw[F0 h,F0 fun h1=>h (s.1 h1)]
   rw[cy,l]
  unfold PS.anew PS.made;have df:i.ej f2.fl = {T.ej f2.fl with M:=Dd T.M 2 q P (esOf [] 2) [102]}:=by
   rw[b];unfold PS.ej;split<;>rfl
  have bz:i.inl=inl:=by rw[b];exact o
  have ce:i.pos=T.pos:=by rw[b]
  have bt:i.M=Dd T.M 2 q P (esOf [] 2) [102]:=by rw[b]
  rw[df,bz,ce,bt,bp,l,o]
 have dp:Step1 (.create [102] f2.fl f2.xs) (T.made 2 q (esOf [] 2) [102] f1.fl (srtA f1.xs)) (T.made 2 q (esOf [] 2) [102] f2.fl (Mm f1 f2)):=by
  rw[<-ao];exact .anew fb ag
 exact .cons (.create (.none m) cr) (.cons dp s2)
attribute [local irreducible] BJ CR Ak Bc An Aa AK Ac
structure Tri (f:FA) (al:AL) (t0 t1 t2:TN):Prop where
 k0:t0.X.key=keyF (dirF 16877)/\t0.data=[]/\t0.link=[]/\t0.xs=[]/\t0.ks=[([102],2),(lostN,1)]
 k1:t1.X.key=keyF (dirF 16832)/\t1.data=[]/\t1.link=[]/\t1.xs=[]/\t1.ks=[]
 k2:t2.X.key=keyF f.fl/\t2.data=[]/\t2.link=(if kindB (modeK f.en)=40960 then f.link else [])/\t2.xs=srtA al/\t2.ks=[]
def AOU {ks:List (Bs×Nat)}(j:ks.length=2)(d:∀ e∈ks,e=([102],2)\/e=(lostN,1))(c:kidL ks [102]=some 2)(f:kidL ks lostN=some 1):ks=[([102],2),(lostN,1)]:=by
 match ks,j with
 | [a,b],_=>
  have g:=d a (by simp);have i:=d b (by simp);rcases g with rfl|rfl<;>rcases i with rfl|rfl
  ·revert f;decide
  ·rfl
  ·revert c;decide
  ·revert c;decide
theorem AEg {f:FA}{xs al:AL}{ts:List TN}{ix:Nat->Nat}(T:qv [Iv f xs al] ts ix):∃ t0 t1 t2,ts=[t0,t1,t2]/\Tri f al t0 t1 t2:=by
 have hl:ts.length=3:=T.len;have v2:2∈VV [Iv f xs al]:=Bo.2 (.inl rfl);have p:11∈VV [Iv f xs al]:=Bo.2 (.inr (by simp));have q:12∈VV [Iv f xs al]:=Bo.2 (.inr (by simp));have a:ix 12=2:=by
  obtain⟨c,hc,hi⟩:=T.sur 2 (by omega);rcases Bo.1 hc with h|⟨t,d⟩
  ·subst h;rw[T.root] at hi;cases hi
  ·have:c=11\/c=12:=by simp at d;omega
   rcases this with h|h
   ·subst h;rw[T.lf] at hi;cases hi
   ·subst h;exact hi
 obtain⟨t0,g0,n0⟩:=T.node 2 v2;obtain⟨t1,g1,n1⟩:=T.node 11 p;obtain⟨t2,g2,n2⟩:=T.node 12 q;rw[T.root] at g0;rw[T.lf] at g1;rw[a] at g2;have b:=n0.dir (BB.2 (.inl rfl));have d1:=n1.dir (BB.2 (.inr (.inl rfl)));have ae:kidsOf [Iv f xs al] 2=[([102],12)]:=rfl;have e2:esOf [Iv f xs al] 2=[(lostN,11),([102],12)]:=rfl;have i:esOf [Iv f xs al] 11=[]:=rfl;have e12:esOf [Iv f xs al] 12=[]:=rfl;have a0:alOf [Iv f xs al] 2=[]:=rfl;have a1:alOf [Iv f xs al] 11=[]:=rfl;have a2:alOf [Iv f xs al] 12=al:=rfl;have i2:=n2.it 0 (Iv f xs al) rfl rfl;have o:ts=[t0,t1,t2]:=by
  match ts,hl with
  | [u0,u1,u2],_=>
   obtain rfl:=V0 g0;obtain rfl:=V0 g1;obtain rfl:=V0 g2;rfl
 have g:∀ {l:List (Bs×Nat)},l.length=([]:List (Bs×Nat)).length->l=[]:=fun h=>List.eq_nil_of_length_eq_zero h;refine⟨t0,t1,t2,o,⟨?_,b.2.1.1,b.2.1.2,?_,?_⟩,⟨?_,d1.2.1.1,d1.2.1.2,?_,?_⟩,⟨?_,?_,?_,?_,?_⟩⟩
 ·rw[n0.key,AKn]
 ·rw[n0.xs,a0];rfl
 ·rw[e2] at b;have s0:=n0.sub;rw[e2] at s0;refine AOU b.2.2.1 (fun e he=>?_) ((b.2.2.2 ([102],12) (by simp)).trans (by rw[a])) ((b.2.2.2 (lostN,11) (by simp)).trans (by rw[T.lf]));obtain⟨k,t,d⟩:=s0 e he;obtain⟨u,v⟩:=e;have d:v=ix k:=d;rcases I1.1 t with j|j
  ·obtain⟨m,n⟩:=Prod.mk.inj j;exact .inr (by rw[d,n,T.lf];exact J3 (·,1) m)
  ·obtain⟨m,n⟩:=Prod.mk.inj (H4.1 j);exact .inl (by rw[d,n,a];exact J3 (·,2) m)
 ·rw[n1.key,ADO]
 ·rw[n1.xs,a1];rfl
 ·rw[i] at d1;exact g d1.2.2.1
 ·rw[n2.key];rfl
 ·rw[i2.1];by_cases h:(Iv f xs al).kd=32768
  ·rw[D0 h];have h:kindB (modeK f.en)=32768:=h;show (if kindB (modeK f.en)=40960 then f.link else [])=[];rw[h];rfl
  ·rw[F0 h]
 ·rw[i2.2];by_cases h:(Iv f xs al).kd=40960
  ·rw[D0 h];rfl
  ·rw[F0 h];exact (F0 h).symm
 ·rw[n2.xs,a2]
 ·by_cases w:dirB [Iv f xs al] 12=true
  ·have s:=n2.dir w;rw[e12] at s;exact g s.2.2.1
  ·exact n2.nodir (by simpa using w)
def pe (t:TN):ND:=
 ⟨t.X.key.1,t.X.key.2.1,t.X.key.2.2.1,((NP t.X.key.2.2.2.1.1 t.X.key.2.2.2.1.2).getD 0 0,(NP t.X.key.2.2.2.1.1 t.X.key.2.2.2.1.2).getD 1 0,(NP t.X.key.2.2.2.2.1.1 t.X.key.2.2.2.2.1.2).getD 0 0,(NP t.X.key.2.2.2.2.1.1 t.X.key.2.2.2.2.1.2).getD 1 0,(NP t.X.key.2.2.2.2.2.1.1 t.X.key.2.2.2.2.2.1.2).getD 0 0,(NP t.X.key.2.2.2.2.2.1.1 t.X.key.2.2.2.2.2.1.2).getD 1 0,(NP t.X.key.2.2.2.2.2.2.1.1 t.X.key.2.2.2.2.2.2.1.2).getD 0 0,(NP t.X.key.2.2.2.2.2.2.1.1 t.X.key.2.2.2.2.2.2.1.2).getD 1 0),t.X.key.2.2.2.2.2.2.2.1,t.X.key.2.2.2.2.2.2.2.2,t.link,t.data,t.xs,t.ks.map (·.1),t.ks.map (·.2)⟩
theorem pf (t:TN)(dv xv nv kv:Vz):t.cells dv xv nv kv=(pe t).cells dv xv nv kv:=rfl
def Yq {t t':TN}(h:t.X.key=t'.X.key)(a:t.data=t'.data)(b:t.link=t'.link)(c:t.xs=t'.xs)(d:t.ks=t'.ks):pe t=pe t':=by
 unfold pe;rw[h,a,b,c,d]
def ADw {ns:List Vz}{ts:List TN}{i:Nat}{t:TN}(tv:TreeV x ns ts)(hi:ts[i]? = some t)(c:t.data.length<1000000000)(f:t.xs.length<1000000)(g:t.ks.length<1000000):NDC x ns i (pe t):=by
 obtain⟨dv,xv,nv,kv,e,d,⟨xcs,a,b⟩,dn,dk⟩:=tv.get hi;refine⟨dv,xv,nv,kv,xcs,e.trans (pf _ _ _ _ _),d,a,b,?_,?_,c,f,?_,?_⟩
 ·show RdV 1 nv (t.ks.map (·.1)).length _ x;rw[Z0];exact dn
 ·show RdV 1 kv (t.ks.map (·.2)).length _ x;rw[Z0];exact dk
 ·show (t.ks.map (·.1)).length<_;rw[Z0];exact g
 ·show (t.ks.map (·.2)).length=(t.ks.map (·.1)).length;rw[Z0,Z0]
def TreeV.setX {cs:List Vz}{ts:List TN}{t:TN}{l:AL}{u:Vz}(tv:TreeV x cs (ts++[t]))(d:AtL x u l):TreeV x (cs.set (ts.length*18+15) u) (ts++[{t with xs:=l}]):=by
 generalize i:ts++[t]=L at tv;cases tv with
 | nil=>simp at i
 | eu a b g c e=>
  rename_i f n t0 dv xv nv kv;obtain⟨rfl,m⟩:=List.append_inj' i rfl;obtain rfl:=List.singleton_inj.1 m;have j:=a.len;rw[List.set_append,F0 (by omega),show ts.length*18+15-f.length=15 by omega,TN.s15 (l':=l)];exact .eu a b d c e
section
variable {f:FA} {xv:Vz} {xcs:List Vz}
def s81 {a:Bs×Bs}{v:Vz}(d:RdX x v a.2)(f:a.1.length<=2000000000)(g:a.2.length<=2000000000)(w:AN x h)(K:∀ y h,AN (y+x) h->Q  AI  h):f81 (.agg ⟨[str a.1,v]⟩) h Q:=by
 have c:∀ n:Nat,n<=2000000000->∀ k:Vz->Prop,AQ .gtr (AB (n:Nat)) (AB 2147483647) k=k  AE :=fun n i k=>by rw[Ah,J0 (by omega)]
 obtain⟨j,l,e⟩:=d.len;unfold f81 AW;refine BG w fun b h w=>?_;have w:AN (pts b (.cells ⟨[str a.1,v]⟩ 56 (0,0))+x) h:=w;rw[AG];refine Af w (u:=str a.1) rfl ?_;rw[DH,c _ f,AJ,AG];refine Af w (u:=v) rfl ?_;rw[e,As,c _ g,AJ];exact K _ h (e▸w)
def s43 {l:AL}(d:RdV 2 xv l.length xcs x)(A:AtV x xcs l)(t:l.length<=2000000)(s:∀ a∈l,a.1.length<=2000000/\a.2.length<=2000000)(w:AN x h)(K:∀ y h,AN (y+x) h->Q AI  h):f43 xv h Q:=by
 obtain⟨⟨va,vc,o⟩,_⟩:=d.len;have q:∀ n:Nat,n<=2000000000->∀ k:Vz->Prop,AQ .gtr (AB (n:Nat)) (AB 2147483647) k=k  AE :=fun n t k=>by rw[Ah,J0 (by omega)]
 unfold f43 AW;rw[o,As,q _ (by omega),AJ,As,<-o];unfold AIo;refine Bj (fun g u f=>∃ i y,g+i=l.length/\u=AB (i:Nat)/\AN (y+x) f) l.length ⟨0,0,rfl,rfl,w.cast (by rw[Res.zero_add])⟩ ?_;rintro rec g u f ⟨i,y,hi,rfl,w⟩ e;unfold ABg BL;rw[AR];refine AS (fun p=>?_) (fun p=>K y f w);have c:i<l.length:=by omega
 obtain⟨a,m⟩:∃ a,l[i]? = some a:=⟨_,B0 c⟩;obtain⟨u,v,j⟩:=A.at m;obtain⟨b1,b2⟩:=s a (D1 m);refine (d.bf:RdV 2 xv l.length xcs _).agg w c ?_;rw[v];refine AV w HQ rfl fun b8 h w=>?_;refine AD w ⟨[str a.1,u]⟩ (AU (by rfl)) rfl (by simp) (Fm j) fun h w=>?_;refine BD (b:=b8) w rfl ?_;refine AND (s81 j.bf.bf (by omega) (by omega) w fun y2 h w=>?_);rw[CI,P3,AJ,Az (n:=1),Bq (by omega)];exact e (g-1) _ _ ⟨i+1,y2+(pts b8 (.cells ⟨[str a.1,u]⟩ 56 (0,0))+y),by omega,rfl,w.cast (by rw[Res.assoc,Res.assoc])⟩ (by omega)
def s10 (d:RdV 2 xv f.xs.length xcs x)(A:AtV x xcs f.xs)(a:f.xs.length<=2000000)(ok:f.OK)(w:AN x h)(K:∀ y h,AN (y+x) h->Q  AI  h):f10 (.agg ⟨f.cells xv⟩) h Q:=by
 have c:∀ n:Nat,n<=2000000000->∀ k:Vz->Prop,AQ .gtr (AB (n:Nat)) (AB 2147483647) k=k  AE :=fun n a k=>by rw[Ah,J0 (by omega)]
 have e:=ok.lk;unfold f10 AW;refine BG w fun b h w=>?_;have w:AN (pts b (.cells ⟨f.cells xv⟩ 28 (0,0))+x) h:=w;rw[AG];refine Af w (u:=str f.link) rfl ?_;rw[DH,c _ (by omega),AJ,AG];refine Af w (u:=xv) rfl ?_;refine AM0 (s43 d.bf A.mono a ok.xs w fun y h w=>?_);rw[CI,P3,AJ];exact K (y+pts b (.cells ⟨f.cells xv⟩ 28 (0,0))) h (w.cast (by rw[Res.assoc]))
end
def Qo {l:AL}{a:Bs×Bs}{nm:Bs}:Iu (l++[a]) nm=(Iu l nm&&(a.1 != nm)):=by
 unfold Iu;rw[List.all_append];simp
def HL (a b:AL)(i:Nat):AL:=((a.take i).filter fun c=>Iu b c.1).foldl (fun o c=>Ks o c.1 c.2) (srtA b)
def AEA (a b:AL)(i:Nat)(g:a.length<=12)(j:b.length<=12):(HL a b i).length<=24:=by
 have d:=Lu ((a.take i).filter fun c=>Iu b c.1) (srtA b);have e:=Lu b [];have f:=G7 (fun c:Bs×Bs=>Iu b c.1) (a.take i);rw[W1] at f;rw[C4] at e;unfold HL;unfold srtA at d ⊢;omega
def Qs {a b:AL}{i:Nat}{c:Bs×Bs}(h:a[i]? = some c):HL a b (i+1)=if Iu b c.1=true then Ks (HL a b i) c.1 c.2 else HL a b i:=by
 unfold HL;rw[O3,h];show ((a.take i++[c]).filter _).foldl _ _=_;rw[L5,M6,List.filter_cons,List.filter_nil];split<;>rfl
def ZW {cs:List Vz}{t:TN}{i j:Nat}{dv xv nv kv u:Vz}(e:(cs.drop (i*18)).take 18=t.cells dv xv nv kv)(b:j<18)(a:(t.cells dv xv nv kv)[j]? = some u):cs[i*18+j]? = some u:=by
 rw[<-e,I2,D0 b,Q3] at a;exact a
section
variable {f1 f2:FA} {t0 t1 t2 t0' t1' t2':TN} {b5 b13 b14:Nat} {xv1 xv2 nsv nsv':Vz} {xcs1 xcs2 ns ns':List Vz} {rP:Res} {alB alO:AL}
def AOV (h:Tri f2 alB t0 t1 t2)(a:Tri f2 alO t0' t1' t2'){l:AL}(c:srtA alB=l):pe t0=pe t0'/\pe t1=pe t1'/\pe t2=pe {t2' with xs:=l}:=by
 obtain⟨a1,a2,a3,a4,a5⟩:=h.k0;obtain⟨b1,b2,b3,b4,b5⟩:=h.k1;obtain⟨c1,c2,b,c4,c5⟩:=h.k2;obtain⟨d,e,f,g,i⟩:=a.k0;obtain⟨j,m,n,o,p⟩:=a.k1;obtain⟨r1,r2,r3,r4,r5⟩:=a.k2;exact⟨Yq (a1.trans d.symm) (a2.trans e.symm) (a3.trans f.symm) (a4.trans g.symm) (a5.trans i.symm),Yq (b1.trans j.symm) (b2.trans m.symm) (b3.trans n.symm) (b4.trans o.symm) (b5.trans p.symm),Yq (c1.trans r1.symm) (c2.trans r2.symm) (b.trans r3.symm) (c4.trans c) (c5.trans r5.symm)⟩
theorem AS6 (d1:RdV 2 xv1 f1.xs.length xcs1 x)(A1:AtV x xcs1 f1.xs)(d2:RdV 2 xv2 f2.xs.length xcs2 x)(A2:AtV x xcs2 f2.xs)(l1:f1.xs.length<=12)(l2:f2.xs.length<=12)[F5:Be b5 x (.cells ⟨f2.cells xv2⟩ 28 (0,0))]
  (dB:RdV 18 nsv 3 ns x) (tB:TreeV x ns [t0,t1,t2]) (f:Tri f2 alB t0 t1 t2) (c:Tri f2 alO t0' t1' t2') (hB:srtA alB=Mm f1 f2) (hO:srtA alO=srtA f2.xs) (ce:f2.link.length<=4000) (md:∀ t∈[t0',t1',t2'],t.X.en<65536)
  (m:Vec 63 18 nsv' 3 ns' rP) (p:TreeV (y+x) ns' [t0',t1',t2']) (w:AN (rP+(pts b13 (.cells ⟨[nsv]⟩ 40 (0,0))+(pts b14 (.cells ⟨[nsv']⟩ 40 (0,0))+(y+x)))) h)
  (K:∀ y h,AN (y+x) h->Q  AI h):AMz Q (Pt b5) (Pt b13) (Pt b14) (AB ((2:Nat):Int)) xv1 (AB (f1.xs.length:Nat)) (AB ((0:Nat):Int)) h:=by
 obtain⟨⟨cm,cp,v⟩,_⟩:=d2.len;have aw:TreeV (y+x) ns' [t0',t1',{t2' with xs:=HL f1.xs f2.xs 0}]:=by
  have:t2' = {t2' with xs:=HL f1.xs f2.xs 0}:=by
   have:HL f1.xs f2.xs 0=t2'.xs:=by rw[c.k2.2.2.2.1,hO];rfl
   rw[this]
  rw[<-this];exact p
 unfold AMz;refine Bj (fun mm u h'=>∃ i ns' rP y,mm+i=f1.xs.length/\u=AB (i:Nat)/\Vec 63 18 nsv' 3 ns' rP/\TreeV (y+x) ns' [t0',t1',{t2' with xs:=HL f1.xs f2.xs i}]/\AN (rP+(pts b13 (.cells ⟨[nsv]⟩ 40 (0,0))+(pts b14 (.cells ⟨[nsv']⟩ 40 (0,0))+(y+x)))) h') f1.xs.length ⟨0,ns',rP,y,rfl,rfl,m,aw,w⟩ ?_;clear aw p m w;rintro rec mm u h' ⟨i,ns',rP,y,hi,rfl,m,p,w⟩ s;have bj:=AEA f1.xs f2.xs i l1 l2;unfold AMu BL;rw[AR];refine AS (fun hc=>?_) (fun hc=>?_)
 ·have aj:i<f1.xs.length:=by omega
  obtain⟨a,ha⟩:∃ a,f1.xs[i]? = some a:=⟨_,B0 aj⟩;obtain⟨u,hu,du⟩:=A1.at ha;refine (d1.bf.bf.bf.bf:RdV 2 xv1 f1.xs.length xcs1 _).agg w aj ?_;rw[hu];refine AV w HQ rfl fun d h w=>?_;refine AD w ⟨[str a.1,u]⟩ (AU (by rfl)) rfl (by simp) (Fm du) fun h w=>?_;rw[AG];refine Af w (u:=xv2) rfl ?_;rw[v,As,<-v];unfold APD;refine DF (fun mm u0 u1 h'=>∃ j z,mm+j=f2.xs.length/\u0=.bool (Iu (f2.xs.take j) a.1)/\u1=AB (j:Nat)/\AN (pts d (.cells ⟨[str a.1,u]⟩ 56 (0,0))+(rP+(pts b13 (.cells ⟨[nsv]⟩ 40 (0,0))+(pts b14 (.cells ⟨[nsv']⟩ 40 (0,0))+(z+(y+x)))))) h') f2.xs.length ⟨0,0,rfl,rfl,rfl,w.cast (by rw[Res.zero_add])⟩ ?_;rintro rec2 bn u0 u1 h' ⟨j,z,hj,rfl,rfl,w⟩ ae;unfold AMv BL;rw[AR];refine AS (fun az=>?_) (fun az=>?_)
  ·have ao:j<f2.xs.length:=by omega
   obtain⟨a2,ai⟩:∃ a,f2.xs[j]? = some a:=⟨_,B0 ao⟩;obtain⟨u2,o,ay⟩:=A2.at ai;have au:f2.xs.take (j+1)=f2.xs.take j++[a2]:=by rw[O3,ai];rfl
   refine (d2.bf.bf.bf.bf.bf.bf:RdV 2 xv2 f2.xs.length xcs2 _).agg w ao ?_;rw[o];refine AV w HQ rfl fun ah h w=>?_;refine AD w ⟨[str a2.1,u2]⟩ (AU (by rfl)) rfl (by simp) (Fm ay) fun h w=>?_;have go:∀ (b:Bool) h,b=Iu (f2.xs.take (j+1)) a.1->AN (pts ah (.cells ⟨[str a2.1,u2]⟩ 56 (0,0))+(pts d (.cells ⟨[str a.1,u]⟩ 56 (0,0))+(rP+(pts b13 (.cells ⟨[nsv]⟩ 40 (0,0))+(pts b14 (.cells ⟨[nsv']⟩ 40 (0,0))+(z+(y+x))))))) h->rec2 (.bool b) (AB (j+1:Nat)) h:=fun b h hb w=>
    ae (bn-1) _ _ _ ⟨j+1,pts ah (.cells ⟨[str a2.1,u2]⟩ 56 (0,0))+z,by omega,by rw[hb],rfl,w.cast (by ac_rfl)⟩ (by omega)
   cases hf:Iu (f2.xs.take j) a.1 with
   | true=>
    rw[CV,AG];refine Af w (show (⟨[str a2.1,u2]⟩:Array Vz)[0]? = some (str a2.1) from rfl) ?_;rw[AG];refine Af w (show (⟨[str a.1,u]⟩:Array Vz)[0]? = some (str a.1) from rfl) ?_;rw[EF,Az (n:=1),Bq (by omega)];refine go _ h ?_ w;rw[au,Qo,hf,Bool.true_and];by_cases e:a2.1=a.1<;>simp[e]
   | false=>
    rw[GU,Az (n:=1),Bq (by omega)];exact go _ h (by rw[au,Qo,hf];rfl) w
  ·have:j=f2.xs.length:=by omega
   subst this;rw[L1];cases hf:Iu f2.xs a.1 with
   | false=>
    rw[AJ,Az (n:=1),Bq (by omega)];refine s (mm-1) _ _ ⟨i+1,ns',rP,pts d (.cells ⟨[str a.1,u]⟩ 56 (0,0))+(z+y),by omega,rfl,m,?_,w.cast (by ac_rfl)⟩ (by omega);rw[Qs ha,hf,F0 (by decide),Res.assoc,Res.assoc];exact p.mono.mono
   | true=>
    rw[Ab];obtain⟨⟨ch,ci,bz⟩,_⟩:=m.len;refine BD (b:=b14) w rfl ?_;refine Hb w HD rfl rfl rfl fun q h w=>?_;have bm:RdV 1 (.slice (some ⟨q,0,none⟩) 1 1) ([[102]]:List Bs).length (strs [[102]]) (pts q (.cells ⟨[.string ⟨#[102]⟩]⟩ 9 (0,0))):=(Vec.own' (I0 1) rfl rfl:Vec 9 1 (.slice (some ⟨q,0,none⟩) 1 1) 1 (strs [[102]]) (pts q (.cells ⟨[.string ⟨#[102]⟩]⟩ 9 (0,0)))).rdv;have kk:([t0',t1',{t2' with xs:=HL f1.xs f2.xs i}]:List TN).length=3:=rfl;have bg:FindP [t0',t1',{t2' with xs:=HL f1.xs f2.xs i}] 0 [[102]] 2:=.cons (t:=t0') rfl (by rw[c.k0.2.2.2.2];decide) (by
     have h1:t0'.X.en=CC 16877:=by
      have:=J3 Prod.fst c.k0.1;rw[MQ] at this;exact this
     rw[h1];decide) .nil
    have bk:∀ t∈[t0',t1',{t2' with xs:=HL f1.xs f2.xs i}],t.X.en<65536/\t.ks.length<1000000000:=fun t g=>by
     simp only[I1,V7,or_false] at g;rcases g with rfl|rfl|rfl
     ·exact⟨md _ (by simp),by rw[c.k0.2.2.2.2];decide⟩
     ·exact⟨md _ (by simp),by rw[c.k1.2.2.2.2];decide⟩
     ·exact⟨md t2' (by simp),by show t2'.ks.length<_;rw[c.k2.2.2.2.2];decide⟩
    refine SG (s15 (ts:=[t0',t1',{t2' with xs:=HL f1.xs f2.xs i}]) (m.rdv.an.bf.bf) (p.mono.mono.mono.mono.mono.mono) bk bm.an (by decide) bg w fun y2 h w=>?_);rw[BF,BO,AG];refine Af w (u:=nsv') rfl ?_;rw[AG];refine Af w (u:=nsv') rfl ?_;obtain⟨dv,xv,nv,kv,q1,q2,q3,q4,q5⟩:=p.get (i:=2) (t:={t2' with xs:=HL f1.xs f2.xs i}) rfl;obtain⟨xcs,bp,bq⟩:=q3;refine (m.rdv.an.bf.bf.bf:RdV 18 nsv' 3 ns' _).cell w (i:=2) (j:=15) (by omega) (by omega) (ZW q1 (by omega) TN.g15) ?_;rw[AG];refine Af w (show (⟨[str a.1,u]⟩:Array Vz)[0]? = some (str a.1) from rfl) ?_;rw[AG];refine Af w (show (⟨[str a.1,u]⟩:Array Vz)[1]? = some u from rfl) ?_;have ar:(HL f1.xs f2.xs i).length<=1000:=by omega
    refine SK (s16 (z:=y+x) (l:=HL f1.xs f2.xs i) (bp.bf.bf.bf.bf.bf.bf.bf) bq ar du.bf w fun u2 cs2 r2 y3 h a2 A3 w=>?_);refine⟨Af w (u:=nsv') rfl rfl,?_⟩;obtain⟨⟨ua,uc,o⟩,_⟩:=a2.len;refine Pm m w (i:=2) (j:=15) (by omega) (by omega) (by rw[o];rfl) (by rw[o];rfl) fun rP h m w=>?_;rw[Az (n:=1),Bq (by omega)];refine s (mm-1) _ _ ⟨i+1,_,rP,r2+(y3+(y2+(pts q (.cells ⟨[.string ⟨#[102]⟩]⟩ 9 (0,0))+(pts d (.cells ⟨[str a.1,u]⟩ 56 (0,0))+(z+y))))),by omega,rfl,m,?_,w.cast (by ac_rfl)⟩ (by omega);rw[Qs ha,hf,D0 rfl];have e:(r2+(y3+(y2+(pts q (.cells ⟨[.string ⟨#[102]⟩]⟩ 9 (0,0))+(pts d (.cells ⟨[str a.1,u]⟩ 56 (0,0))+(z+y))))))+x=(r2+(y3+(y2+(pts q (.cells ⟨[.string ⟨#[102]⟩]⟩ 9 (0,0))+(pts d (.cells ⟨[str a.1,u]⟩ 56 (0,0))+z)))))+(y+x):=by ac_rfl
    rw[e];have bt:TreeV ((r2+(y3+(y2+(pts q (.cells ⟨[.string ⟨#[102]⟩]⟩ 9 (0,0))+(pts d (.cells ⟨[str a.1,u]⟩ 56 (0,0))+z)))))+(y+x)) ns' ([t0',t1']++[{t2' with xs:=HL f1.xs f2.xs i}]):=p.mono;exact bt.setX (l:=Ks (HL f1.xs f2.xs i) a.1 a.2) ⟨cs2,a2.rdv.an.an,A3.mono⟩
 ·have:i=f1.xs.length:=by omega
  subst this;have hl:HL f1.xs f2.xs f1.xs.length=Mm f1 f2:=by
   unfold HL;rw[L1];exact AGy _ _
  rw[hl] at p bj;obtain⟨n0,n1,n2⟩:=AOV f c hB;obtain⟨dv,xv,nv,kv,q1,q2,q3,q4,q5⟩:=tB.get (i:=2) (t:=t2) rfl;obtain⟨⟨va,vc,bi⟩,_⟩:=q4.len;have bh:t2.ks.length=0:=by rw[f.k2.2.2.2.2];rfl
  rw[AG];refine Af w (u:=nsv) rfl ?_;refine (dB.bf.bf.bf.bf:RdV 18 nsv 3 ns _).cell w (i:=2) (j:=16) (by omega) (by omega) (ZW q1 (by omega) TN.g16) ?_;rw[bi,As,bh];have g3:∀ k:Vz->Prop,AQ .eql (AB ((0:Nat):Int)) AF  k=k AI:=fun k=>by rw[AT];rfl
  rw[g3,CV];refine BD (b:=b13) w rfl ?_;refine BD (b:=b14) w rfl ?_;have lB:∀ t∈[t0,t1,t2],t.data.length<1000000000/\t.xs.length<1000000/\t.ks.length<1000000:=fun t g=>by
   simp only[I1,V7,or_false] at g;rcases g with rfl|rfl|rfl
   ·rw[f.k0.2.1,f.k0.2.2.2.1,f.k0.2.2.2.2];decide
   ·rw[f.k1.2.1,f.k1.2.2.2.1,f.k1.2.2.2.2];decide
   ·rw[f.k2.2.1,f.k2.2.2.2.1,f.k2.2.2.2.2,hB];exact⟨by decide,by omega,by decide⟩
  have lO:∀ t∈[t0',t1',{t2' with xs:=Mm f1 f2}],t.data.length<1000000000/\t.xs.length<1000000/\t.ks.length<1000000:=fun t g=>by
   simp only[I1,V7,or_false] at g;rcases g with rfl|rfl|rfl
   ·rw[c.k0.2.1,c.k0.2.2.2.1,c.k0.2.2.2.2];decide
   ·rw[c.k1.2.1,c.k1.2.2.2.1,c.k1.2.2.2.2];decide
   ·show t2'.data.length<_/\(Mm f1 f2).length<_/\t2'.ks.length<_;rw[c.k2.2.1,c.k2.2.2.2.2];exact⟨by decide,by omega,by decide⟩
  have cB:∀ (i:Nat) (t:TN),[t0,t1,t2][i]? = some t->NDC (rP+(pts b13 (.cells ⟨[nsv]⟩ 40 (0,0))+(pts b14 (.cells ⟨[nsv']⟩ 40 (0,0))+(y+x)))) ns i (pe t):=fun i t g=>by
   obtain⟨g1,g2,g3⟩:=lB t (D1 g);exact ADw tB.mono.mono.mono.mono g g1 g2 g3
  have cO:∀ (i:Nat) (t:TN),[t0',t1',{t2' with xs:=Mm f1 f2}][i]? = some t->NDC (rP+(pts b13 (.cells ⟨[nsv]⟩ 40 (0,0))+(pts b14 (.cells ⟨[nsv']⟩ 40 (0,0))+(y+x)))) ns' i (pe t):=fun i t g=>by
   obtain⟨g1,g2,g3⟩:=lO t (D1 g);exact ADw p.mono.mono.mono g g1 g2 g3
  refine AMO (s17 (dB.bf.bf.bf.bf) (m.rdv.an) (cB 0 t0 rfl) (cB 1 t1 rfl) (cB 2 t2 rfl) (n0▸cO 0 t0' rfl) (n1▸cO 1 t1' rfl) (n2▸cO 2 _ rfl) ?_ ?_ ?_ w fun y2 h w=>?_)
  ·show t0.ks.map (·.2)=_;rw[f.k0.2.2.2.2];rfl
  ·show t1.ks.map (·.2)=_;rw[f.k1.2.2.2.2];rfl
  ·show t2.ks.map (·.2)=_;rw[f.k2.2.2.2.2];rfl
  ·exact K (y2+(rP+(pts b13 (.cells ⟨[nsv]⟩ 40 (0,0))+(pts b14 (.cells ⟨[nsv']⟩ 40 (0,0))+y)))) h (w.cast (by ac_rfl))
end
structure QG (x:Res) (f:FA) (xv:Vz) (xcs:List Vz):Prop where
 d:RdV 2 xv f.xs.length xcs x
 a:AtV x xcs f.xs
 ok:f.OK
 tm:∀ t∈f.tms,t.2.1<9223372036854775808
 n:f.xs.length<=2000000
def QG.bf {f:FA}{xv:Vz}{xcs:List Vz}(F:QG x f xv xcs):QG (y+x) f xv xcs:=⟨F.d.bf,F.a.mono,F.ok,F.tm,F.n⟩
def PI {f:FA}{xv:Vz}(z:f.size=0):(Op1.create [102] f.fl f.xs).cells xv Cp=opC f xv:=by
 unfold opC FA.cells;rw[z];rfl
section
variable {inl:Bool} {f1 f2:FA} {b4 b5:Nat} {xv1 xv2 ov1 ov2 iv1 iv2:Vz} {xcs1 xcs2:List Vz} {v1 v2:VS} {os1 os2:List AA} {cs1 cs2:List Vz} {z1 z2:Res}
def AS3 (F1:QG x f1 xv1 xcs1)(F2:QG x f2 xv2 xcs2)(T1:f1.Fit)(l:f2.Fit)[F4:Be b4 x (.cells ⟨f1.cells xv1⟩ 28 (0,0))][F5:Be b5 x (.cells ⟨f2.cells xv2⟩ 28 (0,0))]
  (d1:VecX 81 23 v1.iv os1.length cs1 z1) (o1:OutV z1 cs1 os1) (k1:v1.OK (z1+x)) (p1:Iy [Iv f2 [] (Mm f1 f2)] os1 v1.eh) (n1:∀ o∈os1,1<=o.X.num/\o.X.num<=v1.eh/\o.X.en<65536)
  (d2:VecX 81 23 v2.iv os2.length cs2 z2) (o2:OutV z2 cs2 os2) (k2:v2.OK (z2+(v1.res+(z1+x)))) (p2:Iy [Iv f2 f2.xs (srtA f2.xs)] os2 v2.eh) (n2:∀ o∈os2,1<=o.X.num/\o.X.num<=v2.eh/\o.X.en<65536)
  (w:AN (v2.res+(z2+(v1.res+(z1+x)))) h) (K:∀ y h,AN (y+x) h->Q  AI  h):AMw Q (Pt b4) (Pt b5) (Pt v1.vb) (Pt v2.vb) h:=by
 obtain⟨⟨au,aw,d⟩,_⟩:=F1.d.len;have g1:=Fit.parts T1;have g2:=Fit.parts l;unfold AMw AW;have w:=w.cast (show _=v1.res+((v2.res+z2)+(z1+x)) by ac_rfl);refine zk (AP0 (Ni l _) (by simp) p1 k1.mono d1.an.bf o1.an.mono n1 w fun nsv ns ts ix r y h TX a tv v w=>?_);have w:=w.cast (show _=v2.res+((r+y)+(z2+(v1.res+(z1+x)))) by ac_rfl);refine zk (AP0 (Ni l _) (by simp) p2 k2.mono d2.an.bf o2.an.mono n2 w fun nsv' ns' ar ai r' e h n a' ah g w=>?_);obtain⟨t0,t1,t2,rfl,m⟩:=AEg TX;obtain⟨t0',t1',t2',rfl,TO⟩:=AEg n;obtain⟨⟨na,nc,s⟩,_⟩:=a.len;obtain⟨⟨aj,ao,f⟩,_⟩:=a'.len;refine AV w Mh rfl fun b13 h w=>?_;refine AV w Mh rfl fun b14 h w=>?_;refine AD w ⟨[nsv]⟩ (AU (by rfl)) rfl (by simp) (by rw[s];rfl) fun h w=>?_;refine AD w ⟨[nsv']⟩ (AU (by rfl)) rfl (by simp) (by rw[f];rfl) fun h w=>?_;refine BD (b:=b13) w rfl ?_;refine Hb w HD rfl rfl rfl fun c h w=>?_;have ae:RdV 1 (.slice (some ⟨c,0,none⟩) 1 1) ([[102]]:List Bs).length (strs [[102]]) (pts c (.cells ⟨[.string ⟨#[102]⟩]⟩ 9 (0,0))):=(Vec.own' (I0 1) rfl rfl:Vec 9 1 (.slice (some ⟨c,0,none⟩) 1 1) 1 (strs [[102]]) (pts c (.cells ⟨[.string ⟨#[102]⟩]⟩ 9 (0,0)))).rdv;have q:kindB t0.X.en=16384:=by
  have h1:t0.X.en=CC 16877:=by
   have:=J3 Prod.fst m.k0.1;rw[MQ] at this;exact this
  rw[h1];decide
 have p:FindP [t0,t1,t2] 0 [[102]] 2:=.cons (t:=t0) rfl (by rw[m.k0.2.2.2.2];decide) q .nil;have eW:e+(v2.res+((r+y)+(z2+(v1.res+(z1+x)))))=(e+r)+(y+(v1.res+((v2.res+z2)+(z1+x)))):=by ac_rfl
 have i:TreeV (e+(v2.res+((r+y)+(z2+(v1.res+(z1+x)))))) ns [t0,t1,t2]:=by rw[eW];exact tv.mono
 have dX:RdV 18 nsv 3 ns (e+(v2.res+((r+y)+(z2+(v1.res+(z1+x)))))):=a.rdv.an.an.bf.bf;refine SG (s15 (ts:=[t0,t1,t2]) dX.bf.bf.bf.bf i.mono.mono.mono.mono v ae.an (by decide) p w fun j h w=>?_);rw[BF,BO,CI,P3,AJ,AG];refine Af w (u:=xv1) rfl ?_;rw[d,As,<-d];have G1:QG (j+(pts c (.cells ⟨[.string ⟨#[102]⟩]⟩ 9 (0,0))+(e+(v2.res+((r+y)+(z2+(v1.res+(z1+x)))))))) f1 xv1 xcs1:=F1.bf.bf.bf.bf.bf.bf.bf.bf;have G2:QG (j+(pts c (.cells ⟨[.string ⟨#[102]⟩]⟩ 9 (0,0))+(e+(v2.res+((r+y)+(z2+(v1.res+(z1+x)))))))) f2 xv2 xcs2:=F2.bf.bf.bf.bf.bf.bf.bf.bf;refine AS6 (x:=j+(pts c (.cells ⟨[.string ⟨#[102]⟩]⟩ 9 (0,0))+(e+(v2.res+((r+y)+(z2+(v1.res+(z1+x)))))))) (y:=0) (xv2:=xv2) G1.d G1.a G2.d G2.a g1.2.2.2.2.2.1 g2.2.2.2.2.2.1 dX.bf.bf i.mono.mono m TO (RH (Nl _ _)) (RH (Es _)) g2.2.2.2.2.1 (fun t ht=>(g t ht).1) a' (ah.mono.mono.mono) (w.cast ?_) fun y5 h w=>K (y5+(j+(pts c (.cells ⟨[.string ⟨#[102]⟩]⟩ 9 (0,0))+(e+(v2.res+((r+y)+(z2+(v1.res+z1)))))))) h (w.cast (by ac_rfl));rw[Res.zero_add];ac_rfl
def AS4 (t:QG x f1 xv1 xcs1)(v:QG x f2 xv2 xcs2)(e1:f1.size=0)(e2:f2.size=0)(T1:f1.Fit)(e:f2.Fit)(c1:C1 inl f1)(c2:C1 inl f2)(A:AnF inl f1.node f2.node)(g:HU x)[F4:Be b4 x (.cells ⟨f1.cells xv1⟩ 28 (0,0))][F5:Be b5 x (.cells ⟨f2.cells xv2⟩ 28 (0,0))]
  (d1:RdV 24 ov1 2 (opC f1 xv1++opC f2 xv2) x) (d2:RdV 24 ov2 1 (opC f2 xv2) x) (w:AN x h) (K:∀ y h,AN (y+x) h->Q  AI  h):AMx Q (.bool inl) (Pt b4) (Pt b5) ov1 ov2 h:=by
 have q1:KP [((.create [102] f1.fl f1.xs,(xv1,Cp)):TW),(.create [102] f2.fl f2.xs,(xv2,Cp))]=opC f1 xv1++opC f2 xv2:=by
  show (Op1.create [102] f1.fl f1.xs).cells xv1 Cp++((Op1.create [102] f2.fl f2.xs).cells xv2 Cp++[])=_;rw[PI e1,PI e2,X0]
 have q2:KP [((.create [102] f2.fl f2.xs,(xv2,Cp)):TW)]=opC f2 xv2:=by
  show (Op1.create [102] f2.fl f2.xs).cells xv2 Cp++[]=_;rw[PI e2,X0]
 have R1:ZP x (.create [102] f1.fl f1.xs,(xv1,Cp)):=⟨.inl ⟨none,0,rfl,rfl⟩,xcs1,t.d,t.a⟩;have R2:ZP x (.create [102] f2.fl f2.xs,(xv2,Cp)):=⟨.inl ⟨none,0,rfl,rfl⟩,xcs2,v.d,v.a⟩;have L:∀ {f:FA},f.Fit->OpL (.create [102] f.fl f.xs):=fun {f} F=>⟨by show 0<=_;omega,by have:=(Fit.parts F).2.2.2.2.2.1;show f.xs.length<=400;omega,fun a ha=>by have:=(F.ok.xs a ha).2;omega⟩;unfold AMx AW;refine yg (s13 (inl:=inl) (P:=Iy [Iv f2 [] (Mm f1 f2)]) (l:=[((.create [102] f1.fl f1.xs,(xv1,Cp)):TW),(.create [102] f2.fl f2.xs,(xv2,Cp))]) (by rw[q1];exact d1) (by simp) (fun o c=>?_) (fun o c=>?_) (fun db=>AHh T1 e c1 c2 A db) g w fun v1 os1 cs1 z1 h i p k1 P1 n1 l1 w=>?_)
 ·rcases I1.1 c with rfl|c
  ·exact R1
  ·rw[H4] at c;subst c;exact R2
 ·rcases I1.1 c with rfl|c
  ·exact L T1
  ·rw[H4] at c;subst c;exact L e
 rw[BF,BO];refine yg (s13 (inl:=inl) (P:=Iy [Iv f2 f2.xs (srtA f2.xs)]) (l:=[((.create [102] f2.fl f2.xs,(xv2,Cp)):TW)]) (by rw[q2];exact d2.bf.bf) (by simp) (fun o c=>?_) (fun o c=>?_) (fun db=>AG1 e c2 A.2.2.2.1 db) g.bf.bf w fun v2 os2 cs2 z2 h j q k2 P2 n2 l2 w=>?_)
 ·rw[H4] at c;subst c;exact R2.bf.bf
 ·rw[H4] at c;subst c;exact L e
 rw[BF,BO,CI,P3,Bt,CI,P3,Bt];have nf:∀ (b o:Nat) (k:Vz->Prop),(BS (Pt b) fun s=>Aw o s k)=k (.pointer (some ⟨b,o,none⟩)):=fun b o k=>by simp only[go_sem]
 have d:∀ {its:List It} {os:List AA} {eh:Nat},Iy its os eh->its.length=1->os.length=3:=fun P h1=>by
  obtain⟨io,R,ae,hp,_⟩:=P;rw[ae,Z0,hp.length_eq];unfold VV;simp[h1]
 obtain⟨⟨ah,aj,m⟩,_⟩:=i.len;obtain⟨⟨ai,ao,n⟩,_⟩:=j.len;rw[d P1 rfl] at m;rw[d P2 rfl] at n;rw[nf];refine Af (b:=v1.vb) (u:=v1.iv) w VS.g0 ?_;rw[m,As,nf];refine Af (b:=v2.vb) (u:=v2.iv) w VS.g0 ?_;rw[n,As,Fl,AJ];exact AS3 t v T1 e i p k1 P1 n1 j q k2 P2 n2 w K
end
section
variable {inl:Bool} {f1 f2:FA} {b4 b5:Nat} {xv1 xv2:Vz} {xcs1 xcs2:List Vz}
def AS5 (F1:QG x f1 xv1 xcs1)(F2:QG x f2 xv2 xcs2)(e1:f1.size=0)(e2:f2.size=0)(g:HU x)[F4:Be b4 x (.cells ⟨f1.cells xv1⟩ 28 (0,0))][F5:Be b5 x (.cells ⟨f2.cells xv2⟩ 28 (0,0))]
  (w:AN x h) (K:∀ y h,AN (y+x) h->Q AI  h):AMy Q (.bool inl) (Pt b4) (Pt b5) h:=by
 unfold AMy AW;refine BD (b:=b4) w rfl ?_;refine BA If rfl (rs:=opC f1 xv1) (by kernel_rfl) ?_;refine BD (b:=b5) w rfl ?_;refine BA If rfl (rs:=opC f2 xv2) (by kernel_rfl) ?_;refine WN w If (by omega) (by omega) rfl rfl fun ov1 r h d1 w=>?_;refine BD (b:=b5) w rfl ?_;refine BA If rfl (rs:=opC f2 xv2) (by kernel_rfl) ?_;refine EJ w If (by omega) (by omega) rfl fun bs h w=>?_;have d2:RdV 24 (.slice (some ⟨bs,0,none⟩) 1 1) 1 (opC f2 xv2) (pts bs (.cells ⟨opC f2 xv2⟩ 32 (0,0))):=(Vec.own' (I0 1) rfl rfl:Vec 32 24 (.slice (some ⟨bs,0,none⟩) 1 1) 1 (opC f2 xv2) (pts bs (.cells ⟨opC f2 xv2⟩ 32 (0,0)))).rdv;have t:RdV 24 ov1 2 (opC f1 xv1++opC f2 xv2) (pts bs (.cells ⟨opC f2 xv2⟩ 32 (0,0))+(r+x)):=d1.an.bf;have u:RdV 24 (.slice (some ⟨bs,0,none⟩) 1 1) 1 (opC f2 xv2) (pts bs (.cells ⟨opC f2 xv2⟩ 32 (0,0))+(r+x)):=d2.an;have v:QG (pts bs (.cells ⟨opC f2 xv2⟩ 32 (0,0))+(r+x)) f1 xv1 xcs1:=F1.bf.bf;have q:QG (pts bs (.cells ⟨opC f2 xv2⟩ 32 (0,0))+(r+x)) f2 xv2 xcs2:=F2.bf.bf;have R2:∀ {z:Res},QG z f1 xv1 xcs1->QG z f2 xv2 xcs2->∀ i f,[f1,f2][i]? = some f->∃ xv xcs,mr z (opC f1 xv1++opC f2 xv2) i f xv xcs:=fun H1 n i f d=>by
  match i,d with
  | 0,d=>
   obtain rfl:=V0 d;exact⟨xv1,xcs1,rfl,H1.d,H1.a,H1.ok,e1⟩
  | 1,d=>
   obtain rfl:=V0 d;exact⟨xv2,xcs2,rfl,n.d,n.a,n.ok,e2⟩
 have R1:∀ {z:Res},QG z f2 xv2 xcs2->∀ i f,[f2][i]? = some f->∃ xv xcs,mr z (opC f2 xv2) i f xv xcs:=fun n i f d=>by
  match i,d with
  | 0,d=>
   obtain rfl:=V0 d;exact⟨xv2,xcs2,rfl,n.d,n.a,n.ok,e2⟩
 generalize Value.slice (some ⟨bs,0,none⟩) 1 1=ov2 at u ⊢;have yes:∀ y h,AN (y+(pts bs (.cells ⟨opC f2 xv2⟩ 32 (0,0))+(r+x))) h->Q  AI  h:=fun y h w=>K (y+(pts bs (.cells ⟨opC f2 xv2⟩ 32 (0,0))+r)) h (w.cast (by ac_rfl));have gX:HU (pts bs (.cells ⟨opC f2 xv2⟩ 32 (0,0))+(r+x)):=g.bf.bf;refine we (s11 (fs:=[f1,f2]) (f1:=f1) rfl (by simp) t (R2 v q) w fun b y1 h hb w=>?_);cases b with
 | false=>rw[CI,T5,Hi];exact yes _ h w
 | true=>
  obtain⟨l,o⟩:=hb rfl;rw[CI,P3,Bt];refine we (s11 (fs:=[f2]) (f1:=f2) rfl (by simp) u.bf (R1 q.bf) w fun b y2 h _ w=>?_);have w:=w.cast (Res.assoc _ _ _).symm;cases b with
  | false=>rw[CI,T5,Hi];exact yes _ h w
  | true=>
   rw[CI,P3,Bt];refine yb (s12 (fs:=[f1,f2]) (f1:=f1) rfl (by simp) t.bf (R2 v.bf q.bf) w fun tv tcs m rt cut nv spk s h ae a W w=>?_);obtain⟨hm,p⟩:=W.told l;have fv:∀ k:Vz->Prop,k tv->Ng false 0 1 (.agg ⟨CS tv cut nv spk⟩) k:=fun k hk=>⟨_,tv,rfl,rfl,hk⟩;refine fv _ ?_;have c:∀ b:Bool,tcs.take 22=tld b->tcs[0*22+0]? = some (AB (if b=true then 0 else 13)):=fun b hb=>by
    have e:(tcs.take 22)[0]? = (tld b)[0]?:=by rw[hb]
    rw[I2,D0 (by omega)] at e;exact e
   have W3:=w.cast (show _=(s+(rt+(y2+y1)))+(pts bs (.cells ⟨opC f2 xv2⟩ 32 (0,0))+(r+x)) by ac_rfl);rcases p with⟨hc,p⟩|⟨hc,p⟩
   ·refine (a.rdv.an.bf:RdV 22 tv m tcs (s+(rt+_))).cell (i:=0) (j:=0) w hm (by omega) (c true p) ?_;rw[D0 rfl,Fl,AJ];have T:∀ f∈[f1,f2],∀ {xv:Vz} {xcs:List Vz},QG x f xv xcs->f.Fit:=fun f d {xv} {xcs} F=>⟨F.ok,F.tm,l f d⟩;obtain⟨c2,A⟩:=o f2 rfl hc;exact AS4 (v.bf) (q.bf) e1 e2 (T f1 (by simp) F1) (T f2 (by simp) F2) hc c2 A gX.bf t.bf u.bf W3 fun y h w=>yes (y+(s+(rt+(y2+y1)))) h (w.cast (by ac_rfl))
   ·refine (a.rdv.an.bf:RdV 22 tv m tcs (s+(rt+_))).cell (i:=0) (j:=0) w hm (by omega) (c false p) ?_;have g13:∀ k:Vz->Prop,AQ .neq (AB 13) AF  k=k  AI :=fun k=>by rw[Ay];rfl
    rw[F0 (by decide),g13,Ab];exact yes _ h W3
def s3 (a:QG x f1 xv1 xcs1)(c:QG x f2 xv2 xcs2)(g:HU x)(w:AN x h)(K:∀ y h,AN (y+x) h->Q  AI  h):f3 (.bool inl) (.agg ⟨f1.cells xv1⟩) (.agg ⟨f2.cells xv2⟩) h Q:=by
 unfold f3 AW;refine BG w fun b4 h w=>?_;have w:AN (pts b4 (.cells ⟨f1.cells xv1⟩ 28 (0,0))+x) h:=w;refine BG w fun b5 h w=>?_;have w:AN (pts b5 (.cells ⟨f2.cells xv2⟩ 28 (0,0))+(pts b4 (.cells ⟨f1.cells xv1⟩ 28 (0,0))+x)) h:=w;refine BD (b:=b4) w rfl ?_;refine uv (s10 a.d.bf.bf a.a.mono.mono a.n a.ok w fun d h w=>?_);rw[CI,P3,Bt];refine BD (b:=b5) w rfl ?_;refine uv (s10 c.d.bf.bf.bf c.a.mono.mono.mono c.n c.ok w fun e h w=>?_);rw[CI,P3,AJ];have yes:∀ y h,AN (y+(e+(d+(pts b5 (.cells ⟨f2.cells xv2⟩ 28 (0,0))+(pts b4 (.cells ⟨f1.cells xv1⟩ 28 (0,0))+x))))) h->Q  AI  h:=fun y h w=>K (y+(e+(d+(pts b5 (.cells ⟨f2.cells xv2⟩ 28 (0,0))+pts b4 (.cells ⟨f1.cells xv1⟩ 28 (0,0)))))) h (w.cast (by ac_rfl));unfold APC AW;rw[AG];refine Af w (u:=AB f1.size) rfl ?_;rw[Ay];by_cases e1:f1.size=0
 ·rw[J0 (fun h=>h e1),Bt,AG];refine Af w (u:=AB f2.size) rfl ?_;rw[Ay];refine AS (fun _=>yes 0 h (by rw[Res.zero_add];exact w)) (fun e2=>?_);exact AS5 a.bf.bf.bf.bf c.bf.bf.bf.bf e1 (Decidable.byContradiction e2) g.bf.bf.bf.bf w yes
 ·rw[H0 e1,Hi];exact yes 0 h (by rw[Res.zero_add];exact w)
end
end
open Go Go.ChangeShapes Go.WideShapes Go.RowKit
def AR0:ownKnob Tryz.prog.godebug=none:=by kernel_rfl
def Sc:laidOutB Tryz.prog=true:=by kernel_rfl
section
variable {K:Type} {enc:Tj×Vz->K} {w:World} {base:Nat} {sp:Nat->Bool} {held:Bool} {fuel:Nat} {t e:Tj} {v:Vz} {d:DataW K} {p:List MemPlace}
def qg {sz:Nat}(ht:TP.underlying t=some (.slice e))(he:TP.cellsOf e=sz)(au:0<sz)(h:DataW.trod enc TP w base sp held fuel t [v]=some (d,p)) :
  ∃ (vs:List Vz) (ds:List (DataW K)),RdV sz v ds.length vs (allR w.heap)/\(∀ (i:Nat) (di:DataW K),ds[i]? = some di->∃ n q,DataW.trod enc TP w base sp held n e ((vs.drop (i*sz)).take sz)=some (di,q))/\Rows.uptoBulkAll ds<=Rows.uptoBulk d:=by
 rcases DataW.trod_slice ht h with⟨h1,h2⟩|⟨a,len,cap,elems,rest,n,_,h1,h2,_,ar,_,aj,ao,_⟩
 ·simp only[List.cons.injEq,and_true] at h1;exact⟨[],[],.inl ⟨none,0,h1,rfl,rfl⟩,fun i u f=>by simp at f,by show 0<=_;omega⟩
 ·simp only[List.cons.injEq,and_true] at h1;simp only[D7] at h2;obtain⟨h2,_⟩:=h2;have hb:Rows.uptoBulkAll (elems.map (·.1))<=Rows.uptoBulk d:=by
   rw[h2];simp only[Rows.uptoBulk];omega
  have g:∀ i,i<len->∃ c1 y,elems[i]? = some y/\DataW.trod enc TP w base sp held n e c1=some y/\c1.length=sz/\∀ j,j<sz->w.cell? ((a.add (i*sz)).add j)=c1[j]?:=fun i hi=>by
   have hE:=ao i hi;rw[he] at hE;obtain⟨y,hy⟩:∃ y,elems[i]? = some y:=⟨_,B0 (by omega)⟩;rw[hy] at hE;simp only[Option.bind_eq_some_iff] at hE;obtain⟨c1,s,ay⟩:=hE;obtain⟨_,g1,g2⟩:=World.cells?_some s;exact⟨c1,y,hy,ay,g1,g2⟩
  by_cases h0:len=0
  ·subst h0;exact⟨[],[],.inl ⟨some a,cap,h1,rfl,rfl⟩,fun i u f=>by simp at f,by show 0<=_;omega⟩
  ·obtain⟨b,o,ae⟩:=a;have ai:ae=none/\∃ c T fz,w.heap[b]? = some (.cells c T fz):=by
    obtain⟨c1,y,_,_,g1,g2⟩:=g 0 (by omega);have f:=g2 0 au;have e0:((⟨b,o,ae⟩:Addr).add (0*sz)).add 0=⟨b,o,ae⟩:=by simp[Addr.add]
    rw[e0,B0 (by omega)] at f;unfold World.cell? at f;split at f
    ·rename_i c T fz hb;split at f
     ·cases f
     ·rename_i hs;exact⟨by simpa using hs,c,T,fz,hb⟩
    ·cases f
   obtain⟨rfl,c,T,fz,ah⟩:=ai;have m:∀ i,i<len->∃ c1 y,elems[i]? = some y/\DataW.trod enc TP w base sp held n e c1=some y/\c1.length=sz/\∀ j,j<sz->c[o+i*sz+j]? = c1[j]?:=fun i hi=>by
    obtain⟨c1,y,g0,g1,g2,g3⟩:=g i hi;refine⟨c1,y,g0,g1,g2,fun j hj=>?_⟩;have f:=g3 j hj;rw[Cb,Cb] at f;unfold World.cell? at f;simp only[ah,Z5,K3,if_false] at f;exact f
   have aw:o+len*sz<=c.toList.length:=by
    obtain⟨c1,y,_,_,g2,g3⟩:=m (len-1) (by omega);have f:=g3 (sz-1) (by omega);rw[B0 (by omega)] at f;have:=(S3.1 f).1;have e1:(len-1)*sz+sz=len*sz:=by
     have h:(len-1+1)*sz=len*sz:=by rw[Nat.sub_add_cancel (by omega)]
     rw[V5,P6] at h;exact h
    rw[C7];omega
   obtain⟨y,hy⟩:=WE ah;have l:(elems.map (·.1)).length=len:=by rw[Z0,aj]
   refine⟨(c.toList.drop o).take (len*sz),elems.map (·.1),.inr ⟨b,o,cap,c.toList,T,fz,y,by rw[l];exact h1,by rw[hy],by rw[l];exact aw,by rw[l],by rw[l];exact ar⟩,fun i di f=>?_,hb⟩;have hi:i<len:=by have:=(G0.1 f).1;omega
   obtain⟨c1,y',h3,h4,h5,h6⟩:=m i hi;rw[Y0,h3] at f;simp only[N5,M2] at f;refine⟨n,y'.2,?_⟩;have s:(((c.toList.drop o).take (len*sz)).drop (i*sz)).take sz=c1:=by
    have e1:(i+1)*sz<=len*sz:=H3 sz hi;rw[V5,P6] at e1;apply O4;intro j;by_cases hj:j<sz
    ·rw[I2,D0 hj,Q3,I2,D0 (by omega),Q3,<-h6 j hj,<-H8,Q7]
    ·rw[I2,F0 hj,D3 (by omega)]
   rw[s,h4,<-f]
noncomputable def QZ (t:Tj):List (Tj×Nat×Nat):=match TP.underlying t with|some (.struct fs)=>fs.toList.map (fun f=>(f.type,f.offset,TP.cellsOf f.type))|_=>[]
def Ja {L:List (Tj×Nat×Nat)}{cs:List Vz}(b:QZ t=L)(s:L≠[])(h:DataW.trod enc TP w base sp held fuel t cs=some (d,p)) :
  cs.length=TP.cellsOf t/\∀ (i:Nat) q,L[i]? = some q->∃ y n,DataW.trod enc TP w base sp held n q.1 ((cs.drop q.2.1).take q.2.2)=some y/\Rows.uptoBulk y.1<=Rows.uptoBulk d:=by
 unfold QZ at b;split at b
 ·rename_i fs hu;obtain⟨xs,n,_,m,hl,g,v⟩:=DataW.trod_struct hu h;refine⟨hl,fun i q j=>?_⟩;rw[<-b,Y0] at j;obtain⟨f,a,c⟩:=K4.1 j;have e:=(G0.1 a).1;rw[Q7] at a;have hh:=v i f a;rw[C7] at e;obtain⟨y,o⟩:∃ y,xs[i]? = some y:=⟨_,B0 (by omega)⟩;have u:=hh.trans o;rw[<-c];dsimp only;refine⟨y,n,u,?_⟩;simp only[D7] at m;have:=Jj (d:=y.1) (l:=xs.map (·.1)) (V1.2 ⟨y,D1 o,rfl⟩);rw[m.1];simp only[Rows.uptoBulk];omega
 ·exact absurd b.symm s
def ARX:TP.underlying 9=some .string:=by kernel_rfl
def ARV:TP.underlying 2=some (.int .i64):=by kernel_rfl
def ATN:TP.underlying 3=some (.int .i64):=by kernel_rfl
def ATK:TP.underlying 22=some (.int .u16):=by kernel_rfl
def AHi:TP.underlying 23=some (.int .u32):=by kernel_rfl
def ATL:TP.underlying 26=some (.slice 56):=by kernel_rfl
def ARg:TP.cellsOf 25=3:=by kernel_rfl
def ARh:TP.cellsOf 28=20:=by kernel_rfl
def AOs:TP.cellsOf 56=2:=by kernel_rfl
def ARs:QZ 25=[(4,0,1),(2,1,1),(3,2,1)]:=by kernel_rfl
def ARt:QZ 56=[(9,0,1),(30,1,1)]:=by kernel_rfl
def APP:QZ 28=[(9,0,1),(2,1,1),(22,2,1),(23,3,1),(23,4,1),(25,5,3),(25,8,3),(25,11,3),(25,14,3),(23,17,1),(23,18,1),(26,19,1)]:=by kernel_rfl
def Jb {k:Iq}{m:Nat}(c:TP.underlying t=some (.int k))(b:k.min=0)(a:k.max<(m:Int))(h:DataW.trod enc TP w base sp held fuel t [v]=some (d,p)):∃ n:Nat,v=.int k (n:Int)/\n<m:=by
 obtain⟨n,e,_,f⟩:=DataW.trod_int c h;simp only[Lit.wf,W2,W4] at f;refine⟨n.toNat,?_,by omega⟩;have:((n.toNat:Nat):Int)=n:=by omega
 rw[this];simpa using e
def Pl (a:TP.underlying t=some (.int .i64))(h:DataW.trod enc TP w base sp held fuel t [v]=some (d,p)):∃ n:Int,v=AB n/\n<9223372036854775808:=by
 obtain⟨n,e,_,b⟩:=DataW.trod_int a h;simp only[Lit.wf,W2,W4] at b;have c:IntKind.i64.max=9223372036854775807:=by decide
 exact⟨n,by simpa using e,by omega⟩
def lg (a:TP.underlying t=some .string)(h:DataW.trod enc TP w base sp held fuel t [v]=some (d,p)):∃ l:Bs,v=str l/\l.length<=Rows.uptoBulk d:=by
 obtain⟨s,e,x,_⟩:=DataW.trod_string a h;simp only[D7] at x;refine⟨s.data.toList,by simpa using e,?_⟩;rw[x.1];simp only[Rows.uptoBulk];omega
def KD {cs:List Vz}(h:DataW.trod enc TP w base sp held fuel 25 cs=some (d,p)):∃ q:Tm3,cs=IF q/\q.2.1<9223372036854775808:=by
 obtain⟨c,a⟩:=Ja ARs (by simp) h;rw[ARg] at c
 match cs,c with
 | [u0,u1,u2],_=>
  obtain⟨j,n0,t0,_⟩:=a 0 _ rfl;obtain⟨e,n1,t1,_⟩:=a 1 _ rfl;obtain⟨f,n2,t2,_⟩:=a 2 _ rfl;obtain⟨b,e0,_⟩:=DataW.trod_bool ty4 t0;obtain⟨s,e1,i⟩:=Pl (d:=e.1) (p:=e.2) (v:=u1) ARV t1;obtain⟨m,e2,_⟩:=Pl (d:=f.1) (p:=f.2) (v:=u2) ATN t2;have g:u0=.bool b:=by simpa using e0
  exact⟨(b,s,m),by rw[g,e1,e2],i⟩
def AHg {cs:List Vz}(h:DataW.trod enc TP w base sp held fuel 56 cs=some (d,p)):∃ (a:Bs×Bs) (u:Vz),cs=[str a.1,u]/\RdX (allR w.heap) u a.2/\a.1.length<=Rows.uptoBulk d/\a.2.length<=Rows.uptoBulk d:=by
 obtain⟨c,b⟩:=Ja ARt (by simp) h;rw[AOs] at c
 match cs,c with
 | [u0,u1],_=>
  obtain⟨e,n0,t0,g⟩:=b 0 _ rfl;obtain⟨f,n1,t1,b1⟩:=b 1 _ rfl;obtain⟨l,e0,i⟩:=lg (d:=e.1) (p:=e.2) (v:=u0) ARX t0;obtain⟨bs,r,j⟩:=ZG (d:=f.1) (p:=f.2) (v:=u1) ATM ty5 ce5 t1;exact⟨(l,bs),u1,by rw[e0],r,C6 i g,C6 j b1⟩
theorem rz {x:Res}:∀ (l:AL) (vs:List Vz),vs.length=l.length*2->(∀ (i:Nat) a,l[i]? = some a->∃ u,(vs.drop (i*2)).take 2=[str a.1,u]/\RdX x u a.2)->AtV x vs l
 | [],[],_,_=>.nil
 | [],_::_,hl,_=>by simp at hl
 | _::_,[],hl,_=>by simp at hl
 | _::_,[_],hl,_=>by simp at hl;omega
 | a::l,v0::v1::vs,hl,h=>by
  obtain⟨u,e,d⟩:=h 0 a rfl;have e0:v0=str a.1:=(List.cons.inj e).1;have e1:v1=u:=(List.cons.inj (List.cons.inj e).2).1;rw[e0,e1];refine .cons d (rz l vs (by simp at hl;omega) fun i b f=>?_);obtain⟨u2,e2,c⟩:=h (i+1) b f;refine⟨u2,?_,c⟩;rw[show (i+1)*2=i*2+2 by omega] at e2;exact e2
def AEh (h:DataW.trod enc TP w base sp held fuel 26 [v]=some (d,p)):∃ (l:AL) (vs:List Vz),RdV 2 v l.length vs (allR w.heap)/\AtV (allR w.heap) vs l/\l.length<=Rows.uptoBulk d/\∀ a∈l,a.1.length<=Rows.uptoBulk d/\a.2.length<=Rows.uptoBulk d:=by
 obtain⟨vs,c,r,s,hb⟩:=qg ATL AOs (by omega) h;obtain⟨l,f,e⟩:=jo (P:=fun i (a:Bs×Bs)=>(∃ u,(vs.drop (i*2)).take 2=[str a.1,u]/\RdX (allR w.heap) u a.2)/\a.1.length<=Rows.uptoBulk d/\a.2.length<=Rows.uptoBulk d) c.length fun i hi=>by
  obtain⟨n,q,g⟩:=s i _ (B0 hi);obtain⟨a,u,j,m,t,h8⟩:=AHg g;have:=Jj (I7 hi);exact⟨a,⟨u,j,m⟩,by omega,by omega⟩
 have o:=Tx c;rw[<-f] at r;refine⟨l,vs,r,rz l vs r.len.2 fun i a b=>(e i a b).1,by omega,fun a b=>?_⟩;obtain⟨i,hi,rfl⟩:=L6 b;exact (e i _ (B0 hi)).2
def RM {cs:List Vz}(hd:Rows.uptoBulk d<=1048576)(h:DataW.trod enc TP w base sp held fuel 28 cs=some (d,p)):∃ (f:FA) (xv:Vz) (xcs:List Vz),cs=f.cells xv/\QG (allR w.heap) f xv xcs:=by
 obtain⟨hl,c⟩:=Ja APP (by simp) h;rw[ARh] at hl
 match cs,hl with
 | [u0,u1,u2,u3,u4,u5,u6,u7,u8,u9,u10,u11,u12,u13,u14,u15,u16,u17,u18,u19],_=>
  obtain⟨y0,n0,t0,b0⟩:=c 0 _ rfl;obtain⟨y1,n1,t1,_⟩:=c 1 _ rfl;obtain⟨y2,n2,t2,_⟩:=c 2 _ rfl;obtain⟨y3,n3,t3,_⟩:=c 3 _ rfl;obtain⟨y4,n4,t4,_⟩:=c 4 _ rfl;obtain⟨y5,n5,t5,_⟩:=c 5 _ rfl;obtain⟨y6,n6,t6,_⟩:=c 6 _ rfl;obtain⟨y7,n7,t7,_⟩:=c 7 _ rfl;obtain⟨y8,n8,t8,_⟩:=c 8 _ rfl;obtain⟨y9,n9,t9,_⟩:=c 9 _ rfl;obtain⟨g,ai,s,_⟩:=c 10 _ rfl;obtain⟨i,aj,t,ae⟩:=c 11 _ rfl;have e:IntKind.u16.min=0/\IntKind.u16.max<((65536:Nat):Int):=by decide
  have b:IntKind.u32.min=0/\IntKind.u32.max<((4294967296:Nat):Int):=by decide
  obtain⟨lk,e0,l0⟩:=lg (d:=y0.1) (p:=y0.2) (v:=u0) ARX t0;obtain⟨sz,e1,_⟩:=Pl (d:=y1.1) (p:=y1.2) (v:=u1) ARV t1;obtain⟨md,e2,l2⟩:=Jb (d:=y2.1) (p:=y2.2) (v:=u2) ATK e.1 e.2 t2;obtain⟨ui,e3,l3⟩:=Jb (d:=y3.1) (p:=y3.2) (v:=u3) AHi b.1 b.2 t3;obtain⟨gi,e4,l4⟩:=Jb (d:=y4.1) (p:=y4.2) (v:=u4) AHi b.1 b.2 t4;obtain⟨q1,u,l5⟩:=KD (d:=y5.1) (p:=y5.2) (cs:=[u5,u6,u7]) t5;obtain⟨q2,e6,l6⟩:=KD (d:=y6.1) (p:=y6.2) (cs:=[u8,u9,u10]) t6;obtain⟨q3,e7,l7⟩:=KD (d:=y7.1) (p:=y7.2) (cs:=[u11,u12,u13]) t7;obtain⟨q4,e8,l8⟩:=KD (d:=y8.1) (p:=y8.2) (cs:=[u14,u15,u16]) t8;obtain⟨ma,e9,l9⟩:=Jb (d:=y9.1) (p:=y9.2) (v:=u17) AHi b.1 b.2 t9;obtain⟨mi,e10,n⟩:=Jb (d:=g.1) (p:=g.2) (v:=u18) AHi b.1 b.2 s;obtain⟨xs,vs,r,A,ah,o⟩:=AEh (d:=i.1) (p:=i.2) (v:=u19) t;simp only[IF,List.cons.injEq,and_true] at u e6 e7 e8;obtain⟨a1,a2,a3⟩:=u;obtain⟨a4,a5,a6⟩:=e6;obtain⟨a7,a8,a9⟩:=e7;obtain⟨j,l,m⟩:=e8;refine⟨⟨lk,sz,md,ui,gi,q1,q2,q3,q4,ma,mi,xs⟩,u19,vs,?_,r,A,⟨l2,l3,l4,l9,n,by show lk.length<=_;omega,fun a ha=>?_⟩,fun q hq=>?_,by show xs.length<=_;omega⟩
  ·rw[e0,e1,e2,e3,e4,a1,a2,a3,a4,a5,a6,a7,a8,a9,j,l,m,e9,e10];rfl
  ·obtain⟨c1,c2⟩:=o a ha;exact⟨by omega,by omega⟩
  ·simp only[FA.tms,I1,V7,or_false] at hq;rcases hq with rfl|rfl|rfl|rfl
   ·exact l5
   ·exact l6
   ·exact l7
   ·exact l8
end
open Go Go.ChangeShapes Go.WideShapes Go.RowKit
def Pu (K:Type)(enc:Tj×Vz->K)(W:World)(base:Nat)(args:Array Vz)(n gs:List (DataW K))(c:List MemPlace)
  (a:∀ (j:Nat) t v,Tryz.f3.params[j]? = some t->args[j]? = some v->Value.okWide Tryz.prog W .any base t v)
  (hW:DataW.Whole enc Tryz.prog Tryz.f3.params.toList Rows.fnImageAnewSpec.vars false W args.toList n gs c) (hk:Rows.uptoSmall K (n++gs)=true) (hL:laidMetH Tryz.prog Rows.fnImageAnewRow.laid W) :
  Calls Tryz.prog 3 args W fun e W'=>∃ v,e=.returned v/\Rows.fnImageAnewSpec.post enc Tryz.prog Tryz.f3 false true false false W args v W':=by
 have m:=hW;obtain⟨p,q,ae,hV,rfl,az,bh⟩:=hW;have hA:DataW.TrodAll enc Tryz.prog W 0 (fun _=>true) true Tryz.f3.params.toList args.toList n p:=ae;rw[Tryz.params3] at hA a;obtain⟨v0,bi,d0,au,p0,q0,ah,rfl,rfl,h0,r0⟩:=trodAll_cons hA;obtain⟨v1,bj,d1,aw,p1,q1,rfl,rfl,rfl,h1,r1⟩:=trodAll_cons r0;obtain⟨v2,bk,i,ay,p2,q2,rfl,rfl,rfl,h2,r2⟩:=trodAll_cons r1;obtain⟨rfl,rfl,rfl⟩:=trodAll_nil r2;obtain rfl:args=#[v0,v1,v2]:=by cases args;simp_all
 obtain⟨rfl,rfl⟩:=trodVars_none hV;have u:=h0;obtain⟨inl,rfl,rfl,rfl⟩:=open_bool ty4 (a 0 4 v0 rfl rfl) h0;have bg:Rows.uptoBulkAll ([.lit (.bool inl),d1,i]++[])<=1048576:=of_decide_eq_true hk;have ai:Rows.uptoBulk d1<=1048576:=by
  have:=Jj (d:=d1) (l:=[DataW.lit (.bool inl),d1,i]++[]) (by simp);omega
 have aj:Rows.uptoBulk i<=1048576:=by
  have:=Jj (d:=i) (l:=[DataW.lit (.bool inl),d1,i]++[]) (by simp);omega
 have st:∀ v,Value.okWide Tryz.prog W .any base 28 v->∃ cs:List Vz,v=.agg ⟨cs⟩:=fun v hv=>by
  have hs:∃ fs,TP.underlying 28=some (.struct fs):=by
   have:=APP;unfold QZ at this;split at this
   ·exact⟨_,by assumption⟩
   ·cases this
  obtain⟨fs,hu⟩:=hs;obtain⟨cs,h,_⟩:=okWide_struct hu hv;exact⟨cs.toList,h⟩
 obtain⟨c1,rfl⟩:=st v1 (a 1 28 v1 rfl rfl);obtain⟨c2,rfl⟩:=st v2 (a 2 28 v2 rfl rfl);obtain⟨o,ao⟩:=id h1;obtain⟨s,ar⟩:=id h2;obtain⟨f1,xv1,xcs1,rfl,F1⟩:=RM (cs:=c1) ai ao;obtain⟨f2,xv2,xcs2,rfl,F2⟩:=RM (cs:=c2) aj ar;have walk:=sx (f:=3) (args:=[.bool inl,.agg ⟨f1.cells xv1⟩,.agg ⟨f2.cells xv2⟩]) (W:=W) (APB (s3 F1 F2 (ANR hL) (AG4 W.heap) fun y h w=>⟨rfl,y,w⟩));refine walk.mono fun e W' ⟨he,w1,w2,w3⟩=>⟨_,he,?_⟩;have g:=m.lt;have same:=AHQ g w3;refine⟨_,_,_,[],_,[],m,trodAll_cons_mk (shut_bool ty4 _) trodAll_mk0,trodAll_cons_mk (WideElems.Trod_stays Sc (by kernel_rfl) (of_decide_eq_true (by kernel_rfl)) u (fun x b=>by cases b) (fun x b=>by cases b))
  (trodAll_cons_mk (WideElems.Trod_stays Sc (by kernel_rfl) (of_decide_eq_true (by kernel_rfl)) h1 (fun x b=>same x (by simp[b])) (fun x b=>by simpa using g x (by simp[b])))
  (trodAll_cons_mk (WideElems.Trod_stays Sc (by kernel_rfl) (of_decide_eq_true (by kernel_rfl)) h2 (fun x b=>same x (by simp[b])) (fun x b=>by simpa using g x (by simp[b]))) trodAll_mk0)),rfl,AGo w1 w2 w3,fun h=>by cases h⟩
noncomputable def MS (os:Os):World:=
 {World.holding Tryz.prog os ⟨#[],#[],[]⟩ with heap:=(World.holding Tryz.prog os ⟨#[],#[],[]⟩).heap.modify 4 fun
   | .cells _ t frozen=>.cells ⟨mu⟩ t frozen
   | o=>o}
def To:Vz:=.agg ⟨[str [],AB 0,Ex,Al,Al,.bool false,AB 0,AB 0,.bool false,AB 0,AB 0,.bool false,AB 0,AB 0,.bool false,AB 0,AB 0,Al,Al,.slice none 0 0]⟩
def tmD {K:Type}:DataW K:=.agg [.lit (.bool false),.lit (.int .i64 0),.lit (.int .i64 0)]
def AOu {K:Type}:DataW K:=.agg [.lit (.string []),.lit (.int .i64 0),.lit (.int .u16 0),.lit (.int .u32 0),.lit (.int .u32 0),tmD,tmD,tmD,tmD,.lit (.int .u32 0),.lit (.int .u32 0),.nil]
def m9 (os:Os):laidMet Tryz.prog Rows.fnImageAnewUptoRow.laid ((MS os).forCall (fun _ _=>0) ⟨#[],#[.bool false,To,To],[]⟩).memory:=
 laidMet_of_run' 8 (by kernel_rfl) (by kernel_rfl)
def WK (os:Os){K:Type}(enc:Tj×Vz->K):∃ places,DataW.whole enc Tryz.prog ((MS os).forCall (fun _ _=>0) ⟨#[],#[.bool false,To,To],[]⟩).memory Tryz.f3.params.toList Rows.fnImageAnewSpec.vars false #[Value.bool false,To,To].toList 8=some ([.lit (.bool false),AOu,AOu],[],places):=
 ⟨[],by kernel_rfl⟩
def Tl (os:Os)(a:os.Started)(K:Type)(enc:Tj×Vz->K)(F:Stop.Interp) :
  ReturnsInHanded {} Tryz.checked os 3 .any ((Rows.OpenSpec.upto Rows.fnImageAnewSpec).preRow enc Tryz.prog Tryz.f3 Rows.fnImageAnewUptoRow.domain false Rows.fnImageAnewUptoRow.laid) (((Rows.OpenSpec.upto Rows.fnImageAnewSpec).at F).post enc Tryz.prog Tryz.f3 false true false false):=by
 obtain⟨places,l⟩:=WK os enc;refine returnsInHanded_of_row (C:=Tryz.checked) (s:=Rows.OpenSpec.upto Rows.fnImageAnewSpec) AR0 a (by kernel_rfl) Tryz.func3
  (witness_row_at (enc:=enc) (C:=Tryz.checked) false (MS os) #[.bool false,To,To] rfl (by kernel_rfl) (by kernel_rfl) (by kernel_rfl)
   (OpenSpec.preRow_of_cond 8 l (by kernel_rfl) (fun k j=>by cases j;kernel_rfl) (by kernel_rfl) (m9 os))) ?_
 intro W base args e f b d i _ c _ g _ _;exact Pu K enc W base args e f b d i (c _ rfl) g
open Go Go.ChangeShapes Go.WideShapes Go.RowKit
def ALF {a b:Bool}(c:a=true)(d:b=true):(a&&b)=true:=by rw[c,d];rfl
def rh:(Rows.fnImageAnewUptoRow.inPlace == Tryz.prog.inPlace 3)=true:=by kernel_rfl
def rp:(Rows.fnImageAnewUptoRow.unfollowed == Tryz.prog.unfollowed 3)=true:=by kernel_rfl
def ru:(Rows.fnImageAnewUptoRow.recurses == Tryz.prog.recurses 3)=true:=by kernel_rfl
def ry:(Rows.fnImageAnewUptoRow.named == Tryz.prog.varsNamed 3)=true:=by kernel_rfl
open Go Go.ChangeShapes Go.WideShapes Go.RowKit
def Tk:joinedFacts Tryz.prog 3 Tryz.f3 (Rows.OpenSpec.upto Rows.fnImageAnewSpec).bare Rows.fnImageAnewUptoRow=true:=by
 unfold joinedFacts
 repeat' (with_reducible refine ALF ?_ ?_)
 all_goals first
  | with_reducible exact rh
  | with_reducible exact rp
  | with_reducible exact ru
  | with_reducible exact ry
  | kernel_rfl
def ng:Rows.FnImageAnewUptoSaid:=
 OpenClaim.holds_of_cond 3 Tryz.f3 rfl rfl rfl rfl rfl rfl rfl ⟨rfl,rfl,rfl,rfl,rfl⟩ rfl rfl rfl rfl rfl (by kernel_rfl) Tryz.func3 Tk
  (of_decide_eq_true (by kernel_rfl)) (by unfold Func.isWrapper;first|(rw[D0 (by decide +kernel)];kernel_rfl)|(rw[F0 (by decide +kernel)];exact⟨rfl,rfl⟩))
  (fun os a K enc _ F=>by rw[OpenClaim.pre_eq_preRow];exact Tl os a K enc F)
def WJ (f:FuncId)(fn:Func)(d : Tryz.pinned.checked.prog.funcNamed "pub-marram/laws.FnImageAnew" = some f)(a:Tryz.pinned.checked.prog.funcs[f]? = some fn) :
  true=Tryz.pinned.checked.prog.looks []/\∀ (j:Nat) t,fn.params[j]? = some t->Tryz.pinned.checked.prog.wantsStandIn t=false:=by
 obtain rfl:f=3:=V0 ((show Tryz.prog.funcNamed "pub-marram/laws.FnImageAnew" = some 3 by kernel_rfl).symm.trans d) |>.symm
 obtain rfl:fn=Tryz.f3:=(V0 (Tryz.func3.symm.trans a)).symm;refine⟨by kernel_rfl,fun j t c=>?_⟩;rw[Tryz.params3] at c;have b:=P7 c;simp only[List.mem_toArray,I1,V7,or_false] at b;rcases b with rfl|rfl|rfl
 ·exact (show Tryz.prog.wantsStandIn 4=false by kernel_rfl)
 ·exact (show Tryz.prog.wantsStandIn 28=false by kernel_rfl)
 ·exact (show Tryz.prog.wantsStandIn 28=false by kernel_rfl)
theorem anew_card:Rows.FnImageAnewUptoCardSaid:=
 Claim7.holds_tied_plain_at .later [] _ _ _ _ ng (fun _ h=>by cases h) (by kernel_rfl) (fun _ h=>by cases h) fnImageAnewUpto_row_tie rfl ⟨rfl,rfl⟩ (by kernel_rfl) rfl WJ (by kernel_rfl)
end Go.Proofs.YtollddkkdgoonaaGreatDoor
