/- A step. No condition. -/
import Derived.Test.YtollddkkdgoonaaGreatDoorM12
namespace Go.Proofs.YtollddkkdgoonaaGreatDoor
open Go
set_option linter.unusedVariables false
set_option linter.unusedSimpArgs false
set_option linter.defProp false
set_option maxRecDepth 100000
variable {h:H} {k:Value->Prop} {kt Q:Kt} {x y z r:Res}
section
attribute [local irreducible] BJ CR Ak Bc An Aa AK Ac
def Zc:Bs->Bs->List Bs
 | [],cur=>if cur=[] then [] else [cur]
 | b::l,cur=>if b=47 then (if cur=[] then [] else [cur])++Zc l [] else Zc l (cur++[b])
def qe (l:List Bs)(a:Bs):strs (l++[a])=strs l++[str a]:=by unfold strs;rw[H2];rfl
def s29 {p:Bs}(hp:p.length<=1000000)(w:AN x h)(K:∀ v r y h,Vec 9 1 v (Zc p []).length (strs (Zc p [])) r->AN (r+(y+x)) h->Q v h):f29 (str p) h Q:=by
 unfold f29 AW;refine DQ w HD fun u0 r0 h a w=>?_;unfold AIm;refine Ms (fun mm u0 u1 u2 t=>∃ i f out r y,mm+i=p.length+1/\u1=AB (f:Nat)/\u2=AB (i:Nat)/\Vec 9 1 u0 out.length (strs out) r/\out.length<=i/\f<=i/\(i<=p.length/\out++Zc (p.drop i) ((p.take i).drop f)=Zc p []\/i=p.length+1/\out=Zc p [])/\AN (r+(y+x)) t) (p.length+1)
  ⟨0,0,[],r0,0,rfl,rfl,rfl,a,I0 _,I0 _,.inl ⟨Q2 _,by simp⟩,w.cast (by rw[Res.zero_add])⟩ ?_
 rintro rec mm u0 u1 u2 t ⟨i,f,out,r,y,hi,rfl,rfl,a,ao,aj,s,w⟩ m;unfold ABe BL;rw[DH,BY];refine AS (fun hc=>?_) (fun hc=>?_)
 ·have ai:i<=p.length:=by omega
  obtain⟨_,d⟩:i<=p.length/\out++Zc (p.drop i) ((p.take i).drop f)=Zc p []:=by
   rcases s with h|h
   ·exact h
   ·omega
  have q:((p.take i).drop f).length=i-f:=by rw[J2,W1];omega
  have tr:∀ rest:List Bs,out++((if (p.take i).drop f=[] then [] else [(p.take i).drop f])++rest)=Zc p []->(i+1<=p.length/\rest=Zc (p.drop (i+1)) []\/i=p.length/\rest=[])->ge Q rec (str p) u0 (AB (f:Nat)) (AB (i:Nat))  AI  t:=fun rest u h2=>by
   have fin:∀ (b:List Bs) u0 r h,Vec 9 1 u0 b.length (strs b) r->b.length<=i+1->b=out++(if (p.take i).drop f=[] then [] else [(p.take i).drop f])->AN (r+(y+x)) h->rec u0 (AB (i+1:Nat)) (AB (i+1:Nat)) h:=fun b u0 r h a hl ho w=>by
    refine m (mm-1) _ _ _ _ ⟨i+1,i+1,b,r,y,by omega,rfl,rfl,a,hl,I0 _,?_,w⟩ (by omega);rw[<-P0,<-ho] at u;rcases h2 with⟨h2,h3⟩|⟨h2,h3⟩
    ·refine .inl ⟨h2,?_⟩;have e0:(p.take (i+1)).drop (i+1)=[]:=List.drop_of_length_le (by rw[W1];omega);rw[e0,<-h3];exact u
    ·refine .inr ⟨by omega,?_⟩;rw[h3,X0] at u;exact u
   unfold ge AW;rw[Ab,Ah];refine AS (fun ah=>?_) (fun ah=>?_)
   ·have o:(p.take i).drop f≠[]:=fun e=>by rw[e] at q;simp at q;omega
    rw[F0 o] at fin;rw[TD (by omega) ai];refine DC a w HD rfl rfl rfl (by omega) (by omega) fun u0 r h a w=>?_;rw[Az (n:=1),Bq (by omega),Az (n:=1),Bq (by omega)];exact fin (out++[(p.take i).drop f]) u0 r h (by rw[qe,C0];exact a) (by rw[C0];simp;omega) rfl w
   ·have o:(p.take i).drop f=[]:=List.eq_nil_of_length_eq_zero (by omega);rw[D0 o,X0] at fin;rw[Az (n:=1),Bq (by omega),Az (n:=1),Bq (by omega)];exact fin out u0 r t a (by omega) rfl w
  rw[DH,AT];by_cases he:i=p.length
  ·rw[H0 (by omega),Hi];refine tr [] ?_ (.inr ⟨he,rfl⟩);rw[List.drop_of_length_le (by omega)] at d;rw[X0];exact d
  ·rw[J0 (by omega),Bt];have g:i<p.length:=by omega
   obtain⟨c,l⟩:∃ c,p[i]? = some c:=⟨_,B0 g⟩;have ae:p[i]=c:=by rw[B0 g] at l;exact V0 l
   rw[N3 g,ae,Zc] at d;have f1:∀ k:Vz->Prop,AQ .eql (bc c) (.int .u8 47) k=k (.bool (decide (c=47))):=fun k=>by
    show AQ .eql (.int .u8 (c.toNat:Nat)) (.int .u8 47) k=_;rw[AT];congr 2;have:((c.toNat:Nat):Int)=47↔c=47:=by
     constructor
     ·intro h;apply J6.1;show c.toNat=47;omega
     ·intro h;subst h;rfl
    simp[this]
   rw[DA l,f1];by_cases j:c=47
   ·rw[H0 j];rw[D0 j] at d;exact tr _ d (.inl ⟨g,rfl⟩)
   ·rw[J0 j];rw[F0 j] at d;unfold ge AW;rw[AJ,Az (n:=1),Bq (by omega)];refine m (mm-1) _ _ _ _ ⟨i+1,f,out,r,y,by omega,rfl,rfl,a,by omega,by omega,.inl ⟨g,?_⟩,w⟩ (by omega);rw[O3,l,I4 (by rw[W1];omega)];exact d
 ·have:out=Zc p []:=by
   rcases s with h|h
   ·omega
   ·exact h.2
  subst this;exact K _ _ _ _ a w
def QA (p:Int)(m:Nat):Nat:=(BitVec.ofInt 64 p).toNat &&& m
def AG0 (p:Int)(m:Nat):QA p m<=m:=Nat.and_le_right
def AFD {p:Int}{m:Nat}(f:m<9223372036854775808):AQ .and (AB p) (AB (m:Int)) k=k (AB (QA p m:Nat)):=by
 have d:(BitVec.ofInt IntKind.i64.bits p &&& BitVec.ofInt IntKind.i64.bits (m:Int)).toNat=QA p m:=by
  show (BitVec.ofInt 64 p &&& BitVec.ofInt 64 (m:Int)).toNat=_;simp only[BitVec.toNat_and,BitVec.ofInt_natCast,BitVec.toNat_ofNat];rw[C2 (by omega)];rfl
 have e:=AG0 p m;have c:DO .and (AB p) (AB (m:Int))=some (AB (QA p m:Nat)):=by
  simp only[DO,if_true,d];rw[ED (by omega) (by omega)]
 exact propext ⟨fun⟨v,a,b⟩=>by rw[c] at a;cases a;exact b,fun a=>⟨_,c,a⟩⟩
def rf {p:Int}{m:Nat}(a:(OfNat.ofNat m:Int)<9223372036854775808):AQ .and (AB p) (AB (no_index (OfNat.ofNat m:Int))) k=k (AB (QA p m:Nat)):=AFD (S7.1 a)
def EI {l:List Vz}{i:Nat}{u:Vz}(h:l[i]? = some u):(⟨l⟩:Array Vz)[i]? = some u:=by simpa using h
def GV (F:List Int):List Vz:=F.map (Value.int .i64)
def KI:Am TP 48=some  AO:=by kernel_rfl
def ANa:List Nat:=[2,3,8,7,1,4,6]
def ALD:∀ i,i<7->∃ ix p,PX.drop i=(ix,p)::PX.drop (i+1)/\ANa[i]? = some ix/\pfxL ix=some p/\p.length<100:=by
 intro i hi;have:i=0\/i=1\/i=2\/i=3\/i=4\/i=5\/i=6:=by omega
 rcases this with rfl|rfl|rfl|rfl|rfl|rfl|rfl<;>exact⟨_,_,rfl,rfl,rfl,by decide⟩
def ASh {a p:Bs}(K:Q (.bool (Gh a p)) h):AMS (str a) (str p) h Q:=by
 unfold AMS AW;rw[DH,DH,Bd];refine Ct (fun b=>?_) (fun b=>?_)
 ·rw[DH,NH (by omega),Fs];have e:Gh a p=decide (a.take p.length=p):=by
   unfold Gh;congr 1;exact propext ⟨fun h=>h.2,fun h=>⟨by omega,h⟩⟩
  rw[<-e];exact K
 ·have e:Gh a p=false:=J0 fun h=>b (by have:=h.1;omega);rw[e] at K;exact K
theorem ANy {nm:Bs}(w:AN x h)(K:∀ y h,AN (y+x) h->Q (.tuple #[AH ((compL nm PX).1:Nat),str (compL nm PX).2]) h):ALj (str nm) h Q:=by
 unfold ALj AW;have bl:∀ (kt:Kt),(∀ v r h,RdV 1 v 7 (ANa.map fun n=>Value.int .u64 (n:Nat)) r->AN (r+x) h->kt v h)->AK (.arr 1) 48 (Am TP 48) 1 7 [(0,AH 2),(1,AH 3),(2,AH 8),(3,AH 7),(4,AH 1),(5,AH 4),(6,AH 6)] h kt:=fun kt K=>by
  unfold AK;refine⟨AH 0,⟨ANa.map fun n=>Value.int .u64 (n:Nat)⟩,KI,by omega,?_,fun b c e f ho=>K _ _ c (.inr ⟨b,0,7,_,48,_,0,rfl,(Res.add_zero _).symm,by decide,rfl,I0 _⟩) (w.new e f ho)⟩;rw[F0 (by omega),Cv rfl];exact EE _ _ _ rfl
 refine bl _ fun v r h d w=>?_;obtain⟨⟨va,vc,o⟩,_⟩:=d.len;rw[o,As,<-o];unfold yf;refine Bj (fun l u c=>∃ i y,l+i=7/\u=AB (i:Nat)/\compL nm (PX.drop i)=compL nm PX/\AN (y+(r+x)) c) 7 ⟨0,0,rfl,rfl,rfl,w.cast (by rw[Res.zero_add])⟩ ?_;rintro rec l u c ⟨i,y,hi,rfl,a,w⟩ j;unfold XP BL;have c1:∀ k:Vz->Prop,AQ .lss (AB (i:Nat)) (AB (7:Nat)) k=k (.bool (decide (i<7))):=fun k=>by
  rw[AR];congr 2;simp;omega
 rw[c1];refine AS (fun m=>?_) (fun m=>?_)
 ·obtain⟨ix,p,q,s,t,h4⟩:=ALD i m;rw[q] at a;refine (d.an.bf:RdV 1 v 7 _ _).get w (u:=AH (ix:Nat)) (by rw[Y0,s];rfl) ?_;refine fw (AQG t ?_);rw[BF,BO];refine AGH (ASh ?_);have g:compL nm ((ix,p)::PX.drop (i+1))=bif Gh nm p then (ix,nm.drop p.length) else compL nm (PX.drop (i+1)):=rfl
  rw[g] at a;cases f:Gh nm p with
  | true=>
   rw[f] at a;have hl:p.length<=nm.length:=(of_decide_eq_true f).1;rw[Ab,DH,JY hl];have:=K _ c (w.cast (Res.assoc _ _ _).symm);rw[<-a] at this;exact this
  | false=>
   rw[f] at a;rw[AJ,Az (n:=1),Bq (by omega)];exact j (l-1) _ _ ⟨i+1,y,by omega,rfl,a,w⟩ (by omega)
 ·have:i=7:=by omega
  subst this;have e:compL nm (PX.drop 7)=(0,nm):=rfl;rw[e] at a;have:=K _ c (w.cast (Res.assoc _ _ _).symm);rw[<-a] at this;exact this
section
variable {lv vv:Vz} {cs:List Vz} {l:AL} {nm v:Bs} {a:Bs×Bs}
def ASv (d:RdX z vv a.2)(g:a.1.length<=100000000)(i:a.2.length<=100000000)(w:AN x h)(K:∀ y h,AN (y+x) h->Q (AB (Hw a:Nat)) h):AMm (.agg ⟨[str a.1,vv]⟩) h Q:=by
 obtain⟨l,m,f⟩:=d.len;have e:=Rf a.1 PX;unfold AMm AW;refine BG w fun b h w=>?_;have w:AN (pts b (.cells ⟨[str a.1,vv]⟩ 86 (0,0))+x) h:=w;rw[Ai];refine Af w (show (⟨[str a.1,vv]⟩:Array Vz)[0]? = some (str a.1) from rfl) ?_;refine SA (ANy w fun y h w=>?_);have c:∀ (n:Nat) (k:Vz->Prop),n<1000000000->AQ .add (AB 16) (AB (n:Nat)) k=k (AB (16+n:Nat)):=fun n k j=>by
  have:=IJ (kk:=.i64) (a:=16) (b:=n) (k:=k);rw[Bq (by omega)] at this;exact this
 rw[BF,BO,DH,Az (n:=3),Bq (by omega),St (n:=4) (by decide),Bq (by omega),Sk (n:=4),Bq (by omega),c _ _ (by omega),Ai];refine Af w (show (⟨[str a.1,vv]⟩:Array Vz)[1]? = some vv from rfl) ?_;rw[f,As,Az (n:=3),Bq (by omega),St (n:=4) (by decide),Bq (by omega),Sk (n:=4),Bq (by omega),IJ,Bq (by omega)];exact K _ h (w.cast (Res.assoc _ _ _).symm)
def AQH (d:RdV 2 lv l.length cs x)(A:AtV z cs l)(hl:l.length<=900)(w:AN x h)(K:∀ u b r y h,Vec 86 2 u (srtA l).length b r->AtV z b (srtA l)->(srtA l).length<=l.length->AN (r+(y+x)) h->Q u h):AMW lv h Q:=by
 obtain⟨⟨la,lc,e⟩,_⟩:=d.len;unfold AMW AW;rw[e,As,<-e];unfold AAw;refine DF (fun q u0 u1 m=>∃ i b r y,q+i=l.length/\u1=AB (i:Nat)/\(srtA (l.take i)).length<=i/\Vec 86 2 u0 (srtA (l.take i)).length b r/\AtV z b (srtA (l.take i))/\AN (r+(y+x)) m) l.length ⟨0,[],0,0,rfl,rfl,I0 _,.nil,.nil,w.cast (by rw[Res.zero_add,Res.zero_add])⟩ ?_;rintro rec q u0 u1 m ⟨i,b,r,y,hi,rfl,f,a,j,w⟩ g;unfold YB BL;rw[AR];refine AS (fun hc=>?_) (fun hc=>?_)
 ·have c:i<l.length:=by omega
  obtain⟨p,hp⟩:∃ p,l[i]? = some p:=⟨_,B0 c⟩;obtain⟨u,hu,v⟩:=A.at hp;have hs:srtA (l.take (i+1))=Ks (srtA (l.take i)) p.1 p.2:=by
   rw[O3,hp];unfold srtA;rw[M6];rfl
  have o:=TL (srtA (l.take i)) p.1 p.2;refine (d.bf.bf:RdV 2 lv l.length cs _).agg w c ?_;rw[hu];refine AV w HQ rfl fun b5 h w=>?_;refine AD w ⟨[str p.1,u]⟩ (AU (by rfl)) rfl (by simp) (Fm v) fun h w=>?_;rw[Ai];refine Af w (show (⟨[str p.1,u]⟩:Array Vz)[0]? = some (str p.1) from rfl) ?_;rw[Ai];refine Af w (show (⟨[str p.1,u]⟩:Array Vz)[1]? = some u from rfl) ?_;refine SK (s16 (a.rdv.an.bf) j (by omega) v w fun u2 cs2 r2 y2 h a2 s w=>?_);rw[<-hs] at a2 s o;have k1:∀ R2 t B R Y X:Res,R2+(t+(B+(R+(Y+X))))=R2+((t+(B+(R+Y)))+X):=by intros;ac_rfl
  rw[Az (n:=1),Bq (by omega)];exact g (q-1) _ _ _ ⟨i+1,cs2,r2,_,by omega,rfl,by omega,a2,s,w.cast (k1 _ _ _ _ _ _)⟩ (by omega)
 ·have:i=l.length:=by omega
  subst this;rw[L1] at a j f;exact K u0 b r y m a j f w
def NL:AL->Nat->Nat->Nat->Nat×Bool
 | [],_,_,m=>(m,true)
 | p::l,a,b,m=>if Hw p<=a then NL l (a-Hw p) b m else if Hw p<=b then NL l a (b-Hw p) (m+1) else (m,false)
theorem YX:∀ (l:AL) (a b m:Nat),m<=(NL l a b m).1
 | [],_,_,m=>I0 m
 | p::l,a,b,m=>by
  unfold NL;split
  ·exact YX l _ _ m
  ·split
   ·exact C6 (Nat.le_succ m) (YX l _ _ _)
   ·exact I0 m
theorem UT:∀ (l:AL) (a b:Nat),NL l a b 0=(0,true)->(l.map Hw).sum<=a
 | [],_,_,_=>Q2 _
 | p::l,a,b,h=>by
  unfold NL at h;split at h
  ·have:=UT l _ _ h;rw[Q1,F6];omega
  ·split at h
   ·have:=YX l a (b-Hw p) 1;rw[h] at this;exact absurd this (by decide)
   ·cases h
def ASi (d:RdV 2 lv l.length cs x)(A:AtV z cs l)(hl:l.length<=900)(hb:∀ a∈l,a.1.length<=100000000/\a.2.length<=100000000)(w:AN x h)
  (K:∀ iv b c y h,AN (y+x) h->Q (.tuple #[iv,.slice b (NL l 96 4060 0).1 c,.bool (NL l 96 4060 0).2]) h):AMX lv h Q:=by
 obtain⟨⟨la,lc,s⟩,_⟩:=d.len;unfold AMX AW;rw[s,As,<-s];unfold AAy;refine APY (fun mm u0 u1 u2 u3 u4 h'=>∃ i n m c1 c2 r1 r2 a b y,mm+i=l.length/\u4=AB (i:Nat)/\n<=i/\m<=i/\Vec 86 2 u0 n c1 r1/\Vec 86 2 u1 m c2 r2/\u2=AB (a:Nat)/\u3=AB (b:Nat)/\a<=96/\b<=4060/\NL (l.drop i) a b m=NL l 96 4060 0/\AN (r1+(r2+(y+x))) h') l.length
  ⟨0,0,0,[],[],0,0,96,4060,0,rfl,rfl,I0 _,I0 _,.nil,.nil,rfl,rfl,I0 _,I0 _,rfl,w.cast (by simp only[Res.zero_add])⟩ ?_
 rintro rec mm u0 u1 u2 u3 u4 h' ⟨i,n,m,c1,c2,r1,r2,a,b,y,hi,rfl,hn,hm,v1,v2,rfl,rfl,ha,ah,e,w⟩ g;obtain⟨⟨oa,oc,ho⟩,_⟩:=v2.len;unfold YC BL;rw[AR];refine AS (fun hc=>?_) (fun hc=>?_)
 ·have f:i<l.length:=by omega
  obtain⟨p,v⟩:∃ p,l[i]? = some p:=⟨_,B0 f⟩;obtain⟨u,hu,j⟩:=A.at v;obtain⟨b1,b2⟩:=hb p (D1 v);have hd:l.drop i=p::l.drop (i+1):=by
   rw[N3 f];rw[B0 f] at v;cases v;rfl
  rw[hd,NL] at e;refine (d.bf.bf.bf:RdV 2 lv l.length cs _).agg w f ?_;rw[hu];refine AV w CU rfl fun b8 h w=>?_;refine AD w ⟨[str p.1,u]⟩ (AU (by rfl)) rfl (by simp) (Fm j) fun h w=>?_;refine BD w rfl ?_;refine AGX (ASv j b1 b2 w fun t h w=>?_);have k1:∀ o B R1 R2 Y X:Res,o+(B+(R1+(R2+(Y+X))))=R1+(R2+((o+(B+Y))+X)):=by intros;ac_rfl
  have k2:∀ o B R1 R2 Y X:Res,o+(B+(R1+(R2+(Y+X))))=R2+(B+(R1+((o+Y)+X))):=by intros;ac_rfl
  rw[BY];refine AS (fun ai=>?_) (fun ai=>?_)
  ·rw[D0 (by omega)] at e;rw[TF (by omega),Bq (by omega)];refine BD w rfl ?_;refine CN v1 (w.cast (show _=r1+(t+(pts b8 _+(r2+(y+x)))) by ac_rfl)) CU rfl rfl (by omega) (by omega) (Fm j) fun ae h w=>?_;refine CA v1 w CU rfl rfl (Fm j) (by omega) (by omega) fun u0 r1 h v1 w=>?_;rw[Az (n:=1),Bq (by omega)];exact g (mm-1) _ _ _ _ _ _ ⟨i+1,n+1,m,_,_,r1,r2,a-Hw p,b,_,by omega,rfl,by omega,by omega,v1,v2,rfl,rfl,by omega,ah,e,w.cast (show _=r1+(r2+((t+(pts b8 _+y))+x)) by ac_rfl)⟩ (by omega)
  ·rw[BY];rw[F0 (by omega)] at e;refine AS (fun q=>?_) (fun q=>?_)
   ·rw[D0 (by omega)] at e;rw[TF (by omega),Bq (by omega)];refine BD w rfl ?_;refine CN v2 (w.cast (show _=r2+(t+(pts b8 _+(r1+(y+x)))) by ac_rfl)) CU rfl rfl (by omega) (by omega) (Fm j) fun ae h w=>?_;refine CA v2 w CU rfl rfl (Fm j) (by omega) (by omega) fun u1 r2 h v2 w=>?_;rw[Az (n:=1),Bq (by omega)];exact g (mm-1) _ _ _ _ _ _ ⟨i+1,n,m+1,_,_,r1,r2,a,b-Hw p,_,by omega,rfl,by omega,by omega,v1,v2,rfl,rfl,ha,by omega,e,w.cast (show _=r1+(r2+((t+(pts b8 _+y))+x)) by ac_rfl)⟩ (by omega)
   ·rw[ho];rw[F0 (by omega)] at e;have:=K u0 oa oc _ h (w.cast (show _=(t+(pts b8 _+(r1+(r2+y))))+x by ac_rfl));rw[<-e] at this;exact this
 ·have:i=l.length:=by omega
  rw[this,X6] at e;rw[ho];have:=K u0 oa oc _ h' (w.cast (show _=(r1+(r2+y))+x by ac_rfl));rw[<-e] at this;exact this
end
structure SN where
 en:Nat
 lk:Bs
 xs:AL
 ks:List (Bs×Nat)
structure SNC (z:Res) (cs:List Vz) (t:SN):Prop where
 len:cs.length=18
 one:cs.all Value.oneCell'=true
 md:t.en<65536
 kl:t.ks.length<1000000
 c0:cs[0]? = some (cU16 (t.en:Nat))
 ll:t.lk.length<1000000000
 c14:cs[14]? = some (str t.lk)
 xa:∃ xv xcs,cs[15]? = some xv/\RdV 2 xv t.xs.length xcs z/\AtV z xcs t.xs
 nm:∃ nv kv,cs[16]? = some nv/\cs[17]? = some kv/\RdV 1 nv t.ks.length (strs (t.ks.map (·.1))) z/\RdV 1 kv t.ks.length (ints (t.ks.map (·.2))) z
def SNC.bf {cs:List Vz}{t:SN}(d:SNC z cs t):SNC (y+z) cs t:=by
 obtain⟨xv,xcs,a1,a2,a3⟩:=d.xa;obtain⟨nv,kv,b1,b2,b3,b4⟩:=d.nm;exact⟨d.len,d.one,d.md,d.kl,d.c0,d.ll,d.c14,⟨xv,xcs,a1,a2.bf,a3.mono⟩,⟨nv,kv,b1,b2,b3.bf,b4.bf⟩⟩
structure PenT (z:Res) (vs:List Vz) (ts:List SN):Prop where
 len:vs.length=ts.length*18
 n:ts.length<1000000
 at_:∀ (i:Nat) (t:SN),ts[i]? = some t->SNC z ((vs.drop (i*18)).take 18) t
 kid:∀ t∈ts,∀ e∈t.ks,e.2<ts.length
def PenT.bf {vs:List Vz}{ts:List SN}(d:PenT z vs ts):PenT (y+z) vs ts:=⟨d.len,d.n,fun i t h=>(d.at_ i t h).bf,d.kid⟩
def Fq (ts:List SN):Nat->List Bs->Option Nat
 | a,[]=>some a
 | a,nm::l=>match ts[a]? with
  | some t=>if kindB t.en=16384 then match kidL t.ks nm with|some b=>Fq ts b l|none=>none else none
  | none=>none
def ADR:Option Nat->Vz
 | some c=>.tuple #[.int .i64 (c:Nat),.bool true]
 | none=>.tuple #[.int .i64 0,.bool false]
def Ug {ks:List (Bs×Nat)}{nm:Bs}{b:Nat}(h:kidL ks nm=some b):∃ e∈ks,e.2=b:=by
 unfold kidL at h;split at h
 ·rename_i e a;split at h
  ·exact⟨e,D1 a,V0 h⟩
  ·cases h
 ·cases h
section
variable {nsv nmv:Vz} {vs:List Vz} {ts:List SN} {names:List Bs}
def AP5 (d:RdV 18 nsv ts.length vs x)(pt:PenT x vs ts)(h0:0<ts.length)(dn:RdV 1 nmv names.length (strs names) x)(hl:names.length<1000000000)(w:AN x h)
  (K:∀ y h,AN (y+x) h->Q (ADR (Fq ts 0 names)) h):f15 (.agg ⟨[nsv]⟩) nmv h Q:=by
 obtain⟨⟨na,nc,m⟩,_⟩:=dn.len;unfold f15 AW;refine BG w fun b2 h w=>?_;have w:AN (pts b2 (.cells ⟨[nsv]⟩ 40 (0,0))+x) h:=w;rw[m,As,<-m];unfold AAM;refine DF (fun u u0 u1 p=>∃ i a y,u+i=names.length/\u0=AB (a:Nat)/\u1=AB (i:Nat)/\a<ts.length/\Fq ts a (names.drop i)=Fq ts 0 names/\AN (pts b2 (.cells ⟨[nsv]⟩ 40 (0,0))+(y+x)) p) names.length ⟨0,0,0,rfl,rfl,rfl,h0,rfl,w.cast (by rw[Res.zero_add])⟩ ?_;rintro rec u u0 u1 p ⟨i,a,y,hi,rfl,rfl,q,f,w⟩ o;unfold fp BL;rw[AR];refine AS (fun hc=>?_) (fun hc=>?_)
 ·have l:i<names.length:=by omega
  have hg:names[i]? = some names[i]:=B0 l;obtain⟨t,s⟩:∃ t,ts[a]? = some t:=⟨_,B0 q⟩;have c:=pt.at_ a t s;obtain⟨nv,kv,q1,q2,q3,q4⟩:=c.nm;rw[N3 l,Fq,s] at f;have f:(if kindB t.en=16384 then match kidL t.ks names[i] with|some b=>Fq ts b (names.drop (i+1))|none=>none else none)=Fq ts 0 names:=f;refine (dn.bf.bf:RdV 1 nmv names.length (strs names) _).get w (KC hg) ?_;rw[Ai];refine Af w (show (⟨[nsv]⟩:Array Vz)[0]? = some nsv from rfl) ?_;refine (d.bf.bf:RdV 18 nsv ts.length vs _).agg w q ?_;refine YP (s20 (x:=pts b2 (.cells ⟨[nsv]⟩ 40 (0,0))+(y+x)) q1 q2 c.len q3.bf.bf q4.bf.bf (by have:=c.kl;omega) w fun y2 h w=>?_);have w:=w.cast (Kq1 _ _ _ _);have tail:∀ (v:Vz) (b:Bool) (h:H) (y:Res),AN (pts b2 (.cells ⟨[nsv]⟩ 40 (0,0))+(y+x)) h->(kindB t.en≠16384\/b=false->∀ y h,AN (y+x) h->Q (.tuple #[AB 0,.bool false]) h)->(kindB t.en=16384->b=true->∀ y h,AN (pts b2 (.cells ⟨[nsv]⟩ 40 (0,0))+(y+x)) h->rec v (AB (i+1:Nat)) h)->
    Aw 0 (Pt b2) fun a'=>Ae false 1 a' h fun ae=>Ap (.slice 18) ae (AB (a:Nat)) fun ah=>Ae true 18 ah h fun ai=>Call TP 31 [ai] h fun aj h=>AQ .neq aj  Bz  fun c=>CR c false (unN .not (.bool b) fun c=>BJ c (Q (.tuple #[AB 0,.bool false]) h) (AQ .add (AB (i:Nat)) (AB 1) fun ao=>rec v ao h)) (Q (.tuple #[AB 0,.bool false]) h):=fun v b h y w j K1=>by
   rw[Ai];refine Af w (show (⟨[nsv]⟩:Array Vz)[0]? = some nsv from rfl) ?_;refine (d.bf.bf:RdV 18 nsv ts.length vs _).agg w q ?_;refine Ed (ko c.c0 c.md w fun y3 h w=>?_);have w:=w.cast (Kq1 _ _ _ _);have c1:∀ k:Vz->Prop,AQ .neq (cU16 (kindB t.en:Nat))  Bz  k=k (.bool (decide (kindB t.en≠16384))):=fun k=>by
    rw[Ay];congr 2;simp;omega
   rw[c1];refine Cj (fun g=>?_) (fun g=>j (.inl g) _ h (w.cast (Res.assoc _ _ _).symm));rw[CI];cases b with
   | false=>rw[T5,Ab];exact j (.inr rfl) _ h (w.cast (Res.assoc _ _ _).symm)
   | true=>
    rw[P3,AJ,Az (n:=1),Bq (by omega)];exact K1 (Decidable.not_not.1 g) rfl _ h w
  have j:Fq ts 0 names=none->∀ y h,AN (y+x) h->Q (.tuple #[AB 0,.bool false]) h:=fun e y h w=>by
   have:=K y h w;rw[e] at this;exact this
  cases g:kidL t.ks names[i] with
  | none=>
   show Ck (.tuple #[AB 0,.bool false]) 0 _;rw[BF,BO];refine tail _ false h _ w (fun _=>j ?_) fun _ e=>by cases e
   rw[<-f,g];show (if _ then none else none)=none;split<;>rfl
  | some b=>
   show Ck (.tuple #[AB (b:Nat),.bool true]) 0 _;rw[BF,BO];rw[g] at f;refine tail _ true h _ w (fun e=>j ?_) fun e _ y h w=>?_
   ·rw[<-f];rcases e with e|e
    ·show (if _ then _ else none)=none;rw[F0 e]
    ·cases e
   ·obtain⟨e',h1,h2⟩:=Ug g;refine o (u-1) _ _ _ ⟨i+1,b,y,by omega,rfl,rfl,by rw[<-h2];exact pt.kid t (D1 s) e' h1,?_,w⟩ (by omega);rw[<-f];show _=if _ then _ else none
    rw[D0 e]
 ·have:i=names.length:=by omega
  subst this;rw[X6] at f;have:=K (pts b2 (.cells ⟨[nsv]⟩ 40 (0,0))+y) p (w.cast (Res.assoc _ _ _).symm);rw[<-f] at this;exact this
end
section
variable {lv:Vz} {cs:List Vz} {l:AL} {m n:Nat}
def ASK (d:RdV 2 lv l.length cs x)(A:AtV z cs l)(hl:l.length<=900)(w:AN x h)(K:∀ b y h,(b=false->∀ a∈l,(compL a.1 PX).2≠[])->AN (y+x) h->Q (.bool b) h):ALr lv h Q:=by
 obtain⟨⟨la,lc,f⟩,_⟩:=d.len;unfold ALr AW;rw[f,As,<-f];unfold zj;refine Bj (fun s u m=>∃ i y,s+i=l.length/\u=AB (i:Nat)/\(∀ a∈l.take i,(compL a.1 PX).2≠[])/\AN (y+x) m) l.length ⟨0,0,rfl,rfl,by simp,w.cast (by rw[Res.zero_add])⟩ ?_;rintro rec s u m ⟨i,y,hi,rfl,q,w⟩ g;unfold Xe BL;rw[AR];refine AS (fun hc=>?_) (fun hc=>?_)
 ·have c:i<l.length:=by omega
  obtain⟨p,v⟩:∃ p,l[i]? = some p:=⟨_,B0 c⟩;obtain⟨u,hu,du⟩:=A.at v;refine (d.bf:RdV 2 lv l.length cs _).agg w c ?_;rw[hu];refine AV w CU rfl fun b8 h w=>?_;refine AD w ⟨[str p.1,u]⟩ (AU (by rfl)) rfl (by simp) (Fm du) fun h w=>?_;rw[Ai];refine Af w (show (⟨[str p.1,u]⟩:Array Vz)[0]? = some (str p.1) from rfl) ?_;refine SA (ANy w fun y2 h w=>?_);have e0:∀ k:Vz->Prop,AQ .eql (str (compL p.1 PX).2) (.string ⟨#[]⟩) k=k (.bool (decide ((compL p.1 PX).2=[]))):=fun k=>Fs;rw[BF,BO,e0];have w:=w.cast (Kq5 _ _ _ _);refine AS (fun _=>K true _ h (fun e=>by cases e) w) (fun o=>?_);rw[Az (n:=1),Bq (by omega)];refine g (s-1) _ _ ⟨i+1,_,by omega,rfl,fun a t=>?_,w⟩ (by omega);rw[O3,v,N4] at t;rcases t with j|j
  ·exact q a j
  ·simp at j;rw[j];exact o
 ·have:i=l.length:=by omega
  rw[this,L1] at q;exact K false y m (fun _=>q) w
def ASG (a:m<65536)(K:Q (.bool (decide (kindL m≠0))) h):ALl (cU16 (m:Nat)) h Q:=by
 unfold ALl AW;refine Fk (qn a ?_);have c1:∀ k:Vz->Prop,AQ .neq (AH (kindL m:Nat))  AO  k=k (.bool (decide (kindL m≠0))):=fun k=>by
  rw[Ay];congr 2;simp
 rw[c1];exact K
def Nx:Am TP 60=some (.agg ⟨[AB 0,AB 0]⟩):=by kernel_rfl
def Va {set:Bool}{sec ns:Int}(w:AN x h)(K:∀ (a b:Int) y h,AN (y+x) h->Q (.agg ⟨[AB a,AB b]⟩) h):AMV (.agg ⟨[.bool set,AB sec,AB ns]⟩) h Q:=by
 unfold AMV AW;refine BG w fun b1 h w=>?_;have w:AN (pts b1 (.cells ⟨[.bool set,AB sec,AB ns]⟩ 25 (0,0))+x) h:=w;refine AV w Nx rfl fun b2 h w=>?_;have fin:∀ a b:Int,BV 2 (Pt b2) (.agg ⟨[AB a,AB b]⟩) h fun h=>Ae true 2 (Pt b2) h fun v=>Q v h:=fun a b=>by
  refine AD w ⟨[AB a,AB b]⟩ (AU (by rfl)) rfl (by simp) rfl fun h w=>?_;exact BD w rfl (K a b _ h (w.cast (Res.assoc _ _ _).symm))
 rw[Ai];refine Af w (show (⟨[.bool set,AB sec,AB ns]⟩:Array Vz)[0]? = some (.bool set) from rfl) ?_;rw[CI];cases set with
 | false=>rw[T5,Ab];exact BA Nx rfl (rs:=[.int .i64 0,.int .i64 0]) rfl (fin 0 0)
 | true=>
  rw[P3,AJ,Ai];refine Af w (show (⟨[.bool true,AB sec,AB ns]⟩:Array Vz)[1]? = some (AB sec) from rfl) ?_;rw[Ah];refine AS (fun _=>?_) (fun _=>?_)
  ·exact BA Nx rfl (rs:=[AB 15032385535,AB 0]) rfl (fin _ _)
  ·rw[Ai];refine Af w (show (⟨[.bool true,AB sec,AB ns]⟩:Array Vz)[1]? = some (AB sec) from rfl) ?_;rw[Ai];refine Af w (show (⟨[.bool true,AB sec,AB ns]⟩:Array Vz)[2]? = some (AB ns) from rfl) ?_;exact BA Nx rfl (rs:=[AB sec,AB ns]) rfl (fin _ _)
end
structure PE where
 nv:Vz
 bl:Vz
 ins:Vz
 far:Vz
 maj:Vz
 min:Vz
 att:Vz
 sta:Vz
 next:Int
 file:Int
 left:Int
 inl:Bool
 spk:Bool
 exa:Bool
def PE.cells (p:PE):List Vz:=[p.nv,p.bl,p.ins,p.far,p.maj,p.min,p.att,p.sta,AH p.next,AB p.file,AB p.left,.bool p.inl,.bool p.spk,.bool p.exa]
def BU {b:Nat}:BS (Pt b) k=k (Pt b):=Gw
section
variable {p:PE} {pb:Nat} {cs:List Vz} {t:SN}
def APw [f:Be pb x (.cells ⟨p.cells⟩ 174 (0,0))](c:SNC z cs t)(w:AN x h)(K:∀ y h,AN (y+x) h->Q (.bool (p.inl&&decide (kindB t.en=32768))) h):ALq (Pt pb) (.agg ⟨cs⟩)  AF  h Q:=by
 unfold ALq AW;refine BG w fun b h w=>?_;have w:AN (pts b (.cells ⟨cs⟩ 63 (0,0))+x) h:=w;rw[BU,AG];refine Af w (show (⟨p.cells⟩:Array Vz)[11]? = some (.bool p.inl) from rfl) ?_;cases hi:p.inl with
 | false=>
  rw[hi,Bool.false_and] at K;rw[GU];exact K _ h w
 | true=>
  rw[hi,Bool.true_and] at K;rw[CV];refine BD w c.len ?_;refine Ed (ko c.c0 c.md w fun y h w=>?_);have c1:∀ k:Vz->Prop,AQ .eql (cU16 (kindB t.en:Nat)) (cU16 32768) k=k (.bool (decide (kindB t.en=32768))):=fun k=>by
   rw[AT];congr 2;simp;omega
  have c2:∀ k:Vz->Prop,AQ .leq  AF (AB 136) k=k  AI :=fun k=>by rw[BY];rfl
  have w:=w.cast (Res.assoc _ _ _).symm;rw[c1];refine Ct (fun a=>?_) (fun a=>?_)
  ·rw[H0 a] at K;rw[c2];exact K _ h w
  ·rw[J0 a] at K;exact K _ h w
def SDN:Bs:=[115,121,115,116,101,109,46,100,97,116,97]
def oy (inl:Bool)(t:SN):AL:=if (inl&&decide (kindB t.en=32768))=true then (SDN,[])::t.xs else t.xs
def Dy (inl:Bool)(t:SN):Nat×Bool:=NL (oy inl t) 96 4060 0
def APv [f:Be pb x (.cells ⟨p.cells⟩ 174 (0,0))](c:SNC x cs t)(j:t.xs.length<=800)(i:∀ a∈t.xs,a.1.length<=100000000/\a.2.length<=100000000)(w:AN x h)
  (K:∀ iv b c y h,AN (y+x) h->Q (.tuple #[iv,.slice b (Dy p.inl t).1 c,.bool (Dy p.inl t).2]) h):ALm (Pt pb) (.agg ⟨cs⟩)  AF  h Q:=by
 obtain⟨xv,xcs,a1,a2,a3⟩:=c.xa;unfold ALm AW;refine BG w fun b h w=>?_;have w:AN (pts b (.cells ⟨cs⟩ 63 (0,0))+x) h:=w;rw[AG];refine Af w (EI a1) ?_;refine BD w c.len ?_;refine fh (APw (p:=p) c w fun y h w=>?_);have fin:∀ (v:Vz) (l:AL) (vs:List Vz) (z:Res) (h:H),RdV 2 v l.length vs z->AtV z vs l->l.length<=900->(∀ a∈l,a.1.length<=100000000/\a.2.length<=100000000)->l=oy p.inl t->(∃ y,z=y+x)->AN z h->XY Q v h:=by
  rintro v l vs z h d A j i s ⟨y,rfl⟩ w;unfold XY AW;refine AGK (ASi d A j i w fun iv b c y2 h w=>?_);rw[BF,BO,GE];have:=K iv b c _ h (w.cast (Res.assoc _ _ _).symm);unfold Dy at this;rw[<-s] at this;exact this
 cases n:(p.inl&&decide (kindB t.en=32768)) with
 | false=>
  rw[AJ];exact fin xv t.xs xcs _ h a2.bf.bf a3.mono.mono (by omega) i (by unfold oy;rw[n];rfl) ⟨y+pts b _,(Res.assoc _ _ _).symm⟩ w
 | true=>
  have c1:∀ k:Vz->Prop,AQ .sub  AF (AB 60) k=k (AB (-60)):=fun k=>by rw[Ci,ED (by omega) (by omega)];rfl
  have c2:∀ k:Vz->Prop,AGt  AF (AB (-60)) k=k (AB ((0:Nat):Int)):=fun k=>propext ⟨fun⟨kk,a,b,h1,h2,h3⟩=>by cases h1;cases h2;exact h3,fun h=>⟨.i64,0,-60,rfl,rfl,h⟩⟩;rw[Ab,c1,c2];refine Ei w (by omega) fun mb h w=>?_;refine BA CU rfl (rs:=[str [115,121,115,116,101,109,46,100,97,116,97],.slice (some ⟨mb,0,none⟩) 0 0]) rfl ?_;refine EJ w CU (by omega) (by omega) rfl fun ob h w=>?_;have o:Vec 86 2 (.slice (some ⟨ob,0,none⟩) 1 1) 1 [str [115,121,115,116,101,109,46,100,97,116,97],.slice (some ⟨mb,0,none⟩) 0 0] (pts ob (.cells ⟨[str [115,121,115,116,101,109,46,100,97,116,97],.slice (some ⟨mb,0,none⟩) 0 0]⟩ 86 (0,0))):=.own' (I0 _) rfl rfl;have g:xcs.all Value.oneCell'=true:=by
   have:∀ {cs:List Vz} {l:AL},AtV x cs l->cs.all Value.oneCell'=true:=by
    intro cs l A
    induction A with
    | nil=>rfl
    | cons d _ u=>rw[List.all_append,u,Fm d];rfl
   exact this a3
  refine Cq o (m:=t.xs.length) a2.bf.bf.bf w CU rfl (by omega) (by omega) g fun v r h a w=>?_;have k1:∀ R M Y B X:Res,R+(M+(Y+(B+X)))=(R+(M+(Y+B)))+X:=by intros;ac_rfl
  refine fin v (([115,121,115,116,101,109,46,100,97,116,97],[])::t.xs) _ _ h (by rw[J1,O8];exact a.rdv.an) (.cons (.inl ⟨_,_,rfl,rfl⟩) a3.mono.mono.mono.mono) (by rw[J1];omega) (fun a q=>?_) (by unfold oy;rw[n];rfl) ⟨_,k1 _ _ _ _ _⟩ w
  ·rcases I1.1 q with e|e
   ·rw[e];exact⟨by decide,by decide⟩
   ·exact i a e
def s84 (w:AN x h)(K:∀ v r y h,Vec 9 1 v 1 [str [102]] r->AN (r+(y+x)) h->Q v h):f84 (str [102]) h Q:=by
 have e1:∀ k:Vz->Prop,AQ .add (.string ⟨#[47]⟩) (str [102]) k=k (str [47,102]):=fun k=>Jg (a:=[47]) (by decide);have el:Zc [47,102] []=[[102]]:=by decide
 have g:∀ (h:H) (Q:Kt),Q  AI  h->AMT (str [47,102]) h Q:=fun h Q K=>by
  unfold AMT AW;have e0:∀ k:Vz->Prop,AQ .neq (str [47,102]) (.string ⟨#[]⟩) k=k  AI :=fun k=>by
   rw[show (.string ⟨#[]⟩:Vz)=str [] from rfl,EF];rfl
  rw[e0,CV];refine (DA (l:=[47,102]) (n:=0) (kk:=.i64) (b:=47) rfl (k:=fun x7=>AQ .eql x7 (.int .u8 47) fun x8=>Q x8 h)).mpr ?_;show AQ .eql (.int .u8 ((47:UInt8).toNat:Nat)) (.int .u8 47) _;rw[AT];exact K
 unfold f84 AW;rw[e1];refine AFn ?_;unfold AO4 AW;refine ABd (s29 (by decide) w fun ev r1 y1 h a w=>?_);rw[el] at a;have a:Vec 9 1 ev 1 [str [102]] r1:=a;obtain⟨⟨ea,ec,f⟩,_⟩:=a.len;rw[f,As,<-f];unfold yk;have fin:∀ (v:Vz) (r y:Res) (h:H),Vec 9 1 v 1 [str [102]] r->AN (r+(y+x)) h->AMU v h fun m h=>AQ .add (.string ⟨#[47]⟩) m fun o=>Call TP 29 [o] h fun x6 h=>Q x6 h:=fun v r y h a w=>by
  obtain⟨⟨va,vc,q⟩,_⟩:=a.len;unfold AMU AW;rw[q,As,<-q];unfold AAu;refine DF (fun d u0 u1 e=>d<=1/\e=h/\u1=AB ((1-d:Nat):Int)/\u0=if d=1 then str [] else str [102]) 1 ⟨I0 _,rfl,rfl,rfl⟩ ?_;rintro rec d u0 u1 e ⟨hm,rfl,rfl,rfl⟩ c;unfold YA BL;have j:d=1\/d=0:=by omega
  rcases j with rfl|rfl
  ·have c1:∀ k:Vz->Prop,AQ .lss (AB ((1-1:Nat):Int)) (AB ((1:Nat):Int)) k=k  AI :=fun k=>by rw[AR];rfl
   have c2:∀ k:Vz->Prop,AQ .gtr (AB ((1-1:Nat):Int))  AF  k=k  AE :=fun k=>by rw[Ah];rfl
   have t:∀ k:Vz->Prop,AQ .add (AB ((1-1:Nat):Int))  AX  k=k (AB ((1-0:Nat):Int)):=fun k=>by rw[Az (n:=1),Bq (by omega)]
   have c4:∀ k:Vz->Prop,AQ .add (if (1:Nat)=1 then str [] else str [102]) (str [102]) k=k (str [102]):=fun k=>Jg (a:=[]) (by decide);rw[c1,Ab];refine (a.rdv.an:RdV 1 v 1 _ _).get w (i:=1-1) rfl ?_;rw[c2,AJ,c4,t];exact c 0 _ _ _ ⟨Q2 _,rfl,rfl,rfl⟩ (by omega)
  ·have c1:∀ k:Vz->Prop,AQ .lss (AB ((1-0:Nat):Int)) (AB ((1:Nat):Int)) k=k  AE:=fun k=>by rw[AR];rfl
   have c2:∀ k:Vz->Prop,AQ .add (.string ⟨#[47]⟩) (if (0:Nat)=1 then str [] else str [102]) k=k (str [47,102]):=fun k=>Jg (a:=[47]) (by decide);rw[c1,AJ];show AQ .add (.string ⟨#[47]⟩) (if (0:Nat)=1 then str [] else str [102]) _;rw[c2];refine ABd (s29 (by decide) w fun ev r1 y1 h a w=>?_);rw[el] at a;exact K ev r1 _ h a (w.cast (Kq8 _ _ _ _ _))
 refine DF (fun d u0 u1 e=>(d=1/\u0=.slice none 0 0/\u1=AB ((0:Nat):Int)/\e=h)\/(d=0/\u1=AB ((1:Nat):Int)/\∃ r y,Vec 9 1 u0 1 [str [102]] r/\AN (r+(y+x)) e)) 1 (.inl ⟨rfl,rfl,rfl,rfl⟩) ?_;rintro rec d u0 u1 e u c;unfold XQ BL;rcases u with⟨rfl,rfl,rfl,rfl⟩|⟨rfl,rfl,r,y,s,w'⟩
 ·have c1:∀ k:Vz->Prop,AQ .lss (AB ((0:Nat):Int)) (AB ((1:Nat):Int)) k=k  AI :=fun k=>by rw[AR];rfl
  have d1:∀ k:Vz->Prop,AQ .eql (str [102]) (.string ⟨#[46]⟩) k=k  AE :=fun k=>by
   rw[show (.string ⟨#[46]⟩:Vz)=str [46] from rfl,Fs];rfl
  have p:∀ k:Vz->Prop,AQ .eql (str [102]) (.string ⟨#[46,46]⟩) k=k AE :=fun k=>by
   rw[show (.string ⟨#[46,46]⟩:Vz)=str [46,46] from rfl,Fs];rfl
  rw[c1,Ab];refine (a.rdv.an:RdV 1 ev 1 _ _).get w (i:=0) rfl ?_;rw[d1,AJ,p,GU];unfold yj AW;rw[AJ,p,GU];refine DC (.nil:Vec 9 1  cst__slice_none_0_0  0 [] 0) (w.cast (Res.zero_add _).symm) HD rfl rfl rfl (by omega) (by omega) fun v r h a2 w=>?_;rw[Az (n:=1),Bq (by omega)];exact c 0 _ _ _ (.inr ⟨rfl,rfl,r,_,a2,w.cast (Kq3 _ _ _ _)⟩) (by omega)
 ·have c1:∀ k:Vz->Prop,AQ .lss (AB ((1:Nat):Int)) (AB ((1:Nat):Int)) k=k  AE :=fun k=>by rw[AR];rfl
  rw[c1,AJ];refine AGI (g e _ ?_);rw[Ab];exact AGJ (fin u0 r y e s w')
end
structure FA where
 link:Bs
 size:Int
 en:Nat
 uid:Nat
 gid:Nat
 t1:Bool×Int×Int
 t2:Bool×Int×Int
 t3:Bool×Int×Int
 t4:Bool×Int×Int
 maj:Nat
 min:Nat
 xs:AL
abbrev IF (t:Bool×Int×Int):List Vz:=[.bool t.1,AB t.2.1,AB t.2.2]
def FA.cells (f:FA)(xv:Vz):List Vz:=[str f.link,AB f.size,cU16 (f.en:Nat),AM (f.uid:Nat),AM (f.gid:Nat)]++IF f.t1++IF f.t2++IF f.t3++IF f.t4++[AM (f.maj:Nat),AM (f.min:Nat),xv]
structure FA.OK (f:FA):Prop where
 en:f.en<65536
 uid:f.uid<4294967296
 gid:f.gid<4294967296
 maj:f.maj<4294967296
 min:f.min<4294967296
 lk:f.link.length<=2000000
 xs:∀ a∈f.xs,a.1.length<=2000000/\a.2.length<=2000000
def FA.node (f:FA):SN:=⟨CC f.en,if kindB (modeK f.en)=40960 then f.link else [],srtA f.xs,[]⟩
def Gj (m u g:Nat)(a b c d e f i j:Int)(ma mi:Nat)(lk:Bs)(xv:Vz):List Vz:=
 [cU16 (m:Nat),AM (u:Nat),AM (g:Nat),AB a,AB b,AB c,AB d,AB e,AB f,AB i,AB j,AM (ma:Nat),AM (mi:Nat),.slice none 0 0,str lk,xv,.slice none 0 0,.slice none 0 0]
section
variable {f:FA} {xv v0:Vz} {b3 b4 b5 u g ma mi:Nat} {a b c d e i j l:Int} {xcs:List Vz} {c4:List Vz}
def AEO {m:Nat}(hm:m<65536)(hk:m=modeK f.en)(hx:∃ o n q,xv=.slice o n q)(h4:c4.length=18)(w:AN (pts b5 (.cells ⟨Gj m u g a b c d e i j l 0 0 [] xv⟩ 63 (0,0))+(pts b4 (.cells ⟨c4⟩ 63 (0,0))+(pts b3 (.cells ⟨f.cells v0⟩ 28 (0,0))+x))) h)
  (K:∀ ma mi y h,AN (y+x) h->Q (.agg ⟨Gj (CC f.en) u g a b c d e i j l ma mi (if kindB (modeK f.en)=40960 then f.link else []) xv⟩) h):XT Q (Pt b3) (Pt b4) (Pt b5) h:=by
 obtain⟨s,p,t,rfl⟩:=hx;have fin:∀ (m ma mi:Nat) (lk:Bs) (Y:Res) (h:H),Gj m u g a b c d e i j l ma mi lk (.slice s p t)=Gj (CC f.en) u g a b c d e i j l ma mi (if kindB (modeK f.en)=40960 then f.link else []) (.slice s p t)->AN (pts b5 (.cells ⟨Gj m u g a b c d e i j l ma mi lk (.slice s p t)⟩ 63 (0,0))+(pts b4 (.cells ⟨c4⟩ 63 (0,0))+(Y+x))) h ->
   Ae true 18 (Pt b5) h fun ae=>BV 18 (Pt b4) ae h fun h=>Ae true 18 (Pt b4) h fun v=>Q v h:=fun m ma mi lk Y h he w=>by
  refine BD w rfl ?_;refine AD w ⟨Gj m u g a b c d e i j l ma mi lk (.slice s p t)⟩ (AU (by rw[O2,h4];rfl)) rfl (by rw[O2,h4];omega) rfl fun h w=>?_;refine BD w rfl ?_;rw[he] at w ⊢;exact K ma mi _ h (w.cast (Kq5 _ _ _ _))
 have kk:∀ (n:Nat) (k:Vz->Prop),AQ .eql (cU16 (kindB m:Nat)) (cU16 (n:Nat)) k=k (.bool (decide (kindB m=n))):=fun n k=>by
  rw[AT];congr 2;simp;omega
 have k0:∀ k:Vz->Prop,AQ .eql (cU16 (kindB m:Nat)) (cU16 40960) k=k (.bool (decide (kindB m=40960))):=kk 40960;have k3:∀ k:Vz->Prop,AQ .eql (cU16 (kindB m:Nat)) (cU16 8192) k=k (.bool (decide (kindB m=8192))):=kk 8192;have k4:∀ k:Vz->Prop,AQ .eql (cU16 (kindB m:Nat)) (cU16 24576) k=k (.bool (decide (kindB m=24576))):=kk 24576;unfold XT AW;refine BD w rfl ?_;refine Ed (ko (m:=m) rfl hm w fun y h w=>?_);have w:=w.cast (Kq6 _ _ _ _);rw[k0];refine AS (fun h1=>?_) (fun h1=>?_)
 ·rw[AG];refine Af w (u:=cU16 (m:Nat)) rfl ?_;rw[AKt (b:=511) hm (by decide),AG];refine AD w ⟨Gj (m ||| 511) u g a b c d e i j l 0 0 [] (.slice s p t)⟩ ((AY _ _ _).trans rfl) rfl (by show 0+1<=18;omega) rfl fun h w=>?_;rw[AG];refine Af w (u:=str f.link) rfl ?_;rw[AG];refine AD w ⟨Gj (m ||| 511) u g a b c d e i j l 0 0 f.link (.slice s p t)⟩ ((AY _ _ _).trans rfl) rfl (by show 14+1<=18;omega) rfl fun h w=>?_;refine fin (m ||| 511) 0 0 f.link (y+pts b3 _) h ?_ (w.cast (by ac_rfl));have:CC f.en=m ||| 511:=by unfold CC;rw[<-hk,D0 h1]
  rw[this,<-hk,D0 h1]
 ·have hS:CC f.en=m:=by unfold CC;rw[<-hk,F0 h1]
  have hL:(if kindB (modeK f.en)=40960 then f.link else [])=[]:=by rw[<-hk,F0 h1]
  have j1:∀ bb:Bool,XR Q (Pt b3) (Pt b4) (Pt b5) (.bool bb) h:=fun bb=>by
   unfold XR AW;cases bb with
   | false=>
    rw[AJ];exact fin m 0 0 [] (y+pts b3 _) h (by rw[hS,hL]) (w.cast (by ac_rfl))
   | true=>
    rw[Ab,AG];refine Af w (u:=AM (f.maj:Nat)) rfl ?_;rw[AG];refine Af w (u:=AM (f.min:Nat)) rfl ?_;rw[AG];refine AD w ⟨Gj m u g a b c d e i j l f.maj 0 [] (.slice s p t)⟩ ((AY _ _ _).trans rfl) rfl (by show 11+1<=18;omega) rfl fun h w=>?_;refine Is w rfl ?_;rw[AG];refine AD w ⟨Gj m u g a b c d e i j l f.maj f.min [] (.slice s p t)⟩ ((AY _ _ _).trans rfl) rfl (by show 12+1<=18;omega) rfl fun h w=>?_;exact fin m f.maj f.min [] (y+pts b3 _) h (by rw[hS,hL]) (w.cast (by ac_rfl))
  rw[k3];refine AS (fun _=>j1 true) (fun _=>?_);rw[k4];exact j1 _
def ANz (p:f.en<65536)(hx:∃ o n q,xv=.slice o n q)(v:c4.length=18)(w:AN (pts b5 (.cells ⟨Gj f.en u g a b c d e i j l 0 0 [] xv⟩ 63 (0,0))+(pts b4 (.cells ⟨c4⟩ 63 (0,0))+(pts b3 (.cells ⟨f.cells v0⟩ 28 (0,0))+x))) h)
  (K:∀ ma mi y h,AN (y+x) h->Q (.agg ⟨Gj (CC f.en) u g a b c d e i j l ma mi (if kindB (modeK f.en)=40960 then f.link else []) xv⟩) h):SB Q (Pt b3) (Pt b4) (Pt b5) h:=by
 obtain⟨xo,xn,xq,rfl⟩:=hx;have k0:∀ k:Vz->Prop,AQ .eql (cU16 (kindB f.en:Nat)) (cU16 0) k=k (.bool (decide (kindB f.en=0))):=fun k=>by
  rw[AT];congr 2;simp
 have kn:∀ Y C X:Res,C+(Y+X)=(Y+C)+X:=by intros;ac_rfl
 unfold SB AW;refine BD w rfl ?_;refine Ed (ko (m:=f.en) rfl p w fun y h w=>?_);have w:=w.cast (show _=pts b5 _+(pts b4 _+(pts b3 _+(y+x))) by ac_rfl);have t:∀ ma mi y2 h,AN (y2+(y+x)) h->Q (.agg ⟨Gj (CC f.en) u g a b c d e i j l ma mi (if kindB (modeK f.en)=40960 then f.link else []) (.slice xo xn xq)⟩) h:=fun ma mi y2 h w=>K ma mi _ h (w.cast (Res.assoc _ _ _).symm);rw[k0];refine AS (fun s=>?_) (fun s=>?_)
 ·have hK:f.en ||| 32768=modeK f.en:=by unfold modeK;rw[D0 s]
  rw[AG];refine Af w (u:=cU16 (f.en:Nat)) rfl ?_;rw[AKt (b:=32768) p (by decide),AG];refine AD w ⟨Gj (f.en ||| 32768) u g a b c d e i j l 0 0 [] (.slice xo xn xq)⟩ ((AY _ _ _).trans rfl) rfl (by show 0+1<=18;omega) rfl fun h w=>?_;exact AEO (by rw[hK];exact (Dj p).1) hK ⟨_,_,_,rfl⟩ v w t
 ·exact AEO p (by unfold modeK;rw[F0 s]) ⟨_,_,_,rfl⟩ v w t
end
def DR {b o n:Nat}{l l':List Vz}{T:Tj}{fz:Nat×Nat}(w:AN x h)[Be b x (.cells ⟨l⟩ T fz)](a:(l.drop o).take n=l')(c:o+n<=l.length)(K:k (.agg ⟨l'⟩)):Ae true n (.pointer (some ⟨b,o,none⟩)) h k:=by
 rw[BC (w.find (b:=b)) (by simpa using c)];have:(⟨l⟩:Array Vz).extract o (o+n)=⟨l'⟩:=by
  apply P4;simp[I3,<-a]
 rw[this];exact K
def VA {m u g ma mi:Nat}{a b c d e f i j:Int}{lk:Bs}{xv:Vz}{xcs:List Vz}{l:AL}(n:m<65536)(p:lk.length<=2000000)(dx:RdV 2 xv l.length xcs z)(A:AtV z xcs l):SNC z (Gj m u g a b c d e f i j ma mi lk xv) ⟨m,lk,l,[]⟩:=by
 have nl:∀ z:Res,RdV 1 cst__slice_none_0_0  0 [] z:=fun z=>by
  have:=((Vec.nil:Vec 9 1 cst__slice_none_0_0 0 [] 0).rdv).an (y:=z)
  rwa [Res.zero_add] at this
 have o:=dx.one_;refine⟨rfl,?_,n,by show (0:Nat)<1000000;omega,rfl,by show lk.length<1000000000;omega,rfl,⟨_,_,rfl,dx,A⟩,⟨_,_,rfl,rfl,nl z,nl z⟩⟩;simp only[Gj,U7,List.all_nil,o];rfl
section
variable {f:FA} {xv pv:Vz} {xcs:List Vz}
def ASF (hf:f.OK)(hl:f.xs.length<=900)(dx:RdV 2 xv f.xs.length xcs x)(A:AtV z xcs f.xs)(w:AN x h)(K:∀ cs r y h,SNC (r+z) cs f.node->(srtA f.xs).length<=f.xs.length->AN (r+(y+x)) h->Q (.agg ⟨cs⟩) h):ALk pv (.agg ⟨f.cells xv⟩) h Q:=by
 unfold ALk AW;refine BG w fun b3 h w=>?_;have w:AN (pts b3 (.cells ⟨f.cells xv⟩ 28 (0,0))+x) h:=w;refine AV w CT rfl fun b4 h w=>?_;have o:∀ {X:Res} {h:H} {R:Prop} [Be b3 X (.cells ⟨f.cells xv⟩ 28 (0,0))],AN X h->R->(Ae false 1 (.pointer (some ⟨b3,2,none⟩)) h fun u=>u=(cU16 (f.en:Nat)))/\(Ae false 1 (.pointer (some ⟨b3,3,none⟩)) h fun u=>u=(AM (f.uid:Nat)))/\(Ae false 1 (.pointer (some ⟨b3,4,none⟩)) h fun u=>u=(AM (f.gid:Nat)))/\R:=fun w r=>⟨Af w rfl rfl,Af w rfl rfl,Af w rfl rfl,r⟩;have d:∀ {X:Res} {h:H} {R:Prop} [Be b3 X (.cells ⟨f.cells xv⟩ 28 (0,0))],AN X h->R->(Ae false 1 (.pointer (some ⟨b3,19,none⟩)) h fun u=>u=xv)/\R:=fun w r=>⟨Af w rfl rfl,r⟩;have ah:∀ {X:Res} {h:H} {R:Prop} [Be b3 X (.cells ⟨f.cells xv⟩ 28 (0,0))],AN X h->R->(Ae true 3 (.pointer (some ⟨b3,5,none⟩)) h fun v=>v=.agg ⟨IF f.t1⟩)/\R:=fun w r=>⟨DR w rfl (by show 5+3<=20;omega) rfl,r⟩;have ae:∀ {X:Res} {h:H} {R:Prop} [Be b3 X (.cells ⟨f.cells xv⟩ 28 (0,0))],AN X h->R->(Ae true 3 (.pointer (some ⟨b3,8,none⟩)) h fun v=>v=.agg ⟨IF f.t2⟩)/\R:=fun w r=>⟨DR w rfl (by show 8+3<=20;omega) rfl,r⟩;have p:∀ {X:Res} {h:H} {R:Prop} [Be b3 X (.cells ⟨f.cells xv⟩ 28 (0,0))],AN X h->R->(Ae true 3 (.pointer (some ⟨b3,11,none⟩)) h fun v=>v=.agg ⟨IF f.t3⟩)/\R:=fun w r=>⟨DR w rfl (by show 11+3<=20;omega) rfl,r⟩;have m:∀ {X:Res} {h:H} {R:Prop} [Be b3 X (.cells ⟨f.cells xv⟩ 28 (0,0))],AN X h->R->(Ae true 3 (.pointer (some ⟨b3,14,none⟩)) h fun v=>v=.agg ⟨IF f.t4⟩)/\R:=fun w r=>⟨DR w rfl (by show 14+3<=20;omega) rfl,r⟩;have m1:∀ A B C Y X:Res,A+(B+(C+(Y+X)))=B+(C+((A+Y)+X)):=by intros;ac_rfl
 have m4:∀ R A B C Y X:Res,R+(A+(B+(C+(Y+X))))=B+(C+(R+((A+Y)+X))):=by intros;ac_rfl
 have m2:∀ A A' B C Y X:Res,A+(A'+(B+(C+(Y+X))))=A'+(B+(C+((A+Y)+X))):=by intros;ac_rfl
 have E0:∀ (y r:Res) (h:H) (b5:Nat) (c5 c4 n:List Vz) (u:Vz) (a b c e g i j l:Int),c5.length=18->c4.length=18->Vec 86 2 u (srtA f.xs).length n r->AtV z n (srtA f.xs)->(srtA f.xs).length<=f.xs.length->AN (pts b5 (.cells ⟨c5⟩ 63 (0,0))+(pts b4 (.cells ⟨c4⟩ 63 (0,0))+(pts b3 (.cells ⟨f.cells xv⟩ 28 (0,0))+(r+(y+x))))) h ->
   BV 18 (Pt b5) (.agg ⟨Gj f.en f.uid f.gid a b c e g i j l 0 0 [] u⟩) h fun h=>SB Q (Pt b3) (Pt b4) (Pt b5) h:=fun y r h b5 c5 c4 n u a b c e g i j l s t av A' hn w=>by
  refine AD w ⟨Gj f.en f.uid f.gid a b c e g i j l 0 0 [] u⟩ (AU (by rw[O2,s];rfl)) rfl (by rw[O2,s];omega) ?_ fun h w=>?_
  ·have:=av.rdv.one_;show List.all (Gj f.en f.uid f.gid a b c e g i j l 0 0 [] u) Value.oneCell'=true;simp only[Gj,U7,List.all_nil,this];rfl
  ·obtain⟨⟨ua,uc,rfl⟩,_⟩:=av.rdv.len;refine ANz hf.en ⟨_,_,_,rfl⟩ t w fun ma mi q h w=>?_;have k1:q+(r+(y+x))=r+((q+y)+x):=by ac_rfl
   refine K _ r _ h (VA (Dj hf.en).2.1 ?_ av.rdv.an A'.mono) hn (w.cast k1);split
   ·exact hf.lk
   ·exact Q2 _
 have bl:∀ {r:Res} {n:List Vz} {u:Vz} {a b c e g i j l:Int} {k:Vz->Prop},Vec 86 2 u (srtA f.xs).length n r->k (.agg ⟨Gj f.en f.uid f.gid a b c e g i j l 0 0 [] u⟩)->
   An (.struct [(0,1),(1,1),(2,1),(3,2),(5,2),(7,2),(9,2),(11,1),(12,1),(13,1),(14,1),(15,1),(16,1),(17,1)]) (Am TP 63) [(0,cU16 (f.en:Nat)),(1,AM (f.uid:Nat)),(2,AM (f.gid:Nat)),(3,.agg ⟨[AB a,AB b]⟩),(4,.agg ⟨[AB c,AB e]⟩),(5,.agg ⟨[AB g,AB i]⟩),(6,.agg ⟨[AB j,AB l]⟩),(11,u)] k:=fun av K=>by
  obtain⟨⟨ua,uc,rfl⟩,_⟩:=av.rdv.len;exact BA CT rfl rfl K
 have E2:∀ (y:Res) (h:H) (b5:Nat) (c5 c4:List Vz) (a b c e g i j l:Int),c5.length=18->c4.length=18->AN (pts b5 (.cells ⟨c5⟩ 63 (0,0))+(pts b4 (.cells ⟨c4⟩ 63 (0,0))+(pts b3 (.cells ⟨f.cells xv⟩ 28 (0,0))+(y+x)))) h ->
   XU Q (Pt b3) (Pt b4) (Pt b5) (.pointer (some ⟨b3,2,none⟩)) (cU16 (f.en:Nat)) (.pointer (some ⟨b3,3,none⟩)) (AM (f.uid:Nat)) (.pointer (some ⟨b3,4,none⟩)) (AM (f.gid:Nat)) (.agg ⟨[AB a,AB b]⟩) (.agg ⟨[AB c,AB e]⟩) (.agg ⟨[AB g,AB i]⟩) (.agg ⟨[AB j,AB l]⟩) xv h:=fun y h b5 c5 c4 a b c e g i j l s t w=>by
  unfold XU DW;refine fy (AQH dx.bf.bf.bf.bf A hl w fun u n r q h av A' hn w=>?_);have w:=w.cast (show _=pts b5 _+(pts b4 _+(pts b3 _+(r+((q+y)+x)))) by ac_rfl);refine o w ?_;unfold yu DW;exact bl av (E0 _ r h b5 c5 c4 n u a b c e g i j l s t av A' hn w)
 have E3:∀ (y:Res) (h:H) (b5:Nat) (c5 c4:List Vz) (a b c e g i:Int),c5.length=18->c4.length=18->AN (pts b5 (.cells ⟨c5⟩ 63 (0,0))+(pts b4 (.cells ⟨c4⟩ 63 (0,0))+(pts b3 (.cells ⟨f.cells xv⟩ 28 (0,0))+(y+x)))) h ->
   XV Q (Pt b3) (Pt b4) (Pt b5) (.pointer (some ⟨b3,2,none⟩)) (cU16 (f.en:Nat)) (.pointer (some ⟨b3,3,none⟩)) (AM (f.uid:Nat)) (.pointer (some ⟨b3,4,none⟩)) (AM (f.gid:Nat)) (.agg ⟨[AB a,AB b]⟩) (.agg ⟨[AB c,AB e]⟩) (.agg ⟨[AB g,AB i]⟩) (.agg ⟨IF f.t4⟩) (.pointer (some ⟨b3,19,none⟩)) xv h:=fun y h b5 c5 c4 a b c e g i s t w=>by
  unfold XV DW;refine Gr (Va w fun j l q h w=>?_);have w:=w.cast (m2 _ _ _ _ _ _);exact o w (d w (E2 _ h b5 c5 c4 a b c e g i j l s t w))
 have E4:∀ (y:Res) (h:H) (b5:Nat) (c5 c4:List Vz) (a b c e:Int),c5.length=18->c4.length=18->AN (pts b5 (.cells ⟨c5⟩ 63 (0,0))+(pts b4 (.cells ⟨c4⟩ 63 (0,0))+(pts b3 (.cells ⟨f.cells xv⟩ 28 (0,0))+(y+x)))) h ->
   XW Q (Pt b3) (Pt b4) (Pt b5) (.pointer (some ⟨b3,2,none⟩)) (cU16 (f.en:Nat)) (.pointer (some ⟨b3,3,none⟩)) (AM (f.uid:Nat)) (.pointer (some ⟨b3,4,none⟩)) (AM (f.gid:Nat)) (.agg ⟨[AB a,AB b]⟩) (.agg ⟨[AB c,AB e]⟩) (.agg ⟨IF f.t3⟩) (.pointer (some ⟨b3,14,none⟩)) (.agg ⟨IF f.t4⟩) (.pointer (some ⟨b3,19,none⟩)) xv h:=fun y h b5 c5 c4 a b c e s t w=>by
  unfold XW DW;refine Gr (Va w fun j l q h w=>?_);have w:=w.cast (m2 _ _ _ _ _ _);exact o w (m w (d w (E3 _ h b5 c5 c4 a b c e j l s t w)))
 have E5:∀ (y:Res) (h:H) (b5:Nat) (c5 c4:List Vz) (a b:Int),c5.length=18->c4.length=18->AN (pts b5 (.cells ⟨c5⟩ 63 (0,0))+(pts b4 (.cells ⟨c4⟩ 63 (0,0))+(pts b3 (.cells ⟨f.cells xv⟩ 28 (0,0))+(y+x)))) h ->
   XX Q (Pt b3) (Pt b4) (Pt b5) (.pointer (some ⟨b3,2,none⟩)) (cU16 (f.en:Nat)) (.pointer (some ⟨b3,3,none⟩)) (AM (f.uid:Nat)) (.pointer (some ⟨b3,4,none⟩)) (AM (f.gid:Nat)) (.agg ⟨[AB a,AB b]⟩) (.agg ⟨IF f.t2⟩) (.pointer (some ⟨b3,11,none⟩)) (.agg ⟨IF f.t3⟩) (.pointer (some ⟨b3,14,none⟩)) (.agg ⟨IF f.t4⟩) (.pointer (some ⟨b3,19,none⟩)) xv h:=fun y h b5 c5 c4 a b s t w=>by
  unfold XX DW;refine Gr (Va w fun j l q h w=>?_);have w:=w.cast (m2 _ _ _ _ _ _);exact o w (p w (m w (d w (E4 _ h b5 c5 c4 a b j l s t w))))
 rw[AG];refine Af w (u:=cU16 (f.en:Nat)) rfl ?_;rw[AG];refine Af w (u:=AM (f.uid:Nat)) rfl ?_;rw[AG];refine Af w (u:=AM (f.gid:Nat)) rfl ?_;rw[AG];refine DR w (l':=IF f.t1) rfl (by show 5+3<=20;omega) ?_;rw[AG];refine DR w (l':=IF f.t2) rfl (by show 8+3<=20;omega) ?_;rw[AG];refine DR w (l':=IF f.t3) rfl (by show 11+3<=20;omega) ?_;rw[AG];refine DR w (l':=IF f.t4) rfl (by show 14+3<=20;omega) ?_;rw[AG];refine Af w (u:=xv) rfl ?_;have w:=w.cast (show _=pts b4 _+(pts b3 _+(0+x)) by rw[Res.zero_add]);refine⟨Gr (Va w fun a b q h w=>?_),AV w CT rfl fun b5 h w=>?_⟩
 ·have w:=w.cast (m1 _ _ _ _ _);refine o w (ae w (p w (m w (d w ⟨Gr (Va w fun c e q h w=>?_),AV w CT rfl fun b5 h w=>?_⟩))))
  ·have w:=w.cast (m1 _ _ _ _ _);refine o w (p w (m w (d w ⟨Gr (Va w fun g i q h w=>?_),AV w CT rfl fun b5 h w=>?_⟩)))
   ·have w:=w.cast (m1 _ _ _ _ _);refine o w (m w (d w ⟨Gr (Va w fun j l q h w=>?_),AV w CT rfl fun b5 h w=>?_⟩))
    ·have w:=w.cast (m1 _ _ _ _ _);refine o w (d w ⟨fy (AQH dx.bf.bf.bf A hl w fun u n r q h av A' hn w=>?_),AV w CT rfl fun b5 h w=>?_⟩)
     ·refine o w ?_;have w:=w.cast (m4 _ _ _ _ _ _);refine bl av (AV w CT rfl fun b5 h w=>?_);exact o w (E0 _ r h b5 _ _ n u a b c e g i j l rfl rfl av A' hn w)
     ·exact o w (d w (E2 _ h b5 _ _ a b c e g i j l rfl rfl w))
    ·exact o w (m w (d w (E3 _ h b5 _ _ a b c e g i rfl rfl w)))
   ·exact o w (p w (m w (d w (E4 _ h b5 _ _ a b c e rfl rfl w))))
  ·exact o w (ae w (p w (m w (d w (E5 _ h b5 _ _ a b rfl rfl w)))))
 ·refine o w (ah w (ae w (p w (m w (d w ?_)))));refine Gr (Va w fun a b q h w=>?_);have w:=w.cast (m2 _ _ _ _ _ _);exact o w (ae w (p w (m w (d w (E5 _ h b5 _ _ a b rfl rfl w)))))
end
set_option maxRecDepth 100000
def Jf:Am TP 4=some AE :=by kernel_rfl
def MC:Am TP 23=some  BP:=by kernel_rfl
def Cr {T:Tj}{z:Option Vz}{zv e:Vz}(w:AN x h)(i:z=some zv)(d:zv.cells=#[zv])(g:e.cells=#[e])(K:∀ b h,AN (pts b (.cells ⟨[e]⟩ T (0,0))+x) h->kt (.slice (some ⟨b,0,none⟩) 1 1) h):AK (.arr 1) T z 1 1 [(0,e)] h kt:=by
 unfold AK;refine⟨zv,⟨[e]⟩,i,by omega,?_,fun b f ex a c=>K b f (w.new ex a c)⟩;rw[F0 (by omega),Cv d];refine EE _ _ _ ?_;unfold Du;simp[DB,g,Du,IW]
class NT (r x:Res) (y:outParam Res):Prop where
 e:x=r+y
instance NT.here {r:Res}:NT r r 0:=⟨(Res.add_zero _).symm⟩
instance NT.inl {r x y z:Res} [f:NT r x y]:NT r (x+z) (y+z):=⟨by rw[f.e,Res.assoc]⟩
instance NT.inr {r x y z:Res} [f:NT r z y]:NT r (x+z) (x+y):=⟨by rw[f.e,Res.left_comm]⟩
def Pv {T:Tj}{sz d n b:Nat}{z:Option Vz}{zv v:Vz}{vs es:List Vz}(a:Vec T sz v n vs r)[q:NT r x y][f:Be b y (.cells ⟨es⟩ T (0,0))](j:es.length=sz)(w:AN x h)(o:z=some zv)(g:zv.cells.size=sz)(s:n<1000000)(i:d<=1000)(l:es.all Value.oneCell'=true)
  (K:∀ v r h,Vec T sz v (n+1) (vs++es) r->AN (r+y) h->kt v h):Ac T z sz d v (.slice (some ⟨b,0,none⟩) 1 1) h kt:=by
 obtain⟨u,m⟩:=f.ex;have e:RdV sz (.slice (some ⟨b,0,none⟩) 1 1) 1 es y:=m▸(Vec.own' (T:=T) (c:=1) (I0 _) (by rw[j,P6]) (X2 (by omega))).rdv.an;have p:(n+1)*d<=1000000*1000:=Nat.mul_le_mul (by omega) i;exact Cq a e (w.cast q.e) o g (by omega) (by omega) l K
section
variable {p:PE} {pb n:Nat} {es:List Vz} {x1 x2:Vz} {Z:Res} {cA cB cC:List Vz} {rA rB rC:Res}
def AS9 (aA:Vec 63 18 p.nv n cA rA)(aB:Vec 4 1 p.bl n cB rB)(aC:Vec 4 1 p.ins n cC rC)(m:n<1000000)(l:es.length=18)(ho:es.all Value.oneCell'=true)(w:AN (pts pb (.cells ⟨p.cells⟩ 174 (0,0))+(rA+(rB+(rC+(Z))))) h)
  (K:∀ (Y:Res) (i j vC:Vz) (a c d:Res) (h:H),Vec 63 18 i (n+1) (cA++es) a->Vec 4 1 j (n+1) (cB++[.bool false]) c->Vec 4 1 vC (n+1) (cC++[.bool false]) d->AN (pts pb (.cells ⟨PE.cells {p with nv:=i,bl:=j,ins:=vC}⟩ 174 (0,0))+(a+(c+(d+(Z+Y))))) h->gx Q (Pt pb) x1 x2 h):f82 (Pt pb) x1 x2 (.agg ⟨es⟩) h Q:=by
 have fin:∀ {X s t v y3 y4:Res} {i j vC:Vz} {a c d:Res} {h:H} [NT (pts pb (.cells ⟨p.cells⟩ 174 (0,0))) X s] [NT a s t] [NT c t v] [NT d v y3] [NT Z y3 y4],Vec 63 18 i (n+1) (cA++es) a->Vec 4 1 j (n+1) (cB++[.bool false]) c->Vec 4 1 vC (n+1) (cC++[.bool false]) d->AN X h->YT Q (Pt pb) x1 x2 i j vC (Pt pb) h:=by
  intro X s t v y3 y4 i j vC a c d h q0 q1 q2 q3 q4 e f g w;have w:AN (pts pb (.cells ⟨p.cells⟩ 174 (0,0))+(a+(c+(d+(Z+y4))))) h:=w.cast (by rw[q0.e,q1.e,q2.e,q3.e,q4.e]);obtain⟨⟨q,o,rfl⟩,_⟩:=e.rdv.len;obtain⟨⟨uB,sB,rfl⟩,_⟩:=f.rdv.len;obtain⟨⟨uC,sC,rfl⟩,_⟩:=g.rdv.len;unfold YT DW;rw[AG];refine AD w ⟨PE.cells {p with nv:=.slice q (n+1) o}⟩ ((AY _ _ _).trans rfl) rfl (by show 0+1<=14;omega) rfl fun h w=>?_;rw[BU,AG];refine AD w ⟨PE.cells {p with nv:=.slice q (n+1) o,bl:=.slice uB (n+1) sB}⟩ ((AY _ _ _).trans rfl) rfl (by show 1+1<=14;omega) rfl fun h w=>?_;rw[BU,AG];refine AD w ⟨PE.cells {p with nv:=.slice q (n+1) o,bl:=.slice uB (n+1) sB,ins:=.slice uC (n+1) sC}⟩ ((AY _ _ _).trans rfl) rfl (by show 2+1<=14;omega) rfl fun h w=>?_;exact K _ _ _ _ _ _ _ h e f g w
 unfold f82 AW;refine BG w fun b7 h w=>?_;have w:AN (pts b7 (.cells ⟨es⟩ 63 (0,0))+(pts pb (.cells ⟨p.cells⟩ 174 (0,0))+(rA+(rB+(rC+(Z)))))) h:=w;rw[BU,AG,AG];refine Af w (u:=p.nv) rfl ?_;refine BD w l ?_;rw[BU,AG];refine Af w (u:=p.bl) rfl ?_;rw[BU,AG];refine Af w (u:=p.ins) rfl ?_
 repeat' first
  | refine⟨Af w rfl rfl,?_⟩
  | refine⟨BD w l rfl,?_⟩
  | refine EJ w CT (by omega) (by omega) l fun bA h w=>?_
  | refine Cr w Jf rfl rfl fun b h w=>?_
  | refine Pv aA l w CT rfl m (by omega) ho fun i a h e w=>?_
  | refine Pv aB rfl w Jf rfl m (by omega) rfl fun j c h f w=>?_
  | refine Pv aC rfl w Jf rfl m (by omega) rfl fun vC d h g w=>?_
  | unfold ACt DW
  | unfold ACu DW
  | unfold ACv DW
  | unfold ACw DW
  | unfold ACx DW
  | unfold ACy DW
  | unfold ACz DW
  | exact fin e f g w
  | rw[BU,AG]
  | refine⟨?_,?_⟩
def ATA (aA:Vec 4 1 p.far n cA rA)(aB:Vec 48 1 p.att n cB rB)(aC:Vec 48 1 p.sta n cC rC)(l:n<1000000)(w:AN (pts pb (.cells ⟨p.cells⟩ 174 (0,0))+(rA+(rB+(rC+(Z))))) h)
  (K:∀ (Y:Res) (i j vC:Vz) (a c d:Res) (h:H),Vec 4 1 i (n+1) (cA++[.bool false]) a->Vec 48 1 j (n+1) (cB++[AH 0]) c->Vec 48 1 vC (n+1) (cC++[AH 0]) d->AN (pts pb (.cells ⟨PE.cells {p with far:=i,att:=j,sta:=vC}⟩ 174 (0,0))+(a+(c+(d+(Z+Y))))) h->gw Q (Pt pb) x1 x2 h):gx Q (Pt pb) x1 x2 h:=by
 have fin:∀ {X q s t v y4:Res} {i j vC:Vz} {a c d:Res} {h:H} [NT (pts pb (.cells ⟨p.cells⟩ 174 (0,0))) X q] [NT a q s] [NT c s t] [NT d t v] [NT Z v y4],Vec 4 1 i (n+1) (cA++[.bool false]) a->Vec 48 1 j (n+1) (cB++[AH 0]) c->Vec 48 1 vC (n+1) (cC++[AH 0]) d->AN X h->AC0 Q (Pt pb) x1 x2 i j vC (Pt pb) h:=by
  intro X q s t v y4 i j vC a c d h q0 q1 q2 q3 q4 e f g w;have w:AN (pts pb (.cells ⟨p.cells⟩ 174 (0,0))+(a+(c+(d+(Z+y4))))) h:=w.cast (by rw[q0.e,q1.e,q2.e,q3.e,q4.e]);obtain⟨⟨o,m,rfl⟩,_⟩:=e.rdv.len;obtain⟨⟨uB,sB,rfl⟩,_⟩:=f.rdv.len;obtain⟨⟨uC,sC,rfl⟩,_⟩:=g.rdv.len;unfold AC0 DW;rw[AG];refine AD w ⟨PE.cells {p with far:=.slice o (n+1) m}⟩ ((AY _ _ _).trans rfl) rfl (by show 3+1<=14;omega) rfl fun h w=>?_;rw[BU,AG];refine AD w ⟨PE.cells {p with far:=.slice o (n+1) m,att:=.slice uB (n+1) sB}⟩ ((AY _ _ _).trans rfl) rfl (by show 6+1<=14;omega) rfl fun h w=>?_;rw[BU,AG];refine AD w ⟨PE.cells {p with far:=.slice o (n+1) m,att:=.slice uB (n+1) sB,sta:=.slice uC (n+1) sC}⟩ ((AY _ _ _).trans rfl) rfl (by show 7+1<=14;omega) rfl fun h w=>?_;exact K _ _ _ _ _ _ _ h e f g w
 unfold gx AW;rw[BU,AG];refine Af w (u:=p.far) rfl ?_;rw[BU,AG];refine Af w (u:=p.att) rfl ?_;rw[BU,AG];refine Af w (u:=p.sta) rfl ?_
 repeat' first
  | refine⟨Af w rfl rfl,?_⟩
  | refine Cr w KI rfl rfl fun b h w=>?_
  | refine Cr w Jf rfl rfl fun b h w=>?_
  | refine Pv aA rfl w Jf rfl l (by omega) rfl fun i a h e w=>?_
  | refine Pv aB rfl w KI rfl l (by omega) rfl fun j c h f w=>?_
  | refine Pv aC rfl w KI rfl l (by omega) rfl fun vC d h g w=>?_
  | unfold AKA DW
  | unfold AKB DW
  | unfold AKC DW
  | unfold AKD DW
  | unfold AKE DW
  | unfold AKF DW
  | unfold AKG DW
  | exact fin e f g w
  | rw[BU]
  | refine⟨?_,?_⟩
def ATB (aA:Vec 23 1 p.maj n cA rA)(aB:Vec 23 1 p.min n cB rB)(t:n<1000000)(w:AN (pts pb (.cells ⟨p.cells⟩ 174 (0,0))+(rA+(rB+(Z)))) h)
  (K:∀ (Y:Res) (g i:Vz) (c d:Res) (h:H),Vec 23 1 g (n+1) (cA++[Al]) c->Vec 23 1 i (n+1) (cB++[Al]) d->AN (pts pb (.cells ⟨PE.cells {p with maj:=g,min:=i}⟩ 174 (0,0))+(c+(d+(Z+Y)))) h->gv Q (Pt pb) x1 x2 h):gw Q (Pt pb) x1 x2 h:=by
 have fin:∀ {X m o q s:Res} {g i:Vz} {c d:Res} {h:H} [NT (pts pb (.cells ⟨p.cells⟩ 174 (0,0))) X m] [NT c m o] [NT d o q] [NT Z q s],Vec 23 1 g (n+1) (cA++[Al]) c->Vec 23 1 i (n+1) (cB++[Al]) d->AN X h->BS (Pt pb) fun a=>Aw 4 a fun j=>BV 1 j g h fun h=>BS (Pt pb) fun a=>Aw 5 a fun l=>BV 1 l i h fun h=>gv Q (Pt pb) x1 x2 h:=by
  intro X m o q s g i c d h q0 q1 q2 q3 e f w;have w:AN (pts pb (.cells ⟨p.cells⟩ 174 (0,0))+(c+(d+(Z+s)))) h:=w.cast (by rw[q0.e,q1.e,q2.e,q3.e]);obtain⟨⟨uA,v,rfl⟩,_⟩:=e.rdv.len;obtain⟨⟨uB,sB,rfl⟩,_⟩:=f.rdv.len;rw[BU,AG];refine AD w ⟨PE.cells {p with maj:=.slice uA (n+1) v}⟩ ((AY _ _ _).trans rfl) rfl (by show 4+1<=14;omega) rfl fun h w=>?_;rw[BU,AG];refine AD w ⟨PE.cells {p with maj:=.slice uA (n+1) v,min:=.slice uB (n+1) sB}⟩ ((AY _ _ _).trans rfl) rfl (by show 5+1<=14;omega) rfl fun h w=>?_;exact K _ _ _ _ _ h e f w
 unfold gw AW;rw[BU,AG];refine Af w (u:=p.maj) rfl ?_;rw[BU,AG];refine Af w (u:=p.min) rfl ?_
 repeat' first
  | refine⟨Af w rfl rfl,?_⟩
  | refine Cr w MC rfl rfl fun b h w=>?_
  | refine Pv aA rfl w MC rfl t (by omega) rfl fun g c h e w=>?_
  | refine Pv aB rfl w MC rfl t (by omega) rfl fun i d h f w=>?_
  | unfold AJ9 DW
  | exact fin e f w
  | refine⟨?_,?_⟩
end
def Vm {T:Tj}{v:Vz}{n i sz:Nat}{kk:Iq}{vs es:List Vz}{l:H->Prop}(d:Vec T sz v n vs r)(w:AN (r+x) h)(hi:i<n)(e:es.length=sz)(t:es.all Value.oneCell'=true)
  (K:∀ vs' r h,Vec T sz v n vs' r->(vs'.drop (i*sz)).take sz=es->(∀ j,j≠i->(vs'.drop (j*sz)).take sz=(vs.drop (j*sz)).take sz)->AN (r+x) h->l h):Ap (.slice sz) v (.int kk (i:Int)) fun a=>BV sz a (.agg ⟨es⟩) h l:=by
 cases d with
 | nil=>omega
 | own f hc=>
  rename_i b c all;have m:(i+1)*sz<=n*sz:=H3 sz (by omega);have u:n*sz<=c*sz:=H3 sz f;rw[V5,P6] at m;rw[LY hi,U1];refine AD w ⟨all.take (i*sz)++es++all.drop (i*sz+sz)⟩ ?_ e (by simp;omega) t fun h w=>?_
  ·show Av ⟨all⟩ (i*sz) es=_;rw[AY];have:=JP es (all.take (i*sz)) (all.drop (i*sz)) (by simp;omega);rw[B6,W1,V2 (by omega),H5,e] at this;rw[this]
  ·have s:(all.take (i*sz)).length=i*sz:=by simp;omega
   have g:∀ q,(all.take (i*sz)++es++all.drop (i*sz+sz))[q]? = if q<i*sz then all[q]? else if q<i*sz+sz then es[q-i*sz]? else all[q]?:=fun q=>by
    rw[P0,List.getElem?_append,s,List.getElem?_append,e];by_cases c1:q<i*sz
    ·rw[D0 c1,D0 c1,I2,D0 c1]
    ·rw[F0 c1,F0 c1];by_cases c2:q<i*sz+sz
     ·rw[D0 c2,D0 (by omega)]
     ·rw[F0 c2,F0 (by omega),Q3];congr 1;omega
   refine K _ _ h (Vec.own' (n:=n) f (by simp;omega) rfl) ?_ (fun j p=>?_) w
   ·apply O4;intro q;rw[I2,Q3,I2];by_cases c1:q<sz
    ·rw[D0 c1,D0 (by omega),g,F0 (by omega),D0 (by omega)];congr 1;omega
    ·rw[F0 c1,D3 (by omega)]
   ·apply O4;intro q;simp only[I2,Q3];by_cases c1:q<sz
    ·rw[D0 c1,D0 c1];split
     ·rw[g];rcases Nat.lt_or_gt_of_ne p with o|o
      ·have:(j+1)*sz<=i*sz:=H3 sz (by omega);rw[V5,P6] at this;rw[D0 (by omega)]
      ·have:(i+1)*sz<=j*sz:=H3 sz (by omega);rw[V5,P6] at this;rw[F0 (by omega),F0 (by omega)]
     ·rfl
    ·rw[F0 c1,F0 c1]
def bls (l:List Bool):List Vz:=l.map .bool
structure II (p:PE) (ts:List SN) (bl ins far:List Bool) (vs c4 c5 c6 c7:List Vz) (rN r1 r2 r3 r4 r5 r6 r7 x:Res):Prop where
 pt:PenT x vs ts
 aN:Vec 63 18 p.nv ts.length vs rN
 a1:Vec 4 1 p.bl ts.length (bls bl) r1
 a2:Vec 4 1 p.ins ts.length (bls ins) r2
 a3:Vec 4 1 p.far ts.length (bls far) r3
 a4:Vec 23 1 p.maj ts.length c4 r4
 a5:Vec 23 1 p.min ts.length c5 r5
 a6:Vec 48 1 p.att ts.length c6 r6
 a7:Vec 48 1 p.sta ts.length c7 r7
abbrev CM (fq:Res)(pb:Nat)(p:PE)(rN r1 r2 r3 r4 r5 r6 r7 x:Res):Res:=pts pb (.cells ⟨p.cells⟩ 174 (0,0))+(rN+(r1+(r2+(r3+(r4+(r5+(r6+(r7+(x+fq)))))))))
def CY (fq:Res)(pb:Nat)(inl spk:Bool)(ts:List SN)(bl ins far:List Bool)(x:Res)(h:H):Prop:=
 ∃ p vs c4 c5 c6 c7 rN r1 r2 r3 r4 r5 r6 r7,p.inl=inl/\p.spk=spk/\p.left=0/\II p ts bl ins far vs c4 c5 c6 c7 rN r1 r2 r3 r4 r5 r6 r7 x/\AN (CM fq pb p rN r1 r2 r3 r4 r5 r6 r7 x) h
def II.bf {p:PE}{ts:List SN}{bl ins far:List Bool}{vs c4 c5 c6 c7:List Vz}{rN r1 r2 r3 r4 r5 r6 r7:Res}(P:II p ts bl ins far vs c4 c5 c6 c7 rN r1 r2 r3 r4 r5 r6 r7 x):II p ts bl ins far vs c4 c5 c6 c7 rN r1 r2 r3 r4 r5 r6 r7 (y+x):=⟨P.pt.bf,P.aN,P.a1,P.a2,P.a3,P.a4,P.a5,P.a6,P.a7⟩
def Dz {fq:Res}{pb:Nat}{p:PE}{rN r1 r2 r3 r4 r5 r6 r7:Res}:y+CM fq pb p rN r1 r2 r3 r4 r5 r6 r7 x=CM fq pb p rN r1 r2 r3 r4 r5 r6 r7 (y+x):=by unfold CM;ac_rfl
def NJ (ts:List SN)(d:Nat)(nm:Bs)(t:SN):List SN:=match ts[d]? with
 | some p=>(ts++[t]).set d {p with ks:=EV p.ks nm ts.length}
 | none=>ts
section
variable {fq:Res} {pb:Nat} {inl spk:Bool} {ts:List SN} {bl ins far:List Bool} {cs:List Vz} {t:SN} {nm:Bs}
def ADh {ks:List (Bs×Nat)}{n:Nat}:∀ e∈EV ks nm n,e∈ks\/e.2=n:=by
 intro e c;unfold EV at c;rcases N4.1 c with b|b
 ·rcases N4.1 b with a|a
  ·exact .inl (List.mem_of_mem_take a)
  ·simp at a;exact .inr (by rw[a])
 ·exact .inl (List.mem_of_mem_drop b)
def s82 {d:Nat}(hd:d<ts.length)(bh:ts.length<100000)(aw:∀ t∈ts,t.ks.length<100000)(c:SNC x cs t)(hk:t.ks=[])(P:CY fq pb inl spk ts bl ins far x h)
  (K:∀ y h,CY fq pb inl spk (NJ ts d nm t) (bl++[false]) (ins++[false]) (far++[false]) (y+x) h->Q (AB (ts.length:Nat)) h):f82 (Pt pb) (AB (d:Nat)) (str nm) (.agg ⟨cs⟩) h Q:=by
 obtain⟨p,vs,c4,c5,c6,c7,rN,r1,r2,r3,r4,r5,r6,r7,hi,hs,h0,P,w⟩:=P;refine AS9 P.aN P.a1 P.a2 (by omega) c.len c.one w fun Y1 v0 v1 v2 q0 s v h b0 b1 b2 w=>?_;have w:=w.cast (show _=pts pb (.cells ⟨PE.cells {p with nv:=v0,bl:=v1,ins:=v2}⟩ 174 (0,0))+(r3+(r6+(r7+(q0+(s+(v+(r4+(r5+(Y1+(x+fq)))))))))) by ac_rfl);refine ATA (p:={p with nv:=v0,bl:=v1,ins:=v2}) P.a3 P.a6 P.a7 (by omega) w fun Y2 v3 v6 v7 q3 q6 q7 h b3 b6 b7 w=>?_;have w:=w.cast (show _=pts pb (.cells ⟨PE.cells {p with nv:=v0,bl:=v1,ins:=v2,far:=v3,att:=v6,sta:=v7}⟩ 174 (0,0))+(r4+(r5+(q0+(s+(v+(q3+(q6+(q7+(Y2+(Y1+(x+fq))))))))))) by ac_rfl);refine ATB (p:={p with nv:=v0,bl:=v1,ins:=v2,far:=v3,att:=v6,sta:=v7}) P.a4 P.a5 (by omega) w fun Y3 v4 v5 q4 q5 h b4 b5 w=>?_;have w:=w.cast (show _=CM fq pb {p with nv:=v0,bl:=v1,ins:=v2,far:=v3,maj:=v4,min:=v5,att:=v6,sta:=v7} q0 s v q3 q4 q5 q6 q7 ((Y3+(Y2+Y1))+x) by unfold CM;ac_rfl);obtain⟨m,o⟩:∃ m,ts[d]? = some m:=⟨_,B0 hd⟩;have g:=P.pt.at_ d m o;obtain⟨nv,kv,e1,e2,e3,e4⟩:=g.nm;have az:=P.pt.len;have at1:∀ j,j<ts.length->((vs++cs).drop (j*18)).take 18=(vs.drop (j*18)).take 18:=fun j hj=>by
  have:(j+1)*18<=ts.length*18:=H3 18 (by omega);rw[I4 (by omega),L2 (by simp;omega)]
 have au:((vs++cs).drop (ts.length*18)).take 18=cs:=by
  rw[<-az,U5,<-c.len,L1]
 obtain⟨⟨na,nc,ay⟩,_⟩:=b0.len;unfold gv AW;rw[BU,AG,AG];refine Af w (u:=v0) rfl ?_;rw[ay,As];have sb:∀ k:Vz->Prop,AQ .sub (AB ((ts.length+1:Nat):Int))  AX  k=k (AB (ts.length:Nat)):=fun k=>by
  rw[Ci,ED (by omega) (by omega)];congr 2;omega
 rw[sb,BU,AG,AG];refine Af w (u:=v0) rfl ?_;rw[BU,AG,AG];refine Af w (u:=v0) rfl ?_;refine (b0.rdv.an.bf:RdV 18 v0 (ts.length+1) (vs++cs) _).agg w (i:=d) (by omega) ?_;rw[at1 d hd];have wr:∀ Y X:Res,CM fq pb {p with nv:=v0,bl:=v1,ins:=v2,far:=v3,maj:=v4,min:=v5,att:=v6,sta:=v7} q0 s v q3 q4 q5 q6 q7 (Y+X)=CM fq pb {p with nv:=v0,bl:=v1,ins:=v2,far:=v3,maj:=v4,min:=v5,att:=v6,sta:=v7} q0 s v q3 q4 q5 q6 q7 Y+X:=by
  intros
  unfold CM;ac_rfl
 have w:=w.cast (wr _ _);have bg:m.ks.length<100000:=aw m (D1 o);refine ABk (s46 g.len e1 e2 g.one e3.bf e4.bf (by omega) w fun nv' kv' y h g1 g2 w=>?_);have w:=w.cast (show _=CM fq pb {p with nv:=v0,bl:=v1,ins:=v2,far:=v3,maj:=v4,min:=v5,att:=v6,sta:=v7} q0 s v q3 q4 q5 q6 q7 (y+((Y3+(Y2+Y1))+x)) by unfold CM;ac_rfl);refine⟨Af w rfl rfl,?_⟩;have w:=w.cast (Res.left_comm _ _ _);have n:=g.len;have ao:(((((vs.drop (d*18)).take 18).set 16 nv').set 17 kv').all Value.oneCell')=true:=by
  refine K5.2 fun u b=>?_;rcases List.mem_or_eq_of_mem_set b with q|q
  ·rcases List.mem_or_eq_of_mem_set q with f|f
   ·exact K5.1 g.one u f
   ·rw[f];exact g1.one_
  ·rw[q];exact g2.one_
 refine Vm b0 w (i:=d) (by omega) (by simp[n]) ao fun vs' ar h ah u1 u2 w=>?_;have w:=w.cast (show _=CM fq pb {p with nv:=v0,bl:=v1,ins:=v2,far:=v3,maj:=v4,min:=v5,att:=v6,sta:=v7} ar s v q3 q4 q5 q6 q7 ((y+(Y3+(Y2+Y1)))+x) by unfold CM;ac_rfl);have ha:NJ ts d nm t=(ts++[t]).set d {m with ks:=EV m.ks nm ts.length}:=by unfold NJ;rw[o]
 have a:(NJ ts d nm t).length=ts.length+1:=by rw[ha];simp
 have ae:∀ l:List Bool,bls (l++[false])=bls l++[.bool false]:=fun l=>by unfold bls;simp
 refine K _ h ⟨{p with nv:=v0,bl:=v1,ins:=v2,far:=v3,maj:=v4,min:=v5,att:=v6,sta:=v7},vs',_,_,_,_,ar,s,v,q3,q4,q5,q6,q7,hi,hs,h0,⟨?_,a▸ah,?_,?_,?_,a▸b4,a▸b5,a▸b6,a▸b7⟩,w⟩
 ·refine⟨by rw[a];exact ah.len.2,by omega,fun i u b=>?_,fun u b e he=>?_⟩
  ·by_cases ai:i=d
   ·subst ai;rw[ha,List.getElem?_set_self (by simp;omega)] at b;cases b;rw[u1];have nx:∀ j:Nat,j≠16->j≠17->((((vs.drop (i*18)).take 18).set 16 nv').set 17 kv')[j]? = ((vs.drop (i*18)).take 18)[j]?:=fun j q f=>by
     rw[List.getElem?_set_ne (by omega),List.getElem?_set_ne (by omega)]
    obtain⟨xv,xcs,f1,f2,f3⟩:=g.xa;refine⟨by simp[n],ao,g.md,?_,by rw[nx 0 (by omega) (by omega)];exact g.c0,g.ll,by rw[nx 14 (by omega) (by omega)];exact g.c14,⟨xv,xcs,by rw[nx 15 (by omega) (by omega)];exact f1,f2.bf,f3.mono⟩,⟨nv',kv',?_,?_,g1.an.an,g2.an.an⟩⟩
    ·show (EV m.ks nm ts.length).length<1000000;have:=Uc m.ks nm ts.length;omega
    ·rw[List.getElem?_set_ne (by omega),List.getElem?_set_self (by rw[n];omega)]
    ·rw[List.getElem?_set_self (by rw[O5,n];omega)]
   ·rw[u2 i ai];rw[ha,List.getElem?_set_ne (by omega)] at b;by_cases aj:i<ts.length
    ·rw[Z1 aj] at b;rw[at1 i aj];exact (P.pt.at_ i u b).bf
    ·have:=(G0.1 b).1;rw[C0] at this;have:i=ts.length:=by simp at this;omega
     subst this;rw[au];rw[X1 (I0 _),D6] at b;cases b;exact c.bf
  ·rw[a];rw[ha] at b;rcases List.mem_or_eq_of_mem_set b with q|q
   ·rcases N4.1 q with f|f
    ·have:=P.pt.kid u f e he;omega
    ·simp at f;rw[f,hk] at he;cases he
   ·rw[q] at he;rcases ADh e he with f|f
    ·have:=P.pt.kid m (D1 o) e f;omega
    ·omega
 ·rw[a,ae];exact b1
 ·rw[a,ae];exact b2
 ·rw[a,ae];exact b3
end
def Mi:Am TP 3=some  AF :=by kernel_rfl
def WB (v:Vz)(n c m:Nat)(r:Res):Prop:=∃ vs,Vec 3 1 v n vs r/\(∀ u∈vs,∃ i:Int,u=AB i)/\vs[c]? = some (AB (m:Nat))
def AGh {v:Vz}{n c m j:Nat}{o:H->Prop}(O:WB v n c m r)(q:j<n)(t:m<1000000000)(w:AN (r+x) h)(K:∀ r h,WB v n c (if j=c then m+1 else m) r->AN (r+x) h->o h) :
  Ap (.slice 1) v (AB (j:Nat)) fun a=>Ae false 1 a h fun a=>AQ .add a  AX  fun b=>Ap (.slice 1) v (AB (j:Nat)) fun p=>BV 1 p b h o:=by
 obtain⟨vs,a,hi,f⟩:=O;have s:vs.length=n:=by have:=a.len.2;omega
 obtain⟨i,g⟩:=hi vs[j] (I7 _);have l:vs[j]? = some (AB i):=by rw[<-g];exact B0 (by omega)
 refine CF a w l ?_;have ad:∀ k:Vz->Prop,AQ .add (AB i) AX k=k (AB (IntKind.i64.wrap (i+1))):=fun k=>by rw[BT]
 rw[ad];refine DV a w q rfl rfl fun r h a w=>K r h ⟨_,a,fun u g=>?_,?_⟩ w
 ·rcases List.mem_or_eq_of_mem_set g with d|d
  ·exact hi u d
  ·exact⟨_,d⟩
 ·by_cases e:j=c
  ·subst e;rw[D0 rfl,List.getElem?_set_self (by omega)];rw[l] at f;cases f;rw[ED (by omega) (by omega)];rfl
  ·rw[F0 e,List.getElem?_set_ne e,f]
def Gf (c:Nat)(l:List (Bs×Nat)):Nat:=(l.filter (fun e=>decide (e.2=c))).length
def LF {c:Nat}{l m:List (Bs×Nat)}:Gf c (l++m)=Gf c l+Gf c m:=by unfold Gf;rw[L5,C0]
def ZX {c:Nat}{l:List (Bs×Nat)}:Gf c l<=l.length:=G7 _ _
def HX (ts:List SN):List (Bs×Nat):=ts.flatMap (·.ks)
def Th {a b:List SN}:HX (a++b)=HX a++HX b:=by unfold HX;rw[W5]
section
variable {nsv:Vz} {vs:List Vz} {ts:List SN} {c:Nat} {tc:SN}
def ASJ (d:RdV 18 nsv ts.length vs x)(pt:PenT x vs ts)(hc:0<c)(o:ts[c]? = some tc)(hd:kindB tc.en≠16384)(hk:tc.ks=[])(hn:(HX ts).length<1000000)(w:AN x h)
  (K:∀ v r y h,WB v ts.length c (Gf c (HX ts)) r->AN (r+(y+x)) h->Q v h):ALp (.agg ⟨[nsv]⟩) h Q:=by
 have bg:c<ts.length:=(G0.1 o).1;have bp:=pt.n;obtain⟨⟨na,nc,ai⟩,_⟩:=d.len;unfold ALp AW;refine BG w fun b1 h w=>?_;have w:AN (pts b1 (.cells ⟨[nsv]⟩ 40 (0,0))+x) h:=w;rw[AG];refine Af w (show (⟨[nsv]⟩:Array Vz)[0]? = some nsv from rfl) ?_;rw[ai,As];refine Di w Mi rfl (I0 _) (by omega) (by omega) fun ob h w=>?_;rw[AG];refine Af w (show (⟨[nsv]⟩:Array Vz)[0]? = some nsv from rfl) ?_;rw[ai,As,<-ai];have O0:WB (.slice (some ⟨ob,0,none⟩) ts.length ts.length) ts.length c 0 (pts ob (.cells ⟨List.replicate ts.length  AF ⟩ 3 (0,0))):=by
  refine⟨_,Vec.own' (I0 _) (by simp) rfl,fun u hu=>?_,?_⟩
  ·have:=List.mem_of_mem_take hu;exact⟨0,List.eq_of_mem_replicate this⟩
  ·rw[I2,D0 (by omega),S6,D0 bg];rfl
 generalize (Value.slice (some ⟨ob,0,none⟩) ts.length ts.length)=v at O0 ⊢;generalize pts ob (.cells ⟨List.replicate ts.length AF ⟩ 3 (0,0))=r0 at O0 w;unfold zg;refine Bj (fun mm u h'=>∃ i r y,mm+i=ts.length/\u=AB (i:Nat)/\WB v ts.length c (Gf c (HX (ts.take i))) r/\AN (r+(pts b1 (.cells ⟨[nsv]⟩ 40 (0,0))+(y+x))) h') ts.length ⟨0,r0,0,rfl,rfl,O0,w.cast (by rw[Res.zero_add])⟩ ?_;rintro rec mm u h' ⟨i,r,y,hi,rfl,O,w⟩ au;have bh:∀ l:List SN,∀ m:List SN,ts=l++m->Gf c (HX l)<=1000000:=fun l m e=>by
  have h1:=ZX (c:=c) (l:=HX l);rw[e,Th,C0] at hn;omega
 unfold Xb BL;rw[AR];refine AS (fun b=>?_) (fun b=>?_)
 ·have b:i<ts.length:=by omega
  obtain⟨t,ht⟩:∃ t,ts[i]? = some t:=⟨_,B0 b⟩;have ct:=pt.at_ i t ht;have bk:t∈ts:=D1 ht;refine (d.bf.bf.bf:RdV 18 nsv ts.length vs _).agg w b ?_;refine AV w CT rfl fun b5 h w=>?_;refine AD w ⟨(vs.drop (i*18)).take 18⟩ (AU (ct.len.trans rfl)) ct.len (by simp) ct.one fun h w=>?_;refine BD w ct.len ?_;refine Ed (ko ct.c0 ct.md w fun y2 h w=>?_);have k1:∀ Y2 B R P Y X:Res,Y2+(B+(R+(P+(Y+X))))=R+(P+(B+((Y2+Y)+X))):=by intros;ac_rfl
  have w:=w.cast (k1 _ _ _ _ _ _);have c0:∀ {m:Nat} (k:Vz->Prop),AQ .eql (cU16 (kindB m:Nat))  Bz  k=k (.bool (decide (kindB m=16384))):=fun k=>by
   rw[AT];congr 2;simp;omega
  have bj:(ts.take (i+1))=ts.take i++[t]:=by rw[O3,ht];rfl
  have q:HX (ts.take (i+1))=HX (ts.take i)++t.ks:=by rw[bj,Th];unfold HX;simp
  have az:=bh (ts.take (i+1)) (ts.drop (i+1)) (B6 _ _).symm;rw[q,LF] at az;obtain⟨nv,kv,q1,q2,q3,q4⟩:=ct.nm;have s:∀ (r y:Res) (h:H),WB v ts.length c (Gf c (HX (ts.take i))) r->AN (r+(pts b1 (.cells ⟨[nsv]⟩ 40 (0,0))+(pts b5 (.cells ⟨(vs.drop (i*18)).take 18⟩ 63 (0,0))+(y+x)))) h->Xd Q rec (Pt b1) v (AB (i:Nat)) (Pt b5) nsv (AB (ts.length:Nat)) (AB (i:Nat)) h:=fun r y h O w=>by
   obtain⟨⟨ka,kc,ar⟩,_⟩:=q4.len;unfold Xd AW;rw[AG];refine Af w (EI q2) ?_;rw[ar,As,<-ar];unfold zh;refine Bj (fun mm u h'=>∃ j r y,mm+j=t.ks.length/\u=AB (j:Nat)/\WB v ts.length c (Gf c (HX (ts.take i))+Gf c (t.ks.take j)) r/\AN (r+(pts b1 (.cells ⟨[nsv]⟩ 40 (0,0))+(pts b5 (.cells ⟨(vs.drop (i*18)).take 18⟩ 63 (0,0))+(y+x)))) h') t.ks.length ⟨0,r,y,rfl,rfl,O,w⟩ ?_;rintro rec2 ay u h' ⟨j,r,y,hj,rfl,O,w⟩ g;have bn:=ct.kl;unfold Xc BL;rw[AR];refine AS (fun f=>?_) (fun f=>?_)
   ·have f:j<t.ks.length:=by omega
    obtain⟨e,he⟩:∃ e,t.ks[j]? = some e:=⟨_,B0 f⟩;have ae:=pt.kid t bk e (D1 he);have ah:i≠c:=fun e1=>by
     subst e1;rw[ht] at o;cases o;rw[hk] at f;cases f
    have aw:t.ks.take (j+1)=t.ks.take j++[e]:=by rw[O3,he];rfl
    have hb:∀ j,Gf c (t.ks.take j)<=Gf c t.ks:=fun j=>by
     have:=LF (c:=c) (l:=t.ks.take j) (m:=t.ks.drop j);rw[B6] at this;omega
    have p:(if e.2=c then Gf c (HX (ts.take i))+Gf c (t.ks.take j)+1 else Gf c (HX (ts.take i))+Gf c (t.ks.take j))=Gf c (HX (ts.take i))+Gf c (t.ks.take (j+1)):=by
     rw[aw,LF];unfold Gf;by_cases e1:e.2=c
     ·simp[e1];omega
     ·simp[e1]
    have g4:(ints (t.ks.map (·.2)))[j]? = some (AB (e.2:Nat)):=by unfold ints;simp[he]
    refine (q4.bf.bf.bf.bf:RdV 1 kv t.ks.length (ints (t.ks.map (·.2))) _).get w g4 ?_;refine AGh O ae (by have:=hb j;omega) w fun r h O w=>?_;rw[p] at O;rw[AG];refine Af w (show (⟨[nsv]⟩:Array Vz)[0]? = some nsv from rfl) ?_;obtain⟨te,bi⟩:∃ te,ts[e.2]? = some te:=⟨_,B0 ae⟩;have aj:=pt.at_ _ te bi;refine (d.bf.bf.bf.bf:RdV 18 nsv ts.length vs _).agg w ae ?_;refine Ed (ko aj.c0 aj.md w fun y3 h w=>?_);have w:=w.cast (Kq7 _ _ _ _ _ _);have ad:∀ k:Vz->Prop,AQ .add (AB (j:Nat)) AX  k=k (AB (j+1:Nat)):=fun k=>by rw[Az (n:=1),Bq (by omega)]
    rw[c0];refine AS (fun _=>?_) (fun _=>?_)
    ·refine AGh O b (by have:=hb (j+1);omega) w fun r h O w=>?_;rw[F0 ah] at O;rw[ad];exact g (ay-1) _ _ ⟨j+1,r,_,by omega,rfl,O,w⟩ (by omega)
    ·rw[ad];exact g (ay-1) _ _ ⟨j+1,r,_,by omega,rfl,O,w⟩ (by omega)
   ·have:j=t.ks.length:=by omega
    rw[this,L1] at O;rw[<-LF,<-q] at O;rw[Az (n:=1),Bq (by omega)];exact au (mm-1) _ _ ⟨i+1,r,_,by omega,rfl,O,w.cast (J3 (r + ·) (Kq3 _ _ _ _))⟩ (by omega)
  rw[c0];refine AS (fun ao=>?_) (fun _=>s _ _ _ O w);have ah:i≠c:=fun e1=>by
   subst e1;rw[ht] at o;cases o;exact hd ao
  refine AGh O b (by omega) w fun r h O w=>?_;rw[F0 ah] at O;exact s _ _ _ O w
 ·have:i=ts.length:=by omega
  rw[this,L1] at O;obtain⟨bm,a,u1,u2⟩:=O;obtain⟨⟨va,vc,hv⟩,_⟩:=a.len;rw[hv,As,<-hv];have g0:∀ k:Vz->Prop,AQ .gtr (AB (ts.length:Nat))  AF  k=k  AI :=fun k=>by
   rw[Ah];congr 2;simp;omega
  rw[g0,Ab];refine AGh (j:=0) ⟨bm,a,u1,u2⟩ (by omega) (by have:=ZX (c:=c) (l:=HX ts);omega) w fun r h O w=>?_;rw[F0 (by omega)] at O;exact K v r _ h O (w.cast (by rw[Res.assoc]))
end
section
variable {fq:Res} {pb:Nat} {inl spk:Bool} {ts:List SN} {bl ins far:List Bool} {p:PE} {vs c4 c5 c6 c7:List Vz} {rN r1 r2 r3 r4 r5 r6 r7:Res}
def FT {sz n:Nat}{v:Vz}{us:List Vz}(d:RdV sz v n us x):RdV sz v n us (CM fq pb p rN r1 r2 r3 r4 r5 r6 r7 x):=d.an.bf.bf.bf.bf.bf.bf.bf.bf.bf
def Kl (P:II p ts bl ins far vs c4 c5 c6 c7 rN r1 r2 r3 r4 r5 r6 r7 x):RdV 18 p.nv ts.length vs (CM fq pb p rN r1 r2 r3 r4 r5 r6 r7 y):=P.aN.rdv.an.bf
def PK (P:PenT x vs ts):PenT (CM fq pb p rN r1 r2 r3 r4 r5 r6 r7 x) vs ts:=(show PenT (x+fq) vs ts by rw[Res.comm];exact P.bf).bf.bf.bf.bf.bf.bf.bf.bf.bf
def kx {cs:List Vz}{t:SN}(c:SNC x cs t):SNC (CM fq pb p rN r1 r2 r3 r4 r5 r6 r7 x) cs t:=(show SNC (x+fq) cs t by rw[Res.comm];exact c.bf).bf.bf.bf.bf.bf.bf.bf.bf.bf
def NZ {m:Nat}:AQ .eql (cU16 (kindB m:Nat))  Bz  k=k (.bool (decide (kindB m=16384))):=by
 rw[AT];congr 2;simp;omega
def ASI {nmv:Vz}{rt:SN}(P:CY fq pb inl spk ts bl ins far x h)(d:ts[0]? = some rt)(n:kindB rt.en=16384)(dn:RdV 1 nmv 1 [str [102]] x)
  (K:∀ y h,CY fq pb inl spk ts bl ins far (y+x) h->Q (.tuple #[AB ((0:Nat):Int),str [102],.bool true]) h):ALo (Pt pb) nmv h Q:=by
 obtain⟨p,vs,c4,c5,c6,c7,rN,r1,r2,r3,r4,r5,r6,r7,hi,o,m,P,w⟩:=P;have a:0<ts.length:=(G0.1 d).1;obtain⟨⟨na,s,b⟩,_⟩:=dn.len;have e1:∀ k:Vz->Prop,AQ .eql (AB ((1:Nat):Int))  AF  k=k  AE:=fun k=>by rw[AT];rfl
 have e2:∀ k:Vz->Prop,AQ .sub (AB ((1:Nat):Int))  AX  k=k (AB ((0:Nat):Int)):=fun k=>by rw[Ci,ED (by omega) (by omega)];rfl
 have ln:∀ k:Vz->Prop,DM nmv k=k (AB ((1:Nat):Int)):=fun k=>by rw[b,As]
 unfold ALo AW;rw[ln,e1,AJ,BU,AG];refine DR w (l':=[p.nv]) rfl (by show 0+1<=14+0;omega) ?_;rw[ln,e2];refine Md (f:=str) (l:=[[102]]) dn (Q2 _) fun t e=>?_;refine SG (AP5 (names:=[]) (Kl P) (PK P.pt) a (FT e) (by decide) w fun y h w=>?_);rw[show ADR (Fq ts 0 [])=.tuple #[AB ((0:Nat):Int),.bool true] from rfl,BF,BO,ln,e2];refine (FT dn).bf.get w (i:=0) rfl ?_;rw[CV,BU,AG,AG];refine Af w (u:=p.nv) rfl ?_;refine ((Kl P).bf:RdV 18 p.nv ts.length vs _).agg w a ?_;have c:=P.pt.at_ 0 rt d;refine Ed (ko c.c0 c.md w fun q h w=>?_);rw[NZ,n,H0 rfl,CV];have g:∀ k:Vz->Prop,PB (str [102]) k=k  AX :=fun k=>DH;rw[g];have j:∀ k:Vz->Prop,AQ .leq  AX (AB 255) k=k  AI :=fun k=>by rw[BY];rfl
 rw[j];exact K (q+y) h ⟨p,vs,c4,c5,c6,c7,rN,r1,r2,r3,r4,r5,r6,r7,hi,o,m,P.bf,w.cast (by rw[Dz,Dz,Res.assoc])⟩
end
def Fz (l m:AL):AL:=m.foldl (fun o a=>Ks o a.1 a.2) l
def Ql {l m:AL}{a:Bs×Bs}:Fz l (m++[a])=Ks (Fz l m) a.1 a.2:=by unfold Fz;rw[M6];rfl
def HB (l:AL):Prop:=∀ a∈l,a.1.length<=100000000/\a.2.length<=100000000
def AHm {l:AL}{nm v:Bs}{a:Bs×Bs}(h:a∈Ks l nm v):a=(nm,v)\/a∈l:=by
 unfold Ks at h;rcases N4.1 h with b|b
 ·exact .inr (G5.1 b).1
 ·rcases I1.1 b with c|c
  ·exact .inl c
  ·exact .inr (G5.1 c).1
def Uv {l:AL}{a:Bs×Bs}:∀ {m:AL},a∈Fz l m->a∈l\/a∈m:=fun {m} h=>by
 induction m generalizing l with
 | nil=>exact .inl h
 | cons b m e=>
  rcases e (l:=Ks l b.1 b.2) h with c|c
  ·rcases AHm c with d|d
   ·exact .inr (by rw[d];exact T0)
   ·exact .inl d
  ·exact .inr (U0 _ c)
def Uu (l:AL):∀ (m:AL),(Fz l m).length<=l.length+m.length:=fun m=>by
 induction m generalizing l with
 | nil=>exact I0 _
 | cons b m a=>
  have:=a (Ks l b.1 b.2);have:=TL l b.1 b.2;show (Fz (Ks l b.1 b.2) m).length<=_;rw[J1];omega
def AHY {cs:List Vz}{t:SN}{u nv kv:Vz}{ucs:List Vz}{l:AL}{ks:List (Bs×Nat)}(c:SNC z cs t)(i:ks.length<1000000)(g:RdV 2 u l.length ucs z)(A:AtV z ucs l)(d1:RdV 1 nv ks.length (strs (ks.map (·.1))) z)(f:RdV 1 kv ks.length (ints (ks.map (·.2))) z) :
  SNC z (((cs.set 15 u).set 16 nv).set 17 kv) {t with xs:=l,ks:=ks}:=by
 have nx:∀ j:Nat,j≠15->j≠16->j≠17->(((cs.set 15 u).set 16 nv).set 17 kv)[j]? = cs[j]?:=fun j n a b=>by
  rw[List.getElem?_set_ne (by omega),List.getElem?_set_ne (by omega),List.getElem?_set_ne (by omega)]
 have d:=c.len;refine⟨by simp[d],?_,c.md,i,by rw[nx 0 (by omega) (by omega) (by omega)];exact c.c0,c.ll,by rw[nx 14 (by omega) (by omega) (by omega)];exact c.c14,⟨u,ucs,?_,g,A⟩,⟨nv,kv,?_,?_,d1,f⟩⟩
 ·refine K5.2 fun v m=>?_;rcases List.mem_or_eq_of_mem_set m with a|a
  ·rcases List.mem_or_eq_of_mem_set a with b|b
   ·rcases List.mem_or_eq_of_mem_set b with e|e
    ·exact K5.1 c.one v e
    ·rw[e];exact g.one_
   ·rw[b];exact d1.one_
  ·rw[a];exact f.one_
 ·rw[List.getElem?_set_ne (by omega),List.getElem?_set_ne (by omega),List.getElem?_set_self (by rw[d];omega)]
 ·rw[List.getElem?_set_ne (by omega),List.getElem?_set_self (by rw[O5,d];omega)]
 ·rw[List.getElem?_set_self (by rw[O5,O5,d];omega)]
def AOQ {cs:List Vz}{t:SN}(c:SNC z cs t):SNC z (cs.set 13  cst__slice_none_0_0 ) t:=by
 have nx:∀ j:Nat,j≠13->(cs.set 13  cst__slice_none_0_0)[j]? = cs[j]?:=fun j d=>List.getElem?_set_ne (by omega);obtain⟨xv,xcs,a1,a2,a3⟩:=c.xa;obtain⟨nv,kv,b1,b2,b3,b4⟩:=c.nm;refine⟨by simp[c.len],?_,c.md,c.kl,by rw[nx 0 (by omega)];exact c.c0,c.ll,by rw[nx 14 (by omega)];exact c.c14,⟨xv,xcs,by rw[nx 15 (by omega)];exact a1,a2,a3⟩,⟨nv,kv,by rw[nx 16 (by omega)];exact b1,by rw[nx 17 (by omega)];exact b2,b3,b4⟩⟩;refine K5.2 fun v b=>?_;rcases List.mem_or_eq_of_mem_set b with a|a
 ·exact K5.1 c.one v a
 ·rw[a];rfl
section
variable {fq:Res} {pb c b7 b10:Nat} {inl:Bool} {ts:List SN} {bl ins far:List Bool} {vs c4 c5 c6 c7 cs cs7 co:List Vz} {rN r1 r2 r3 r4 r5 r6 r7:Res} {tn to:SN} {F:Prop}
def AEP {t':SN}(n:ts[c]? = some to)(s:∀ e∈t'.ks,e.2<ts.length){p:PE}(P:II p ts bl ins far vs c4 c5 c6 c7 rN r1 r2 r3 r4 r5 r6 r7 (y+x))(hi:p.inl=inl)(q:p.left=0)(C:SNC (y+x) cs7 t')(w:AN (CM fq pb p rN r1 r2 r3 r4 r5 r6 r7 (pts b7 (.cells ⟨cs7⟩ 63 (0,0))+(pts b10 (.cells ⟨co⟩ 63 (0,0))+(y+x)))) h)
  (K:∀ y h,CY fq pb inl p.spk (ts.set c t') bl ins far (y+x) h->Q (.tuple #[]) h):Xa Q (Pt pb) (AB (c:Nat)) (Pt b7) h:=by
 have o:c<ts.length:=(G0.1 n).1;unfold Xa AW;rw[AG];refine AD w ⟨cs7.set 13  cst__slice_none_0_0⟩ (by rw[show (Value.slice none 0 0).cells.toList=[.slice none 0 0] from rfl,AY];rfl) rfl (by rw[O2,C.len];omega) rfl fun h w=>?_;rw[BU,AG,AG];refine Af w (u:=p.nv) rfl ?_;have j:=AOQ C;refine BD (b:=b7) w j.len ?_;have w:=w.cast (Res.left_comm _ _ _);refine Vm P.aN w o j.len j.one fun vs' g h f u1 u2 w=>?_;have a:(ts.set c t').length=ts.length:=O5 ..;refine K _ h ⟨p,vs',c4,c5,c6,c7,g,r1,r2,r3,r4,r5,r6,r7,hi,rfl,q,⟨⟨by rw[a];exact f.len.2,by rw[a];exact P.pt.n,fun i t d=>?_,fun t d e m=>?_⟩,by rw[a];exact f,by rw[a];exact P.a1,by rw[a];exact P.a2,by rw[a];exact P.a3,by rw[a];exact P.a4,by rw[a];exact P.a5,by rw[a];exact P.a6,by rw[a];exact P.a7⟩,w.cast (show _=CM fq pb p g r1 r2 r3 r4 r5 r6 r7 ((pts b7 _+(pts b10 _+y))+x) by unfold CM;ac_rfl)⟩
 ·by_cases e:i=c
  ·subst e;rw[List.getElem?_set_self o] at d;cases d;rw[u1,Res.assoc,Res.assoc];exact j.bf.bf
  ·rw[List.getElem?_set_ne (by omega)] at d;rw[u2 i e,Res.assoc,Res.assoc];exact (P.pt.at_ i t d).bf.bf
 ·rw[a];rcases List.mem_or_eq_of_mem_set d with l|l
  ·exact P.pt.kid t l e m
  ·rw[l] at m;exact s e m
def AEQ {t':SN}(a:ts[c]? = some to)(d:∀ e∈t'.ks,e.2<ts.length){p:PE}(P:II p ts bl ins far vs c4 c5 c6 c7 rN r1 r2 r3 r4 r5 r6 r7 (y+x))(hi:p.inl=inl)(b:p.left=0)(C:SNC (y+x) cs7 t')(f:SNC (y+x) co to)(w:AN (CM fq pb p rN r1 r2 r3 r4 r5 r6 r7 (pts b7 (.cells ⟨cs7⟩ 63 (0,0))+(pts b10 (.cells ⟨co⟩ 63 (0,0))+(y+x)))) h)
  (K:∀ y h,CY fq pb inl p.spk (ts.set c t') bl ins far (y+x) h->Q (.tuple #[]) h):SC Q (Pt pb) (AB (c:Nat)) (Pt b7) (Pt b10) h:=by
 obtain⟨xv,xcs,a1,a2,a3⟩:=f.xa;obtain⟨⟨xa,g,rfl⟩,_⟩:=a2.len;unfold SC AW;rw[AG];refine Af w (EI a1) ?_;rw[As,Ah];refine AS (fun _=>?_) (fun _=>?_)
 ·rw[BU,AG];refine AD w ⟨PE.cells {p with exa:=false}⟩ ((AY _ _ _).trans rfl) rfl (by show 13+1<=14;omega) rfl fun h w=>?_;exact AEP (p:={p with exa:=false}) a d ⟨P.pt,P.aN,P.a1,P.a2,P.a3,P.a4,P.a5,P.a6,P.a7⟩ hi b C w K
 ·exact AEP a d P hi b C w K
end
def Me {b o:Nat}{cs:List Vz}{v:Vz}{c:H->Prop}{x':Res}{T:Tj}(w:AN x h)[Be b x (.cells ⟨cs⟩ T (0,0))][ZQ b x (.cells ⟨cs⟩ T (0,0)) (.cells ⟨cs.set o v⟩ T (0,0)) x'](a:v.cells=#[v])(e:o<cs.length)(d:Value.oneCell' v=true)(K:∀ h,AN x' h->c h):BV 1 (.pointer (some ⟨b,o,none⟩)) v h c:=
 AD w ⟨cs.set o v⟩ (by rw[a,AY];rfl) (by rw[a];rfl) (by simp;omega) (by rw[a];simp[d]) K
section
variable {fq:Res} {pb c b7 b10:Nat} {inl:Bool} {ts:List SN} {bl ins far:List Bool} {vs c4 c5 c6 c7 cs co ucs:List Vz} {rN r1 r2 r3 r4 r5 r6 r7:Res} {tn to:SN} {u:Vz} {l:AL}
def AED {sz n:Nat}{v:Vz}{us:List Vz}(d:RdV sz v n us x):v.cells=#[v]:=by obtain⟨⟨_,_,rfl⟩,_⟩:=d.len;rfl
def AN0 (f:ts[c]? = some to)(o:∀ t∈ts,∀ e∈t.ks,e.2<ts.length){p:PE}(P:II p ts bl ins far vs c4 c5 c6 c7 rN r1 r2 r3 r4 r5 r6 r7 (y+x))(hi:p.inl=inl)(h0:p.left=0)(C:SNC (y+x) cs tn)(m:SNC (y+x) co to)(n:RdV 2 u l.length ucs (y+x))(A:AtV (y+x) ucs l)(hl:l.length<=800)(hb:HB l)
  (w:AN (CM fq pb p rN r1 r2 r3 r4 r5 r6 r7 (pts b7 (.cells ⟨cs⟩ 63 (0,0))+(pts b10 (.cells ⟨co⟩ 63 (0,0))+(y+x)))) h)
  (K:∀ s y h,(s=true->p.spk=true/\Dy inl {tn with xs:=l,ks:=to.ks}=(0,true))->CY fq pb inl s (ts.set c {tn with xs:=l,ks:=to.ks}) bl ins far (y+x) h->Q (.tuple #[]) h):OV Q (Pt pb) (AB (c:Nat))  AF (Pt b7) (Pt b10) u h:=by
 obtain⟨nv,kv,q1,q,v,q4⟩:=m.nm;have ah:=C.len;have j:=AHY (ks:=to.ks) C m.kl n A v q4;have hk:∀ e∈to.ks,e.2<ts.length:=o to (D1 f);unfold OV AW;rw[AG];refine Af w (EI q1) ?_;rw[AG];refine Af w (EI q) ?_;rw[AG];refine Me w (AED n) (by omega) n.one_ fun h w=>?_;refine⟨Af w (EI q1) rfl,Af w (EI q) rfl,?_⟩;rw[AG];refine Me w (AED v) (by simp;omega) v.one_ fun h w=>?_;refine⟨Af w (EI q) rfl,?_⟩;rw[AG];refine Me w (AED q4) (by simp;omega) q4.one_ fun h w=>?_;refine BD (b:=b7) w j.len ?_;refine fg (APv (p:=p) (t:={tn with xs:=l,ks:=to.ks}) (kx j.bf.bf) hl hb w fun iv ba bc g h w=>?_);rw[BF,BO,GE,CI,hi];have w:=w.cast (show _=CM fq pb p rN r1 r2 r3 r4 r5 r6 r7 (pts b7 _+(pts b10 _+((g+y)+x))) by unfold CM;ac_rfl);have e:(g+y)+x=g+(y+x):=Res.assoc _ _ _;have d:II p ts bl ins far vs c4 c5 c6 c7 rN r1 r2 r3 r4 r5 r6 r7 ((g+y)+x):=e▸P.bf;have C3:=e▸j.bf (y:=g);have i:SNC ((g+y)+x) co to:=e▸m.bf;have stop:BS (Pt pb) fun a=>Aw 12 a fun ae=>BV 1 ae  AE  h fun h=>SC Q (Pt pb) (AB (c:Nat)) (Pt b7) (Pt b10) h:=by
  rw[BU,AG];refine AD w ⟨PE.cells {p with spk:=false}⟩ ((AY _ _ _).trans rfl) rfl (by show 12+1<=14;omega) rfl fun h w=>?_;exact AEQ (p:={p with spk:=false}) (t':={tn with xs:=l,ks:=to.ks}) f hk ⟨d.pt,d.aN,d.a1,d.a2,d.a3,d.a4,d.a5,d.a6,d.a7⟩ hi h0 C3 i w fun y h=>K false y h fun e=>by cases e
 cases hf:(Dy inl {tn with xs:=l,ks:=to.ks}).2 with
 | false=>rw[T5,Hi];exact stop
 | true=>
  rw[P3,Bt,As];have g0:∀ k:Vz->Prop,AQ .gtr (AB ((Dy inl {tn with xs:=l,ks:=to.ks}).1:Nat)) AF  k=k (.bool (decide (0<(Dy inl {tn with xs:=l,ks:=to.ks}).1))):=fun k=>by
   rw[Ah];congr 2;simp
  rw[g0];refine AS (fun _=>stop) (fun hz=>?_);exact AEQ (t':={tn with xs:=l,ks:=to.ks}) f hk d hi h0 C3 i w fun y h=>K _ y h fun e=>⟨e,Prod.ext (by show (Dy inl {tn with xs:=l,ks:=to.ks}).1=0;omega) hf⟩
theorem ASH {spk:Bool}{xa:Option Addr}{m xc:Nat}(j:ts[c]? = some to)(bg:∀ t∈ts,∀ e∈t.ks,e.2<ts.length)(C:SNC x cs tn)(hl:to.xs.length+tn.xs.length<=800)(ar:HB to.xs)(au:HB tn.xs)(bp:far.length=ts.length)(bq:ins.length=ts.length)(P:CY fq pb inl spk ts bl ins far x h)
  (K:∀ s y h,(s=true->spk=true/\Dy inl {tn with xs:=Fz to.xs tn.xs,ks:=to.ks}=(0,true)/\m=0/\far[c]? = some false/\ins[c]? = some false/\∀ a∈Fz to.xs tn.xs,(compL a.1 PX).2≠[])->CY fq pb inl s (ts.set c {tn with xs:=Fz to.xs tn.xs,ks:=to.ks}) bl ins far (y+x) h->Q (.tuple #[]) h) :
  ALn (Pt pb) (AB (c:Nat)) (.agg ⟨cs⟩) AF (.slice xa m xc) h Q:=by
 obtain⟨p,vs,c4,c5,c6,c7,rN,r1,r2,r3,r4,r5,r6,r7,hi,hs,h0,P,w⟩:=P;have hc:c<ts.length:=(G0.1 j).1;have l:=P.pt.at_ c to j;obtain⟨xo,bn,o1,o2,o3⟩:=l.xa;obtain⟨xn,bm,n1,n2,n3⟩:=C.xa;obtain⟨⟨na,nc,aj⟩,_⟩:=n2.len;unfold ALn AW;refine BG w fun b7 h w=>?_;have w:AN (pts b7 (.cells ⟨cs⟩ 63 (0,0))+CM fq pb p rN r1 r2 r3 r4 r5 r6 r7 x) h:=w;rw[BU,AG,AG];refine Af w (u:=p.nv) rfl ?_;refine ((Kl P).bf:RdV 18 p.nv ts.length vs _).agg w hc ?_;refine AV w CT rfl fun b10 h w=>?_;refine AD w ⟨(vs.drop (c*18)).take 18⟩ (AU (l.len.trans rfl)) l.len (by simp) l.one fun h w=>?_;rw[AG];refine Af w (EI o1) ?_;rw[AG];refine Af w (EI n1) ?_;rw[aj,As,<-aj];generalize bt:(vs.drop (c*18)).take 18=co at l w o1;have w:=w.cast (show _=CM fq pb p rN r1 r2 r3 r4 r5 r6 r7 (pts b7 (.cells ⟨cs⟩ 63 (0,0))+(pts b10 (.cells ⟨co⟩ 63 (0,0))+(0+x))) by unfold CM;rw[Res.zero_add];ac_rfl);unfold zc;refine DF (fun mm u0 u1 h'=>∃ i y ucs,mm+i=tn.xs.length/\u1=AB (i:Nat)/\RdV 2 u0 (Fz to.xs (tn.xs.take i)).length ucs (y+x)/\AtV (y+x) ucs (Fz to.xs (tn.xs.take i))/\AN (CM fq pb p rN r1 r2 r3 r4 r5 r6 r7 (pts b7 (.cells ⟨cs⟩ 63 (0,0))+(pts b10 (.cells ⟨co⟩ 63 (0,0))+(y+x)))) h') tn.xs.length ⟨0,0,bn,rfl,rfl,o2.bf,o3.mono,w⟩ ?_;rintro rec mm u0 u1 h' ⟨i,y,ucs,bz,rfl,du,A,w⟩ ah;have bh:=Uu to.xs (tn.xs.take i);have ce:(tn.xs.take i).length<=tn.xs.length:=List.length_take_le' _ _;unfold XZ BL;rw[AR];refine AS (fun g=>?_) (fun g=>?_)
 ·have g:i<tn.xs.length:=by omega
  obtain⟨a,ha⟩:∃ a,tn.xs[i]? = some a:=⟨_,B0 g⟩;obtain⟨v,hv,dv⟩:=n3.at ha;have ai:tn.xs.take (i+1)=tn.xs.take i++[a]:=by rw[O3,ha];rfl
  refine ((FT n2.bf.bf.bf:RdV 2 xn tn.xs.length bm _)).agg w g ?_;rw[hv];refine AV w CU rfl fun b13 h w=>?_;refine AD w ⟨[str a.1,v]⟩ (AU (by rfl)) rfl (by simp) (Fm dv) fun h w=>?_;rw[AG];refine Af w (show (⟨[str a.1,v]⟩:Array Vz)[0]? = some (str a.1) from rfl) ?_;rw[AG];refine Af w (show (⟨[str a.1,v]⟩:Array Vz)[1]? = some v from rfl) ?_;refine SK (s16 (z:=y+x) (FT du.bf.bf).bf A (by omega) dv.bf w fun u2 cs2 q d h a2 A2 w=>?_);rw[Az (n:=1),Bq (by omega)];have w:=w.cast (show _=CM fq pb p rN r1 r2 r3 r4 r5 r6 r7 (pts b7 (.cells ⟨cs⟩ 63 (0,0))+(pts b10 (.cells ⟨co⟩ 63 (0,0))+((q+(d+(pts b13 (.cells ⟨[str a.1,v]⟩ 86 (0,0))+y)))+x))) by unfold CM;ac_rfl);refine ah (mm-1) _ _ _ ⟨i+1,_,cs2,by omega,rfl,?_,?_,w⟩ (by omega)
  ·rw[ai,Ql,Res.assoc];exact a2.rdv.an
  ·rw[ai,Ql];rw[show (q+(d+(pts b13 (.cells ⟨[str a.1,v]⟩ 86 (0,0))+y)))+x=(q+(d+pts b13 (.cells ⟨[str a.1,v]⟩ 86 (0,0))))+(y+x) by ac_rfl];exact A2.mono
 ·have az:i=tn.xs.length:=by omega
  rw[az,L1] at du A bh;have hb:HB (Fz to.xs tn.xs):=fun a ha=>by
   rcases Uv ha with h1|h1
   ·exact ar a h1
   ·exact au a h1
  have e:∀ d:Res,(d+y)+x=d+(y+x):=fun _=>Res.assoc _ _ _;refine AFt (ASK (FT du.bf.bf) A (by omega) w fun bb d h aw w=>?_);have w:=w.cast (show _=CM fq pb p rN r1 r2 r3 r4 r5 r6 r7 (pts b7 (.cells ⟨cs⟩ 63 (0,0))+(pts b10 (.cells ⟨co⟩ 63 (0,0))+((d+y)+x))) by unfold CM;ac_rfl);have f:II p ts bl ins far vs c4 c5 c6 c7 rN r1 r2 r3 r4 r5 r6 r7 ((d+y)+x):=P.bf;have go:∀ (b:Bool),(b=true->m=0/\far[c]? = some false/\ins[c]? = some false/\∀ a∈Fz to.xs tn.xs,(compL a.1 PX).2≠[])->∀ (p':PE) (h:H),II p' ts bl ins far vs c4 c5 c6 c7 rN r1 r2 r3 r4 r5 r6 r7 ((d+y)+x)->p'.inl=inl->p'.left=0->(p'.spk=true->p.spk=true/\b=true)->AN (CM fq pb p' rN r1 r2 r3 r4 r5 r6 r7 (pts b7 (.cells ⟨cs⟩ 63 (0,0))+(pts b10 (.cells ⟨co⟩ 63 (0,0))+((d+y)+x)))) h->OV Q (Pt pb) (AB (c:Nat)) AF  (Pt b7) (Pt b10) u0 h:=fun b hF p' h P' ay ao bi w=>by
   refine AN0 j bg P' ay ao C.bf l.bf (e d▸du.bf) (e d▸A.mono) (by omega) hb w fun s y3 h bj PO=>?_;have e3:y3+x=y3+x:=rfl;exact K s y3 h (fun q=>by
    obtain⟨s1,s2⟩:=bj q;obtain⟨s3,s4⟩:=bi s1;exact⟨hs▸s3,s2,hF s4⟩) PO
  have stop:∀ h,AN (CM fq pb p rN r1 r2 r3 r4 r5 r6 r7 (pts b7 (.cells ⟨cs⟩ 63 (0,0))+(pts b10 (.cells ⟨co⟩ 63 (0,0))+((d+y)+x)))) h->BS (Pt pb) fun a=>Aw 12 a fun bk=>BV 1 bk  AE  h fun h=>OV Q (Pt pb) (AB (c:Nat))  AF  (Pt b7) (Pt b10) u0 h:=fun h w=>by
   rw[BU,AG];refine AD w ⟨PE.cells {p with spk:=false}⟩ ((AY _ _ _).trans rfl) rfl (by show 12+1<=14;omega) rfl fun h w=>?_;exact go false (fun e=>by cases e) {p with spk:=false} h ⟨f.pt,f.aN,f.a1,f.a2,f.a3,f.a4,f.a5,f.a6,f.a7⟩ hi h0 (fun e=>by cases e) w
  cases bb with
  | true=>rw[Hi];exact stop h w
  | false=>
   rw[Bt,As];have g0:∀ k:Vz->Prop,AQ .gtr (AB (m:Nat))  AF  k=k (.bool (decide (0<m))):=fun k=>by
    rw[Ah];congr 2;simp
   rw[g0];refine Cj (fun hm=>?_) (fun _=>stop h w);obtain⟨fb,o⟩:∃ b,far[c]? = some b:=⟨_,B0 (by omega)⟩;obtain⟨ib,ae⟩:∃ b,ins[c]? = some b:=⟨_,B0 (by omega)⟩;rw[BU,AG];refine Af w (u:=p.far) rfl ?_;have w1:=w.cast (show _=r3+(pts pb (.cells ⟨p.cells⟩ 174 (0,0))+(rN+(r1+(r2+(r4+(r5+(r6+(r7+(pts b7 (.cells ⟨cs⟩ 63 (0,0))+(pts b10 (.cells ⟨co⟩ 63 (0,0))+(((d+y)+x)+fq))))))))))) by unfold CM;ac_rfl);refine CF P.a3 w1 (u:=.bool fb) (by unfold bls;rw[Y0,o];rfl) ?_;cases fb with
   | true=>rw[Hi];exact stop h w
   | false=>
    rw[Bt,BU,AG];refine Af w (u:=p.ins) rfl ?_;have w2:=w.cast (show _=r2+(pts pb (.cells ⟨p.cells⟩ 174 (0,0))+(rN+(r1+(r3+(r4+(r5+(r6+(r7+(pts b7 (.cells ⟨cs⟩ 63 (0,0))+(pts b10 (.cells ⟨co⟩ 63 (0,0))+(((d+y)+x)+fq))))))))))) by unfold CM;ac_rfl);refine CF P.a2 w2 (u:=.bool ib) (by unfold bls;rw[Y0,ae];rfl) ?_;cases ib with
    | true=>rw[Ab];exact stop h w
    | false=>
     rw[AJ];exact go true (fun _=>⟨by omega,o,ae,aw rfl⟩) p h f hi h0 (fun e=>⟨e,rfl⟩) w
end
end
end Go.Proofs.YtollddkkdgoonaaGreatDoor
