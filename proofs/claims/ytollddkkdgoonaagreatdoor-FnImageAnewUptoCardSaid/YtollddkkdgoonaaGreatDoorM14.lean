/- A step. No condition. -/
import Derived.Test.YtollddkkdgoonaaGreatDoorM13
namespace Go.Proofs.YtollddkkdgoonaaGreatDoor
open Go
set_option linter.unusedVariables false
set_option linter.unusedSimpArgs false
set_option linter.defProp false
set_option maxRecDepth 100000
variable {h:H} {k:Value->Prop} {kt Q:Kt} {x y z r:Res}
section
attribute [local irreducible] BJ CR Ak Bc An Aa AK Ac
class Pr (r x:Res) (f:outParam (Res->Res)):Prop where
 ex:∃ y,x=r+y/\∀ r',f r'=r'+y
instance Pr.here {r:Res}:Pr r r (fun r'=>r'):=⟨0,(Res.add_zero _).symm,fun _=>(Res.add_zero _).symm⟩
instance Pr.inl {r x z:Res} {f:Res->Res} [q:Pr r x f]:Pr r (x+z) (fun r'=>f r'+z):=by
 obtain⟨y,h1,h2⟩:=q.ex;exact⟨y+z,by rw[h1,Res.assoc],fun r'=>by rw[h2,Res.assoc]⟩
instance Pr.inr {r x z:Res} {f:Res->Res} [q:Pr r z f]:Pr r (x+z) (fun r'=>x+f r'):=by
 obtain⟨y,h1,h2⟩:=q.ex;exact⟨x+y,by rw[h1,Res.left_comm],fun r'=>by rw[h2,Res.left_comm]⟩
def Dm {T:Tj}{v u:Vz}{n i:Nat}{kk:Iq}{vs:List Vz}{f:Res->Res}{b:H->Prop}(d:Vec T 1 v n vs r)[q:Pr r x f](w:AN x h)(hi:i<n)(j:u.cells=#[u])(g:Value.oneCell' u=true)
  (K:∀ r h,Vec T 1 v n (vs.set i u) r->AN (f r) h->b h):Ap (.slice 1) v (.int kk (i:Int)) fun a=>BV 1 a u h b:=by
 obtain⟨y,c,e⟩:=q.ex;exact DV d (w.cast c) hi j g fun r h a w=>K r h a (w.cast (e r).symm)
def Gz {sz n:Nat}{v:Vz}{us:List Vz}(d:RdV sz v n us r)[q:NT r x y]:RdV sz v n us x:=by
 rw[q.e];exact d.an
def NV {l:List Bool}{i:Nat}{b:Bool}:(bls l).set i (.bool b)=bls (l.set i b):=by unfold bls;rw[E7]
section
variable {fq:Res} {pb c b7 b5:Nat} {inl:Bool} {ts:List SN} {bl ins far:List Bool} {vs c4 c5 c6 c7 cs:List Vz} {rN r1 r2 r3 r4 r5 r6 r7:Res} {tn:SN} {xv:Vz} {f:FA}
def AQy {p:PE}{sz:Int}(P:II p ts bl ins far vs c4 c5 c6 c7 rN r1 r2 r3 r4 r5 r6 r7 (y+x))(hi:p.inl=inl)(e:p.left=0)(j:c<ts.length)(w:AN (CM fq pb p rN r1 r2 r3 r4 r5 r6 r7 (y+x)) h)
  (K:∀ y h,CY fq pb inl p.spk ts bl ins far (y+x) h->Q  AI  h):gz Q (Pt pb) (AB (c:Nat)) (AB sz) h:=by
 have i:bl.length=ts.length:=by have:=P.a1.len.2;unfold bls at this;simpa using this
 obtain⟨b,g⟩:∃ b,bl[c]? = some b:=⟨_,B0 (by omega)⟩;unfold gz AW;rw[BU,AG];refine Af w (u:=p.bl) rfl ?_;refine (Gz P.a1.rdv:RdV 1 p.bl ts.length (bls bl) (CM fq pb p rN r1 r2 r3 r4 r5 r6 r7 (y+x))).get w (u:=.bool b) (by unfold bls;rw[Y0,g];rfl) ?_;cases b with
 | false=>
  rw[AJ];exact K y h ⟨p,vs,c4,c5,c6,c7,rN,r1,r2,r3,r4,r5,r6,r7,hi,rfl,e,P,w⟩
 | true=>
  rw[Ab,BU,AG];refine Af w (u:=p.sta) rfl ?_;rw[BU,AG];refine Af w (u:=AH p.next) rfl ?_;refine Dm P.a7 w j rfl rfl fun f h a7 w=>?_;have w:AN (CM fq pb p rN r1 r2 r3 r4 r5 r6 f (y+x)) h:=w;rw[BU,AG];refine Af w (u:=AH p.next) rfl ?_;have st:∀ v:Int,BS (Pt pb) fun a=>Aw 8 a fun d=>BV 1 d (AH v) h fun h=>Q  AI h:=fun v=>by
   rw[BU,AG];refine AD w ⟨PE.cells {p with next:=v}⟩ ((AY _ _ _).trans rfl) rfl (by show 8+1<=14;omega) rfl fun h w=>?_;exact K y h ⟨{p with next:=v},vs,c4,c5,c6,_,rN,r1,r2,r3,r4,r5,r6,f,hi,rfl,e,⟨P.pt,P.aN,P.a1,P.a2,P.a3,P.a4,P.a5,P.a6,a7⟩,w⟩
  rw[BT,Ci,Ea,NU (by decide),BT];exact st _
def AK4 {p:PE}(P:II p ts bl ins far vs c4 c5 c6 c7 rN r1 r2 r3 r4 r5 r6 r7 (y+x))(hi:p.inl=inl)(q:p.left=0)(l:c<ts.length)(o:f.size=0)(C:SNC z cs tn)[F7:Be b7 x (.cells ⟨cs⟩ 63 (0,0))][F5:Be b5 x (.cells ⟨f.cells xv⟩ 28 (0,0))](w:AN (CM fq pb p rN r1 r2 r3 r4 r5 r6 r7 (y+x)) h)
  (K:∀ a y h,a.length=bl.length->(kindB tn.en=40960->59<tn.lk.length->a[c]? = some true)->CY fq pb inl p.spk ts a ins far (y+x) h->Q  AI  h):UM Q (Pt pb) (Pt b5) (Pt b7) (AB (c:Nat)) h:=by
 have ae:bl.length=ts.length:=by have:=P.a1.len.2;unfold bls at this;simpa using this
 have sz:∀ (x:Res) (h:H) [Be b5 x (.cells ⟨f.cells xv⟩ 28 (0,0))] (k:Vz->Prop),AN x h->k  AF ->Ae false 1 (.pointer (some ⟨b5,1,none⟩)) h k:=fun x h _ k w K=>Af w (u:=AB f.size) rfl (by rw[o];exact K);have c1:∀ (m:Nat) (k:Vz->Prop),AQ .eql (cU16 (kindB m:Nat)) (cU16 32768) k=k (.bool (decide (kindB m=32768))):=fun m k=>by
  rw[AT];congr 2;simp;omega
 have c2:∀ (m:Nat) (k:Vz->Prop),AQ .eql (cU16 (kindB m:Nat)) (cU16 40960) k=k (.bool (decide (kindB m=40960))):=fun m k=>by
  rw[AT];congr 2;simp;omega
 unfold UM AW;refine BD (b:=b7) w C.len ?_;refine Ed (ko C.c0 C.md w fun i h w=>?_);have w:=w.cast (show _=CM fq pb p rN r1 r2 r3 r4 r5 r6 r7 ((i+y)+x) by unfold CM;ac_rfl);have e:(i+y)+x=i+(y+x):=Res.assoc _ _ _;have P:II p ts bl ins far vs c4 c5 c6 c7 rN r1 r2 r3 r4 r5 r6 r7 ((i+y)+x):=e▸P.bf;generalize i+y=y at P w;have fin:∀ (p':PE) (a:List Bool) (d:Res) (sz:Int) (h:H),II p' ts a ins far vs c4 c5 c6 c7 rN d r2 r3 r4 r5 r6 r7 (y+x)->p'.inl=inl->p'.left=0->p'.spk=p.spk->a.length=bl.length->(kindB tn.en=40960->59<tn.lk.length->a[c]? = some true)->AN (CM fq pb p' rN d r2 r3 r4 r5 r6 r7 (y+x)) h->gz Q (Pt pb) (AB (c:Nat)) (AB sz) h:=fun p' a d sz h s v h2 h3 h4 j w=>by
  exact AQy s v h2 l w fun y h t=>K a y h h4 j (h3▸t)
 rw[c1];refine AS (fun hk=>?_) (fun hk=>?_)
 ·have n:kindB tn.en=40960->59<tn.lk.length->(bl.set c false)[c]? = some true:=fun e=>by omega
  rw[AG];refine sz _ h _ w ?_;rw[BU,AG];refine AD w ⟨PE.cells {p with file:=(c:Nat)}⟩ ((AY _ _ _).trans rfl) rfl (by show 9+1<=14;omega) rfl fun h w=>?_;refine⟨sz _ h _ w rfl,?_⟩;rw[BU,AG];refine AD w ⟨PE.cells {p with file:=(c:Nat),left:=0}⟩ ((AY _ _ _).trans rfl) rfl (by show 10+1<=14;omega) rfl fun h w=>?_;rw[BU,AG];refine Af w (u:=p.bl) rfl ?_;rw[AG];refine sz _ h _ w ?_;have g0:∀ k:Vz->Prop,AQ .gtr  AF AF  k=k  AE :=fun k=>by rw[Ah];rfl
  rw[g0,GU];refine Dm P.a1 w l rfl rfl fun d h a1 w=>?_;rw[AG];refine sz _ h _ w ?_;rw[NV] at a1;exact fin {p with file:=(c:Nat),left:=0} (bl.set c false) d 0 h ⟨P.pt,P.aN,a1,P.a2,P.a3,P.a4,P.a5,P.a6,P.a7⟩ hi rfl rfl (by simp) n w
 ·rw[c2];refine AS (fun g=>?_) (fun g=>?_)
  ·skip
   rw[BU,AG];refine Af w (u:=p.bl) rfl ?_;rw[AG];refine Af w (EI C.c14) ?_;rw[DH];have g0:∀ k:Vz->Prop,AQ .gtr (AB (tn.lk.length:Nat)) (AB 59) k=k (.bool (decide (59<tn.lk.length))):=fun k=>by
    rw[Ah];congr 2;simp;omega
   rw[g0];refine Dm P.a1 w l rfl rfl fun d h a1 w=>?_;rw[AG];refine Af w (EI C.c14) ?_;rw[DH];rw[NV] at a1;refine fin p (bl.set c (decide (59<tn.lk.length))) d _ h ⟨P.pt,P.aN,a1,P.a2,P.a3,P.a4,P.a5,P.a6,P.a7⟩ hi q rfl (by simp) (fun _ j=>?_) w;rw[List.getElem?_set_self (by omega),H0 j]
  ·exact fin p bl r1 0 h P hi q rfl rfl (fun e=>absurd e g) w
def AQ0 {p:PE}{xa:Option Addr}{m xc:Nat}(P:II p ts bl ins far vs c4 c5 c6 c7 rN r1 r2 r3 r4 r5 r6 r7 (y+x))(hi:p.inl=inl)(h0:p.left=0)(hc:c<ts.length)(aj:f.size=0)(C:SNC z cs tn)[F7:Be b7 x (.cells ⟨cs⟩ 63 (0,0))][F5:Be b5 x (.cells ⟨f.cells xv⟩ 28 (0,0))](w:AN (CM fq pb p rN r1 r2 r3 r4 r5 r6 r7 (y+x)) h)
  (K:∀ d j y h,d.length=bl.length->j.length=ins.length->(kindB tn.en=40960->59<tn.lk.length->d[c]? = some true)->(inl=true->kindB tn.en=32768->j[c]? = some true)->CY fq pb inl p.spk ts d j far (y+x) h->Q  AI  h) :
  BS (Pt pb) fun a=>Aw 2 a fun q=>Ae false 1 q h fun s=>BS (Pt pb) fun a=>Aw 4 a fun t=>Ae false 1 t h fun ae=>BS (Pt pb) fun a=>Aw 5 a fun ah=>Ae false 1 ah h fun ai=>Ae true 18 (Pt b7) h fun ao=>Aw 1 (Pt b5) fun a=>Ae false 1 a h fun ar=>Aw 17 (Pt b5) fun l=>Ae false 1 l h fun n=>Aw 18 (Pt b5) fun g=>Ae false 1 g h fun i=>Call TP 147 [Pt pb,ao,ar] h fun au h=>(((Ae false 1 q h fun u=>u=s))/\((Ae false 1 t h fun u=>u=ae))/\((Ae false 1 ah h fun u=>u=ai))/\((Ae false 1 l h fun u=>u=n))/\((Ae false 1 g h fun u=>u=i))/\Ap (.slice 1) s (AB (c:Nat)) fun aw=>BV 1 aw au h fun h=>(((Ae false 1 l h fun u=>u=n))/\((Ae false 1 g h fun u=>u=i))/\Ap (.slice 1) ae (AB (c:Nat)) fun ay=>BV 1 ay n h fun h=>(((Ae false 1 g h fun u=>u=i))/\Ap (.slice 1) ai (AB (c:Nat)) fun az=>BV 1 az i h fun h=>DM (.slice xa m xc) fun bg=>AQ .gtr bg  AF  fun uu=>BJ uu (BS (Pt pb) fun a=>Aw 6 a fun a=>Ae false 1 a h fun bh=>BS (Pt pb) fun a=>Aw 8 a fun a=>Ae false 1 a h fun bi=>BS (Pt pb) fun a=>Aw 8 a fun a=>Ae false 1 a h fun bj=>AQ .add bj (AH 1) fun bk=>Ap (.slice 1) bh (AB (c:Nat)) fun bm=>BV 1 bm bi h fun h=>BS (Pt pb) fun a=>Aw 8 a fun bn=>BV 1 bn bk h fun h=>UM Q (Pt pb) (Pt b5) (Pt b7) (AB (c:Nat)) h) (UM Q (Pt pb) (Pt b5) (Pt b7) (AB (c:Nat)) h)))):=by
 have bp:ins.length=ts.length:=by have:=P.a2.len.2;unfold bls at this;simpa using this
 rw[BU,AG];refine Af w (u:=p.ins) rfl ?_;rw[BU,AG];refine Af w (u:=p.maj) rfl ?_;rw[BU,AG];refine Af w (u:=p.min) rfl ?_;refine BD (b:=b7) w C.len ?_;rw[AG];refine Af w (u:=AB f.size) rfl ?_;rw[aj,AG];refine Af w (u:=AM (f.maj:Nat)) rfl ?_;rw[AG];refine Af w (u:=AM (f.min:Nat)) rfl ?_;refine fh (APw (p:=p) C w fun y2 h w=>?_);have w:=w.cast (show _=CM fq pb p rN r1 r2 r3 r4 r5 r6 r7 ((y2+y)+x) by unfold CM;ac_rfl);have e:(y2+y)+x=y2+(y+x):=Res.assoc _ _ _;have P:II p ts bl ins far vs c4 c5 c6 c7 rN r1 r2 r3 r4 r5 r6 r7 ((y2+y)+x):=e▸P.bf;generalize y2+y=y at P w;refine⟨Af w rfl rfl,Af w rfl rfl,Af w rfl rfl,Af w rfl rfl,Af w rfl rfl,?_⟩;refine Dm P.a2 w hc rfl rfl fun q2 h a2 w=>?_;refine⟨Af w rfl rfl,Af w rfl rfl,?_⟩;refine Dm P.a4 w hc rfl rfl fun q4 h a4 w=>?_;refine⟨Af w rfl rfl,?_⟩;refine Dm P.a5 w hc rfl rfl fun q5 h a5 w=>?_;have w:AN (CM fq pb p rN r1 q2 r3 q4 q5 r6 r7 (y+x)) h:=w;rw[NV] at a2;have o:II p ts bl (ins.set c (p.inl&&decide (kindB tn.en=32768))) far vs _ _ c6 c7 rN r1 q2 r3 q4 q5 r6 r7 (y+x):=⟨P.pt,P.aN,P.a1,a2,P.a3,a4,a5,P.a6,P.a7⟩;have KK:∀ d y h,d.length=bl.length->(kindB tn.en=40960->59<tn.lk.length->d[c]? = some true)->CY fq pb inl p.spk ts d (ins.set c (p.inl&&decide (kindB tn.en=32768))) far (y+x) h->Q  AI  h:=fun d y h h1 h2 PO=>K d _ y h h1 (by simp) h2 (fun e1 e2=>by rw[List.getElem?_set_self (by omega),hi,e1,H0 e2];rfl) PO;rw[As];have g0:∀ k:Vz->Prop,AQ .gtr (AB (m:Nat))  AF  k=k (.bool (decide (0<m))):=fun k=>by
  rw[Ah];congr 2;simp
 rw[g0];refine AS (fun _=>?_) (fun _=>AK4 o hi h0 hc aj C w KK);rw[BU,AG];refine Af w (u:=p.att) rfl ?_;rw[BU,AG];refine Af w (u:=AH p.next) rfl ?_;rw[BU,AG];refine Af w (u:=AH p.next) rfl ?_;rw[BT];refine Dm P.a6 w hc rfl rfl fun q6 h a6 w=>?_;rw[BU,AG];generalize IntKind.u64.wrap (p.next+1)=v;refine AD w ⟨PE.cells {p with next:=v}⟩ ((AY _ _ _).trans rfl) rfl (by show 8+1<=14;omega) rfl fun h w=>?_;exact AK4 (p:={p with next:=v}) ⟨o.pt,o.aN,o.a1,o.a2,o.a3,o.a4,o.a5,a6,o.a7⟩ hi h0 hc aj C w KK
end
section
variable {fq:Res} {pb c b7 b5:Nat} {inl spk:Bool} {ts:List SN} {bl ins far:List Bool} {cs xcs:List Vz} {xv wv:Vz} {f:FA} {rt:SN}
def AEb {l:AL}{a:Bs×Bs}(h:a∈srtA l):a∈l:=by
 rcases Uv (l:=[]) h with b|b
 ·cases b
 ·exact b
def AQx (hf:f.OK)(l:f.size=0)(hl:f.xs.length<=800)(dx:RdV 2 xv f.xs.length xcs x)(A:AtV x xcs f.xs)(P:CY fq pb inl spk ts bl ins far x h)
  (K0:kindL f.node.en=0->∀ y h,CY fq pb inl spk ts bl ins far (y+x) h->Q  AE  h)
  (K1:kindL f.node.en≠0->∀ cs b7 b5 wv Y h,SNC (pts b7 (.cells ⟨cs⟩ 63 (0,0))+(pts b5 (.cells ⟨f.cells xv⟩ 28 (0,0))+(Y+x))) cs f.node->RdV 1 wv 1 [str [102]] (pts b7 (.cells ⟨cs⟩ 63 (0,0))+(pts b5 (.cells ⟨f.cells xv⟩ 28 (0,0))+(Y+x)))->(srtA f.xs).length<=f.xs.length->CY fq pb inl spk ts bl ins far (pts b7 (.cells ⟨cs⟩ 63 (0,0))+(pts b5 (.cells ⟨f.cells xv⟩ 28 (0,0))+(Y+x))) h->ii Q (Pt pb) (Pt b5) (Pt b7) wv h) :
  f85 (Pt pb) (str [102]) (.agg ⟨f.cells xv⟩) h Q:=by
 obtain⟨p,vs,c4,c5,c6,c7,rN,r1,r2,r3,r4,r5,r6,r7,hi,t,s,P,w⟩:=P;unfold f85 AW;refine BG w fun b5 h w=>?_;have w:AN (pts b5 (.cells ⟨f.cells xv⟩ 28 (0,0))+CM fq pb p rN r1 r2 r3 r4 r5 r6 r7 x) h:=w;refine BD w rfl ?_;refine AFo (ASF (z:=x) hf (by omega) (FT dx).bf A w fun cs q y h C j w=>?_);refine AC5 (s84 w fun wv a c h av w=>?_);refine AV w CT rfl fun b7 h w=>?_;refine AD w ⟨cs⟩ (AU (C.len.trans rfl)) C.len (by simp) C.one fun h w=>?_;have w:=w.cast (show _=CM fq pb p rN r1 r2 r3 r4 r5 r6 r7 (pts b7 (.cells ⟨cs⟩ 63 (0,0))+(pts b5 (.cells ⟨f.cells xv⟩ 28 (0,0))+((a+(c+(q+y)))+x))) by unfold CM;ac_rfl);have v:SNC (pts b7 (.cells ⟨cs⟩ 63 (0,0))+(pts b5 (.cells ⟨f.cells xv⟩ 28 (0,0))+((a+(c+(q+y)))+x))) cs f.node:=by
  rw[show (a+(c+(q+y)))+x=(a+(c+y))+(q+x) by ac_rfl];exact C.bf.bf.bf
 have i:RdV 1 wv 1 [str [102]] (pts b7 (.cells ⟨cs⟩ 63 (0,0))+(pts b5 (.cells ⟨f.cells xv⟩ 28 (0,0))+((a+(c+(q+y)))+x))):=by
  rw[Res.assoc];exact av.rdv.an.bf.bf
 have P2:=(P.bf (y:=a+(c+(q+y)))).bf (y:=pts b5 (.cells ⟨f.cells xv⟩ 28 (0,0)));have o:=P2.bf (y:=pts b7 (.cells ⟨cs⟩ 63 (0,0)));rw[AG];refine Af w (EI C.c0) ?_;have PO:CY fq pb inl spk ts bl ins far (pts b7 (.cells ⟨cs⟩ 63 (0,0))+(pts b5 (.cells ⟨f.cells xv⟩ 28 (0,0))+((a+(c+(q+y)))+x))) h:=⟨p,vs,c4,c5,c6,c7,rN,r1,r2,r3,r4,r5,r6,r7,hi,t,s,o,w⟩;refine AFp (ASG C.md ?_);rw[CI,So];refine Cj (fun d=>?_) (fun d=>?_)
 ·have d:kindL f.node.en≠0:=Decidable.not_not.1 d;refine BD (b:=b7) w C.len ?_;refine Ed (ko C.c0 C.md w fun g h w=>?_);have w:=w.cast (show _=CM fq pb p rN r1 r2 r3 r4 r5 r6 r7 (pts b7 (.cells ⟨cs⟩ 63 (0,0))+(pts b5 (.cells ⟨f.cells xv⟩ 28 (0,0))+((g+(a+(c+(q+y))))+x))) by unfold CM;ac_rfl);have e:∀ n m:Res,n+(m+((g+(a+(c+(q+y))))+x))=g+(n+(m+((a+(c+(q+y)))+x))):=by intros;ac_rfl
  have J:=K1 d cs b7 b5 wv (g+(a+(c+(q+y)))) h (by rw[e];exact v.bf) (by rw[e];exact i.bf) j ⟨p,vs,c4,c5,c6,c7,rN,r1,r2,r3,r4,r5,r6,r7,hi,t,s,by rw[e];exact o.bf,w⟩;have c1:∀ k:Vz->Prop,AQ .eql (cU16 (kindB f.node.en:Nat)) (cU16 32768) k=k (.bool (decide (kindB f.node.en=32768))):=fun k=>by
   rw[AT];congr 2;simp;omega
  rw[c1];refine Ct (fun _=>?_) (fun _=>J);rw[AG];refine Af w (u:=AB f.size) rfl ?_;have g0:∀ k:Vz->Prop,AQ .lss  AF AF  k=k  AE :=fun k=>by rw[AR];rfl
  rw[l,g0,AJ];exact J
 ·have d:kindL f.node.en=0:=Decidable.not_not.1 d;refine K0 d (pts b7 (.cells ⟨cs⟩ 63 (0,0))+(pts b5 (.cells ⟨f.cells xv⟩ 28 (0,0))+(a+(c+(q+y))))) h ?_;rw[show (pts b7 (.cells ⟨cs⟩ 63 (0,0))+(pts b5 (.cells ⟨f.cells xv⟩ 28 (0,0))+(a+(c+(q+y)))))+x=pts b7 (.cells ⟨cs⟩ 63 (0,0))+(pts b5 (.cells ⟨f.cells xv⟩ 28 (0,0))+((a+(c+(q+y)))+x)) by ac_rfl];exact PO
def AQz (s:f.size=0)(hl:f.node.xs.length<=800)(hb:HB f.node.xs)(m:ts[0]? = some rt)(hd:kindB rt.en=16384)(C:SNC x cs f.node)(dn:RdV 1 wv 1 [str [102]] x)[F7:Be b7 x (.cells ⟨cs⟩ 63 (0,0))][F5:Be b5 x (.cells ⟨f.cells xv⟩ 28 (0,0))](P:CY fq pb inl spk ts bl ins far x h)
  (K0:kidL rt.ks [102]=none->∀ xa g y h,CY fq pb inl spk ts bl ins far (y+x) h->UN Q (Pt pb) (Pt b5) (Pt b7) (.slice xa (Dy inl f.node).1 g) (.bool (Dy inl f.node).2) (AB ((0:Nat):Int)) (str [102])  AF AE AE h)
  (K1:∀ c tc,kidL rt.ks [102]=some c->ts[c]? = some tc->∀ xa g y h,CY fq pb inl spk ts bl ins far (y+x) h->UN Q (Pt pb) (Pt b5) (Pt b7) (.slice xa (Dy inl f.node).1 g) (.bool (Dy inl f.node).2) (AB ((0:Nat):Int)) (str [102]) (AB (c:Nat))  AI  (.bool (decide (kindB tc.en=16384) != decide (kindB f.node.en=16384))) h) :
  ii Q (Pt pb) (Pt b5) (Pt b7) wv h:=by
 obtain⟨⟨na,nc,t⟩,_⟩:=dn.len;obtain⟨p,vs,c4,c5,c6,c7,rN,r1,r2,r3,r4,r5,r6,r7,hi,n,l,P,w⟩:=P;have q:0<ts.length:=(G0.1 m).1;unfold ii AW;refine BD (b:=b7) w C.len ?_;rw[AG];refine Af w (u:=AB f.size) rfl ?_;rw[s];refine fg (APv (p:=p) (kx C) hl hb w fun iv xa g d h w=>?_);rw[BF,BO,GE,hi];have ln:∀ k:Vz->Prop,DM wv k=k (AB ((1:Nat):Int)):=fun k=>by rw[t,As]
 have e1:∀ k:Vz->Prop,AQ .eql (AB ((1:Nat):Int))  AF  k=k  AE:=fun k=>by rw[AT];rfl
 rw[ln,e1,AJ];have i:CY fq pb inl spk ts bl ins far (d+x) h:=⟨p,vs,c4,c5,c6,c7,rN,r1,r2,r3,r4,r5,r6,r7,hi,n,l,P.bf,w.cast Dz⟩;refine AFr (ASI i m hd dn.bf fun y h i=>?_);rw[BF,BO,GE];rw[CI,P3,AJ];rw[<-Res.assoc] at i;generalize y+d=y at i;obtain⟨p,vs,c4,c5,c6,c7,rN,r1,r2,r3,r4,r5,r6,r7,hi,n,l,P,w⟩:=i;rw[BU,AG,AG];refine Af w (u:=p.nv) rfl ?_;refine (Kl P).agg w q ?_;have c0:=P.pt.at_ 0 rt m;obtain⟨nv,kv,q1,q2,q3,q4⟩:=c0.nm;refine YP (s20 q1 q2 c0.len (FT q3) (FT q4) (by have:=c0.kl;omega) w fun d h w=>?_);have w:=w.cast Dz;have e:(d+y)+x=d+(y+x):=Res.assoc _ _ _;rw[<-e] at w;have P:II p ts bl ins far vs c4 c5 c6 c7 rN r1 r2 r3 r4 r5 r6 r7 ((d+y)+x):=e▸P.bf;generalize d+y=y at P w;cases o:kidL rt.ks [102] with
 | none=>
  dsimp only;rw[BF,BO,GU];exact K0 o xa g y h ⟨p,vs,c4,c5,c6,c7,rN,r1,r2,r3,r4,r5,r6,r7,hi,n,l,P,w⟩
 | some c=>
  dsimp only;rw[BF,BO,CV];obtain⟨e',h1,h2⟩:=Ug o;have v:c<ts.length:=h2▸P.pt.kid rt (D1 m) e' h1;obtain⟨tc,j⟩:∃ tc,ts[c]? = some tc:=⟨_,B0 v⟩;have cc:=P.pt.at_ c tc j;rw[BU,AG,AG];refine Af w (u:=p.nv) rfl ?_;refine (Kl P).agg w v ?_;refine BD (b:=b7) w C.len ?_;refine Ed (ko cc.c0 cc.md w fun d h w=>?_);refine⟨BD (b:=b7) w C.len rfl,?_⟩;rw[NZ];refine Ed (ko C.c0 C.md w fun y3 h w=>?_);have eb:∀ (a b:Bool) (k:Vz->Prop),HF .bool false true h (.bool a) (.bool b) k=k (.bool (a != b)):=fun a b k=>by simp[HF,HS,bne]
  rw[NZ,eb];exact K1 c tc o j xa g (y3+(d+y)) h ⟨p,vs,c4,c5,c6,c7,rN,r1,r2,r3,r4,r5,r6,r7,hi,n,l,by rw[Res.assoc,Res.assoc];exact P.bf.bf,w.cast (by rw[Dz,Dz,Res.assoc,Res.assoc])⟩
end
section
variable {fq:Res} {pb c:Nat} {inl spk:Bool} {ts:List SN} {bl ins far:List Bool} {xcs:List Vz} {xv:Vz} {f:FA} {rt to:SN}
def C1 (inl:Bool)(f:FA):Prop:=kindL f.node.en≠0/\(Dy inl f.node).2=true
def Nn (c:f.OK):HB f.node.xs:=fun a b=>by
 have:=c.xs a (AEb b);omega
def ARv {m:Nat}:AQ .gtr (AB (m:Nat)) AF  k=k (.bool (decide (0<m))):=by
 rw[Ah];congr 2;simp
def CY.lens (P:CY fq pb inl spk ts bl ins far x h):bl.length=ts.length/\ins.length=ts.length/\far.length=ts.length:=by
 obtain⟨p,vs,c4,c5,c6,c7,rN,r1,r2,r3,r4,r5,r6,r7,hi,e,d,P,w⟩:=P;have a:=P.a1.len.2;have b:=P.a2.len.2;have c:=P.a3.len.2;unfold bls at a b c;simp at a b c;exact⟨a,b,c⟩
def ATC (hf:f.OK)(m:f.size=0)(hl:f.xs.length<=800)(dx:RdV 2 xv f.xs.length xcs x)(A:AtV x xcs f.xs)(hr:ts[0]? = some rt)(hd:kindB rt.en=16384)(n:kidL rt.ks [102]=none)(ae:ts.length<100000)(s:∀ t∈ts,t.ks.length<100000)(P:CY fq pb inl spk ts bl ins far x h)
  (K0:¬C1 inl f->∀ y h,CY fq pb inl spk ts bl ins far (y+x) h->Q  AE h)
  (K1:C1 inl f->∀ i a j y h,(kindB f.node.en=40960->59<f.node.lk.length->i[ts.length]? = some true)->(inl=true->kindB f.node.en=32768->a[ts.length]? = some true)->j[ts.length]? = some (decide (0<(Dy inl f.node).1))->CY fq pb inl spk (NJ ts 0 [102] f.node) i a j (y+x) h->Q  AI  h) :
  f85 (Pt pb) (str [102]) (.agg ⟨f.cells xv⟩) h Q:=by
 have v:0<ts.length:=(G0.1 hr).1;have ah:(NJ ts 0 [102] f.node).length=ts.length+1:=by unfold NJ;rw[hr];simp
 refine AQx hf m hl dx A P (fun q y h g=>K0 (fun e=>e.1 q) y h g) fun q cs b7 b5 wv Y h C dn ai g=>?_;refine AQz m (by show (srtA f.xs).length<=800;omega) (Nn hf) hr hd C dn g (fun _ xa xc y h g=>?_) fun c tc e=>by rw[n] at e;cases e
 unfold UN AW;rw[AJ,GU];unfold ig AW;rw[AJ,CI];have ee:∀ y B7 B5:Res,(y+(B7+(B5+Y)))+x=y+(B7+(B5+(Y+x))):=by intros;ac_rfl
 cases l:(Dy inl f.node).2 with
 | false=>
  rw[T5,Ab];refine K0 (fun e=>by rw[e.2] at l;cases l) (y+(pts b7 (.cells ⟨cs⟩ 63 (0,0))+(pts b5 (.cells ⟨f.cells xv⟩ 28 (0,0))+Y))) h ?_;rw[ee];exact g
 | true=>
  rw[P3,AJ,GU];unfold ie AW;rw[AJ];have o:=g;obtain⟨p,vs,c4,c5,c6,c7,rN,r1,r2,r3,r4,r5,r6,r7,hi,hs,h0,P,w⟩:=o;refine BD (b:=b7) w C.len ?_;refine ACs (s82 (d:=0) v ae s C.bf rfl g fun y2 h g=>?_);obtain⟨l1,l2,l3⟩:=g.lens;obtain⟨p,vs,c4,c5,c6,c7,rN,r1,r2,r3,r4,r5,r6,r7,hi,hs,h0,P,w⟩:=g;rw[BU,AG];refine Af w (u:=p.far) rfl ?_;rw[As,ARv];refine Dm P.a3 w (by omega) rfl rfl fun q3 h a3 w=>?_;rw[NV] at a3;have w:AN (CM fq pb p rN r1 r2 q3 r4 r5 r6 r7 (y2+(y+(pts b7 (.cells ⟨cs⟩ 63 (0,0))+(pts b5 (.cells ⟨f.cells xv⟩ 28 (0,0))+(Y+x)))))) h:=w;refine AQ0 (x:=y+(pts b7 (.cells ⟨cs⟩ 63 (0,0))+(pts b5 (.cells ⟨f.cells xv⟩ 28 (0,0))+(Y+x)))) ⟨P.pt,P.aN,P.a1,P.a2,a3,P.a4,P.a5,P.a6,P.a7⟩ hi h0 (by omega) m C w fun i a y3 h _ _ g1 g2 g=>?_;refine K1 ⟨q,l⟩ i a ((far++[false]).set ts.length (decide (0<(Dy inl f.node).1))) (y3+(y+(pts b7 (.cells ⟨cs⟩ 63 (0,0))+(pts b5 (.cells ⟨f.cells xv⟩ 28 (0,0))+Y)))) h g1 g2 ?_ ?_
  ·rw[List.getElem?_set_self (by omega)]
  ·rw[hs] at g;rw[Res.assoc,ee];exact g
def ATD (hf:f.OK)(o:f.size=0)(hl:to.xs.length+f.xs.length<=800)(dx:RdV 2 xv f.xs.length xcs x)(A:AtV x xcs f.xs)(hr:ts[0]? = some rt)(hd:kindB rt.en=16384)(ah:kidL rt.ks [102]=some c)(hc:0<c)(q:ts[c]? = some to)(bk:to.ks=[])(bj:HB to.xs)(au:(HX ts).length<1000000)(aw:Gf c (HX ts)=1)(P:CY fq pb inl spk ts bl ins far x h)
  (K0:∀ y h,CY fq pb inl spk ts bl ins far (y+x) h->Q AE  h)
  (K1:∀ s bn aj i ar y h,(s=true->C1 inl f/\(kindB to.en=16384↔kindB f.node.en=16384)/\(kindB f.node.en≠16384->bl[c]? = some false)/\spk=true/\Dy inl {f.node with xs:=Fz to.xs f.node.xs,ks:=to.ks}=(0,true)/\(Dy inl f.node).1=0/\far[c]? = some false/\ins[c]? = some false/\∀ a∈Fz to.xs f.node.xs,(compL a.1 PX).2≠[])->CY fq pb inl s bn aj i ar (y+x) h->Q  AI  h) :
  f85 (Pt pb) (str [102]) (.agg ⟨f.cells xv⟩) h Q:=by
 have bg:c<ts.length:=(G0.1 q).1;refine AQx hf o (by omega) dx A P (fun _ y h d=>K0 y h d) fun hk cs b7 b5 wv Y h C dn bm d=>?_;have bp:f.node.xs.length<=f.xs.length:=bm;refine AQz o (by omega) (Nn hf) hr hd C dn d (fun e=>by rw[ah] at e;cases e) fun c' tc e ay xa xc y h d=>?_;rw[ah] at e;cases e;rw[q] at ay;cases ay;have ee:∀ y B7 B5:Res,(y+(B7+(B5+Y)))+x=y+(B7+(B5+(Y+x))):=by intros;ac_rfl
 generalize hX:pts b7 (.cells ⟨cs⟩ 63 (0,0))+(pts b5 (.cells ⟨f.cells xv⟩ 28 (0,0))+(Y+x))=X at d C dn;have F7:Be b7 X (.cells ⟨cs⟩ 63 (0,0)):=hX▸inferInstance;have F5:Be b5 X (.cells ⟨f.cells xv⟩ 28 (0,0)):=hX▸inferInstance;have stop:∀ y h,CY fq pb inl spk ts bl ins far (y+X) h->Q  AE  h:=fun y h d=>by
  refine K0 (y+(pts b7 (.cells ⟨cs⟩ 63 (0,0))+(pts b5 (.cells ⟨f.cells xv⟩ 28 (0,0))+Y))) h ?_;rw[ee,hX];exact d
 unfold UN AW;cases bh:(decide (kindB to.en=16384) != decide (kindB f.node.en=16384)) with
 | true=>rw[Ab];exact stop y h d
 | false=>
  have ae:kindB to.en=16384↔kindB f.node.en=16384:=by
   by_cases e1:kindB to.en=16384<;>by_cases e2:kindB f.node.en=16384<;>simp[e1,e2] at bh ⊢
  have lk:∀ (y:Res) (h:H) (k:Kt),kindB f.node.en≠16384->CY fq pb inl spk ts bl ins far (y+X) h->(∀ y h,CY fq pb inl spk ts bl ins far (y+X) h->k (AB ((1:Nat):Int)) h)->BS (Pt pb) fun a=>Aw 0 a fun a=>Ae true 1 a h fun n=>Call TP 146 [n] h fun v h=>Ap (.slice 1) v (AB (c:Nat)) fun a=>Ae false 1 a h fun u=>k u h:=fun y h k g d K=>by
   obtain⟨p,vs,c4,c5,c6,c7,rN,r1,r2,r3,r4,r5,r6,r7,hi,l,j,P,w⟩:=d;rw[BU,AG];refine DR w (l':=[p.nv]) rfl (by show 0+1<=14+0;omega) ?_;refine AFs (ASJ (Kl P) (PK P.pt) hc q (fun e=>g (ae.1 e)) bk au w fun v r y2 h O w=>?_);rw[aw] at O;obtain⟨us,a,_,hu⟩:=O;refine CF a w hu ?_;refine K (r+(y2+y)) h ⟨p,vs,c4,c5,c6,c7,rN,r1,r2,r3,r4,r5,r6,r7,hi,l,j,?_,w.cast ?_⟩
   ·rw[Res.assoc,Res.assoc];exact P.bf.bf
   ·rw[Dz,Dz,Res.assoc,Res.assoc]
  have one:∀ k:Vz->Prop,AQ .eql (AB ((1:Nat):Int)) AX  k=k  AI :=fun k=>by rw[AT];rfl
  have j3:∀ (y:Res) (h:H),(Dy inl f.node).2=true->(kindB f.node.en≠16384->bl[c]? = some false)->CY fq pb inl spk ts bl ins far (y+X) h->ie Q (Pt pb) (Pt b5) (Pt b7) (.slice xa (Dy inl f.node).1 xc) (AB ((0:Nat):Int)) (str [102]) (AB (c:Nat))  AI h:=fun y h m az d=>by
   obtain⟨l1,l2,l3⟩:=d.lens;have bi:∀ t∈ts,∀ e∈t.ks,e.2<ts.length:=by
    obtain⟨p,vs,c4,c5,c6,c7,rN,r1,r2,r3,r4,r5,r6,r7,hi,l,j,P,w⟩:=d;exact P.pt.kid
   have ai:=d;obtain⟨p,vs,c4,c5,c6,c7,rN,r1,r2,r3,r4,r5,r6,r7,hi,l,j,P,w⟩:=ai;unfold ie AW;rw[Ab];refine BD (b:=b7) w C.len ?_;rw[AG];refine Af w (u:=AB f.size) rfl ?_;rw[o];refine AFq (ASH q bi C.bf (by omega) bj (Nn hf) l3 l2 d fun s y2 h hF d=>?_);obtain⟨p,vs,c4,c5,c6,c7,rN,r1,r2,r3,r4,r5,r6,r7,hi,l,j,P,w⟩:=d;refine AQ0 (x:=y+X) P hi j (by simpa using bg) o C w fun aj i y3 h _ _ _ _ d=>?_;refine K1 s (ts.set c {f.node with xs:=Fz to.xs f.node.xs,ks:=to.ks}) aj i far (y3+(y+(pts b7 (.cells ⟨cs⟩ 63 (0,0))+(pts b5 (.cells ⟨f.cells xv⟩ 28 (0,0))+Y)))) h (fun e=>?_) ?_
   ·obtain⟨u1,u2,u3,u4,u5,u6⟩:=hF e;exact⟨⟨hk,m⟩,ae,az,u1,u2,u3,u4,u5,u6⟩
   ·rw[l] at d;rw[Res.assoc,ee,hX];exact d
  have j4:∀ (y:Res) (h:H) (b:Bool),(b=false->kindB f.node.en≠16384->bl[c]? = some false)->CY fq pb inl spk ts bl ins far (y+X) h->ig Q (Pt pb) (Pt b5) (Pt b7) (.slice xa (Dy inl f.node).1 xc) (.bool (Dy inl f.node).2) (AB ((0:Nat):Int)) (str [102]) (AB (c:Nat)) AI  (.bool b) h:=fun y h b hb d=>by
   unfold ig AW;cases b with
   | true=>rw[Ab];exact stop y h d
   | false=>
    rw[AJ,CI];cases m:(Dy inl f.node).2 with
    | false=>rw[T5,Ab];exact stop y h d
    | true=>
     rw[P3,AJ,CV];obtain⟨p,vs,c4,c5,c6,c7,rN,r1,r2,r3,r4,r5,r6,r7,hi,l,j,P,w⟩:=d;refine BD (b:=b7) w C.len ?_;refine Ed (ko C.c0 C.md w fun y3 h w=>?_);have d:CY fq pb inl spk ts bl ins far ((y3+y)+X) h:=⟨p,vs,c4,c5,c6,c7,rN,r1,r2,r3,r4,r5,r6,r7,hi,l,j,by rw[Res.assoc];exact P.bf,w.cast (by rw[Dz,Res.assoc])⟩;rw[NZ];refine Cj (fun g=>?_) (fun ao=>j3 _ h m (fun e=>absurd ao e) d);refine lk _ h _ g d fun y h d=>?_;rw[one];exact j3 y h m (fun _=>hb rfl g) d
  rw[AJ,CV];obtain⟨l1,l2,l3⟩:=d.lens;obtain⟨p,vs,c4,c5,c6,c7,rN,r1,r2,r3,r4,r5,r6,r7,hi,l,j,P,w⟩:=d;refine BD (b:=b7) w C.len ?_;refine Ed (ko C.c0 C.md w fun y3 h w=>?_);have d:CY fq pb inl spk ts bl ins far ((y3+y)+X) h:=⟨p,vs,c4,c5,c6,c7,rN,r1,r2,r3,r4,r5,r6,r7,hi,l,j,by rw[Res.assoc];exact P.bf,w.cast (by rw[Dz,Res.assoc])⟩;have nd:∀ k:Vz->Prop,AQ .neq (cU16 (kindB f.node.en:Nat))  Bz  k=k (.bool (decide (kindB f.node.en≠16384))):=fun k=>by
   rw[Ay];congr 2;simp;omega
  rw[nd];refine Ct (fun g=>?_) (fun ao=>j4 _ h false (fun _ e=>absurd e ao) d);refine lk _ h _ g d fun y h d=>?_;rw[one,CV];have ai:=d;obtain⟨p,vs,c4,c5,c6,c7,rN,r1,r2,r3,r4,r5,r6,r7,hi,l,j,P,w⟩:=ai;obtain⟨b,hb⟩:∃ b,bl[c]? = some b:=⟨_,B0 (by omega)⟩;rw[BU,AG];refine Af w (u:=p.bl) rfl ?_;refine (Gz P.a1.rdv:RdV 1 p.bl ts.length (bls bl) (CM fq pb p rN r1 r2 r3 r4 r5 r6 r7 (y+X))).get w (u:=.bool b) (by unfold bls;rw[Y0,hb];rfl) ?_;exact j4 y h b (fun e _=>by rw[hb,e]) d
end
def mq:Am TP 25=some (.agg ⟨[.bool false,AB 0,AB 0]⟩):=by kernel_rfl
abbrev Tm3:=Bool×Int×Int
def ZF (t:Tm3):Bool:=!t.1||(decide (0<=t.2.1)&&(decide (QA t.2.1 2147483648=0)||decide (15032385535<t.2.1))&&decide (0<=t.2.2)&&decide (t.2.2<1000000000))
def Nv (a:Bs×Bs):Bool:=decide (a.1≠SDN)&&decide ((compL a.1 PX).2.length<=255)&&(decide ((compL a.1 PX).2≠[])||decide ((compL a.1 PX).1=2)||decide ((compL a.1 PX).1=3)||decide ((compL a.1 PX).1=8))&&decide (a.2.length<=4096)
def FA.tms (f:FA):List Tm3:=[f.t1,f.t2,f.t3,f.t4]
def spkB (f:FA):Bool:=decide (f.size<=1048576)&&decide (f.link.length<=4000)&&decide (f.xs.length<=12)&&decide (f.maj<4096)&&decide (f.min<1048576)&&f.tms.all ZF&&f.xs.all Nv
section
variable {f:FA} {xv:Vz} {xcs:List Vz} {b1:Nat}
def nu {a b c d:List Vz}(j:∃ p q r,a=[p,q,r])(l:∃ p q r,b=[p,q,r])(m:∃ p q r,c=[p,q,r])(n:∃ p q r,d=[p,q,r])(w:AN x h)(K:∀ g h,AN (pts g (.cells ⟨a++b++c++d⟩ 25 (0,0))+x) h->kt (.slice (some ⟨g,0,none⟩) 4 4) h) :
  AK (.arr 3) 25 (Am TP 25) 3 4 [(0,.agg ⟨a⟩),(1,.agg ⟨b⟩),(2,.agg ⟨c⟩),(3,.agg ⟨d⟩)] h kt:=by
 obtain⟨s,q0,s0,rfl⟩:=j;obtain⟨t,q1,s1,rfl⟩:=l;obtain⟨u,q2,s2,rfl⟩:=m;obtain⟨v,q3,s3,rfl⟩:=n;unfold AK;refine⟨_,⟨[s,q0,s0]++[t,q1,s1]++[u,q2,s2]++[v,q3,s3]⟩,mq,by omega,?_,fun b i ex e f=>K b i (w.new ex e f)⟩;have o:BN (Value.agg ⟨[.bool false,AB 0,AB 0]⟩).cells (4*3)=⟨[.bool false,AB 0,AB 0,.bool false,AB 0,AB 0,.bool false,AB 0,AB 0,.bool false,AB 0,AB 0]⟩:=by kernel_rfl
 rw[F0 (by omega),o];exact EE _ _ _ rfl
def AQu {a:Bs×Bs}{v:Vz}{b6 i n:Nat}{rec1:R1}{av:Vz}(dv:RdX z v a.2)(h0:a.2.length<=100000000)(hi:i<1000000000)(w:AN x h)[Be b6 x (.cells ⟨[str a.1,v]⟩ 56 (0,0))]
  (j:Nv a=false->Q AE  h) (o:Nv a=true->rec1 (AB (i+1:Nat)) h):gy Q rec1 (Pt b6) (str (compL a.1 PX).2) (.bool (decide ((compL a.1 PX).1=2\/(compL a.1 PX).1=3\/(compL a.1 PX).1=8))) av (AB (n:Nat)) (AB (i:Nat)) h:=by
 obtain⟨va,vc,rfl⟩:=dv.len;unfold gy AW;rw[AG];refine Af w (u:=str a.1) rfl ?_;have e0:∀ k:Vz->Prop,AQ .eql (str a.1) (.string ⟨#[115,121,115,116,101,109,46,100,97,116,97]⟩) k=k (.bool (decide (a.1=SDN))):=fun k=>Fs;rw[e0];refine Cj (fun l=>?_) (fun l=>j (by unfold Nv;simp[l]));rw[DH,Ah];refine Cj (fun s=>?_) (fun s=>j (by unfold Nv;rw[J0 (p:=(compL a.1 PX).2.length<=255) (by omega)];simp));have e1:∀ k:Vz->Prop,AQ .eql (str (compL a.1 PX).2) (.string ⟨#[]⟩) k=k (.bool (decide ((compL a.1 PX).2=[]))):=fun k=>Fs;have e2:∀ k:Vz->Prop,AQ .gtr (AB (a.2.length:Nat)) (AB 4096) k=k (.bool (decide (4096<a.2.length))):=fun k=>by
  rw[Ah];congr 2;simp;omega
 have nx:∀ k:Vz->Prop,AQ .add (AB (i:Nat))  AX  k=k (AB (i+1:Nat)):=fun k=>by rw[Az (n:=1),Bq (by omega)]
 have fin:((compL a.1 PX).2=[]->(compL a.1 PX).1=2\/(compL a.1 PX).1=3\/(compL a.1 PX).1=8)->Aw 1 (Pt b6) fun p=>Ae false 1 p h fun d=>DM d fun f=>AQ .gtr f (AB 4096) fun c=>BJ c (Q  AE  h) (AQ .add (AB (i:Nat))  AX fun g=>rec1 g h):=fun t=>by
  rw[AG];refine Af w (u:=.slice va a.2.length vc) rfl ?_;rw[As,e2];refine AS (fun b=>j (by unfold Nv;rw[J0 (p:=a.2.length<=4096) (by omega)];simp)) (fun b=>?_);rw[nx];refine o ?_;unfold Nv;rw[H0 l,H0 (p:=(compL a.1 PX).2.length<=255) (by omega),H0 (p:=a.2.length<=4096) (by omega)];by_cases e:(compL a.1 PX).2=[]
  ·rcases t e with q|q|q<;>simp[q]
  ·simp[e]
 rw[e1];refine Ct (fun m=>?_) (fun m=>fin fun e=>absurd e m);rw[CI,So];refine Cj (fun b=>fin fun _=>Decidable.not_not.1 b) (fun b=>j ?_);unfold Nv;have q1:(compL a.1 PX).1≠2:=fun e=>b (.inl e);have q2:(compL a.1 PX).1≠3:=fun e=>b (.inr (.inl e));have q3:(compL a.1 PX).1≠8:=fun e=>b (.inr (.inr e));simp[m,q1,q2,q3]
def AQv (dx:RdV 2 xv f.xs.length xcs x)(A:AtV z xcs f.xs)(hl:f.xs.length<=1000)(hb:HB f.xs)(w:AN x h)
  (KF:f.xs.all Nv=false->∀ y h,AN (y+x) h->Q  AE  h) (KT:f.xs.all Nv=true->∀ y h,AN (y+x) h->Q  AI  h):AC3 Q xv (AB (f.xs.length:Nat))  AF  h:=by
 unfold AC3;refine Bj (fun t u o=>∃ i y,t+i=f.xs.length/\u=AB (i:Nat)/\(f.xs.take i).all Nv=true/\AN (y+x) o) f.xs.length ⟨0,0,rfl,rfl,rfl,w.cast (by rw[Res.zero_add])⟩ ?_;rintro rec t u o ⟨i,y,hi,rfl,s,w⟩ g;unfold AC1 BL;rw[AR];refine AS (fun hc=>?_) (fun hc=>?_)
 ·have d:i<f.xs.length:=by omega
  obtain⟨a,p⟩:∃ a,f.xs[i]? = some a:=⟨_,B0 d⟩;obtain⟨v,hv,dv⟩:=A.at p;have c:=D1 p;refine (dx.bf:RdV 2 xv f.xs.length xcs _).agg w d ?_;rw[hv];refine AV w HQ rfl fun b6 h w=>?_;refine AD w ⟨[str a.1,v]⟩ (AU (by rfl)) rfl (by simp) (Fm dv) fun h w=>?_;rw[AG];refine Af w (show (⟨[str a.1,v]⟩:Array Vz)[0]? = some (str a.1) from rfl) ?_;refine SA (ANy w fun y2 h w=>?_);rw[BF,BO];have j:Nv a=false->Q  AE h:=fun e=>KF (List.all_eq_false.2 ⟨a,c,by rw[e];decide⟩) _ h (w.cast (Kq5 _ _ _ _));have l:Nv a=true->rec (AB (i+1:Nat)) h:=fun e=>g (t-1) _ _ ⟨i+1,_,by omega,rfl,by rw[O3,p,List.all_append,s];simp[e],w.cast (Kq5 _ _ _ _)⟩ (by omega);have m:∀ b:Bool,b=decide ((compL a.1 PX).1=2\/(compL a.1 PX).1=3\/(compL a.1 PX).1=8)->gy Q rec (Pt b6) (str (compL a.1 PX).2) (.bool b) xv (AB (f.xs.length:Nat)) (AB (i:Nat)) h:=fun b e=>by
   rw[e];exact AQu dv (hb a c).2 (by omega) w j l
  have eq:∀ (n:Nat) (k:Vz->Prop),AQ .eql (AH ((compL a.1 PX).1:Nat)) (AH (n:Nat)) k=k (.bool (decide ((compL a.1 PX).1=n))):=fun n k=>by
   rw[AT];congr 2;simp;omega
  have e2:∀ k:Vz->Prop,AQ .eql (AH ((compL a.1 PX).1:Nat)) (AH 2) k=k (.bool (decide ((compL a.1 PX).1=2))):=eq 2;have e3:∀ k:Vz->Prop,AQ .eql (AH ((compL a.1 PX).1:Nat)) (AH 3) k=k (.bool (decide ((compL a.1 PX).1=3))):=eq 3;have e8:∀ k:Vz->Prop,AQ .eql (AH ((compL a.1 PX).1:Nat)) (AH 8) k=k (.bool (decide ((compL a.1 PX).1=8))):=eq 8;rw[e2];refine Cj (fun q=>?_) (fun q=>m true (by simp[q]));rw[e3];refine Cj (fun q2=>?_) (fun q2=>m true (by simp[q2]));rw[e8];exact m _ (by simp[q,q2])
 ·have:i=f.xs.length:=by omega
  rw[this,L1] at s;exact KT s y o w
end
section
variable {f:FA} {xv:Vz} {xcs:List Vz} {b1:Nat}
def ra {α:Type}{p:α->Bool}{l:List α}{a:α}(h:a∈l)(b:p a=false):l.all p=false:=List.all_eq_false.2 ⟨a,h,by rw[b];decide⟩
def AQw {v:Vz}(dx:RdV 2 xv f.xs.length xcs x)(A:AtV z xcs f.xs)(hl:f.xs.length<=1000)(hb:HB f.xs)(dt:RdV 3 v 4 (IF f.t1++IF f.t2++IF f.t3++IF f.t4) x)[F:Be b1 x (.cells ⟨f.cells xv⟩ 28 (0,0))](w:AN x h)
  (K:∀ y h,AN (y+x) h->Q (.bool (f.tms.all ZF&&f.xs.all Nv)) h):AC4 Q (Pt b1) v (AB ((4:Nat):Int))  AF  h:=by
 obtain⟨⟨xa,xc,l⟩,_⟩:=dx.len;unfold AC4;refine Bj (fun mm u h'=>∃ i y,mm+i=4/\u=AB (i:Nat)/\(f.tms.take i).all ZF=true/\AN (y+x) h') 4 ⟨0,0,rfl,rfl,rfl,w.cast (by rw[Res.zero_add])⟩ ?_;rintro rec mm u h' ⟨i,y,hi,rfl,g,w⟩ j;unfold AC2 BL;rw[AR];refine AS (fun hc=>?_) (fun hc=>?_)
 ·have ae:i<4:=by omega
  obtain⟨t,ht,s⟩:∃ t,f.tms[i]? = some t/\((IF f.t1++IF f.t2++IF f.t3++IF f.t4).drop (i*3)).take 3=IF t:=by
   have:i=0\/i=1\/i=2\/i=3:=by omega
   rcases this with rfl|rfl|rfl|rfl
   ·exact⟨f.t1,rfl,rfl⟩
   ·exact⟨f.t2,rfl,rfl⟩
   ·exact⟨f.t3,rfl,rfl⟩
   ·exact⟨f.t4,rfl,rfl⟩
  have ah:=D1 ht;refine (dt.bf:RdV 3 v 4 _ _).agg w ae ?_;rw[s];refine AV w mq rfl fun b4 h w=>?_;refine AD w ⟨IF t⟩ (AU (by rfl)) rfl (by simp) rfl fun h w=>?_;have o:ZF t=false->Q AE h:=fun e=>by
   have:=K (pts b4 (.cells ⟨IF t⟩ 25 (0,0))+y) h (w.cast (by rw[Res.assoc]));rw[ra ah e,Bool.false_and] at this;exact this
  have nx:∀ k:Vz->Prop,AQ .add (AB (i:Nat)) AX  k=k (AB (i+1:Nat)):=fun k=>by rw[Az (n:=1),Bq (by omega)]
  have KT:ZF t=true->AQ .add (AB (i:Nat)) AX  fun b=>rec b h:=fun e=>by
   rw[nx];exact j (mm-1) _ _ ⟨i+1,pts b4 (.cells ⟨IF t⟩ 25 (0,0))+y,by omega,rfl,by rw[O3,ht,List.all_append,g];simp[e],w.cast (by rw[Res.assoc])⟩ (by omega)
  rw[AG];refine Af w (u:=.bool t.1) rfl ?_;cases d:t.1 with
  | false=>rw[GU];exact KT (by unfold ZF;rw[d];rfl)
  | true=>
   rw[CV,AG];refine Af w (u:=AB t.2.1) rfl ?_;rw[AR];refine Cj (fun h2=>?_) (fun h2=>o (by unfold ZF;rw[d,J0 (p:=0<=t.2.1) (by omega)];rfl));have ns:(QA t.2.1 2147483648=0\/15032385535<t.2.1)->Ae false 1 (.pointer (some ⟨b4,2,none⟩)) h fun ai=>AQ .lss ai  AF  fun c=>CR c false (Aw 2 (Pt b4) fun p=>Ae false 1 p h fun aj=>AQ .geq aj (AB 1000000000) fun c=>BJ c (Q AE  h) (AQ .add (AB (i:Nat))  AX fun b=>rec b h)) (Q  AE h):=fun a=>by
    refine Af w (u:=AB t.2.2) rfl ?_;rw[AR];refine Cj (fun q=>?_) (fun q=>o (by unfold ZF;rw[J0 (p:=0<=t.2.2) (by omega),d];simp));rw[AG];refine Af w (u:=AB t.2.2) rfl ?_;rw[Bd];refine AS (fun h5=>o (by unfold ZF;rw[J0 (p:=t.2.2<1000000000) (by omega),d];simp)) (fun h5=>KT ?_);unfold ZF;rw[H0 (p:=0<=t.2.1) (by omega),H0 (p:=0<=t.2.2) (by omega),H0 (p:=t.2.2<1000000000) (by omega)];rcases a with a|a<;>simp[a]
   rw[AG];refine Af w (u:=AB t.2.1) rfl ?_;have am:∀ k:Vz->Prop,AQ .and (AB t.2.1) (AB 2147483648) k=k (AB (QA t.2.1 2147483648:Nat)):=fun k=>rf (m:=2147483648) (by decide);have e0:∀ k:Vz->Prop,AQ .neq (AB (QA t.2.1 2147483648:Nat))  AF  k=k (.bool (decide (QA t.2.1 2147483648≠0))):=fun k=>by
    rw[Ay];congr 2;simp
   rw[am,e0];refine Ct (fun a=>?_) (fun a=>?_)
   ·rw[AG];refine Af w (u:=AB t.2.1) rfl ?_;rw[BY];refine Cj (fun q=>?_) (fun q=>o (by unfold ZF;rw[J0 a,J0 (p:=15032385535<t.2.1) (by omega),d];simp));rw[AG];exact ns (.inr (by omega))
   ·rw[AG];exact ns (.inl (Decidable.not_not.1 a))
 ·have:i=4:=by omega
  rw[this] at g;have g:f.tms.all ZF=true:=g;rw[g,Bool.true_and] at K;rw[AG];refine Af w (u:=xv) rfl ?_;rw[l,As,<-l];refine AQv (dx.bf:RdV 2 xv f.xs.length xcs _) A hl hb w (fun e y2 h w=>?_) (fun e y2 h w=>?_)
  ·rw[e] at K;exact K _ h (w.cast (Res.assoc _ _ _).symm)
  ·rw[e] at K;exact K _ h (w.cast (Res.assoc _ _ _).symm)
def s83 (v:f.OK)(dx:RdV 2 xv f.xs.length xcs x)(A:AtV z xcs f.xs)(w:AN x h)
  (K:∀ y h,AN (y+x) h->Q (.bool (spkB f)) h):f83 (.agg ⟨f.cells xv⟩) h Q:=by
 obtain⟨⟨xa,xc,d⟩,_⟩:=dx.len;have t:HB f.xs:=fun a s=>by have:=v.xs a s;omega
 unfold f83 AW;refine BG w fun b1 h w=>?_;have w:AN (pts b1 (.cells ⟨f.cells xv⟩ 28 (0,0))+x) h:=w;have b:spkB f=false->Q AE h:=fun e=>by
  have:=K (pts b1 (.cells ⟨f.cells xv⟩ 28 (0,0))) h w;rw[e] at this;exact this
 rw[AG];refine Af w (u:=AB f.size) rfl ?_;rw[Ah];refine Cj (fun j=>?_) (fun j=>b (by unfold spkB;rw[J0 (p:=f.size<=1048576) (by omega)];simp));rw[AG];refine Af w (u:=str f.link) rfl ?_;have e1:∀ k:Vz->Prop,AQ .gtr (AB (f.link.length:Nat)) (AB 4000) k=k (.bool (decide (4000<f.link.length))):=fun k=>by
  rw[Ah];congr 2;simp;omega
 rw[DH,e1];refine Cj (fun l=>?_) (fun l=>b (by unfold spkB;rw[J0 (p:=f.link.length<=4000) (by omega)];simp));rw[AG];refine Af w (u:=xv) rfl ?_;have e2:∀ k:Vz->Prop,AQ .gtr (AB (f.xs.length:Nat)) (AB 12) k=k (.bool (decide (12<f.xs.length))):=fun k=>by
  rw[Ah];congr 2;simp;omega
 rw[d,As,e2];refine Cj (fun m=>?_) (fun m=>b (by unfold spkB;rw[J0 (p:=f.xs.length<=12) (by omega)];simp));rw[AG];refine Af w (u:=AM (f.maj:Nat)) rfl ?_;have g:∀ k:Vz->Prop,AQ .geq (AM (f.maj:Nat)) (AM 4096) k=k (.bool (decide (4096<=f.maj))):=fun k=>by
  rw[Bd];congr 2;simp;omega
 rw[g];refine Cj (fun n=>?_) (fun n=>b (by unfold spkB;rw[J0 (p:=f.maj<4096) (by omega)];simp));rw[AG];refine Af w (u:=AM (f.min:Nat)) rfl ?_;have i:∀ k:Vz->Prop,AQ .geq (AM (f.min:Nat)) (AM 1048576) k=k (.bool (decide (1048576<=f.min))):=fun k=>by
  rw[Bd];congr 2;simp;omega
 rw[i];refine AS (fun o=>b (by unfold spkB;rw[J0 (p:=f.min<1048576) (by omega)];simp)) (fun o=>?_);have q:spkB f=(f.tms.all ZF&&f.xs.all Nv):=by
  unfold spkB;rw[H0 (p:=f.size<=1048576) (by omega),H0 (p:=f.link.length<=4000) (by omega),H0 (p:=f.xs.length<=12) (by omega),H0 (p:=f.maj<4096) (by omega),H0 (p:=f.min<1048576) (by omega)];rfl
 rw[q] at K;unfold AKL AW;rw[AG];refine DR w (l':=IF f.t1) rfl (by show 5+3<=20;omega) ?_;rw[AG];refine DR w (l':=IF f.t2) rfl (by show 8+3<=20;omega) ?_;rw[AG];refine DR w (l':=IF f.t3) rfl (by show 11+3<=20;omega) ?_;rw[AG];refine DR w (l':=IF f.t4) rfl (by show 14+3<=20;omega) ?_;refine nu ⟨_,_,_,rfl⟩ ⟨_,_,_,rfl⟩ ⟨_,_,_,rfl⟩ ⟨_,_,_,rfl⟩ w fun b' h w=>?_;rw[As];exact AQw (dx.bf.bf:RdV 2 xv f.xs.length xcs _) A (by omega) t ((Vec.own' (T:=25) (sz:=3) (c:=4) (vs:=IF f.t1++IF f.t2++IF f.t3++IF f.t4) (I0 _) rfl rfl).rdv.an) w fun y h w=>K _ h (w.cast (by rw[<-Res.assoc,Res.assoc,Res.assoc,<-Res.assoc]))
end
abbrev fa0:FA:=⟨[],0,0,0,0,(false,0,0),(false,0,0),(false,0,0),(false,0,0),0,0,[]⟩
abbrev opC (f:FA)(xv:Vz):List Vz:=[AB 0,str [102],str []]++f.cells xv++[.slice none 0 0]
abbrev IC (n:Int):List Vz:=[AB n,AB 0]++fa0.cells  cst__slice_none_0_0 
abbrev CS (tv:Vz)(c:Bool)(nv:Vz)(s:Bool):List Vz:=[tv,.bool c,AB 0,nv,.bool s]
def MD:Am TP 36=some (.agg ⟨IC 0⟩):=by kernel_rfl
def KJ:Am TP 42=some (.agg ⟨CS  cst__slice_none_0_0  false  cst__slice_none_0_0  false⟩):=by kernel_rfl
def If:Am TP 32=some (.agg ⟨[AB 0,str [],str []]++fa0.cells cst__slice_none_0_0++[.slice none 0 0]⟩):=by kernel_rfl
section
variable {fq F:Res} {pb b6 b9 i n:Nat} {inl spk:Bool} {ts:List SN} {bl ins far:List Bool} {tv ov xv nv0:Vz} {xcs tcs:List Vz} {f:FA} {rt:Res} {cut s0:Bool}
def AQO (i:∃ a n c,tv=.slice a n c)(P:CY (rt+(pts b9 (.cells ⟨CS tv cut  cst__slice_none_0_0 false⟩ 42 (0,0))+(pts b6 (.cells ⟨CS  cst__slice_none_0_0  false cst__slice_none_0_0  false⟩ 42 (0,0))+F))) pb inl spk ts bl ins far x h)
  (K:∀ nv y h,(∃ a n c,nv=.slice a n c)->AN (y+(rt+(F+x))) h->Q (.tuple #[.agg ⟨CS tv cut nv spk⟩,Pt pb]) h):QW Q (Pt b6) (Pt pb) (Pt b9) h:=by
 obtain⟨e,tn,tc,rfl⟩:=i;obtain⟨p,vs,c4,c5,c6,c7,rN,r1,r2,r3,r4,r5,r6,r7,hi,g,f,P,w⟩:=P;obtain⟨⟨na,j,d⟩,_⟩:=P.aN.rdv.len;unfold QW AW;rw[BU,AG];refine Af w (u:=AB p.left) rfl ?_;have g0:∀ k:Vz->Prop,AQ .gtr  AF AF k=k  AE :=fun k=>by rw[Ah];rfl
 rw[f,g0,AJ];unfold AIu AW;rw[BU,AG];refine DR w (l':=[p.nv]) rfl (by show 0+1<=14+0;omega) ?_;rw[BU,AG];refine Af w (u:=.bool p.spk) rfl ?_;rw[AG];refine AD w ⟨CS (.slice e tn tc) cut p.nv false⟩ ((AY _ _ _).trans rfl) rfl (by show 3+1<=5;omega) (by rw[d];rfl) fun h w=>?_;refine⟨Af w rfl rfl,?_⟩;rw[AG];refine AD w ⟨CS (.slice e tn tc) cut p.nv p.spk⟩ ((AY _ _ _).trans rfl) rfl (by show 4+1<=5;omega) rfl fun h w=>?_;refine BD (b:=b9) w rfl ?_;refine AD w ⟨CS (.slice e tn tc) cut p.nv p.spk⟩ (AU (by rfl)) rfl (by show 0+5<=5;omega) (by rw[d];rfl) fun h w=>?_;refine BD (b:=b6) w rfl ?_;rw[g];refine K p.nv (pts pb (.cells ⟨p.cells⟩ 174 (0,0))+(rN+(r1+(r2+(r3+(r4+(r5+(r6+(r7+(pts b9 (.cells ⟨CS (.slice e tn tc) cut p.nv p.spk⟩ 42 (0,0))+pts b6 (.cells ⟨CS (.slice e tn tc) cut p.nv p.spk⟩ 42 (0,0)))))))))))) h ⟨_,_,_,d⟩ (w.cast (by ac_rfl))
theorem AEV {φ:Bool->Bool->List SN->List Bool->List Bool->List Bool->Prop}{ocs:List Vz}{rec:R1}{fnd:Bool}(hf:f.OK)(od:RdV 24 ov n ocs x)(ay:i<n)(hn:n<=10)(bg:(ocs.drop (i*24)).take 24=opC f xv)(dx:RdV 2 xv f.xs.length xcs x)(A:AtV x xcs f.xs)(hi:i<1000)(az:0<ts.length)(ai:∀ e,Fq ts 0 [[102]]=e->e.isSome=fnd)
  (at_:Vec 36 22 tv i tcs rt) (P:CY (rt+(pts b9 (.cells ⟨CS tv false cst__slice_none_0_0 false⟩ 42 (0,0))+(pts b6 (.cells ⟨CS  cst__slice_none_0_0  false  cst__slice_none_0_0 false⟩ 42 (0,0))+F))) pb inl spk ts bl ins far x h)
  (E:spkB f=true->∀ fq h (Q':Kt),CY fq pb inl spk ts bl ins far x h->(∀ b s l j g d y' h,φ b s l j g d->CY fq pb inl s l j g d (y'+x) h->Q' (.bool b) h)->f85 (Pt pb) (str [102]) (.agg ⟨f.cells xv⟩) h Q')
  (K0:spkB f=false->∀ y h,AN (y+(F+x)) h->Q (.tuple #[.agg ⟨CS  cst__slice_none_0_0  false  cst__slice_none_0_0  false⟩,Pt pb]) h)
  (K1:∀ b s l j g d tv rt F' y h,spkB f=true->φ b s l j g d->Vec 36 22 tv (i+1) (tcs++IC (if b=true then 0 else 13)) rt->(b=true\/fnd=false)->CY (rt+(pts b9 (.cells ⟨CS tv false cst__slice_none_0_0  false⟩ 42 (0,0))+(pts b6 (.cells ⟨CS  cst__slice_none_0_0  false  cst__slice_none_0_0 false⟩ 42 (0,0))+(F'+F)))) pb inl s l j g d (y+x) h->rec (AB (i+1:Nat)) h)
  (K2:∀ s l j g d tv rt F' y h,spkB f=true->φ false s l j g d->Vec 36 22 tv (i+1) (tcs++IC 13) rt->fnd=true->CY (rt+(pts b9 (.cells ⟨CS tv true  cst__slice_none_0_0 false⟩ 42 (0,0))+(pts b6 (.cells ⟨CS cst__slice_none_0_0  false  cst__slice_none_0_0  false⟩ 42 (0,0))+(F'+F)))) pb inl s l j g d (y+x) h->QW Q (Pt b6) (Pt pb) (Pt b9) h) :
  QV Q rec (Pt b6) (Pt pb) (Pt b9) ov (AB (n:Nat)) (AB (i:Nat)) h:=by
 obtain⟨⟨xa,xc,bh⟩,_⟩:=dx.len;have ar:(opC f xv).length=24:=rfl;have ao:(opC f xv).all Value.oneCell'=true:=by rw[bh];rfl
 obtain⟨⟨ta,tc,bi⟩,_⟩:=at_.len;obtain⟨p,vs,c4,c5,c6,c7,rN,r1,r2,r3,r4,r5,r6,r7,t,hs,h0,P,w⟩:=P;have g1:∀ k:Vz->Prop,AQ .lss  AF AF k=k  AE :=fun k=>by rw[AR];rfl
 have g2:∀ k:Vz->Prop,AQ .gtr  AF (AB 4) k=k  AE :=fun k=>by rw[Ah];rfl
 have g3:∀ k:Vz->Prop,AQ .eql  AF AF k=k  AI:=fun k=>by rw[AT];rfl
 have g4:∀ k:Vz->Prop,AQ .eql  AF AX k=k  AE :=fun k=>by rw[AT];rfl
 have g5:∀ k:Vz->Prop,AQ .gtr  AF AF k=k  AE :=fun k=>by rw[Ah];rfl
 have g6:∀ k:Vz->Prop,AQ .gtr (AB (([102]:Bs).length:Nat)) (AB 3000) k=k  AE :=fun k=>by rw[Ah];rfl
 have g7:∀ k:Vz->Prop,AQ .gtr (AB (([]:Bs).length:Nat)) (AB 3000) k=k  AE :=fun k=>by rw[Ah];rfl
 unfold QV BL;rw[AR,H0 (show (i:Int)<(n:Int) by omega),Ab];refine (FT od).agg w ay ?_;rw[bg];refine AV w If rfl fun m h w=>?_;refine AD w ⟨opC f xv⟩ (AU (by rfl)) ar (by show 0+24<=24;omega) ao fun h w=>?_;rw[AG];refine Af w (u:=AB 0) rfl ?_;rw[g1,Bt,AG];refine Af w (u:=AB 0) rfl ?_;rw[g2,Bt,AG];refine Af w (u:=AB 0) rfl ?_;rw[g3,CV,AG];refine DR w (l':=f.cells xv) rfl (by show 3+20<=24;omega) ?_;refine ANE (s83 hf (FT dx).bf A w fun y1 h w=>?_);rw[CI];cases hS:spkB f with
 | false=>
  rw[T5,Hi];refine BA KJ rfl (rs:=CS  cst__slice_none_0_0  false  cst__slice_none_0_0  false) rfl ?_;refine AD w ⟨CS cst__slice_none_0_0 false  cst__slice_none_0_0  false⟩ (AU (by rfl)) rfl (by show 0+5<=5;omega) rfl fun h w=>?_;refine BD (b:=b6) w rfl ?_;exact K0 hS (y1+(pts m (.cells ⟨opC f xv⟩ 32 (0,0))+(pts pb (.cells ⟨p.cells⟩ 174 (0,0))+(rN+(r1+(r2+(r3+(r4+(r5+(r6+(r7+(rt+(pts b9 (.cells ⟨CS tv false cst__slice_none_0_0  false⟩ 42 (0,0))+(pts b6 (.cells ⟨CS  cst__slice_none_0_0  false  cst__slice_none_0_0 false⟩ 42 (0,0)))))))))))))))) h (w.cast (by ac_rfl))
 | true=>
  rw[P3,Bt,AG];refine Af w (u:=str [102]) rfl ?_;rw[DH,g6,Bt,AG];refine Af w (u:=str []) rfl ?_;rw[DH,g7,AJ];unfold AIw AW;refine BA MD rfl (rs:=IC 0) rfl ?_;refine AV w MD rfl fun o h w=>?_;refine AD w ⟨IC 0⟩ (AU (by rfl)) rfl (by show 0+22<=22;omega) rfl fun h w=>?_;rw[BU,AG];refine DR w (l':=[p.nv]) rfl (by show 0+1<=14+0;omega) ?_;rw[AG];refine Af w (u:=str [102]) rfl ?_;refine AC5 (s84 w fun wv q y3 h av w=>?_);refine⟨DR w rfl (by show 0+1<=14+0;omega) rfl,?_⟩;refine SG (AP5 (names:=[[102]]) ((Kl P).bf.bf.bf.bf.bf) (PK P.pt).bf.bf.bf.bf.bf az av.rdv.an (by decide) w fun y4 h w=>?_);obtain⟨fa,aw⟩:∃ a:Int,ADR (Fq ts 0 [[102]])=.tuple #[AB a,.bool fnd]:=by
   cases aj:Fq ts 0 [[102]] with
   | none=>have:=ai _ aj;exact⟨0,by rw[<-this];rfl⟩
   | some c=>have:=ai _ aj;exact⟨c,by rw[<-this];rfl⟩
  rw[aw,BF,BO,AG];refine Af w (u:=AB 0) rfl ?_;rw[g4,AJ,BU,AG];refine Af w (u:=AB p.left) rfl ?_;rw[h0,g5,AJ,AG];refine Af w (u:=AB 0) rfl ?_;rw[g3,Ab,AG];refine Af w (u:=str [102]) rfl ?_;rw[AG];refine DR w (l':=f.cells xv) rfl (by show 3+20<=24;omega) ?_;have PO:CY (rt+(pts b9 (.cells ⟨CS tv false  cst__slice_none_0_0  false⟩ 42 (0,0))+(pts b6 (.cells ⟨CS  cst__slice_none_0_0  false  cst__slice_none_0_0 false⟩ 42 (0,0))+(pts o (.cells ⟨IC 0⟩ 36 (0,0))+(pts m (.cells ⟨opC f xv⟩ 32 (0,0))+((y4+(q+(y3+y1)))+F)))))) pb inl spk ts bl ins far x h:=⟨p,vs,c4,c5,c6,c7,rN,r1,r2,r3,r4,r5,r6,r7,t,hs,h0,P,w.cast (by unfold CM;ac_rfl)⟩;generalize y4+(q+(y3+y1))=Y at PO;refine ANF (E hS _ h _ PO fun b s l j g d y' h hφ PO=>?_);obtain⟨p,vs,c4,c5,c6,c7,rN,r1,r2,r3,r4,r5,r6,r7,t,hs,h0,P,w⟩:=PO;have j3:∀ (h:H),AN (CM (rt+(pts b9 (.cells ⟨CS tv false  cst__slice_none_0_0  false⟩ 42 (0,0))+(pts b6 (.cells ⟨CS cst__slice_none_0_0  false  cst__slice_none_0_0  false⟩ 42 (0,0))+(pts o (.cells ⟨IC (if b=true then 0 else 13)⟩ 36 (0,0))+(pts m (.cells ⟨opC f xv⟩ 32 (0,0))+(Y+F)))))) pb p rN r1 r2 r3 r4 r5 r6 r7 (y'+x)) h->ABi Q rec (Pt b6) (Pt pb) (Pt b9) (Pt m) (Pt o) (.bool b) (.bool fnd) ov (AB (n:Nat)) (AB (i:Nat)) h:=fun h w=>by
   have nx:∀ k:Vz->Prop,AQ .add (AB (i:Nat))  AX  k=k (AB (i+1:Nat)):=fun k=>by rw[Az (n:=1),Bq (by omega)]
   unfold ABi AW;rw[AG];refine Af w (u:=tv) rfl ?_;refine BD (b:=o) w rfl ?_;refine EJ w MD (by omega) (by omega) rfl fun b13 h w=>?_;refine Pv at_ rfl w MD rfl (by omega) (by omega) rfl fun bj v h at' w=>?_;obtain⟨⟨ae,ah,rfl⟩,_⟩:=at'.len;rw[AG];refine AD w ⟨CS (.slice ae (i+1) ah) false  cst__slice_none_0_0  false⟩ ((AY _ _ _).trans rfl) rfl (by show 0+1<=5;omega) rfl fun h w=>?_;have w:=w.cast (show _=CM (v+(pts b9 (.cells ⟨CS (.slice ae (i+1) ah) false  cst__slice_none_0_0  false⟩ 42 (0,0))+(pts b6 (.cells ⟨CS  cst__slice_none_0_0  false cst__slice_none_0_0  false⟩ 42 (0,0))+((pts b13 (.cells ⟨IC (if b=true then 0 else 13)⟩ 36 (0,0))+(pts o (.cells ⟨IC (if b=true then 0 else 13)⟩ 36 (0,0))+(pts m (.cells ⟨opC f xv⟩ 32 (0,0))+Y)))+F)))) pb p rN r1 r2 r3 r4 r5 r6 r7 (y'+x) by unfold CM;simp only[Res.zero_add,Res.add_zero];ac_rfl);rw[CI];have next:(b=true\/fnd=false)->AQ .add (AB (i:Nat)) AX  fun au=>rec au h:=fun hb=>by
    rw[nx];exact K1 b s l j g d _ v _ y' h hS hφ at' hb ⟨p,vs,c4,c5,c6,c7,rN,r1,r2,r3,r4,r5,r6,r7,t,hs,h0,P,w⟩
   cases b with
   | true=>rw[P3,GU];exact next (.inl rfl)
   | false=>
    rw[T5,CV,AG];refine Af w (u:=AB 0) rfl ?_;rw[g3,CV];cases fnd with
    | false=>rw[AJ];exact next (.inr rfl)
    | true=>
     rw[Ab,AG];refine AD w ⟨CS (.slice ae (i+1) ah) true cst__slice_none_0_0  false⟩ ((AY _ _ _).trans rfl) rfl (by show 1+1<=5;omega) rfl fun h w=>?_;exact K2 s l j g d _ v _ y' h hS hφ at' rfl ⟨p,vs,c4,c5,c6,c7,rN,r1,r2,r3,r4,r5,r6,r7,t,hs,h0,P,w⟩
  unfold AIv AW;rw[CI];cases b with
  | true=>rw[P3,AJ];exact j3 h w
  | false=>
   rw[T5,Ab];refine BA MD rfl (rs:=IC 13) rfl ?_;refine AD w ⟨IC 13⟩ (AU (by rfl)) rfl (by show 0+22<=22;omega) rfl fun h w=>?_;exact j3 h w
end
def TY:Bs:=[108,111,115,116,43,102,111,117,110,100]
abbrev lfS:SN:=⟨16832,[],[],[]⟩
abbrev rtS (ks:List (Bs×Nat)):SN:=⟨16877,[],[],ks⟩
abbrev ts1:List SN:=[rtS [(TY,1)],lfS]
abbrev ts2 (n:SN):List SN:=[rtS [([102],2),(TY,1)],lfS,n]
def AOm {n:SN}:NJ ts1 0 [102] n=ts2 n:=by
 have:EV [(TY,1)] [102] 2=[([102],2),(TY,1)]:=by decide
 unfold NJ;show [{rtS [(TY,1)] with ks:=EV [(TY,1)] [102] 2},lfS,n]=_;rw[this]
def APT:kidL [(TY,1)] [102]=none:=by decide
def APU:kidL [([102],2),(TY,1)] [102]=some 2:=by decide
def Sw:kindB 16877=16384:=by decide
def AKo:Fq ts1 0 [[102]]=none:=by
 show (if kindB 16877=16384 then match kidL [(TY,1)] [102] with|some b=>Fq ts1 b []|none=>none else none)=none;rw[D0 Sw,APT]
def APO {n:SN}:Fq (ts2 n) 0 [[102]]=some 2:=by
 show (if kindB 16877=16384 then match kidL [([102],2),(TY,1)] [102] with|some b=>Fq (ts2 n) b []|none=>none else none)=some 2;rw[D0 Sw,APU];rfl
def AnF (inl:Bool)(a b:SN):Prop:=(kindB a.en=16384↔kindB b.en=16384)/\(kindB b.en≠16384->¬(kindB a.en=40960/\59<a.lk.length))/\Dy inl {b with xs:=Fz a.xs b.xs}=(0,true)/\(Dy inl b).1=0/\(Dy inl a).1=0/\¬(inl=true/\kindB a.en=32768)/\∀ c∈Fz a.xs b.xs,(compL c.1 PX).2≠[]
def ANb (inl:Bool)(f:FA)(b s:Bool)(ts:List SN)(bl ins far:List Bool):Prop:=
 (b=false/\¬C1 inl f/\s=true/\ts=ts1)\/(b=true/\C1 inl f/\s=true/\ts=ts2 f.node/\(kindB f.node.en=40960->59<f.node.lk.length->bl[2]? = some true)/\(inl=true->kindB f.node.en=32768->ins[2]? = some true)/\far[2]? = some (decide (0<(Dy inl f.node).1)))
structure mr (x:Res) (ocs:List Vz) (i:Nat) (f:FA) (xv:Vz) (xcs:List Vz):Prop where
 op:(ocs.drop (i*24)).take 24=opC f xv
 dx:RdV 2 xv f.xs.length xcs x
 at_:AtV x xcs f.xs
 ok:f.OK
 sz:f.size=0
def TE {f:FA}(h:spkB f=true):f.xs.length<=12:=by
 unfold spkB at h;simp at h;omega
section
variable {fq F:Res} {pb b6 b9 n:Nat} {inl:Bool} {bl ins far:List Bool} {ov:Vz} {ocs:List Vz} {f:FA} {xv:Vz} {xcs:List Vz} {i:Nat}
def Zb (R:mr x ocs i f xv xcs)(n:spkB f=true)(m:Kt)(P:CY fq pb inl true ts1 bl ins far (y+x) h)
  (K:∀ b s g d c a p h,ANb inl f b s g d c a->CY fq pb inl s g d c a (p+(y+x)) h->m (.bool b) h):f85 (Pt pb) (str [102]) (.agg ⟨f.cells xv⟩) h m:=by
 have:=TE n;refine ATC R.ok R.sz (by omega) R.dx.bf R.at_.mono (rt:=rtS [(TY,1)]) rfl Sw APT (by decide) (fun t o=>?_) P (fun l y h j=>K false true _ _ _ _ y h (.inl ⟨rfl,l,rfl,rfl⟩) j) (fun l d c a y h g1 g2 g3 j=>K true true _ d c a y h (.inr ⟨rfl,l,rfl,AOm,g1,g2,g3⟩) j);rcases I1.1 o with e|e
 ·rw[e];decide
 ·rcases I1.1 e with e|e
  ·rw[e];decide
  ·cases e
def AFQ {g:FA}(R:mr x ocs i f xv xcs)(hg:g.OK)(ae:g.xs.length<=12)(w:spkB f=true)(q:kindB g.node.en=40960->59<g.node.lk.length->bl[2]? = some true)(t:inl=true->kindB g.node.en=32768->ins[2]? = some true)(u:far[2]? = some (decide (0<(Dy inl g.node).1)))(o:Kt)(P:CY fq pb inl true (ts2 g.node) bl ins far (y+x) h)
  (K:∀ b s l j d a y' h,(b=true->s=true->C1 inl f/\AnF inl g.node f.node)->CY fq pb inl s l j d a (y'+(y+x)) h->o (.bool b) h):f85 (Pt pb) (str [102]) (.agg ⟨f.cells xv⟩) h o:=by
 have:=TE w;have ah:g.node.xs.length<=g.xs.length:=by
  have:=Uu [] g.xs;rw[C4,U1] at this;exact this
 refine ATD R.ok R.sz (by omega) R.dx.bf R.at_.mono (rt:=rtS [([102],2),(TY,1)]) rfl Sw APU (by decide) (c:=2) (to:=g.node) rfl rfl (Nn hg) ?_ ?_ P (fun y h m=>K false true _ _ _ _ y h (fun e=>by cases e) m) (fun s l j d a y h v m=>K true s l j d a y h (fun _ e=>?_) m)
 ·show ([([102],2),(TY,1)]++([]++([]++[]))).length<1000000;decide
 ·show Gf 2 ([([102],2),(TY,1)]++([]++([]++[])))=1;decide
 ·obtain⟨u1,u2,u3,_,u4,u5,p,u7,u8⟩:=v e;refine⟨u1,u2,fun hn ⟨n,q2⟩=>?_,u4,u5,?_,fun⟨n,q2⟩=>?_,u8⟩
  ·have:=q n q2;rw[u3 hn] at this;cases this
  ·rw[u] at p;have:=V0 p;simp at this;omega
  ·have:=t n q2;rw[u7] at this;cases this
end
theorem AOW {α:Type}{a b:α}:∀ {l:List α},l.length=2->l[0]? = some a->l[1]? = some b->l=[a,b]
 | [_,_],_,h1,h2=>by cases h1;cases h2;rfl
theorem ANZ {α:Type}{a:α}:∀ {l:List α},¬l.length=2->l.length<=2->l[0]? = some a->l=[a]
 | [_],_,_,h1=>by cases h1;rfl
 | [_,_],h,_,_=>absurd rfl h
 | _::_::_::_,_,h,_=>by simp at h
def tld (b:Bool):List Vz:=IC (if b=true then 0 else 13)
structure WrF (inl:Bool) (fs:List FA) (f1:FA) (m:Nat) (tcs:List Vz) (cut spk:Bool):Prop where
 told:(∀ f∈fs,spkB f=true)->1<=m/\((C1 inl f1/\tcs.take 22=tld true)\/(¬C1 inl f1/\tcs.take 22=tld false))
 fit:cut=false->spk=true->(∀ f∈fs,spkB f=true)/\∀ f2,fs=[f1,f2]->C1 inl f1->C1 inl f2/\AnF inl f1.node f2.node
section
variable {F:Res} {pb b6 b9:Nat} {inl:Bool} {bl ins far:List Bool} {ov:Vz} {ocs:List Vz} {fs:List FA} {f1:FA}
def AS7 (h1:fs[0]? = some f1)(hn:fs.length<=2)(od:RdV 24 ov fs.length ocs x)(R:∀ i f,fs[i]? = some f->∃ xv xcs,mr x ocs i f xv xcs)(P:CY (0+(pts b9 (.cells ⟨CS  cst__slice_none_0_0  false cst__slice_none_0_0 false⟩ 42 (0,0))+(pts b6 (.cells ⟨CS  cst__slice_none_0_0  false  cst__slice_none_0_0  false⟩ 42 (0,0))+F))) pb inl true ts1 bl ins far x h)
  (K:∀ tv tcs m rt cut nv spk pv y h,(∃ a n c,nv=.slice a n c)->Vec 36 22 tv m tcs rt->WrF inl fs f1 m tcs cut spk->AN (y+(rt+(F+x))) h->Q (.tuple #[.agg ⟨CS tv cut nv spk⟩,pv]) h):ABj Q (Pt b6) (Pt pb) (Pt b9) ov (AB (fs.length:Nat)) AF  h:=by
 have bh:0<fs.length:=(G0.1 h1).1;have bi:f1∈fs:=D1 h1;obtain⟨xv1,xcs1,R1⟩:=R 0 f1 h1
 let Z:List Vz:=CS cst__slice_none_0_0 false cst__slice_none_0_0  false
 have ao:∀ (f:FA) (y F':Res) (h:H),f∈fs->spkB f=false->AN (y+((F'+F)+x)) h->Q (.tuple #[.agg ⟨CS  cst__slice_none_0_0  false  cst__slice_none_0_0  false⟩,Pt pb]) h:=fun f y F' h hf hs w=>by
  refine K _ [] 0 0 false _ false _ (y+F') h ⟨_,_,_,rfl⟩ .nil ⟨fun e=>?_,fun _ e=>by cases e⟩ (w.cast (by rw[Res.zero_add];ac_rfl));rw[e f hf] at hs;cases hs
 unfold ABj;refine Bj (fun mm u h'=>
   (mm=2/\u=AB ((0:Nat):Int)/\h'=h)\/
   (mm=1/\u=AB ((1:Nat):Int)/\∃ b s p o j d tv rt F' y,spkB f1=true/\ANb inl f1 b s p o j d/\Vec 36 22 tv 1 (tld b) rt/\CY (rt+(pts b9 (.cells ⟨CS tv false cst__slice_none_0_0  false⟩ 42 (0,0))+(pts b6 (.cells ⟨CS  cst__slice_none_0_0  false  cst__slice_none_0_0  false⟩ 42 (0,0))+(F'+F)))) pb inl s p o j d (y+x) h')\/
   (mm=0/\fs.length=2/\u=AB ((2:Nat):Int)/\∃ m s p o j d tv tcs rt F' y,WrF inl fs f1 m tcs false s/\Vec 36 22 tv m tcs rt/\CY (rt+(pts b9 (.cells ⟨CS tv false  cst__slice_none_0_0  false⟩ 42 (0,0))+(pts b6 (.cells ⟨CS  cst__slice_none_0_0 false  cst__slice_none_0_0  false⟩ 42 (0,0))+(F'+F)))) pb inl s p o j d (y+x) h')) 2 (.inl ⟨rfl,rfl,rfl⟩) ?_
 rintro rec mm u h' hI aj;have fin:∀ {m:Nat} {s:Bool} {p:List SN} {o j d:List Bool} {tv:Vz} {tcs:List Vz} {rt F' y:Res} {cut:Bool} {h:H},WrF inl fs f1 m tcs cut s->Vec 36 22 tv m tcs rt->CY (rt+(pts b9 (.cells ⟨CS tv cut  cst__slice_none_0_0 false⟩ 42 (0,0))+(pts b6 (.cells ⟨CS  cst__slice_none_0_0  false  cst__slice_none_0_0 false⟩ 42 (0,0))+(F'+F)))) pb inl s p o j d (y+x) h->QW Q (Pt b6) (Pt pb) (Pt b9) h:=fun {m s p o j d tv tcs rt F' y cut h} W a t=>by
  obtain⟨⟨ta,tc,rfl⟩,_⟩:=a.len;refine AQO ⟨_,_,_,rfl⟩ t fun nv y2 h bk w=>?_;exact K _ _ _ _ _ nv _ _ (y2+(F'+y)) h bk a W (w.cast (by ac_rfl))
 have au:∀ (i:Nat) (h:H),¬i<fs.length->QW Q (Pt b6) (Pt pb) (Pt b9) h->QV Q rec (Pt b6) (Pt pb) (Pt b9) ov (AB (fs.length:Nat)) (AB (i:Nat)) h:=fun i h hi q=>by
  unfold QV BL;rw[AR,J0 (by omega),AJ];exact q
 rcases hI with⟨rfl,rfl,rfl⟩|⟨rfl,rfl,b,s,p,o,j,d,tv,rt,F',y,hS,hφ,a,t⟩|⟨rfl,v,rfl,m,s,p,o,j,d,tv,tcs,rt,F',y,W,a,t⟩
 ·refine AEV (φ:=ANb inl f1) (fnd:=false) (tcs:=[]) (rt:=0) R1.ok od bh (by omega) R1.op R1.dx R1.at_ (by omega) (by decide) (fun e he=>by rw[AKo] at he;rw[<-he];rfl) .nil P (fun hS fq h Q' t K=>Zb (y:=0) R1 hS Q' (by rw[Res.zero_add];exact t) (fun b s p o j d y' h hφ t=>K b s p o j d y' h hφ (by rw[Res.zero_add] at t;exact t))) (fun hS y h w=>ao f1 y 0 h bi hS (by rw[Res.zero_add];exact w)) (fun b s p o j d tv rt F' y h hS hφ a _ t=>?_) (fun s p o j d tv rt F' y h hS hφ a e t=>by cases e);exact aj 1 _ _ (.inr (.inl ⟨rfl,rfl,b,s,p,o,j,d,tv,rt,F',y,hS,hφ,a,t⟩)) (by omega)
 ·have aw:(C1 inl f1/\(tld b)=tld true)\/(¬C1 inl f1/\(tld b)=tld false):=by
   rcases hφ with⟨e,e2,_⟩|⟨e,e2,_⟩
   ·exact .inr ⟨e2,by rw[e]⟩
   ·exact .inl ⟨e2,by rw[e]⟩
  have tk:∀ (c:Bool) (l:List Vz),((tld c)++l).take 22=tld c:=fun c l=>by cases c<;>rfl
  by_cases v:fs.length=2
  ·obtain⟨f2,h2⟩:∃ f2,fs[1]? = some f2:=⟨_,B0 (by omega)⟩;have bj:f2∈fs:=D1 h2;obtain⟨xv2,xcs2,R2⟩:=R 1 f2 h2;have ay:fs=[f1,f2]:=AOW v h1 h2;have az:spkB f2=true->∀ f∈fs,spkB f=true:=fun e f hf=>by
    rw[ay] at hf;rcases I1.1 hf with q|q
    ·rw[q];exact hS
    ·rcases I1.1 q with q|q
     ·rw[q];exact e
     ·cases q
   have ah:∀ (c:Bool) (s' ai:Bool),spkB f2=true->(ai=false->s'=true->C1 inl f1->C1 inl f2/\AnF inl f1.node f2.node)->WrF inl fs f1 (1+1) (tld b++IC (if c=true then 0 else 13)) ai s':=fun c s' ai e hF=>⟨fun _=>⟨by omega,by rw[tk];exact aw⟩,fun e1 e2=>⟨az e,fun g hg hc=>by rw[ay] at hg;cases hg;exact hF e1 e2 hc⟩⟩;have up:∀ {tv:Vz} {rt F1 F2 y1 y2:Res} {cut:Bool} {s:Bool} {p:List SN} {o j d:List Bool} {h:H},CY (rt+(pts b9 (.cells ⟨CS tv cut cst__slice_none_0_0 false⟩ 42 (0,0))+(pts b6 (.cells ⟨CS cst__slice_none_0_0 false  cst__slice_none_0_0 false⟩ 42 (0,0))+(F1+(F2+F))))) pb inl s p o j d (y1+(y2+x)) h->CY (rt+(pts b9 (.cells ⟨CS tv cut  cst__slice_none_0_0 false⟩ 42 (0,0))+(pts b6 (.cells ⟨CS  cst__slice_none_0_0 false cst__slice_none_0_0  false⟩ 42 (0,0))+((F1+F2)+F)))) pb inl s p o j d ((y1+y2)+x) h:=fun t=>by
    rw[Res.assoc,Res.assoc];exact t
   have ar:spkB f2=false->∀ y2 h,AN (y2+((F'+F)+(y+x))) h->Q (.tuple #[.agg ⟨CS  cst__slice_none_0_0 false  cst__slice_none_0_0  false⟩,Pt pb]) h:=fun hs y2 h w=>ao f2 (y2+y) F' h bj hs (w.cast (by ac_rfl));rcases hφ with⟨eb,hc,es,et⟩|⟨eb,hc,es,et,g1,g2,g3⟩
   ·subst eb es et;refine AEV (φ:=fun _ _ _ _ _ _=>True) (fnd:=false) R2.ok od.bf (i:=1) (by omega) (by omega) R2.op R2.dx.bf R2.at_.mono (by omega) (by decide) (fun e he=>by rw[AKo] at he;rw[<-he];rfl) a t (fun hS fq h Q' t K=>Zb R2 hS Q' t fun b s p o j d y' h _ t=>K b s p o j d y' h trivial t) ar (fun c s p o j d tv rt F2 y2 h ae _ a _ t=>?_) (fun s p o j d tv rt F2 y2 h _ _ _ e t=>by cases e);exact aj 0 _ _ (.inr (.inr ⟨rfl,v,rfl,_,s,p,o,j,d,tv,_,rt,F2+F',y2+y,ah c s false ae (fun _ _ q=>absurd q hc),a,up t⟩)) (by omega)
   ·subst eb es et;refine AEV (φ:=fun b s _ _ _ _=>b=true->s=true->C1 inl f2/\AnF inl f1.node f2.node) (fnd:=true) R2.ok od.bf (i:=1) (by omega) (by omega) R2.op R2.dx.bf R2.at_.mono (by omega) (by show 0<3;decide) (fun e he=>by rw[APO] at he;rw[<-he];rfl) a t (fun ae fq h Q' t K=>AFQ R2 R1.ok (TE hS) ae g1 g2 g3 Q' t fun b s p o j d y' h hF t=>K b s p o j d y' h hF t) ar (fun c s p o j d tv rt F2 y2 h ae hF a hb t=>?_) (fun s p o j d tv rt F2 y2 h ae _ a _ t=>?_)
    ·have bg:c=true:=by
      rcases hb with q|q
      ·exact q
      ·cases q
     exact aj 0 _ _ (.inr (.inr ⟨rfl,v,rfl,_,s,p,o,j,d,tv,_,rt,F2+F',y2+y,ah c s false ae (fun _ e2 _=>hF bg e2),a,up t⟩)) (by omega)
    ·exact fin (ah false s true ae (fun e=>by cases e)) a (up t)
  ·refine au 1 h' (by omega) (fin (cut:=false) ⟨fun _=>⟨I0 _,?_⟩,fun _ _=>⟨fun f hf=>?_,fun f2 e _=>?_⟩⟩ a t)
   ·have:=tk b [];rw[X0] at this;rw[this];exact aw
   ·have:fs=[f1]:=ANZ v hn h1;rw[this] at hf;simp at hf;rw[hf];exact hS
   ·rw[e] at v;exact absurd rfl v
 ·exact au 2 h' (by omega) (fin W a t)
end
abbrev Cp:Vz:=.slice none 0 0
abbrev QB (inl:Bool):PE:=⟨Cp,Cp,Cp,Cp,Cp,Cp,Cp,Cp,0,0,0,inl,true,true⟩
def AE2:Am TP 174=some (.agg ⟨PE.cells ⟨Cp,Cp,Cp,Cp,Cp,Cp,Cp,Cp,0,0,0,false,false,false⟩⟩):=by kernel_rfl
def AOl:NJ [rtS []] 0 TY lfS=ts1:=by
 have:EV [] TY 1=[(TY,1)]:=by decide
 unfold NJ;show [{rtS [] with ks:=EV [] TY 1},lfS]=_;rw[this]
def mr.bf {ocs:List Vz}{i:Nat}{f:FA}{xv:Vz}{xcs:List Vz}(R:mr x ocs i f xv xcs):mr (y+x) ocs i f xv xcs:=⟨R.op,R.dx.bf,R.at_.mono,R.ok,R.sz⟩
def AHD {T:Tj}{sz:Nat}:RdV sz Cp 0 [] z:=by
 have:=((Vec.nil:Vec 9 sz Cp 0 [] 0).rdv).an (y:=z)
 rwa [Res.zero_add] at this
abbrev ADx (m:Nat):List Vz:=Gj m 0 0 0 0 0 0 0 0 0 0 0 0 [] Cp
def ARR {m:Nat}(a:m<65536):SNC z (ADx m) ⟨m,[],[],[]⟩:=VA (xcs:=[]) (l:=[]) a (Q2 _) (AHD (T:=86)) .nil
section
variable {inl:Bool} {ov:Vz} {ocs:List Vz} {fs:List FA} {f1:FA}
def s44 (h1:fs[0]? = some f1)(hn:fs.length<=2)(od:RdV 24 ov fs.length ocs x)(R:∀ i f,fs[i]? = some f->∃ xv xcs,mr x ocs i f xv xcs)(w:AN x h)
  (K:∀ tv tcs m rt cut nv spk pv y h,(∃ a n c,nv=.slice a n c)->Vec 36 22 tv m tcs rt->WrF inl fs f1 m tcs cut spk->AN (y+(rt+x)) h->Q (.tuple #[.agg ⟨CS tv cut nv spk⟩,pv]) h):f44 (.bool inl)  AO ov h Q:=by
 obtain⟨⟨oa,oc,s⟩,_⟩:=od.len;have vb:∀ {T:Tj} {b:Nat} {e:Vz},Vec T 1 (.slice (some ⟨b,0,none⟩) 1 1) 1 [e] (pts b (.cells ⟨[e]⟩ T (0,0))):=.own' (I0 _) rfl rfl;unfold f44 AW;refine AV w KJ rfl fun b6 h w=>?_;refine BA AE2 rfl (rs:=(QB inl).cells) rfl ?_;refine BG w fun pb h w=>?_;have w:AN (pts pb (.cells ⟨(QB inl).cells⟩ 174 (0,0))+(pts b6 (.cells ⟨CS Cp false Cp false⟩ 42 (0,0))+x)) h:=w;refine BA CT rfl (rs:=ADx 16877) rfl ?_;refine EJ w CT (by omega) (by omega) rfl fun l h w=>?_;refine Cr w Jf rfl rfl fun o h w=>?_;refine Cr w Jf rfl rfl fun q h w=>?_;rw[BU,AG,AG];refine AD w ⟨PE.cells {QB inl with nv:=.slice (some ⟨l,0,none⟩) 1 1}⟩ ((AY _ _ _).trans rfl) rfl (by show 0+1<=14;omega) rfl fun h w=>?_;rw[BU,AG];refine AD w ⟨PE.cells {QB inl with nv:=.slice (some ⟨l,0,none⟩) 1 1,bl:=.slice (some ⟨o,0,none⟩) 1 1}⟩ ((AY _ _ _).trans rfl) rfl (by show 1+1<=14;omega) rfl fun h w=>?_;rw[BU,AG];refine AD w ⟨PE.cells {QB inl with nv:=.slice (some ⟨l,0,none⟩) 1 1,bl:=.slice (some ⟨o,0,none⟩) 1 1,ins:=.slice (some ⟨q,0,none⟩) 1 1}⟩ ((AY _ _ _).trans rfl) rfl (by show 2+1<=14;omega) rfl fun h w=>?_;refine Cr w Jf rfl rfl fun bC h w=>?_;refine Cr w MC rfl rfl fun v h w=>?_;refine Cr w MC rfl rfl fun bE h w=>?_;rw[BU,AG];refine AD w ⟨PE.cells {QB inl with nv:=.slice (some ⟨l,0,none⟩) 1 1,bl:=.slice (some ⟨o,0,none⟩) 1 1,ins:=.slice (some ⟨q,0,none⟩) 1 1,far:=.slice (some ⟨bC,0,none⟩) 1 1}⟩ ((AY _ _ _).trans rfl) rfl (by show 3+1<=14;omega) rfl fun h w=>?_;rw[BU,AG];refine AD w ⟨PE.cells {QB inl with nv:=.slice (some ⟨l,0,none⟩) 1 1,bl:=.slice (some ⟨o,0,none⟩) 1 1,ins:=.slice (some ⟨q,0,none⟩) 1 1,far:=.slice (some ⟨bC,0,none⟩) 1 1,maj:=.slice (some ⟨v,0,none⟩) 1 1}⟩ ((AY _ _ _).trans rfl) rfl (by show 4+1<=14;omega) rfl fun h w=>?_;rw[BU,AG];refine AD w ⟨PE.cells {QB inl with nv:=.slice (some ⟨l,0,none⟩) 1 1,bl:=.slice (some ⟨o,0,none⟩) 1 1,ins:=.slice (some ⟨q,0,none⟩) 1 1,far:=.slice (some ⟨bC,0,none⟩) 1 1,maj:=.slice (some ⟨v,0,none⟩) 1 1,min:=.slice (some ⟨bE,0,none⟩) 1 1}⟩ ((AY _ _ _).trans rfl) rfl (by show 5+1<=14;omega) rfl fun h w=>?_;refine Cr w KI rfl rfl fun bF h w=>?_;refine Cr w KI rfl rfl fun bG h w=>?_;rw[BU,AG];refine AD w ⟨PE.cells {QB inl with nv:=.slice (some ⟨l,0,none⟩) 1 1,bl:=.slice (some ⟨o,0,none⟩) 1 1,ins:=.slice (some ⟨q,0,none⟩) 1 1,far:=.slice (some ⟨bC,0,none⟩) 1 1,maj:=.slice (some ⟨v,0,none⟩) 1 1,min:=.slice (some ⟨bE,0,none⟩) 1 1,att:=.slice (some ⟨bF,0,none⟩) 1 1}⟩ ((AY _ _ _).trans rfl) rfl (by show 6+1<=14;omega) rfl fun h w=>?_;rw[BU,AG];obtain⟨p,g⟩:∃ p:PE,p = {QB inl with nv:=.slice (some ⟨l,0,none⟩) 1 1,bl:=.slice (some ⟨o,0,none⟩) 1 1,ins:=.slice (some ⟨q,0,none⟩) 1 1,far:=.slice (some ⟨bC,0,none⟩) 1 1,maj:=.slice (some ⟨v,0,none⟩) 1 1,min:=.slice (some ⟨bE,0,none⟩) 1 1,att:=.slice (some ⟨bF,0,none⟩) 1 1,sta:=.slice (some ⟨bG,0,none⟩) 1 1}:=⟨_,rfl⟩;refine AD w ⟨p.cells⟩ ((AY _ _ _).trans (by rw[g];rfl)) rfl (by show 7+1<=14;omega) rfl fun h w=>?_;refine BA CT rfl (rs:=ADx 16832) rfl ?_;have u:CY (pts b6 (.cells ⟨CS Cp false Cp false⟩ 42 (0,0))) pb inl true [rtS []] [false] [false] [false] x h:=by
  refine⟨p,ADx 16877,[Al],[Al],[AH 0],[AH 0],_,_,_,_,_,_,_,_,by rw[g],by rw[g],by rw[g],⟨⟨rfl,by show 1<1000000;decide,fun i t j=>?_,fun t j e he=>?_⟩,by rw[g];exact .own' (all:=ADx 16877) (I0 _) rfl rfl,by rw[g];exact vb,by rw[g];exact vb,by rw[g];exact vb,by rw[g];exact vb,by rw[g];exact vb,by rw[g];exact vb,by rw[g];exact vb⟩,w.cast ?_⟩
  ·match i,j with
   | 0,j=>cases j;exact ARR (by omega)
  ·simp at j;rw[j] at he;cases he
  ·unfold CM;ac_rfl
 refine ACs (s82 (d:=0) (by decide) (by decide) (fun t j=>by simp at j;rw[j];decide) (ARR (by omega)) rfl u fun y h u=>?_);rw[show NJ [rtS []] 0 [108,111,115,116,43,102,111,117,110,100] ⟨16832,[],[],[]⟩=ts1 from AOl] at u;obtain⟨p,vs,c4,c5,c6,c7,rN,r1,r2,r3,r4,r5,r6,r7,hi,hs,h0,P,w⟩:=u;refine AV w KJ rfl fun b9 h w=>?_;rw[s,As,<-s];refine AS7 (x:=y+x) (F:=0) h1 hn od.bf (fun i f hf=>?_) ⟨p,vs,c4,c5,c6,c7,rN,r1,r2,r3,r4,r5,r6,r7,hi,hs,h0,P,w.cast (by unfold CM;rw[Res.zero_add,Res.add_zero];ac_rfl)⟩ fun tv tcs m rt cut nv spk pv y2 h ae a W w=>K tv tcs m rt cut nv spk pv (y2+y) h ae a W (w.cast (by rw[Res.zero_add];ac_rfl));obtain⟨xv,xcs,r⟩:=R i f hf;exact⟨xv,xcs,r.bf⟩
def s12 (l:fs[0]? = some f1)(p:fs.length<=2)(q:RdV 24 ov fs.length ocs x)(R:∀ i f,fs[i]? = some f->∃ xv xcs,mr x ocs i f xv xcs)(w:AN x h)
  (K:∀ tv tcs m rt cut nv spk y h,(∃ a n c,nv=.slice a n c)->Vec 36 22 tv m tcs rt->WrF inl fs f1 m tcs cut spk->AN (y+(rt+x)) h->Q (.agg ⟨CS tv cut nv spk⟩) h):f12 (.bool inl) ov h Q:=by
 unfold f12 AW;refine AV w KJ rfl fun b4 h w=>?_;refine AM1 (s44 l p q.bf (fun i f o=>?_) w fun tv tcs m rt cut nv spk pv y h j a W w=>?_)
 ·obtain⟨xv,xcs,r⟩:=R i f o;exact⟨xv,xcs,r.bf⟩
 obtain⟨⟨g,tc,rfl⟩,_⟩:=a.len;obtain⟨na,e,d,rfl⟩:=j;rw[BF,BO];refine AV w KJ rfl fun b5 h w=>?_;refine AD w ⟨CS (.slice g m tc) cut (.slice na e d) spk⟩ (AU (by rfl)) rfl (by show 0+5<=5;omega) rfl fun h w=>?_;refine BD (b:=b5) w rfl ?_;refine AD w ⟨CS (.slice g m tc) cut (.slice na e d) spk⟩ (AU (by rfl)) rfl (by show 0+5<=5;omega) rfl fun h w=>?_;refine BD (b:=b4) w rfl ?_;exact K _ tcs m rt cut _ spk (pts b5 (.cells ⟨CS (.slice g m tc) cut (.slice na e d) spk⟩ 42 (0,0))+(y+pts b4 (.cells ⟨CS (.slice g m tc) cut (.slice na e d) spk⟩ 42 (0,0)))) h ⟨_,_,_,rfl⟩ a W (w.cast (by ac_rfl))
end
section
variable {inl:Bool} {ov:Vz} {ocs:List Vz} {fs:List FA} {f1:FA}
def AG2 {f:FA}{xv:Vz}{xcs:List Vz}{i:Nat}(R:mr x ocs i f xv xcs):(opC f xv).all Value.oneCell'=true:=by
 obtain⟨⟨xa,a,rfl⟩,_⟩:=R.dx.len;rfl
def s22 (m:fs.length<=2)(g:RdV 24 ov fs.length ocs x)(R:∀ i f,fs[i]? = some f->∃ xv xcs,mr x ocs i f xv xcs)(w:AN x h)
  (K:∀ y h,AN (y+x) h->Q  AI h):f22  AF  ov h Q:=by
 obtain⟨⟨o,p,a⟩,_⟩:=g.len;unfold f22 AW;rw[a,As,<-a];unfold AIP;refine Ms (fun e u0 u1 u2 d=>∃ i y,e+i=fs.length/\u0=AB 0/\u1=AB 0/\u2=AB (i:Nat)/\AN (y+x) d) fs.length ⟨0,0,rfl,rfl,rfl,rfl,w.cast (by rw[Res.zero_add])⟩ ?_;rintro rec e u0 u1 u2 d ⟨i,y,hi,rfl,rfl,rfl,w⟩ c;have g1:∀ k:Vz->Prop,AQ .gtr  AF (AB 1048576) k=k AE :=fun k=>by rw[Ah];rfl
 have g2:∀ k:Vz->Prop,AQ .neq  AF (AB 4) k=k  AI:=fun k=>by rw[Ay];rfl
 have g3:∀ k:Vz->Prop,AQ .eql  AF AF k=k  AI:=fun k=>by rw[AT];rfl
 have g4:∀ k:Vz->Prop,AQ .add  AF (AB ((0:Nat):Int)) k=k  AF:=fun k=>by rw[BT,ED (by omega) (by omega)];rfl
 unfold ABV BL;rw[AR];refine AS (fun j=>?_) (fun j=>?_)
 ·have b:i<fs.length:=by omega
  obtain⟨f,l⟩:∃ f,fs[i]? = some f:=⟨_,B0 b⟩;obtain⟨xv,xcs,r⟩:=R i f l;refine (g.bf:RdV 24 ov fs.length ocs _).agg w b ?_;rw[r.op];refine AV w If rfl fun b8 h w=>?_;refine AD w ⟨opC f xv⟩ (AU (by rfl)) rfl (by show 0+24<=24;omega) (AG2 r) fun h w=>?_;rw[AG];refine Af w (u:=Cp) rfl ?_;have ln:∀ k:Vz->Prop,DM Cp k=k (AB ((0:Nat):Int)):=fun k=>As;rw[ln,g4,g1,AJ,AG];refine Af w (u:=AB 0) rfl ?_;rw[g2,Ab,Az (n:=1),Bq (by omega)];exact c (e-1) _ _ _ _ ⟨i+1,pts b8 (.cells ⟨opC f xv⟩ 32 (0,0))+y,by omega,rfl,rfl,rfl,w.cast (by rw[Res.assoc])⟩ (by omega)
 ·have g5:∀ k:Vz->Prop,AQ .leq (AB (fs.length:Nat)) (AB 400) k=k  AI :=fun k=>by
   rw[BY];congr 2;simp;omega
  rw[a,As,g5,CV,g3,Hi];exact K y d w
def s11 (q:fs[0]? = some f1)(n:fs.length<=2)(p:RdV 24 ov fs.length ocs x)(R:∀ i f,fs[i]? = some f->∃ xv xcs,mr x ocs i f xv xcs)(w:AN x h)
  (K:∀ b y h,(b=true->(∀ f∈fs,spkB f=true)/\∀ f2,fs=[f1,f2]->C1 inl f1->C1 inl f2/\AnF inl f1.node f2.node)->AN (y+x) h->Q (.bool b) h):f11 (.bool inl)  AF  ov h Q:=by
 unfold f11 AW;refine AMq (s22 n p R w fun y h w=>?_);rw[CI,P3,AJ];refine yb (s12 q n p.bf (fun i f t=>?_) w fun tv tcs m rt cut nv spk l h j a W w=>?_)
 ·obtain⟨xv,xcs,r⟩:=R i f t;exact⟨xv,xcs,r.bf⟩
 obtain⟨⟨g,tc,rfl⟩,_⟩:=a.len;obtain⟨na,d,c,rfl⟩:=j;refine AV w KJ rfl fun b7 h w=>?_;refine AD w ⟨CS (.slice g m tc) cut (.slice na d c) spk⟩ (AU (by rfl)) rfl (by show 0+5<=5;omega) rfl fun h w=>?_;have no:∀ h,AN (pts b7 (.cells ⟨CS (.slice g m tc) cut (.slice na d c) spk⟩ 42 (0,0))+(l+(rt+(y+x)))) h->Q  AE  h:=fun h w=>K false (pts b7 (.cells ⟨CS (.slice g m tc) cut (.slice na d c) spk⟩ 42 (0,0))+(l+(rt+y))) h (fun e=>by cases e) (w.cast (by ac_rfl));rw[AG];refine Af w (u:=.bool spk) rfl ?_;cases o:spk with
 | false=>rw[GU];subst o;exact no h w
 | true=>
  rw[CV,AG];refine Af w (u:=.bool cut) rfl ?_;rw[CI];cases s:cut with
  | true=>rw[P3,GU];exact no h w
  | false=>
   rw[T5,CV,AG];refine Af w (u:=AB 0) rfl ?_;have g3:∀ k:Vz->Prop,AQ .eql  AF   AF  k=k  AI :=fun k=>by rw[AT];rfl
   rw[g3];exact K true (pts b7 (.cells ⟨CS (.slice g m tc) cut (.slice na d c) spk⟩ 42 (0,0))+(l+(rt+y))) h (fun _=>W.fit s o) (w.cast (by ac_rfl))
end
def Pm {T:Tj}{v u:Vz}{n i j sz:Nat}{kk:Iq}{vs:List Vz}{f:Res->Res}{g:H->Prop}(d:Vec T sz v n vs r)[q:Pr r x f](w:AN x h)(hi:i<n)(hj:j<sz)(e:u.cells=#[u])(t:Value.oneCell' u=true)
  (K:∀ r h,Vec T sz v n (vs.set (i*sz+j) u) r->AN (f r) h->g h):Ap (.slice sz) v (.int kk (i:Int)) fun a=>Aw j a fun p=>BV 1 p u h g:=by
 obtain⟨y,l,m⟩:=q.ex;have w:=w.cast l;cases d with
 | nil=>omega
 | own s hc=>
  rename_i b c all;have o:(i+1)*sz<=c*sz:=H3 sz (by omega);rw[V5,P6] at o;rw[LY hi];simp only[Dx,Cb];refine AD w ⟨all.set (i*sz+j) u⟩ ?_ (by rw[e];rfl) (by simp;omega) (by rw[e];simp[t]) fun h w=>?_
  ·rw[e,AY,U1];rfl
  ·refine K _ h (Vec.own' (n:=n) s (by simp;omega) ?_) (w.cast (m _).symm);rw[List.take_set]
section
variable {b1 b3 b4 b6 c m:Nat} {nsv fv ov wk kv:Vz} {vs os cc:List Vz} {F:List Int} {rF rO:Res}
theorem AQ1 (d:RdV 18 nsv 3 vs x)(hc:c<3)(ae:(vs.drop (c*18)).take 18=cc)(q:cc.length=18)(ho:cc.all Value.oneCell'=true)(hk:cc[17]? = some kv)(dk:RdV 1 kv 0 [] x)(t:Vec 3 1 fv 3 (GV F) rF)(hF:F[c]? = some (-1))(aO:Vec 63 18 ov m os rO)(hm:m<3)(w:AN (rF+(pts b4 (.cells ⟨[fv]⟩ 61 (0,0))+(pts b1 (.cells ⟨[nsv]⟩ 40 (0,0))+(pts b3 (.cells ⟨[ov]⟩ 40 (0,0))+(rO+(pts b6 (.cells ⟨[wk]⟩ 180 (0,0))+x)))))) h)
  (K:∀ i kv' e j y h,Vec 3 1 fv 3 (GV (F.set c (m:Nat))) e->Vec 63 18 i (m+1) (os++cc.set 17 kv') j->RdV 1 kv' 0 [] y->AN (e+(pts b4 (.cells ⟨[fv]⟩ 61 (0,0))+(pts b1 (.cells ⟨[nsv]⟩ 40 (0,0))+(pts b3 (.cells ⟨[i]⟩ 40 (0,0))+(j+(pts b6 (.cells ⟨[wk]⟩ 180 (0,0))+(y+x))))))) h->Q (AB (m:Nat)) h):f89 (AB (c:Nat)) (Pt b4) (Pt b1) (Pt b3) (Pt b6) h Q:=by
 obtain⟨⟨va,vc,aj⟩,ai⟩:=aO.len;obtain⟨⟨ka,kc,ah⟩,_⟩:=dk.len;have aw:F.length=3:=by
  have:=t.len.2;unfold GV at this;simpa using this
 have u0:∀ (b:Nat) (v:Vz),(⟨[v]⟩:Array Vz)[0]? = some v:=fun _ _=>rfl;unfold f89 AW;refine Af w (u:=fv) rfl ?_;refine (Gz t.rdv:RdV 1 fv 3 (GV F) _).get w (u:=AB (-1)) (by unfold GV;rw[Y0,hF];rfl) ?_;have g0:∀ k:Vz->Prop,AQ .geq (AB (-1)) AF  k=k  AE :=fun k=>by rw[Bd];rfl
 rw[g0,AJ,AG];refine Af w (u:=nsv) rfl ?_;refine (d.bf.bf.bf.bf.bf.bf:RdV 18 nsv 3 vs _).agg w hc ?_;rw[ae];refine AV w CT rfl fun b7 h w=>?_;refine AD w ⟨cc⟩ (AU (q.trans rfl)) q (by simp) ho fun h w=>?_;refine Af w (u:=fv) rfl ?_;rw[AG];refine Af w (u:=ov) rfl ?_;rw[aj,As];refine Dm t w hc rfl rfl fun e h a w=>?_;have ao:(GV F).set c (AB (m:Nat))=GV (F.set c (m:Nat)):=by unfold GV;rw[E7]
 rw[ao] at a;rw[AG];refine Af w (u:=ov) rfl ?_;refine BD (b:=b7) w q ?_;refine EJ w CT (by omega) (by omega) q fun b8 h w=>?_;refine Pv aO q w CT rfl (by omega) (by omega) ho fun i j h o w=>?_;obtain⟨⟨l,n,rfl⟩,_⟩:=o.len;rw[AG];refine AD w ⟨[.slice l (m+1) n]⟩ (AU (by rfl)) rfl (by simp) rfl fun h w=>?_;refine DQ w Mi fun kv' rk h ak w=>?_;obtain⟨⟨f,g,rfl⟩,_⟩:=ak.len;rw[AG];refine Af w (EI hk) ?_;rw[ah,As];unfold AC7;refine DF (fun _ u0 u1 h'=>u0=.slice f 0 g/\u1=AB 0/\h'=h) 0 ⟨rfl,rfl,rfl⟩ ?_;rintro rec mm u0 u1 h' ⟨rfl,rfl,rfl⟩ au;unfold ij BL;have g1:∀ k:Vz->Prop,AQ .lss  AF (AB ((0:Nat):Int)) k=k  AE:=fun k=>by rw[AR];rfl
 rw[g1,AJ,AG];refine Af w (u:=.slice l (m+1) n) rfl ?_;refine Af w (u:=fv) rfl ?_;have gF:(GV (F.set c (m:Nat)))[c]? = some (AB (m:Nat)):=by unfold GV;rw[Y0,List.getElem?_set_self (by omega)];rfl
 refine (Gz a.rdv:RdV 1 fv 3 (GV (F.set c (m:Nat))) _).get w gF ?_;refine Pm o w (by omega) (by omega) rfl rfl fun ar h p w=>?_;refine Af w (u:=fv) rfl ?_;refine (Gz a.rdv:RdV 1 fv 3 (GV (F.set c (m:Nat))) _).get w gF ?_;have s:(os++cc).set (m*18+17) (.slice f 0 g)=os++cc.set 17 (.slice f 0 g):=by
  rw[<-ai,E8 _ _ (by omega)];congr 2;omega
 rw[s] at p;refine K (.slice l (m+1) n) _ e ar (rk+(pts b8 (.cells ⟨cc⟩ 63 (0,0))+pts b7 (.cells ⟨cc⟩ 63 (0,0)))) h a p ak.rdv.an (w.cast (by simp only[Res.zero_add,Res.add_zero];ac_rfl))
end
structure NC (x:Res) (vs:List Vz) (i:Nat) (cc:List Vz) (kv:Vz) (ks:List Nat):Prop where
 at_:(vs.drop (i*18)).take 18=cc
 len:cc.length=18
 one:cc.all Value.oneCell'=true
 k17:cc[17]? = some kv
 dk:RdV 1 kv ks.length (ints ks) x
section
variable {b1 b3 b4 b6:Nat} {nsv fv kv0 kv1 kv2:Vz} {vs c0 c1 c2:List Vz} {rF:Res}
abbrev Vy (b1 b3 b4 b6:Nat):Vz:=.func (.func 89) #[] #[Pt b4,Pt b1,Pt b3,Pt b6]
def ATE (d:RdV 18 nsv 3 vs x)(N0:NC x vs 0 c0 kv0 [2,1])(N1:NC x vs 1 c1 kv1 [])(N2:NC x vs 2 c2 kv2 [])(aF:Vec 3 1 fv 3 (GV [-1,-1,-1]) rF)(w:AN (rF+(pts b4 (.cells ⟨[fv]⟩ 61 (0,0))+(pts b1 (.cells ⟨[nsv]⟩ 40 (0,0))+(pts b3 (.cells ⟨[Cp]⟩ 40 (0,0))+(0+(pts b6 (.cells ⟨[Vy b1 b3 b4 b6]⟩ 180 (0,0))+x)))))) h)
  (K:∀ ov k0 k1 k2 rO y h,Vec 63 18 ov 3 (c0.set 17 k0++(c2.set 17 k2++c1.set 17 k1)) rO->RdV 1 k0 2 (ints [1,2]) y->RdV 1 k1 0 [] y->RdV 1 k2 0 [] y->AN (rO+(pts b3 (.cells ⟨[ov]⟩ 40 (0,0))+(y+x))) h->Q (AB ((0:Nat):Int)) h):f89 (AB ((0:Nat):Int)) (Pt b4) (Pt b1) (Pt b3) (Pt b6) h Q:=by
 obtain⟨⟨ka,kc,ar⟩,_⟩:=N0.dk.len;have hl:=N0.len;unfold f89 AW;refine Af w (u:=fv) rfl ?_;refine (Gz aF.rdv:RdV 1 fv 3 (GV [-1,-1,-1]) _).get w (i:=0) (u:=AB (-1)) rfl ?_;have g0:∀ k:Vz->Prop,AQ .geq (AB (-1)) AF  k=k  AE :=fun k=>by rw[Bd];rfl
 rw[g0,AJ,AG];refine Af w (u:=nsv) rfl ?_;refine (d.bf.bf.bf.bf.bf.bf:RdV 18 nsv 3 vs _).agg w (i:=0) (by omega) ?_;rw[N0.at_];refine AV w CT rfl fun b7 h w=>?_;refine AD w ⟨c0⟩ (AU (hl.trans rfl)) hl (by simp) N0.one fun h w=>?_;refine Af w (u:=fv) rfl ?_;rw[AG];refine Af w (u:=Cp) rfl ?_;have ln:∀ k:Vz->Prop,DM Cp k=k (AB ((0:Nat):Int)):=fun k=>As;rw[ln];refine Dm aF w (i:=0) (by omega) rfl rfl fun p h ah w=>?_;have ah:Vec 3 1 fv 3 (GV [0,-1,-1]) p:=ah;rw[AG];refine Af w (u:=Cp) rfl ?_;refine BD (b:=b7) w hl ?_;refine EJ w CT (by omega) (by omega) hl fun b8 h w=>?_;have w:=w.cast (show _=0+(pts b8 (.cells ⟨c0⟩ 63 (0,0))+(pts b7 (.cells ⟨c0⟩ 63 (0,0))+(p+(pts b4 (.cells ⟨[fv]⟩ 61 (0,0))+(pts b1 (.cells ⟨[nsv]⟩ 40 (0,0))+(pts b3 (.cells ⟨[Cp]⟩ 40 (0,0))+(pts b6 (.cells ⟨[Vy b1 b3 b4 b6]⟩ 180 (0,0))+x))))))) by simp only[Res.zero_add]);have v0:Vec 63 18 Cp 0 [] 0:=.nil;refine Cq v0 (m:=1) (news:=c0) ((Vec.own' (T:=63) (c:=1) (I0 _) (by rw[hl]) (X2 (by omega))).rdv.an) w CT rfl (by omega) (by omega) N0.one fun ov rO h aO w=>?_;have aO:Vec 63 18 ov 1 c0 rO:=aO;obtain⟨⟨va,vc,rfl⟩,_⟩:=aO.len;rw[AG];refine AD w ⟨[.slice va 1 vc]⟩ (AU (by rfl)) rfl (by simp) rfl fun h w=>?_;refine DQ w Mi fun kv' rk h ak w=>?_;rw[AG];refine Af w (EI N0.k17) ?_;have lk:∀ k:Vz->Prop,DM kv0 k=k (AB ((2:Nat):Int)):=fun k=>by rw[ar];exact As
 rw[lk];have w:=w.cast (show _=p+(pts b4 (.cells ⟨[fv]⟩ 61 (0,0))+(pts b1 (.cells ⟨[nsv]⟩ 40 (0,0))+(pts b3 (.cells ⟨[.slice va 1 vc]⟩ 40 (0,0))+(rO+(pts b6 (.cells ⟨[Vy b1 b3 b4 b6]⟩ 180 (0,0))+(rk+((pts b8 (.cells ⟨c0⟩ 63 (0,0))+pts b7 (.cells ⟨c0⟩ 63 (0,0)))+x))))))) by ac_rfl);generalize pts b8 (.cells ⟨c0⟩ 63 (0,0))+pts b7 (.cells ⟨c0⟩ 63 (0,0))=J at w;have call:∀ (c:Nat) (h:H) (Q':Kt),f89 (AB (c:Nat)) (Pt b4) (Pt b1) (Pt b3) (Pt b6) h Q'->OH TP (Vy b1 b3 b4 b6) [AB (c:Nat)] h Q':=fun c h Q' q=>callV (l:=[AB (c:Nat),Pt b4,Pt b1,Pt b3,Pt b6]) rfl (by kernel_rfl) (AC6 q);have ls:∀ (j:Nat) (k:Vz->Prop),j<=2->AQ .lss (AB (j:Nat)) (AB ((2:Nat):Int)) k=k (.bool (decide (j<2))):=fun j k _=>by
  rw[AR];congr 2;simp;omega
 have t:∀ (j c:Nat) (X:Res) (h:H) (k:Vz->Prop),([2,1]:List Nat)[j]? = some c->AN (X+x) h->k (AB (c:Nat))->Ap (.slice 1) kv0 (AB (j:Nat)) fun a=>Ae false 1 a h k:=fun j c X h k hj w K=>by
  exact (N0.dk.bf:RdV 1 kv0 2 (ints [2,1]) (X+x)).get w (by unfold ints;rw[Y0,hj];rfl) K
 unfold AC7;refine DF (fun mm u0 u1 h'=>(mm=2/\u0=kv'/\u1=AB ((0:Nat):Int)/\h'=h)\/
   (mm=1/\u1=AB ((1:Nat):Int)/\∃ ov k2 e f g y,Vec 3 1 u0 1 [AB ((1:Nat):Int)] g/\Vec 3 1 fv 3 (GV [0,-1,1]) e/\Vec 63 18 ov 2 (c0++c2.set 17 k2) f/\RdV 1 k2 0 [] y/\AN (e+(pts b4 (.cells ⟨[fv]⟩ 61 (0,0))+(pts b1 (.cells ⟨[nsv]⟩ 40 (0,0))+(pts b3 (.cells ⟨[ov]⟩ 40 (0,0))+(f+(pts b6 (.cells ⟨[Vy b1 b3 b4 b6]⟩ 180 (0,0))+(g+(y+x)))))))) h')\/
   (mm=0/\u1=AB ((2:Nat):Int)/\∃ ov k1 k2 e f g y,Vec 3 1 u0 2 [AB ((1:Nat):Int),AB ((2:Nat):Int)] g/\Vec 3 1 fv 3 (GV [0,2,1]) e/\Vec 63 18 ov 3 (c0++c2.set 17 k2++c1.set 17 k1) f/\RdV 1 k1 0 [] y/\RdV 1 k2 0 [] y/\AN (e+(pts b4 (.cells ⟨[fv]⟩ 61 (0,0))+(pts b1 (.cells ⟨[nsv]⟩ 40 (0,0))+(pts b3 (.cells ⟨[ov]⟩ 40 (0,0))+(f+(pts b6 (.cells ⟨[Vy b1 b3 b4 b6]⟩ 180 (0,0))+(g+(y+x)))))))) h')) 2 (.inl ⟨rfl,rfl,rfl,rfl⟩) ?_
 rintro rec mm u0 u1 h' hI ae;unfold ij BL;rcases hI with⟨rfl,rfl,rfl,rfl⟩|⟨rfl,rfl,ov,k2,e,f,g,y,a1,a2,a3,d2,w⟩|⟨rfl,rfl,ov,k1,k2,e,f,g,y,a1,a2,a3,d1,d2,w⟩
 ·rw[ls 0 _ (by omega),H0 (by omega),Ab];refine t 0 2 (p+(pts b4 (.cells ⟨[fv]⟩ 61 (0,0))+(pts b1 (.cells ⟨[nsv]⟩ 40 (0,0))+(pts b3 (.cells ⟨[.slice va 1 vc]⟩ 40 (0,0))+(rO+(pts b6 (.cells ⟨[Vy b1 b3 b4 b6]⟩ 180 (0,0))+(rk+J))))))) h' _ rfl (w.cast (by ac_rfl)) ?_;refine Af w (u:=Vy b1 b3 b4 b6) rfl ?_;refine call 2 h' _ (AQ1 (x:=rk+(J+x)) d.bf.bf (by omega) N2.at_ N2.len N2.one N2.k17 N2.dk.bf.bf ah rfl aO (by omega) w fun ov2 k2 e f y2 h a2 a3 d2 w=>?_);have w:=w.cast (show _=rk+(e+(pts b4 (.cells ⟨[fv]⟩ 61 (0,0))+(pts b1 (.cells ⟨[nsv]⟩ 40 (0,0))+(pts b3 (.cells ⟨[ov2]⟩ 40 (0,0))+(f+(pts b6 (.cells ⟨[Vy b1 b3 b4 b6]⟩ 180 (0,0))+((y2+J)+x))))))) by ac_rfl);refine DC ak w Mi rfl rfl rfl (by omega) (by omega) fun v r h a w=>?_;rw[Az (n:=1),Bq (by omega)];exact ae 1 _ _ _ (.inr (.inl ⟨rfl,rfl,ov2,k2,e,f,r,y2+J,a,a2,a3,d2.an,w.cast (by ac_rfl)⟩)) (by omega)
 ·rw[ls 1 _ (by omega),H0 (by omega),Ab];refine t 1 1 (e+(pts b4 (.cells ⟨[fv]⟩ 61 (0,0))+(pts b1 (.cells ⟨[nsv]⟩ 40 (0,0))+(pts b3 (.cells ⟨[ov]⟩ 40 (0,0))+(f+(pts b6 (.cells ⟨[Vy b1 b3 b4 b6]⟩ 180 (0,0))+(g+y))))))) h' _ rfl (w.cast (by ac_rfl)) ?_;refine Af w (u:=Vy b1 b3 b4 b6) rfl ?_;refine call 1 h' _ (AQ1 (x:=g+(y+x)) d.bf.bf (by omega) N1.at_ N1.len N1.one N1.k17 N1.dk.bf.bf a2 rfl a3 (by omega) w fun aj k1 ao s y3 h b2 o d1 w=>?_);have w:=w.cast (show _=g+(ao+(pts b4 (.cells ⟨[fv]⟩ 61 (0,0))+(pts b1 (.cells ⟨[nsv]⟩ 40 (0,0))+(pts b3 (.cells ⟨[aj]⟩ 40 (0,0))+(s+(pts b6 (.cells ⟨[Vy b1 b3 b4 b6]⟩ 180 (0,0))+((y3+y)+x))))))) by ac_rfl);refine DC a1 w Mi rfl rfl rfl (by omega) (by omega) fun v r h a w=>?_;rw[Az (n:=1),Bq (by omega)];exact ae 0 _ _ _ (.inr (.inr ⟨rfl,rfl,aj,k1,k2,ao,s,r,y3+y,a,b2,o,d1.an,d2.bf,w.cast (by ac_rfl)⟩)) (by omega)
 ·rw[ls 2 _ (by omega),J0 (by omega),AJ];obtain⟨⟨ua,uc,rfl⟩,_⟩:=a1.len;rw[AG];refine Af w (u:=ov) rfl ?_;refine Af w (u:=fv) rfl ?_;refine (Gz a2.rdv:RdV 1 fv 3 (GV [0,2,1]) _).get w (i:=0) (u:=AB ((0:Nat):Int)) rfl ?_;refine Pm a3 w (i:=0) (by omega) (by omega) rfl rfl fun s h o w=>?_;refine Af w (u:=fv) rfl ?_;refine (Gz a2.rdv:RdV 1 fv 3 (GV [0,2,1]) _).get w (i:=0) (u:=AB ((0:Nat):Int)) rfl ?_;have ai:(c0++c2.set 17 k2++c1.set 17 k1).set (0*18+17) (.slice ua 2 uc)=c0.set 17 (.slice ua 2 uc)++(c2.set 17 k2++c1.set 17 k1):=by
   rw[P0,List.set_append_left _ _ (by omega)]
  rw[ai] at o;refine K ov _ k1 k2 s (g+(y+(e+(pts b4 (.cells ⟨[fv]⟩ 61 (0,0))+(pts b1 (.cells ⟨[nsv]⟩ 40 (0,0))+pts b6 (.cells ⟨[Vy b1 b3 b4 b6]⟩ 180 (0,0))))))) h o a1.rdv.an d1.an.bf d2.an.bf (w.cast (by ac_rfl))
end
section
variable {nsv kv0 kv1 kv2:Vz} {vs c0 c1 c2:List Vz}
def AQR (d:RdV 18 nsv 3 vs x)(g:NC x vs 0 c0 kv0 [2,1])(j:NC x vs 1 c1 kv1 [])(m:NC x vs 2 c2 kv2 [])(w:AN x h)
  (K:∀ ov k0 k1 k2 rO y h,Vec 63 18 ov 3 (c0.set 17 k0++(c2.set 17 k2++c1.set 17 k1)) rO->RdV 1 k0 2 (ints [1,2]) y->RdV 1 k1 0 [] y->RdV 1 k2 0 [] y->AN (rO+(y+x)) h->Q (.agg ⟨[ov]⟩) h):f47 (.agg ⟨[nsv]⟩) h Q:=by
 obtain⟨⟨na,nc,s⟩,_⟩:=d.len;have ln:∀ k:Vz->Prop,DM nsv k=k (AB ((3:Nat):Int)):=fun k=>by rw[s,As]
 unfold f47 AW;refine BG w fun b1 h w=>?_;have w:AN (pts b1 (.cells ⟨[nsv]⟩ 40 (0,0))+x) h:=w;refine AV w Mh rfl fun b2 h w=>?_;refine AV w Mh rfl fun b3 h w=>?_;rw[AG];refine Af w (u:=nsv) rfl ?_;rw[ln];refine Di w Mi rfl (I0 _) (by omega) (by omega) fun f h w=>?_;have e:Am TP 61=some  cst__slice_none_0_0:=by kernel_rfl
 refine AV w e rfl fun b4 h w=>?_;refine AD w ⟨[.slice (some ⟨f,0,none⟩) 3 3]⟩ (AU (by rfl)) rfl (by simp) rfl fun h w=>?_;refine Af w (u:=.slice (some ⟨f,0,none⟩) 3 3) rfl ?_;rw[As];have a:Vec 3 1 (.slice (some ⟨f,0,none⟩) 3 3) 3 (GV [0,0,0]) (pts f (.cells ⟨List.replicate 3  AF⟩ 3 (0,0))):=.own' (I0 _) rfl rfl;generalize ae:Value.slice (some ⟨f,0,none⟩) 3 3=fv at a w ⊢;generalize pts f (.cells ⟨List.replicate 3  AF ⟩ 3 (0,0))=rF at a w;unfold AI0;refine Bj (fun t u h'=>∃ i F rF,t+i=3/\u=AB (i:Nat)/\F=List.replicate i (-1)++List.replicate (3-i) 0/\Vec 3 1 fv 3 (GV F) rF/\AN (rF+(pts b4 (.cells ⟨[fv]⟩ 61 (0,0))+(pts b3 (.cells ⟨[Cp]⟩ 40 (0,0))+(pts b2 (.cells ⟨[Cp]⟩ 40 (0,0))+(pts b1 (.cells ⟨[nsv]⟩ 40 (0,0))+x))))) h') 3
  ⟨0,[0,0,0],rF,rfl,rfl,rfl,a,w.cast (by ac_rfl)⟩ ?_
 rintro rec t u h' ⟨i,F,rF,hi,rfl,q,a,w⟩ o;unfold ABm BL;have ls:∀ k:Vz->Prop,AQ .lss (AB (i:Nat)) (AB ((3:Nat):Int)) k=k (.bool (decide (i<3))):=fun k=>by
  rw[AR];exact (J3 k (J3 Value.bool (decide_eq_decide.2 S7)))
 rw[ls];refine AS (fun hc=>?_) (fun hc=>?_)
 ·refine Af (u:=fv) w rfl ?_;refine Dm a w hc rfl rfl fun rF h a w=>?_;have p:(GV F).set i (AB (-1))=GV (List.replicate (i+1) (-1)++List.replicate (3-(i+1)) 0):=by
   have:i=0\/i=1\/i=2:=by omega
   rcases this with rfl|rfl|rfl<;>(rw[q];rfl)
  rw[p] at a;rw[Az (n:=1),Bq (by omega)];exact o (t-1) _ _ ⟨i+1,_,rF,by omega,rfl,rfl,a,w⟩ (by omega)
 ·have:i=3:=by omega
  subst this;have q:F=[-1,-1,-1]:=q;subst q;have c:Am TP 180=some .nilFunc:=by kernel_rfl
  refine AV w c rfl fun b6 h w=>?_;refine AD w ⟨[Vy b1 b3 b4 b6]⟩ (AU (by rfl)) rfl (by simp) rfl fun h w=>?_;rw[AG];refine Af w (u:=nsv) rfl ?_;have g1:∀ k:Vz->Prop,AQ .gtr (AB ((3:Nat):Int)) AF  k=k AI:=fun k=>by rw[Ah];rfl
  rw[ln,g1,Ab];refine Af w (u:=Vy b1 b3 b4 b6) rfl ?_;refine callV (l:=[AB ((0:Nat):Int),Pt b4,Pt b1,Pt b3,Pt b6]) rfl (by kernel_rfl) (AC6 ?_);have w:=w.cast (show _=rF+(pts b4 (.cells ⟨[fv]⟩ 61 (0,0))+(pts b1 (.cells ⟨[nsv]⟩ 40 (0,0))+(pts b3 (.cells ⟨[Cp]⟩ 40 (0,0))+(0+(pts b6 (.cells ⟨[Vy b1 b3 b4 b6]⟩ 180 (0,0))+(pts b2 (.cells ⟨[Cp]⟩ 40 (0,0))+x)))))) by rw[Res.zero_add];ac_rfl);refine ATE (x:=pts b2 (.cells ⟨[Cp]⟩ 40 (0,0))+x) d.bf ⟨g.at_,g.len,g.one,g.k17,g.dk.bf⟩ ⟨j.at_,j.len,j.one,j.k17,j.dk.bf⟩ ⟨m.at_,m.len,m.one,m.k17,m.dk.bf⟩ a w fun ov k0 k1 k2 rO y h aO d0 d1 d2 w=>?_;obtain⟨⟨v,oc,rfl⟩,_⟩:=aO.len;refine BD (b:=b3) w rfl ?_;refine AD w ⟨[.slice v 3 oc]⟩ (AU (by rfl)) rfl (by simp) rfl fun h w=>?_;refine BD (b:=b2) w rfl ?_;refine K _ k0 k1 k2 rO (y+(pts b3 (.cells ⟨[.slice v 3 oc]⟩ 40 (0,0))+pts b2 (.cells ⟨[.slice v 3 oc]⟩ 40 (0,0)))) h aO d0.an d1.an d2.an (w.cast (by ac_rfl))
end
structure ND where
 m:Int
 u:Int
 g:Int
 t:Int×Int×Int×Int×Int×Int×Int×Int
 ma:Int
 mi:Int
 lk:Bs
 bs:Bs
 xs:AL
 nms:List Bs
 kds:List Nat
def ND.cells (n:ND)(dv xv nv kv:Vz):List Vz:=
 [cU16 n.m,AM n.u,AM n.g,AB n.t.1,AB n.t.2.1,AB n.t.2.2.1,AB n.t.2.2.2.1,AB n.t.2.2.2.2.1,AB n.t.2.2.2.2.2.1,AB n.t.2.2.2.2.2.2.1,AB n.t.2.2.2.2.2.2.2,AM n.ma,AM n.mi,dv,str n.lk,xv,nv,kv]
structure TV (x:Res) (n:ND) (dv xv nv kv:Vz) (xcs:List Vz):Prop where
 d:RdX x dv n.bs
 xd:RdV 2 xv n.xs.length xcs x
 at_:AtV x xcs n.xs
 nm:RdV 1 nv n.nms.length (strs n.nms) x
 kd:RdV 1 kv n.kds.length (ints n.kds) x
 lens:n.bs.length<1000000000/\n.xs.length<1000000/\n.nms.length<1000000/\n.kds.length=n.nms.length
def TV.bf {n:ND}{dv xv nv kv:Vz}{xcs:List Vz}(R:TV x n dv xv nv kv xcs):TV (y+x) n dv xv nv kv xcs:=⟨R.d.bf,R.xd.bf,R.at_.mono,R.nm.bf,R.kd.bf,R.lens⟩
section
variable {n:ND} {dv xv nv kv dv' xv' nv' kv':Vz} {xcs xcs':List Vz} {b2 b3:Nat}
def Fl {kk:Iq}{a:Int}:AQ .neq (.int kk a) (.int kk a) k=k AE :=by
 rw[Ay];simp
def AQS (R:TV x n dv xv nv kv xcs)(j:TV x n dv' xv' nv' kv' xcs')[F2:Be b2 x (.cells ⟨n.cells dv xv nv kv⟩ 63 (0,0))][F3:Be b3 x (.cells ⟨n.cells dv' xv' nv' kv'⟩ 63 (0,0))](w:AN x h)(K:∀ h,AN x h->Q  AI  h):ABp Q (Pt b2) (Pt b3) nv (AB (n.nms.length:Nat)) AF  h:=by
 have p:=R.lens;unfold ABp;refine Bj (fun g u d=>∃ i,g+i=n.nms.length/\u=AB (i:Nat)/\d=h) n.nms.length ⟨0,rfl,rfl,rfl⟩ ?_;rintro rec g u d ⟨i,hi,rfl,rfl⟩ b;unfold ABn BL;rw[AR];refine AS (fun o=>?_) (fun _=>K d w);have f:i<n.nms.length:=by omega
 obtain⟨a,m⟩:∃ a,n.nms[i]? = some a:=⟨_,B0 f⟩;obtain⟨c,o⟩:∃ c,n.kds[i]? = some c:=⟨_,B0 (by omega)⟩;have l:(ints n.kds)[i]? = some (AB (c:Nat)):=by unfold ints;rw[Y0,o];rfl
 refine R.nm.get w (KC m) ?_;rw[AG];refine Af w (u:=nv') rfl ?_;refine j.nm.get w (KC m) ?_;rw[EF,J0 (fun e=>e rfl),Bt,AG];refine Af w (u:=kv) rfl ?_;refine R.kd.get w l ?_;rw[AG];refine Af w (u:=kv') rfl ?_;refine j.kd.get w l ?_;rw[Fl,AJ,Az (n:=1),Bq (by omega)];exact b (g-1) _ _ ⟨i+1,by omega,rfl,rfl⟩ (by omega)
def AQT (R:TV x n dv xv nv kv xcs)(f:TV x n dv' xv' nv' kv' xcs')[F2:Be b2 x (.cells ⟨n.cells dv xv nv kv⟩ 63 (0,0))][F3:Be b3 x (.cells ⟨n.cells dv' xv' nv' kv'⟩ 63 (0,0))](w:AN x h)(K:∀ y h,AN (y+x) h->Q AI h):ABq Q (Pt b2) (Pt b3) xv (AB (n.xs.length:Nat))  AF h:=by
 have t:=R.lens;obtain⟨⟨na,nc,c⟩,_⟩:=R.nm.len;unfold ABq;refine Bj (fun g u j=>∃ i y,g+i=n.xs.length/\u=AB (i:Nat)/\AN (y+x) j) n.xs.length ⟨0,0,rfl,rfl,w.cast (by rw[Res.zero_add])⟩ ?_;rintro rec g u j ⟨i,y,hi,rfl,w⟩ d;unfold ABo BL;rw[AR];refine AS (fun s=>?_) (fun _=>?_)
 ·have b:i<n.xs.length:=by omega
  obtain⟨a,l⟩:∃ a,n.xs[i]? = some a:=⟨_,B0 b⟩;obtain⟨v,o,d1⟩:=R.at_.at l;obtain⟨p,v',q,m⟩:=f.at_.name l;refine (R.xd.bf:RdV 2 xv n.xs.length xcs _).agg w b ?_;rw[o];refine AV w CU rfl fun b6 h w=>?_;refine AD w ⟨[str a.1,v]⟩ (AU (by rfl)) rfl (by simp) (Fm d1) fun h w=>?_;rw[AG];refine Af w (show (⟨[str a.1,v]⟩:Array Vz)[0]? = some (str a.1) from rfl) ?_;rw[AG];refine Af w (u:=xv') rfl ?_;refine (f.xd.bf.bf:RdV 2 xv' n.xs.length xcs' _).cell w b (by omega) p ?_;rw[EF,J0 (fun e=>e rfl),Bt,AG];refine Af w (show (⟨[str a.1,v]⟩:Array Vz)[1]? = some v from rfl) ?_;refine d1.bf.bf.str w ?_;rw[AG];refine Af w (u:=xv') rfl ?_;refine (f.xd.bf.bf:RdV 2 xv' n.xs.length xcs' _).cell w b (by omega) q ?_;refine m.bf.bf.str w ?_;rw[EF,J0 (fun e=>e rfl),AJ,Az (n:=1),Bq (by omega)];exact d (g-1) _ _ ⟨i+1,pts b6 (.cells ⟨[str a.1,v]⟩ 86 (0,0))+y,by omega,rfl,w.cast (by rw[Res.assoc])⟩ (by omega)
 ·rw[AG];refine Af w (u:=nv) rfl ?_;rw[c,As,<-c];exact AQS R.bf f.bf w fun h w=>K y h w
def s48 (R:TV x n dv xv nv kv xcs)(f:TV x n dv' xv' nv' kv' xcs')(w:AN x h)(K:∀ y h,AN (y+x) h->Q  AI  h):f48 (.agg ⟨n.cells dv xv nv kv⟩) (.agg ⟨n.cells dv' xv' nv' kv'⟩) h Q:=by
 have c:∀ (h:H) (a b:Int) (k:Vz->Prop),HF (.flat [false,false]) false true h (.agg ⟨[AB a,AB b]⟩) (.agg ⟨[AB a,AB b]⟩) k=k  AE :=fun h a b k=>by
  have e:HS (.flat [false,false]) false h (.agg ⟨[AB a,AB b]⟩) (.agg ⟨[AB a,AB b]⟩)=some true:=by simp[HS,EQ]
  exact propext ⟨fun⟨r,h1,h2⟩=>by rw[e] at h1;cases h1;exact h2,fun o=>⟨true,e,o⟩⟩
 have hl:=R.lens;obtain⟨⟨xa,xc,d⟩,_⟩:=R.xd.len;obtain⟨⟨v,ae,j⟩,_⟩:=f.xd.len;obtain⟨⟨na,nc,m⟩,_⟩:=R.nm.len;obtain⟨⟨s,t,i⟩,_⟩:=f.nm.len;obtain⟨⟨ka,kc,l⟩,_⟩:=R.kd.len;obtain⟨⟨p,q,g⟩,_⟩:=f.kd.len;unfold f48 AW;refine BG w fun b2 h w=>?_;have w:AN (pts b2 (.cells ⟨n.cells dv xv nv kv⟩ 63 (0,0))+x) h:=w;refine BG w fun b3 h w=>?_;have w:AN (pts b3 (.cells ⟨n.cells dv' xv' nv' kv'⟩ 63 (0,0))+(pts b2 (.cells ⟨n.cells dv xv nv kv⟩ 63 (0,0))+x)) h:=w;have f2:=w.find (b:=b2);have f3:=w.find (b:=b3);rw[AG];refine Af w (u:=cU16 n.m) rfl ?_;rw[AG];refine Af w (u:=cU16 n.m) rfl ?_;rw[Fl,Bt];rw[AG];refine Af w (u:=AM n.u) rfl ?_;rw[AG];refine Af w (u:=AM n.u) rfl ?_;rw[Fl,Bt];rw[AG];refine Af w (u:=AM n.g) rfl ?_;rw[AG];refine Af w (u:=AM n.g) rfl ?_;rw[Fl,Bt];rw[AG,BC f2 (show 3+2<=18 by decide),AG,BC f3 (show 3+2<=18 by decide)];rw[show (⟨n.cells dv xv nv kv⟩:Array Vz).extract 3 (3+2)=⟨[AB n.t.1,AB n.t.2.1]⟩ from rfl,show (⟨n.cells dv' xv' nv' kv'⟩:Array Vz).extract 3 (3+2)=⟨[AB n.t.1,AB n.t.2.1]⟩ from rfl,c,Bt];rw[AG,BC f2 (show 5+2<=18 by decide),AG,BC f3 (show 5+2<=18 by decide)];rw[show (⟨n.cells dv xv nv kv⟩:Array Vz).extract 5 (5+2)=⟨[AB n.t.2.2.1,AB n.t.2.2.2.1]⟩ from rfl,show (⟨n.cells dv' xv' nv' kv'⟩:Array Vz).extract 5 (5+2)=⟨[AB n.t.2.2.1,AB n.t.2.2.2.1]⟩ from rfl,c,Bt];rw[AG,BC f2 (show 7+2<=18 by decide),AG,BC f3 (show 7+2<=18 by decide)];rw[show (⟨n.cells dv xv nv kv⟩:Array Vz).extract 7 (7+2)=⟨[AB n.t.2.2.2.2.1,AB n.t.2.2.2.2.2.1]⟩ from rfl,show (⟨n.cells dv' xv' nv' kv'⟩:Array Vz).extract 7 (7+2)=⟨[AB n.t.2.2.2.2.1,AB n.t.2.2.2.2.2.1]⟩ from rfl,c,Bt];rw[AG,BC f2 (show 9+2<=18 by decide),AG,BC f3 (show 9+2<=18 by decide)];rw[show (⟨n.cells dv xv nv kv⟩:Array Vz).extract 9 (9+2)=⟨[AB n.t.2.2.2.2.2.2.1,AB n.t.2.2.2.2.2.2.2]⟩ from rfl,show (⟨n.cells dv' xv' nv' kv'⟩:Array Vz).extract 9 (9+2)=⟨[AB n.t.2.2.2.2.2.2.1,AB n.t.2.2.2.2.2.2.2]⟩ from rfl,c,Bt];rw[AG];refine Af w (u:=AM n.ma) rfl ?_;rw[AG];refine Af w (u:=AM n.ma) rfl ?_;rw[Fl,Bt];rw[AG];refine Af w (u:=AM n.mi) rfl ?_;rw[AG];refine Af w (u:=AM n.mi) rfl ?_;rw[Fl,AJ];unfold AI6 AW;rw[AG];refine Af w (u:=dv) rfl ?_;refine R.d.bf.bf.str w ?_;rw[AG];refine Af w (u:=dv') rfl ?_;refine f.d.bf.bf.str w ?_;rw[EF,J0 (fun e=>e rfl),Bt,AG];refine Af w (u:=str n.lk) rfl ?_;rw[AG];refine Af w (u:=str n.lk) rfl ?_;rw[EF,J0 (fun e=>e rfl),Bt,AG];refine Af w (u:=xv) rfl ?_;rw[d,As,AG];refine Af w (u:=xv') rfl ?_;rw[j,As];rw[Fl,Bt,AG];refine Af w (u:=nv) rfl ?_;rw[m,As,AG];refine Af w (u:=nv') rfl ?_;rw[i,As];rw[Fl,Bt,AG];refine Af w (u:=kv) rfl ?_;rw[l,As,AG];refine Af w (u:=kv') rfl ?_;rw[g,As];rw[Fl,AJ];unfold AI5 AW;rw[AG];refine Af w (u:=xv) rfl ?_;rw[d,As,<-d];exact AQT R.bf.bf f.bf.bf w fun y h w=>K _ h (w.cast (by rw[<-Res.assoc,<-Res.assoc]))
end
end
end Go.Proofs.YtollddkkdgoonaaGreatDoor
