/- A step. No condition. -/
import Derived.Test.YtollddkkdgoonaaGreatDoorM6
namespace Go.Proofs.YtollddkkdgoonaaGreatDoor
open Go
set_option linter.unusedVariables false
set_option linter.unusedSimpArgs false
set_option linter.defProp false
set_option maxRecDepth 100000
variable {h:H} {k:Value->Prop} {kt Q:Kt} {x y z r:Res}
section
variable {wb:Nat}{S S':PS}{ad:Nat->Nat}
def KY:Am TP 3=some  AF:=by kernel_rfl
def AHq:Am TP 141=some .nilFunc:=by kernel_rfl
def AE1:Am TP 49=some cst__slice_none_0_0 :=by kernel_rfl
structure IH (S:PS) (c pp:Nat) (n np:PN) (es:List (Bs×Nat)) (srt:List Bs):Prop where
 cur:S.cur=none
 c1:1<=c
 nd:S.M[c-1]? = some (some n)
 kids:n.kids=some es
 kin:KidsIn S es
 nms:∀ e∈es,1<=e.1.length/\e.1.length<256
 pp1:1<=pp
 pnd:S.M[pp-1]? = some (some np)
 fl:n.ed=262144
 B:S.B.length<=S.pos
 room:S.pos+560*es.length+10000<=S.max
 few:es.length<=10000
 srt:∀ l:List Bs,l.Perm (es.map (·.1))->sortL (lessE es) (l.length-1) 1 l=srt
 known:∀ a∈es.map (·.1),∃ k,lookE es a=some k
def IH.sperm {c pp:Nat}{n np:PN}{es:List (Bs×Nat)}{srt:List Bs}(d:IH S c pp n np es srt):srt.Perm (es.map (·.1)):=by
 have:=d.srt (es.map (·.1)) (N8 _);rw[<-this];cases h:es.map (·.1) with
 | nil=>exact N8 _
 | cons a l=>exact Pf _ _ _ _ (by simp;omega)
def AN6 {dv wv lb fv c pp:Nat}{n np:PN}{es:List (Bs×Nat)}{srt:List Bs}{v:Vz}{pre bs:Bs}{left:Nat}(d:IH S c pp n np es srt)(dv':Vec 9 1 v srt.length (strs srt) r)
  (p:CD wb ad (S.dz c pre) (lbR lb left+(wvR wv wb+(fvR fv lb wv+(dvR dv (ad c)+(r+x))))) h) (hl1:12<=left) (hl2:left<=4096) (hpre:pre.length<=1104)
  (hbs:pre++((CX left (srt.map (Hf S.M es))).2++KN (CX left (srt.map (Hf S.M es))).1)=bs)
  (K:∀ h,CD wb ad (S.dl c n bs) x h->Q .nilIface h) :
  Xs Q (Pt wv) (Pt dv) (Pt fv) (.func (.func 202) #[] #[Pt lb,Pt fv,Pt wv]) v (AB (srt.length:Nat)) (AB ((0:Nat):Int)) h:=by
 have hsl:srt.length=es.length:=by have:=d.sperm.length_eq;simpa using this
 have hfew:=d.few;have hroom:=d.room;unfold Xs;refine Bj (fun m u h'=>∃ (i:Nat) (left:Nat) (pre:Bs),m=srt.length-i/\i<=srt.length/\u=AB (i:Nat)/\12<=left/\left<=4096/\pre.length<=1104+552*i /\
   pre++((CX left ((srt.drop i).map (Hf S.M es))).2++KN (CX left ((srt.drop i).map (Hf S.M es))).1)=bs /\
   CD wb ad (S.dz c pre) (lbR lb left+(wvR wv wb+(fvR fv lb wv+(dvR dv (ad c)+(r+x))))) h') srt.length
  ⟨0,left,pre,rfl,Q2 _,rfl,hl1,hl2,hpre,by rw[I5];exact hbs,p⟩ ?_
 rintro rec m u h' ⟨i,left,pre,rfl,hi,rfl,hl1,hl2,hpre,hbs,p⟩ hrec;have hat:HT (S.dz c pre) c n (560*es.length+10000-pre.length):=OM d.c1 d.nd d.fl (by omega) (by omega);have hB':(S.dz c pre).B.length<=(S.dz c pre).pos:=TK (S:={S with cur:=some c,dw:=0,dm:=9223372036854775807}) d.B;unfold Xo BL;simp (disch:=omega) only[go_sem];refine AS (fun hlt=>?_) (fun hge=>?_)
 ·have hlt':i<srt.length:=by omega
  have gi:srt[i]? = some srt[i]:=B0 hlt';obtain⟨k,hk⟩:=d.known srt[i] (d.sperm.mem_iff.1 (I7 hlt'));have hmem:=Jt hk;obtain⟨hk1,nk,hnk⟩:=d.kin _ hmem;obtain⟨hn1,hn2⟩:=d.nms _ hmem;obtain⟨hm,hk4,hknum⟩:=Lk p hk1 hnk;refine Fb (r:=r) (x:=lbR lb left+(wvR wv wb+(fvR fv lb wv+(dvR dv (ad c)+x)))) (p.cast (by ac_rfl)) dv' (Fd gi) ?_;obtain⟨nd,rr,hnd,hnum,w,_⟩:=Ek p d.c1 d.nd;obtain⟨mb,hdir⟩:∃ mb,nd.dir=some (mb,es):=by
   have:nd.dir.map (·.2)=some es:=by rw[<-d.kids,<-hnd];rfl
   rw[K4] at this;obtain⟨⟨mb,es'⟩,e1,e2⟩:=this;cases e2;exact⟨mb,e1⟩
  have wl:AN (pts (ad c) (.cells nd.cells 197 (0,0))+(nd.dr+(nd.xr+nd.kr ad))+(rr+(lbR lb left+(wvR wv wb+(fvR fv lb wv+(dvR dv (ad c)+(r+x))))))) h':=w.cast (by unfold Nd.res;rw[hnum]);rw[Bf p];simp only[go_sem];rw[AC wl];simp only[go_sem];refine GG w ?_;simp only[hdir,hk,go_sem];obtain⟨ndk,rk,hpk,hnumk,wk,_⟩:=Ek p hk1 hnk;have wk':AN (pts (ad k) (.cells ndk.cells 197 (0,0))+(ndk.dr+(ndk.xr+ndk.kr ad))+(rk+(lbR lb left+(wvR wv wb+(fvR fv lb wv+(dvR dv (ad c)+(r+x))))))) h':=wk.cast (by unfold Nd.res;rw[hnumk]);rw[AC wk'];simp only[go_sem];have hnk':ndk.num=k:=hnumk;rw[hnk'];refine callV (l:=[AM (k:Nat),str srt[i],Pt lb,Pt fv,Pt wv]) rfl (by kernel_rfl) (SP (AN9 (x:=dvR dv (ad c)+(r+x)) p hat hk1 hnk hm hn1 hn2 hk4 hl1 hl2 (by omega) hB' fun h p=>?_));simp (disch:=omega) only[go_sem];rw[JD d.B] at p;have hd:srt.drop i=srt[i]::srt.drop (i+1):=N3 hlt';have he:Hf S.M es srt[i]=(k,GF nk.en,srt[i]):=by
   have hma:modeAt S.M k=nk.en:=by
    have:S.M[k-1]? = some (some nk):=hnk;unfold modeAt;rw[this]
   unfold Hf;rw[hk,C9,hma]
  rw[hd,Q1,he,CX] at hbs;simp only at hbs;obtain⟨q1,q2,q3⟩:=Sr (c:=k) (ft:=GF nk.en) (nm:=srt[i]) hl1 hl2 hn2;refine hrec _ _ _ ⟨i+1,(FK left k (GF nk.en) srt[i]).1,pre++(FK left k (GF nk.en) srt[i]).2,rfl,by omega,rfl,q1,q2,by rw[C0];omega,?_,p⟩ (by omega);rw[<-hbs];simp only[P0]
 ·have hi':i=srt.length:=by omega
  rw[hi',X6,P8,CX,U2] at hbs;simp only at hbs;rw[Bf p];simp only[go_sem];refine callV (l:=[Pt lb,Pt wv]) rfl (by kernel_rfl) (f9 (AQJ (x:=fvR fv lb wv+(dvR dv (ad c)+(r+x))) p hat hl1 hl2 (by omega) hB' fun h p=>?_));simp (disch:=omega) only[Ij];simp only[AJ];rw[JD d.B,hbs] at p;refine AP6 (wv:=wv) (x:=lbR lb 4096+(fvR fv lb wv+(dvR dv (ad c)+(r+x)))) (p.cast (by ac_rfl)) d.c1 d.nd fun h p=>?_;exact K h (CD.mono (y:=wvR wv wb+(lbR lb 4096+(fvR fv lb wv+(dvR dv (ad c)+r)))) (p.cast (by ac_rfl)))
def AP7 {dv wv lb fv c pp l1:Nat}{n np:PN}{es:List (Bs×Nat)}{srt:List Bs}{pre bs:Bs}(d:IH S c pp n np es srt)(hfew:es.length<=10000)(p:CD wb ad (S.dz c pre) (lbR lb l1+(wvR wv wb+(fvR fv lb wv+(dvR dv (ad c)+x)))) h)(b1:12<=l1)(b2:l1<=4096)(hprel:pre.length<=1104)
  (hbs:pre++((CX l1 (srt.map (Hf S.M es))).2++KN (CX l1 (srt.map (Hf S.M es))).1)=bs) (K:∀ h,CD wb ad (S.dl c n bs) x h->Q .nilIface h) :
  Ak (Am TP 49) 49 h fun x13 h=>Ae false 1 (Pt dv) h fun x51=>BS x51 fun x52=>Aw 17 x52 fun x53=>Ae false 1 x53 h fun x54=>HM x54 h fun x55 h=>Xu Q (Pt wv) (Pt dv) (Pt fv) (.func (.func 202) #[] #[Pt lb,Pt fv,Pt wv]) x13 x55 h:=by
 refine ET p AE1 rfl fun cv h p=>?_;simp only[go_sem,Bf p];have p:CD wb ad (S.dz c pre) (lbR lb l1+(wvR wv wb+(fvR fv lb wv+(dvR dv (ad c)+(cvR cv  cst__slice_none_0_0 +x))))) h:=p.cast (by unfold lbR wvR fvR dvR cvR;ac_rfl);obtain⟨nd,rr,hnd,hnum,w,cl⟩:=Ek p d.c1 d.nd;obtain⟨mb,hdir⟩:∃ mb,nd.dir=some (mb,es):=by
  have:nd.dir.map (·.2)=some es:=by rw[<-d.kids,<-hnd];rfl
  rw[K4] at this;obtain⟨⟨mb,es'⟩,e1,e2⟩:=this;cases e2;exact⟨mb,e1⟩
 have hkr:nd.kr ad=pts mb (De ad es):=by unfold Nd.kr;rw[hdir]
 have hkv:nd.kids=.map (some mb):=by unfold Nd.kids;rw[hdir];rfl
 have wl:AN (pts (ad c) (.cells nd.cells 197 (0,0))+(pts mb (De ad es)+(nd.dr+nd.xr+rr+(lbR lb l1+(wvR wv wb+(fvR fv lb wv+(dvR dv (ad c)+(cvR cv  cst__slice_none_0_0 +x)))))))) h:=w.cast (by unfold Nd.res lbR wvR fvR dvR cvR;rw[hnum,hkr];ac_rfl);rw[AC wl];simp only[go_sem];rw[hkv];refine Jx (m:=mb) wl fun ib h w=>?_;have w2:AN (pts mb (De ad es)+(pts ib (.mapIter (some mb) es.length #[] es.length)+(cvR cv  cst__slice_none_0_0 +(pts (ad c) (.cells nd.cells 197 (0,0))+(nd.dr+nd.xr+rr+(lbR lb l1+(wvR wv wb+(fvR fv lb wv+(dvR dv (ad c)+x))))))))) h:=by
  have key:∀ A B C D E1 E2 E3 E4 V X:Res,A+(C+(B+(D+(E1+(E2+(E3+(E4+(V+X))))))))=B+(A+(V+(C+(D+(E1+(E2+(E3+(E4+X)))))))):=by intros;ac_rfl
  exact w.cast (key _ _ _ _ _ _ _ _ _ _)
 unfold Xu Xr BL;refine ADY (E:=Xt Q (Pt wv) (Pt dv) (Pt fv) (.func (.func 202) #[] #[Pt lb,Pt fv,Pt wv]) (Pt cv) (.func (.func 204) #[] #[Pt dv,Pt cv])  AX ) (ib:=ib) (cv:=cv) (ad:=ad) (es:=es) (x:=pts (ad c) (.cells nd.cells 197 (0,0))+(nd.dr+nd.xr+rr+(lbR lb l1+(wvR wv wb+(fvR fv lb wv+(dvR dv (ad c)+x)))))) (by omega) w2 fun l v r h hperm dvec w=>?_;have p:CD wb ad (S.dz c pre) (r+(dvR dv (ad c)+(cvR cv v+(lbR lb l1+(wvR wv wb+(fvR fv lb wv+x)))))) h:=cl _ _ (w.cast (by unfold Nd.res lbR wvR fvR dvR cvR;rw[hnum,hkr];ac_rfl));have hll:l.length=es.length:=by have:=hperm.length_eq;simpa using this
 rw[<-hll] at dvec;unfold Xt Xp AAW Xq AAV AW BL;refine RG (F:=204) (c:=c) (es:=es) p dvec (by omega) (fun a ha=>d.known a (hperm.mem_iff.1 ha)) (by kernel_rfl) (fun i j l' r Q h a b p dv hi hj ha hb K=>AGS (ASq p dv d.c1 d.nd d.kids d.kin hi hj ha hb K)) fun r h dvec p=>?_;rw[d.srt l hperm] at dvec;have hsl:srt.length=l.length:=by have:=d.sperm.length_eq;simp at this;omega
 rw[<-hsl] at dvec;simp only[go_sem,Bf p];obtain⟨⟨va,vc,hv⟩,_⟩:=dvec.len;rw[hv];simp only[go_sem];rw[<-hv];refine AN6 (x:=cvR cv v+x) d dvec (p.cast (by ac_rfl)) b1 b2 hprel hbs fun h p=>K h (CD.mono (y:=cvR cv v) (p.cast (Res.comm _ _)))
def AEd {c room:Nat}{n:PN}(b:1<=c)(e:S.M[c-1]? = some (some n))(a:n.ed=262144)(f:room<=100000000)(d:S.pos+room<=S.max):HT {S with cur:=some c,dw:=0,dm:=9223372036854775807} c n room:=
 ⟨rfl,b,e,a,rfl,by show 0+room<=100000000;omega,d⟩
theorem ASW {c pp:Nat}{n np:PN}{es:List (Bs×Nat)}{srt:List Bs}{S0:PS}(d:IH S c pp n np es srt)(p:CD wb ad S0 x h)(fin:Fin S0 S)(K:∀ h,CD wb ad (S.dl c n (Cc (Dp S.M c pp es srt))) x h->Q .nilIface h) :
  AMC (Pt wb) (Pt (ad c)) (Pt (ad pp)) h Q:=by
 have f:=d.few;have j:=d.room;have ai:560*es.length+10000<=100000000:=C6 (Nat.add_le_add_right (Nat.mul_le_mul_left 560 f) 10000) (by decide);have aj:S.pos+(560*es.length+10000)<=S.max:=C6 (Nat.le_of_eq (H8 _ _ _).symm) j;unfold AMC AW;refine Sv p fun wv h p=>?_;have p:CD wb ad S0 (wvR wv wb+x) h:=p;refine Sv p fun dv h p=>?_;have p:CD wb ad S0 (dvR dv (ad c)+(wvR wv wb+x)) h:=p;simp only[go_sem,Bf p,Value.cells];refine MM (Nh p fin fun h p=>?_);simp only[go_sem,Bf p];refine YW (qd (n:=9223372036854775807) p d.cur fun h p=>?_);refine ET p KY rfl fun e h p=>?_;refine EU p ⟨[AB ((4096:Nat):Int)]⟩ rfl rfl (by simp) rfl fun h p=>?_;refine ET p AHq rfl fun fv h p=>?_;refine EU p ⟨[.func (.func 200) #[] #[Pt e,Pt wv]]⟩ rfl rfl (by simp) rfl fun h p=>?_;simp only[go_sem,Bf p];have p:CD wb ad {S with cur:=some c,dw:=0,dm:=9223372036854775807} (lbR e 4096+(wvR wv wb+(fvR fv e wv+(dvR dv (ad c)+x)))) h:=p.cast (by unfold lbR wvR fvR dvR;ac_rfl);obtain⟨nd,rr,ae,a,w,_⟩:=Ek p d.c1 d.nd;have wl:AN (pts (ad c) (.cells nd.cells 197 (0,0))+(nd.dr+(nd.xr+nd.kr ad))+(rr+(lbR e 4096+(wvR wv wb+(fvR fv e wv+(dvR dv (ad c)+x)))))) h:=w.cast (by unfold Nd.res;rw[a]);rw[AC wl];simp only[go_sem,a];have s:HT {S with cur:=some c,dw:=0,dm:=9223372036854775807} c n (560*es.length+10000):=AEd (S:=S) (room:=560*es.length+10000) d.c1 d.nd d.fl ai aj;obtain⟨hm,u,_⟩:=Lk p d.c1 d.nd;obtain⟨g,ah,_⟩:=Lk p d.pp1 d.pnd;have ao:(Value.string ⟨#[46]⟩)=str [46]:=rfl;have ar:(Value.string ⟨#[46,46]⟩)=str [46,46]:=rfl;rw[ao,ar];refine callV (l:=[AM (c:Nat),str [46],Pt e,Pt fv,Pt wv]) rfl (by kernel_rfl) (SP (AN9 (x:=dvR dv (ad c)+x) p s d.c1 d.nd hm (by decide) (by decide) u (by omega) (by omega) (by omega) d.B fun h p=>?_));obtain⟨a1,a2,a3⟩:=Sr (left:=4096) (c:=c) (ft:=GF n.en) (nm:=[46]) (by omega) (by omega) (by decide);have p:CD wb ad (S.dz c (FK 4096 c (GF n.en) [46]).2) (lbR e (FK 4096 c (GF n.en) [46]).1+(wvR wv wb+(fvR fv e wv+(dvR dv (ad c)+x)))) h:=p;simp only[go_sem];obtain⟨nd,rr,ae,a,w,_⟩:=Ek p d.pp1 d.pnd;have wl:AN (pts (ad pp) (.cells nd.cells 197 (0,0))+(nd.dr+(nd.xr+nd.kr ad))+(rr+(lbR e (FK 4096 c (GF n.en) [46]).1+(wvR wv wb+(fvR fv e wv+(dvR dv (ad c)+x)))))) h:=w.cast (by unfold Nd.res;rw[a]);rw[AC wl];simp only[go_sem,a];have m:HT (S.dz c (FK 4096 c (GF n.en) [46]).2) c n (560*es.length+9000):=OM d.c1 d.nd d.fl (by omega) (by omega);have q:(S.dz c (FK 4096 c (GF n.en) [46]).2).B.length<=(S.dz c (FK 4096 c (GF n.en) [46]).2).pos:=TK (S:={S with cur:=some c,dw:=0,dm:=9223372036854775807}) d.B;refine callV (l:=[AM (pp:Nat),str [46,46],Pt e,Pt fv,Pt wv]) rfl (by kernel_rfl) (SP (AN9 (x:=dvR dv (ad c)+x) p m d.pp1 d.pnd g (by decide) (by decide) ah a1 a2 (by omega) q fun h p=>?_));rw[JD d.B] at p;obtain⟨b1,b2,b3⟩:=Sr (left:=(FK 4096 c (GF n.en) [46]).1) (c:=pp) (ft:=GF np.en) (nm:=[46,46]) a1 a2 (by decide);obtain⟨l1,o⟩:∃ l1,l1=(FK (FK 4096 c (GF n.en) [46]).1 pp (GF np.en) [46,46]).1:=⟨_,rfl⟩;obtain⟨pre,b⟩:∃ pre,pre=(FK 4096 c (GF n.en) [46]).2++(FK (FK 4096 c (GF n.en) [46]).1 pp (GF np.en) [46,46]).2:=⟨_,rfl⟩;have t:pre++((CX l1 (srt.map (Hf S.M es))).2++KN (CX l1 (srt.map (Hf S.M es))).1)=Cc (Dp S.M c pp es srt):=by
  have v:modeAt S.M c=n.en:=by unfold modeAt;rw[d.nd]
  have g:modeAt S.M pp=np.en:=by unfold modeAt;rw[d.pnd]
  unfold Cc Dp;rw[v,g,CX,CX];simp only;rw[<-o,b];simp only[P0]
 rw[<-o] at b1 b2 p;rw[<-b] at p;have i:pre.length<=1104:=by rw[b,C0];omega
 simp only[go_sem];exact AP7 d f p b1 b2 i t K
def my (R:PS->Nat->Nat->PS->Prop)(c:Nat)(es:List (Bs×Nat)):PS->List Bs->PS->Prop
 | S,[],S'=>S'=S
 | S,nm::l,S'=>∃ n k nk,S.M[c-1]? = some (some n)/\n.kids=some es/\lookE es nm=some k/\1<=k/\S.M[k-1]? = some (some nk)/\(if kindB nk.en=16384 then ∃ S1,R S k c S1/\my R c es S1 l S' else my R c es S l S')
def RecD:Nat->PS->Nat->Nat->PS->Prop
 | 0,_,_,_,_=>False
 | f+1,S0,c,pp,S'=>∃ S n np es srt,Fin S0 S/\IH S c pp n np es srt/\my (RecD f) c es (S.dl c n (Cc (Dp S.M c pp es srt))) srt S'
def UF {c:Nat}{n:PN}{bs:Bs}{i:Nat}{m:PN}(h:S.M[i]? = some (some m)):∃ m',(S.dl c n bs).M[i]? = some (some m'):=by
 show ∃ m',(S.M.set (c-1) (some {n with size:=bs.length}))[i]? = some (some m');have b:=(G0.1 h).1;rw[G4];by_cases a:c-1=i
 ·subst a;rw[D0 rfl,D0 b];exact⟨_,rfl⟩
 ·rw[F0 a];exact⟨m,h⟩
def ANh {f dv c:Nat}{es:List (Bs×Nat)}{srt:List Bs}{v:Vz}{S0 S':PS}
  (ih:∀ (S0:PS) (c pp:Nat) (S':PS) (x:Res) (h:H) (Q:Kt),RecD f S0 c pp S'->CD wb ad S0 x h->(∀ h,CD wb ad S' x h->Q .nilIface h)->AFg (Pt wb) (Pt (ad c)) (Pt (ad pp)) h Q)
  (d:Vec 9 1 v srt.length (strs srt) r) (ai:1<=c) (aw:srt.length<=10000) (p:CD wb ad S0 (r+(dvR dv (ad c)+x)) h) (a:my (RecD f) c es S0 srt S') (K:∀ h,CD wb ad S' x h->Q .nilIface h) :
  Wg Q (Pt wb) (Pt dv) v (AB (srt.length:Nat)) (AB ((0:Nat):Int)) h:=by
 unfold Wg;refine Bj (fun m u h'=>∃ (i:Nat) (S:PS),m=srt.length-i/\i<=srt.length/\u=AB (i:Nat)/\my (RecD f) c es S (srt.drop i) S'/\CD wb ad S (r+(dvR dv (ad c)+x)) h') srt.length ⟨0,S0,rfl,Q2 _,rfl,by rw[I5];exact a,p⟩ ?_;rintro rec m u h' ⟨i,S,rfl,hi,rfl,a,p⟩ j;unfold Wc BL;simp (disch:=omega) only[go_sem];refine AS (fun az=>?_) (fun ay=>?_)
 ·have g:i<srt.length:=by omega
  have gi:srt[i]? = some srt[i]:=B0 g;have hd:srt.drop i=srt[i]::srt.drop (i+1):=N3 g;rw[hd] at a;obtain⟨n,k,nk,hn,l,hk,s,ae,a⟩:=a;refine Fb p d (Fd gi) ?_;obtain⟨nd,rr,ao,ah,w,_⟩:=Ek p ai hn;obtain⟨mb,q⟩:∃ mb,nd.dir=some (mb,es):=by
   have:nd.dir.map (·.2)=some es:=by rw[<-l,<-ao];rfl
   rw[K4] at this;obtain⟨⟨mb,es'⟩,e1,e2⟩:=this;cases e2;exact⟨mb,e1⟩
  have wl:AN (pts (ad c) (.cells nd.cells 197 (0,0))+(nd.dr+(nd.xr+nd.kr ad))+(rr+(r+(dvR dv (ad c)+x)))) h':=w.cast (by unfold Nd.res;rw[ah]);rw[Bf p];simp only[go_sem];rw[AC wl];simp only[go_sem];refine GG w ?_;simp only[q,hk];obtain⟨b,rk,ar,o,wk,_⟩:=Ek p s ae;have au:AN (pts (ad k) (.cells b.cells 197 (0,0))+(b.dr+(b.xr+b.kr ad))+(rk+(r+(dvR dv (ad c)+x)))) h':=wk.cast (by unfold Nd.res;rw[o]);obtain⟨hm,_,_⟩:=Lk p s ae;have t:b.en=nk.en:=by rw[<-ar];rfl
  refine SR (s93 au (by rw[t];exact hm) ?_);rw[t];by_cases e:kindB nk.en=16384
  ·rw[D0 e] at a;obtain⟨S1,h1,h2⟩:=a;rw[H0 e];simp only[go_sem,Bf p];refine Zi (ih S k c S1 _ _ _ h1 p fun h p=>?_);simp (disch:=omega) only[go_sem];exact j _ _ _ ⟨i+1,S1,rfl,by omega,rfl,h2,p⟩ (by omega)
  ·rw[F0 e] at a;rw[J0 e];simp (disch:=omega) only[go_sem];exact j _ _ _ ⟨i+1,S,rfl,by omega,rfl,a,p⟩ (by omega)
 ·have aj:i=srt.length:=by omega
  rw[aj,X6] at a;have a:S'=S:=a;subst a;exact K _ (CD.mono (y:=r+dvR dv (ad c)) (p.cast (by ac_rfl)))
theorem APg:∀ (f:Nat) (S0:PS) (c pp:Nat) (S':PS) (x:Res) (h:H) (Q:Kt),RecD f S0 c pp S'->CD wb ad S0 x h->(∀ h,CD wb ad S' x h->Q .nilIface h)->AFg (Pt wb) (Pt (ad c)) (Pt (ad pp)) h Q
 | 0,_,_,_,_,_,_,_,hr,_,_=>hr.elim
 | f+1,S0,c,pp,S',x,h,Q,hr,p,K=>by
  obtain⟨S,n,np,es,srt,fin,d,hl⟩:=hr;have ay:=d.few;unfold AFg AW;refine Sv p fun dv h p=>?_;have p:CD wb ad S0 (dvR dv (ad c)+x) h:=p;rw[Bf p];simp only[go_sem];refine AF6 (ASW d p fin fun h p=>?_);simp only[go_sem];refine ET p AE1 rfl fun cv h p=>?_;simp only[go_sem,Bf p];obtain⟨n',aj⟩:∃ n',n'=({n with size:=(Cc (Dp S.M c pp es srt)).length}:PN):=⟨_,rfl⟩;have s:(S.dl c n (Cc (Dp S.M c pp es srt))).M[c-1]? = some (some n'):=by
   show (S.M.set (c-1) (some _))[c-1]? = _;rw[List.getElem?_set_self (G0.1 d.nd).1,aj]
  have ae:n'.kids=some es:=by rw[aj];exact d.kids
  have ah:KidsIn (S.dl c n (Cc (Dp S.M c pp es srt))) es:=fun e he=>by
   obtain⟨h1,m,hm⟩:=d.kin e he;exact⟨h1,UF hm⟩
  have p:CD wb ad (S.dl c n (Cc (Dp S.M c pp es srt))) (cvR cv cst__slice_none_0_0 +(dvR dv (ad c)+x)) h:=p;obtain⟨nd,rr,au,t,w,cl⟩:=Ek p d.c1 s;obtain⟨mb,q⟩:∃ mb,nd.dir=some (mb,es):=by
   have:nd.dir.map (·.2)=some es:=by rw[<-ae,<-au];rfl
   rw[K4] at this;obtain⟨⟨mb,es'⟩,e1,e2⟩:=this;cases e2;exact⟨mb,e1⟩
  have ai:nd.kr ad=pts mb (De ad es):=by unfold Nd.kr;rw[q]
  have ao:nd.kids=.map (some mb):=by unfold Nd.kids;rw[q];rfl
  have k1:∀ A B u D2 R V W X:Res,A+(u+(D2+B))+(R+(V+(W+X)))=A+(B+(u+D2+R+(V+(W+X)))):=by intros;ac_rfl
  have wl:AN (pts (ad c) (.cells nd.cells 197 (0,0))+(pts mb (De ad es)+(nd.dr+nd.xr+rr+(cvR cv  cst__slice_none_0_0+(dvR dv (ad c)+x))))) h:=w.cast (by unfold Nd.res;rw[t,ai];exact k1 _ _ _ _ _ _ _ _);rw[AC wl];simp only[go_sem];rw[ao];refine Jx (m:=mb) wl fun ib h w=>?_;have k2:∀ I A B Y V W X:Res,I+(A+(B+(Y+(V+(W+X)))))=B+(I+(V+(A+(Y+(W+X))))):=by intros;ac_rfl
  unfold vg Wf BL;refine ADY (E:=Wh Q (Pt wb) (Pt dv) (Pt cv) (.func (.func 167) #[] #[Pt dv,Pt cv]) AX ) (ib:=ib) (cv:=cv) (ad:=ad) (es:=es) (x:=pts (ad c) (.cells nd.cells 197 (0,0))+(nd.dr+nd.xr+rr+(dvR dv (ad c)+x))) (by omega) (w.cast (k2 _ _ _ _ _ _ _)) fun l v r h o g w=>?_;have k3:∀ A B u D2 R0 R V W X:Res,B+(R+(V+(A+(u+D2+R0+(W+X)))))=A+(u+(D2+B))+(R0+(R+(W+(V+X)))):=by intros;ac_rfl
  have p:CD wb ad (S.dl c n (Cc (Dp S.M c pp es srt))) (r+(dvR dv (ad c)+(cvR cv v+x))) h:=cl _ _ (w.cast (by unfold Nd.res;rw[t,ai];exact k3 _ _ _ _ _ _ _ _ _));have ar:l.length=es.length:=by have:=o.length_eq;simpa using this
  rw[<-ar] at g;unfold Wh Wd vf We ve AW BL;refine RG (F:=167) (c:=c) (es:=es) p g (by omega) (fun a ha=>d.known a (o.mem_iff.1 ha)) (by kernel_rfl) (fun i j l' r Q h a b p dv hi hj ha hb K=>AF7 (ASX p dv d.c1 s ae ah hi hj ha hb K)) fun r h g p=>?_;rw[d.srt l o] at g;have aw:srt.length=l.length:=by have:=d.sperm.length_eq;simp at this;omega
  rw[<-aw] at g;simp only[go_sem,Bf p];obtain⟨⟨va,vc,hv⟩,_⟩:=g.len;rw[hv];simp only[go_sem];rw[<-hv];refine ANh (x:=cvR cv v+x) (APg f) g d.c1 (by omega) p hl fun h p=>K h (CD.mono (y:=cvR cv v) (p.cast (Res.comm _ _)))
def IU (n:Nat):Bs:=Ag n++Ag (n/4294967296)
def Un (n:Nat):Ag (n%4294967296)=Ag n:=by
 unfold Ag;have h:∀ a b:Nat,a%256=b%256->UInt8.ofNat a=UInt8.ofNat b:=fun a b h=>by
  apply J6.1;simp[h]
 congr 1
 ·exact h _ _ (by omega)
 ·congr 1
  ·exact h _ _ (by omega)
  ·congr 1
   ·exact h _ _ (by omega)
   ·congr 1;exact h _ _ (by omega)
def ASa {v:Vz}{bs:Bs}{n:Nat}(b:BufV v bs r)(w:AN (r+x) h)(c:n<18446744073709551616)(a:bs.length+8<=140737488355328)(K:∀ v r h,BufV v (bs++IU n) r->AN (r+x) h->Q v h):AMJ v (AH n) h Q:=by
 unfold AMJ AW;simp only[go_sem];refine Gp (VY b w (by omega) fun v r h b w=>?_);refine Gp (VY b w (by simp[BK];omega) fun v r h b w=>K v r h ?_ w);rw[Un,Un,P0] at b;exact b
section chain
variable {pb i m n:Nat} {cs:Array Vz} {T:Tj} {v:Vz} {bs:Bs} {kk:Kt}
abbrev ChR (r x:Res)(pb:Nat)(cs:Array Vz)(T:Tj):Res:=r+(pts pb (.cells cs T (0,0))+x)
def NY {k:Vz->Prop}{u:Vz}(w:AN (ChR r x pb cs T) h)(b:cs[i]? = some u)(K:k u):Aw i (Pt pb) fun a=>Ae false 1 a h k:=by
 rw[Dx,IK,AC w,b];exact K
def Ge (bv:BufV v bs r)(w:AN (ChR r x pb cs T) h)(d:bs.length=m)(e:m<=100000)(c:cs[i]? = some (AM n))(K:∀ v r h,BufV v (bs++Ag n) r->AN (ChR r x pb cs T) h->(bs++Ag n).length=m+4->kk v h) :
  Aw i (Pt pb) fun a=>Ae false 1 a h fun y=>Call TP 172 [v,y] h kk:=
 NY w c (Gp (VY bv w (by omega) fun v r h b w=>K v r h b w (by rw[C0,d];rfl)))
def LE (bv:BufV v bs r)(w:AN (ChR r x pb cs T) h)(d:bs.length=m)(e:m<=100000)(c:cs[i]? = some (cU16 n))(K:∀ v r h,BufV v (bs++BR n) r->AN (ChR r x pb cs T) h->(bs++BR n).length=m+2->kk v h) :
  Aw i (Pt pb) fun a=>Ae false 1 a h fun y=>Call TP 173 [v,y] h kk:=
 NY w c (Gq (VZ bv w (by omega) fun v r h b w=>K v r h b w (by rw[C0,d];rfl)))
def AOr (bv:BufV v bs r)(w:AN (ChR r x pb cs T) h)(d:bs.length=m)(f:m<=100000)(e:n<18446744073709551616)(c:cs[i]? = some (AH n))(K:∀ v r h,BufV v (bs++IU n) r->AN (ChR r x pb cs T) h->(bs++IU n).length=m+8->kk v h) :
  Aw i (Pt pb) fun a=>Ae false 1 a h fun y=>Call TP 174 [v,y] h kk:=
 NY w c (AGA (ASa bv w e (by omega) fun v r h b w=>K v r h b w (by rw[C0,d];rfl)))
def bw8 (bv:BufV v bs r)(w:AN (ChR r x pb cs T) h)(e:bs.length=m)(g:m<=100000)(f:n<256)(d:cs[i]? = some (.int .u8 n))(K:∀ v r h,BufV v (bs++[UInt8.ofNat n]) r->AN (ChR r x pb cs T) h->(bs++[UInt8.ofNat n]).length=m+1->kk v h) :
  Aw i (Pt pb) fun a=>Ae false 1 a h fun y=>AK (.arr 1) 5 (Am TP 5) 1 1 [(0,y)] h fun c h=>Ac 5 (Am TP 5) 1 1 v c h kk:=
 NY w d (OC bv w f (by omega) fun v r h b w=>K v r h b w (by rw[C0,e];rfl))
def EB {b o n sz:Nat}(d:0<n):Cf (.arr n sz) (.pointer (some ⟨b,o,none⟩)) none none k=k (.slice (some ⟨b,o,none⟩) n n):=by
 have c:Bi (.arr n sz) (.pointer (some ⟨b,o,none⟩)) none none=some (.slice (some ⟨b,o,none⟩) n n):=by
  simp only[Bi,Bb];rw[D0 ⟨Q2 _,I0 _⟩,F0 (by omega),G6];rfl
 exact propext ⟨fun⟨v,a,b⟩=>by rw[c] at a;cases a;exact b,fun a=>⟨_,c,a⟩⟩
def sr {news:Bs}(bv:BufV v bs r)(w:AN (ChR r x pb cs T) h)(j:bs.length=m)(o:m<=100000)(e:news.length=n)(f:0<n)(l:n<=1000)(d:i+n<=cs.size)(g:cs.extract i (i+n)=bcs news)(K:∀ v r h,BufV v (bs++news) r->AN (ChR r x pb cs T) h->(bs++news).length=m+n->kk v h) :
  Aw i (Pt pb) fun a=>Cf (.arr n 1) a none none fun c=>Ac 5 (Am TP 5) 1 1 v c h kk:=by
 rw[Dx,IK,EB f];refine⟨n,bcs news,rfl,?_,?_⟩
 ·unfold By;simp only[w.right.left.one,Z5,K3,if_false,M5];rw[D0 d,g]
 ·have:=JJ (news:=news) bv w (by omega) fun v r h b w=>K v r h b w (by rw[C0,j,e]);rw[e] at this;exact this
def bwL (bv:BufV v bs r)(w:AN (ChR r x pb cs T) h)(hl:bs.length=m)(hm:m<=100000)(ae:n<=1000)(l:i+n<=cs.size)(hz:∀ j,j<n->cs[i+j]? = some BP )(K:∀ v r h,BufV v (bs++List.replicate (4*n) 0) r->AN (ChR r x pb cs T) h->(bs++List.replicate (4*n) 0).length=m+4*n->kk v h){nv:Vz}(g:nv=AB (n:Int)) :
  Aw i (Pt pb) fun a=>Ae true n a h fun arr=>Ca (fun rec s u h=>AQ .lss u nv fun c=>BJ c (Jq false n 1 arr u fun e=>Call TP 172 [s,e] h fun v h=>AQ .add u  AX  fun u=>rec v u h) (kk s h)) v  AF  h:=by
 subst g;rw[Dx,IK,BC (w.find (b:=pb)) l];refine DF (fun p q u o=>∃ (j:Nat) (r:Res),p=n-j/\j<=n/\u=AB (j:Nat)/\BufV q (bs++List.replicate (4*j) 0) r/\AN (ChR r x pb cs T) o) n ⟨0,r,rfl,Q2 _,rfl,by simpa using bv,w⟩ ?_;rintro rec p q u o ⟨j,r,rfl,hj,rfl,bv,w⟩ f;simp (disch:=omega) only[go_sem];refine AS (fun hc=>?_) (fun hc=>?_)
 ·have d:j<n:=by omega
  refine⟨_,.i64,j,AM ((0:Nat):Int),rfl,rfl,by omega,by omega,?_,?_⟩
  ·rw[J5,M5];show (cs.extract i (i+n))[j]? = _;rw[Array.getElem?_extract,D0 (by omega),hz j d];rfl
  ·refine Gp (VY bv w (by simp;omega) fun v r h b w=>?_);have t:bs++List.replicate (4*j) 0++Ag 0=bs++List.replicate (4*(j+1)) 0:=by
    rw[P0,show 4*(j+1)=4*j+4 by omega,<-List.replicate_append_replicate];rfl
   rw[t] at b;exact f _ _ _ _ ⟨j+1,r,rfl,by omega,rfl,b,w⟩ (by omega)
 ·have d:j=n:=by omega
  subst d;exact K _ _ _ bv w (by rw[C0,hl,M0])
end chain
def KM (hd:List Vz)(all:Bs)(tl:List Vz):Array Vz:=⟨hd++all.map bc++tl⟩
def ALK {a b:List Vz}{all:Bs}{i:Nat}(h:i<a.length):(KM a all b)[i]? = a[i]?:=by
 unfold KM;rw[Y7,Z1 (by simp;omega),Z1 h]
def ALL {a b:List Vz}{all:Bs}{i j:Nat}(h:i=a.length+all.length+j):(KM a all b)[i]? = b[j]?:=by
 unfold KM;rw[Y7,X1 (by simp;omega)];congr 1;simp;omega
def AFR {a c:List Vz}{all:Bs}{i n:Nat}(hi:i=a.length)(b:n=all.length):(KM a all c).extract i (i+n)=bcs all:=by
 subst hi b;apply P4;simp[KM,bcs,I3]
def JE {a b:List Vz}{all:Bs}:(KM a all b).size=a.length+all.length+b.length:=by simp[KM];omega
def Lq {a c:List Vz}{all m:Bs}{i o:Nat}(hi:i=a.length+o)(h:o+m.length<=all.length):Av (KM a all c) i (m.map bc)=KM a (setL all o m) c:=by
 subst hi;apply N6;intro j;rw[Er _ _ _ _ (by rw[JE];simp;omega)];unfold KM;simp only[Y7,Z0,Y0];by_cases d:j<a.length
 ·rw[F0 (by omega),P0,P0,Z1 d,Z1 d]
 ·by_cases p:j<a.length+all.length
  ·have n:(setL all o m).length=all.length:=Ad h;have b:∀ l:Bs,l.length=all.length->(a++l.map bc++c)[j]? = (l[j-a.length]?).map bc:=fun l g=>by
    rw[P0,X1 (by omega),Z1 (by rw[Z0,g];omega),Y0]
   rw[b _ rfl,b _ n,Ep h];by_cases e:a.length+o<=j/\j<a.length+o+m.length
   ·rw[D0 e,F0 (by omega),D0 (by omega)];congr 2;omega
   ·rw[F0 e];by_cases f:j-a.length<o
    ·rw[D0 f]
    ·rw[F0 f,F0 (by omega)]
  ·rw[F0 (by omega),X1 (by simp;omega),X1 (by rw[C0,Z0,Ad h];omega)];simp only[C0,Z0,Ad h]
def Gt (f:Nat->Nat):List Vz:=[cU16 (f 0),cU16 (f 1),AM (f 2),AM (f 3),AM (f 4),AM (f 5),AM (f 6),cU16 (f 7),cU16 (f 8),AM (f 9),AM (f 10),AM (f 11)]
def Gu (f:Nat->Nat):List Vz:=[AM (f 12),AM (f 13),AM (f 14),AM (f 15),cU16 (f 16),cU16 (f 17),cU16 (f 18),cU16 (f 19),cU16 (f 20),cU16 (f 21),cU16 (f 22),cU16 (f 23),AM (f 24),AM (f 25),AM (f 26),AM (f 27),AM (f 28),AM (f 29),AM (f 30)]
def ihd {f:Nat->Nat}{blk:Bs}{i:Nat}(h:i<12):(KM (Gt f) blk (Gu f))[i]? = (Gt f)[i]?:=ALK h
def Sb {f:Nat->Nat}{blk:Bs}{i j:Nat}(a:blk.length=60)(h:i=72+j):(KM (Gt f) blk (Gu f))[i]? = (Gu f)[j]?:=ALL (by rw[a];exact h)
def CH (f:Nat->Nat)(blk:Bs):Bs:=[]++BR (f 0)++BR (f 1)++Ag (f 2)++Ag (f 3)++Ag (f 4)++Ag (f 5)++Ag (f 6)++BR (f 7)++BR (f 8)++Ag (f 9)++Ag (f 10)++Ag (f 11)++blk++Ag (f 12)++Ag (f 13)++Ag (f 14)++Ag (f 15)++BR (f 16)++BR (f 17)++BR (f 18)++BR (f 19)++BR (f 20)++BR (f 21)++BR (f 22)++BR (f 23)++Ag (f 24)++Ag (f 25)++Ag (f 26)++Ag (f 27)++Ag (f 28)++Ag (f 29)++Ag (f 30)
theorem ASZ {f:Nat->Nat}{blk:Bs}(w:AN x h)(b:blk.length=60)(K:∀ v r h,BufV v (CH f blk) r->AN (r+x) h->Q v h):AMG (.agg (KM (Gt f) blk (Gu f))) h Q:=by
 unfold AMG AW;refine BG w fun pb h w=>?_;have w:AN (ChR 0 x pb (KM (Gt f) blk (Gu f)) 305) h:=w.cast (Res.zero_add _).symm;have bv:BufV  cst__slice_none_0_0 [] 0:=.nil;have a:([]:Bs).length=0:=rfl
 repeat first|refine LE bv w a (by decide) ((ihd (by decide)).trans rfl) fun v r h bv w a=>?_|refine Ge bv w a (by decide) ((ihd (by decide)).trans rfl) fun v r h bv w a=>?_
 refine sr (n:=60) (news:=blk) bv w a (by decide) b (by decide) (by decide) (by rw[JE,b];exact Nat.le_add_right _ _) (AFR rfl b.symm) fun v r h bv w a=>?_;refine Ge (i:=72) (n:=f 12) bv w a (by decide) ((Sb (j:=0) b rfl).trans rfl) fun v r h bv w a=>?_;refine Ge (i:=73) (n:=f 13) bv w a (by decide) ((Sb (j:=1) b rfl).trans rfl) fun v r h bv w a=>?_;refine Ge (i:=74) (n:=f 14) bv w a (by decide) ((Sb (j:=2) b rfl).trans rfl) fun v r h bv w a=>?_;refine Ge (i:=75) (n:=f 15) bv w a (by decide) ((Sb (j:=3) b rfl).trans rfl) fun v r h bv w a=>?_;refine LE (i:=76) (n:=f 16) bv w a (by decide) ((Sb (j:=4) b rfl).trans rfl) fun v r h bv w a=>?_;refine LE (i:=77) (n:=f 17) bv w a (by decide) ((Sb (j:=5) b rfl).trans rfl) fun v r h bv w a=>?_;refine LE (i:=78) (n:=f 18) bv w a (by decide) ((Sb (j:=6) b rfl).trans rfl) fun v r h bv w a=>?_;refine LE (i:=79) (n:=f 19) bv w a (by decide) ((Sb (j:=7) b rfl).trans rfl) fun v r h bv w a=>?_;refine LE (i:=80) (n:=f 20) bv w a (by decide) ((Sb (j:=8) b rfl).trans rfl) fun v r h bv w a=>?_;refine LE (i:=81) (n:=f 21) bv w a (by decide) ((Sb (j:=9) b rfl).trans rfl) fun v r h bv w a=>?_;refine LE (i:=82) (n:=f 22) bv w a (by decide) ((Sb (j:=10) b rfl).trans rfl) fun v r h bv w a=>?_;refine LE (i:=83) (n:=f 23) bv w a (by decide) ((Sb (j:=11) b rfl).trans rfl) fun v r h bv w a=>?_;refine Ge (i:=84) (n:=f 24) bv w a (by decide) ((Sb (j:=12) b rfl).trans rfl) fun v r h bv w a=>?_;refine Ge (i:=85) (n:=f 25) bv w a (by decide) ((Sb (j:=13) b rfl).trans rfl) fun v r h bv w a=>?_;refine Ge (i:=86) (n:=f 26) bv w a (by decide) ((Sb (j:=14) b rfl).trans rfl) fun v r h bv w a=>?_;refine Ge (i:=87) (n:=f 27) bv w a (by decide) ((Sb (j:=15) b rfl).trans rfl) fun v r h bv w a=>?_;refine Ge (i:=88) (n:=f 28) bv w a (by decide) ((Sb (j:=16) b rfl).trans rfl) fun v r h bv w a=>?_;refine Ge (i:=89) (n:=f 29) bv w a (by decide) ((Sb (j:=17) b rfl).trans rfl) fun v r h bv w a=>?_;refine Ge (i:=90) (n:=f 30) bv w a (by decide) ((Sb (j:=18) b rfl).trans rfl) fun v r h bv w a=>?_;exact K _ _ _ bv (AN.right (x:=pts pb _) (w.cast (Res.left_comm _ _ _)))
def HH (f:Nat->Nat):List Vz:=[AM (f 0),AM (f 1),AM (f 2),cU16 (f 3),cU16 (f 4),cU16 (f 5),cU16 (f 6),AM (f 7),cU16 (f 8),cU16 (f 9),cU16 (f 10),cU16 (f 11)]
def Vv (f:Nat->Nat):Bs:=[]++Ag (f 0)++Ag (f 1)++Ag (f 2)++BR (f 3)++BR (f 4)++BR (f 5)++BR (f 6)++Ag (f 7)++BR (f 8)++BR (f 9)++BR (f 10)++BR (f 11)
theorem ASB {f:Nat->Nat}(w:AN x h)(K:∀ v r h,BufV v (Vv f) r->AN (r+x) h->Q v h):ALU (.agg ⟨HH f⟩) h Q:=by
 unfold ALU AW;refine BG w fun pb h w=>?_;have w:AN (ChR 0 x pb ⟨HH f⟩ 226) h:=w.cast (Res.zero_add _).symm;have bv:BufV  cst__slice_none_0_0 [] 0:=.nil;have a:([]:Bs).length=0:=rfl
 repeat first|refine Ge bv w a (by decide) rfl fun v r h bv w a=>?_|refine LE bv w a (by decide) rfl fun v r h bv w a=>?_
 exact K _ _ _ bv (AN.right (x:=pts pb _) (w.cast (Res.left_comm _ _ _)))
def KS (f:Nat->Nat):List Vz:=[AM (f 0),AM (f 1),AM (f 2),AM (f 3),AM (f 4),AM (f 5),AM (f 6),AM (f 7),AM (f 8),AM (f 9),AM (f 10),AM (f 11),AM (f 12),cU16 (f 13),cU16 (f 14),cU16 (f 15),cU16 (f 16),cU16 (f 17),cU16 (f 18),AM (f 19),AM (f 20),AM (f 21),AM (f 22),cU16 (f 23),cU16 (f 24),AM (f 25),cU16 (f 26),cU16 (f 27),AM (f 28),AM (f 29),AM (f 30),Ax,Ax,Ax,Ax,Ax,Ax,Ax,Ax,Ax,Ax,Ax,Ax,Ax,Ax,Ax,Ax,Ax,Ax,Ax,Ax,Ax,Ax,Ax,Ax,Ax,Ax,Ax,Ax,Ax,Ax,Ax,Ax,Ax,Ax,Ax,Ax,Ax,Ax,Ax,Ax,Ax,Ax,Ax,Ax,Ax,Ax,Ax,Ax,Ax,Ax,Ax,Ax,Ax,Ax,Ax,Ax,Ax,Ax,Ax,Ax,Ax,Ax,Ax,Ax,Ax,Ax,Ax,Ax,Ax,Ax,Ax,Ax,Ax,Ax,Ax,Ax,Ax,Ax,Ax,Ax,Ax,Ax,Ax,Ax,Ax,Ax,Ax,Ax,Ax,Ax,Ax,Ax,Ax,Ax,Ax,Ax,AM (f 127),.int .u8 (f 128),.int .u8 (f 129),cU16 (f 130),Ax,Ax,Ax,Ax,Ax,Ax,Ax,Ax,Ax,Ax,Ax,Ax,Ax,Ax,Ax,Ax,AM (f 147),AM (f 148),AM (f 149),Al,Al,Al,Al,.int .u8 (f 154),.int .u8 (f 155),cU16 (f 156),AM (f 157),AM (f 158),AM (f 159),Al,Al,Al,Al,Al,Al,Al,Al,Al,Al,Al,Al,Al,Al,Al,Al,Al,AM (f 177),AM (f 178),AM (f 179),cU16 (f 180),cU16 (f 181),AM (f 182),cU16 (f 183),cU16 (f 184),AH (f 185),AM (f 186),.int .u8 (f 187),.int .u8 (f 188),cU16 (f 189),AH (f 190),AM (f 191),AM (f 192),AH (f 193),AM (f 194),AM (f 195),AM (f 196),AM (f 197),AH (f 198),Ax,Ax,Ax,Ax,Ax,Ax,Ax,Ax,Ax,Ax,Ax,Ax,Ax,Ax,Ax,Ax,Ax,Ax,Ax,Ax,Ax,Ax,Ax,Ax,Ax,Ax,Ax,Ax,Ax,Ax,Ax,Ax,AM (f 231),AM (f 232),AM (f 233),AM (f 234),AH (f 235),Ax,Ax,Ax,Ax,Ax,Ax,Ax,Ax,Ax,Ax,Ax,Ax,Ax,Ax,Ax,Ax,Ax,Ax,Ax,Ax,Ax,Ax,Ax,Ax,Ax,Ax,Ax,Ax,Ax,Ax,Ax,Ax,Ax,Ax,Ax,Ax,Ax,Ax,Ax,Ax,Ax,Ax,Ax,Ax,Ax,Ax,Ax,Ax,Ax,Ax,Ax,Ax,Ax,Ax,Ax,Ax,Ax,Ax,Ax,Ax,Ax,Ax,Ax,Ax,Ax,Ax,Ax,Ax,Ax,Ax,Ax,Ax,Ax,Ax,Ax,Ax,Ax,Ax,Ax,Ax,Ax,Ax,Ax,Ax,Ax,Ax,Ax,Ax,Ax,Ax,Ax,Ax,Ax,Ax,Ax,Ax,AM (f 332),AM (f 333),AM (f 334),Al,Al,Ax,Ax,Ax,Ax,Ax,Ax,Ax,Ax,Ax,Ax,Ax,Ax,Ax,Ax,Ax,Ax,Ax,Ax,Ax,Ax,AM (f 357),AM (f 358),AM (f 359),.int .u8 (f 360),.int .u8 (f 361),.int .u8 (f 362),.int .u8 (f 363),.int .u8 (f 364),.int .u8 (f 365),Ax,Ax,Al,Al,Al,Al,Al,Al,Al,Al,Al,Al,Al,Al,Al,Al,Al,Al,Al,Al,Al,Al,Al,Al,Al,Al,Al,Al,Al,Al,Al,Al,Al,Al,Al,Al,Al,Al,Al,Al,Al,Al,Al,Al,Al,Al,Al,Al,Al,Al,Al,Al,Al,Al,Al,Al,Al,Al,Al,Al,Al,Al,Al,Al,Al,Al,Al,Al,Al,Al,Al,Al,Al,Al,Al,Al,Al,Al,Al,Al,Al,Al,Al,Al,Al,Al,Al,Al,Al,Al,Al,Al,Al,Al,Al,Al,Al,Al,AM (f 464)]
def KR (f:Nat->Nat):Bs:=[]++Ag (f 0)++Ag (f 1)++Ag (f 2)++Ag (f 3)++Ag (f 4)++Ag (f 5)++Ag (f 6)++Ag (f 7)++Ag (f 8)++Ag (f 9)++Ag (f 10)++Ag (f 11)++Ag (f 12)++BR (f 13)++BR (f 14)++BR (f 15)++BR (f 16)++BR (f 17)++BR (f 18)++Ag (f 19)++Ag (f 20)++Ag (f 21)++Ag (f 22)++BR (f 23)++BR (f 24)++Ag (f 25)++BR (f 26)++BR (f 27)++Ag (f 28)++Ag (f 29)++Ag (f 30)++List.replicate 16 0++List.replicate 16 0++List.replicate 64 0++Ag (f 127)++[UInt8.ofNat (f 128)]++[UInt8.ofNat (f 129)]++BR (f 130)++List.replicate 16 0++Ag (f 147)++Ag (f 148)++Ag (f 149)++List.replicate (4*4) 0++[UInt8.ofNat (f 154)]++[UInt8.ofNat (f 155)]++BR (f 156)++Ag (f 157)++Ag (f 158)++Ag (f 159)++List.replicate (4*17) 0++Ag (f 177)++Ag (f 178)++Ag (f 179)++BR (f 180)++BR (f 181)++Ag (f 182)++BR (f 183)++BR (f 184)++IU (f 185)++Ag (f 186)++[UInt8.ofNat (f 187)]++[UInt8.ofNat (f 188)]++BR (f 189)++IU (f 190)++Ag (f 191)++Ag (f 192)++IU (f 193)++Ag (f 194)++Ag (f 195)++Ag (f 196)++Ag (f 197)++IU (f 198)++List.replicate 32 0++Ag (f 231)++Ag (f 232)++Ag (f 233)++Ag (f 234)++IU (f 235)++List.replicate 32 0++List.replicate 64 0++Ag (f 332)++Ag (f 333)++Ag (f 334)++List.replicate (4*2) 0++List.replicate 4 0++List.replicate 16 0++Ag (f 357)++Ag (f 358)++Ag (f 359)++[UInt8.ofNat (f 360)]++[UInt8.ofNat (f 361)]++[UInt8.ofNat (f 362)]++[UInt8.ofNat (f 363)]++[UInt8.ofNat (f 364)]++[UInt8.ofNat (f 365)]++List.replicate 2 0++List.replicate (4*96) 0++Ag (f 464)
def RD {f:Nat->Nat}{i:Nat}{u:Vz}(h:(KS f)[i]? = some u):(⟨KS f⟩:Array Vz)[i]? = some u:=by rw[Y7];exact h
def kp {f:Nat->Nat}{i n:Nat}{l:List Vz}(h:((KS f).drop i).take n=l):(⟨KS f⟩:Array Vz).extract i (i+n)=⟨l⟩:=by
 apply P4;simp only[L8,I3,M4,h]
def sbz {f:Nat->Nat}(i n:Nat)(c:((⟨KS f⟩:Array Vz).extract i (i+n))=⟨List.replicate n BP⟩):∀ j,j<n->(⟨KS f⟩:Array Vz)[i+j]? = some BP :=by
 intro j b;have a:((⟨KS f⟩:Array Vz).extract i (i+n))[j]? = some BP :=by
  rw[c];simp[b]
 rw[Array.getElem?_extract] at a;split at a
 ·exact a
 ·cases a
def CJ {f:Nat->Nat}:(⟨KS f⟩:Array Vz).size=465:=(O2 ..).trans (show (KS f).length=465 from rfl)
def WD (f:Nat->Nat):Prop:=(∀ i,i∈[128,129,154,155,187,188,360,361,362,363,364,365]->f i<256)/\∀ i,f i<18446744073709551616
section sb
variable {f:Nat->Nat} {v:Vz} {bs:Bs} {pb:Nat}
def ANk (ok:WD f)(bv:BufV v bs r)(w:AN (ChR r x pb ⟨KS f⟩ 242) h)(b:bs.length=636)(K:∀ v r h,BufV v (bs++List.replicate (4*96) 0++Ag (f 464)) r->AN (r+x) h->Q v h):Aw 368 (Pt pb) fun a=>Ae true 96 a h fun arr=>Wn Q (Pt pb) arr v  AF  h:=by
 obtain⟨d,c⟩:=id ok;unfold Wn Wj BL;refine bwL (i:=368) (n:=96) bv w b (by decide) (by decide) (by rw[CJ];decide) (sbz (f:=f) 368 96 (kp rfl)) (fun v r h bv w b=>?_) rfl
 repeat first|refine Ge bv w b (by decide) (RD rfl) fun v r h bv w b=>?_
 exact K _ _ _ bv (AN.right (x:=pts pb _) (w.cast (Res.left_comm _ _ _)))
def ANl (ok:WD f)(bv:BufV v bs r)(w:AN (ChR r x pb ⟨KS f⟩ 242) h)(b:bs.length=588)(K:∀ v r h,BufV v (bs++List.replicate (4*2) 0++List.replicate 4 0++List.replicate 16 0++Ag (f 357)++Ag (f 358)++Ag (f 359)++[UInt8.ofNat (f 360)]++[UInt8.ofNat (f 361)]++[UInt8.ofNat (f 362)]++[UInt8.ofNat (f 363)]++[UInt8.ofNat (f 364)]++[UInt8.ofNat (f 365)]++List.replicate 2 0++List.replicate (4*96) 0++Ag (f 464)) r->AN (r+x) h->Q v h):Aw 335 (Pt pb) fun a=>Ae true 2 a h fun arr=>Wo Q (Pt pb) arr v AF  h:=by
 obtain⟨d,c⟩:=id ok;unfold Wo Wk BL;refine bwL (i:=335) (n:=2) bv w b (by decide) (by decide) (by rw[CJ];decide) (sbz (f:=f) 335 2 (kp rfl)) (fun v r h bv w b=>?_) rfl;refine sr (i:=337) (n:=4) (news:=List.replicate 4 0) bv w b (by decide) (M0 ..) (by decide) (by decide) (by rw[CJ];decide) (kp rfl) fun v r h bv w b=>?_;refine sr (i:=341) (n:=16) (news:=List.replicate 16 0) bv w b (by decide) (M0 ..) (by decide) (by decide) (by rw[CJ];decide) (kp rfl) fun v r h bv w b=>?_
 repeat first|refine Ge bv w b (by decide) (RD rfl) fun v r h bv w b=>?_|refine bw8 bv w b (by decide) (d _ (by decide)) (RD rfl) fun v r h bv w b=>?_
 refine sr (i:=366) (n:=2) (news:=List.replicate 2 0) bv w b (by decide) (M0 ..) (by decide) (by decide) (by rw[CJ];decide) (kp rfl) fun v r h bv w b=>?_;exact ANk ok bv w (b.trans (by decide)) K
def ANm (ok:WD f)(bv:BufV v bs r)(w:AN (ChR r x pb ⟨KS f⟩ 242) h)(b:bs.length=268)(K:∀ v r h,BufV v (bs++List.replicate (4*17) 0++Ag (f 177)++Ag (f 178)++Ag (f 179)++BR (f 180)++BR (f 181)++Ag (f 182)++BR (f 183)++BR (f 184)++IU (f 185)++Ag (f 186)++[UInt8.ofNat (f 187)]++[UInt8.ofNat (f 188)]++BR (f 189)++IU (f 190)++Ag (f 191)++Ag (f 192)++IU (f 193)++Ag (f 194)++Ag (f 195)++Ag (f 196)++Ag (f 197)++IU (f 198)++List.replicate 32 0++Ag (f 231)++Ag (f 232)++Ag (f 233)++Ag (f 234)++IU (f 235)++List.replicate 32 0++List.replicate 64 0++Ag (f 332)++Ag (f 333)++Ag (f 334)++List.replicate (4*2) 0++List.replicate 4 0++List.replicate 16 0++Ag (f 357)++Ag (f 358)++Ag (f 359)++[UInt8.ofNat (f 360)]++[UInt8.ofNat (f 361)]++[UInt8.ofNat (f 362)]++[UInt8.ofNat (f 363)]++[UInt8.ofNat (f 364)]++[UInt8.ofNat (f 365)]++List.replicate 2 0++List.replicate (4*96) 0++Ag (f 464)) r->AN (r+x) h->Q v h):Aw 160 (Pt pb) fun a=>Ae true 17 a h fun arr=>Wp Q (Pt pb) arr v AF h:=by
 obtain⟨d,c⟩:=id ok;unfold Wp Wl BL;refine bwL (i:=160) (n:=17) bv w b (by decide) (by decide) (by rw[CJ];decide) (sbz (f:=f) 160 17 (kp rfl)) (fun v r h bv w b=>?_) rfl
 repeat first|refine Ge bv w b (by decide) (RD rfl) fun v r h bv w b=>?_|refine LE bv w b (by decide) (RD rfl) fun v r h bv w b=>?_|refine AOr bv w b (by decide) (c _) (RD rfl) fun v r h bv w b=>?_|refine bw8 bv w b (by decide) (d _ (by decide)) (RD rfl) fun v r h bv w b=>?_
 refine sr (i:=199) (n:=32) (news:=List.replicate 32 0) bv w b (by decide) (M0 ..) (by decide) (by decide) (by rw[CJ];decide) (kp rfl) fun v r h bv w b=>?_
 repeat first|refine Ge bv w b (by decide) (RD rfl) fun v r h bv w b=>?_|refine AOr bv w b (by decide) (c _) (RD rfl) fun v r h bv w b=>?_
 refine sr (i:=236) (n:=32) (news:=List.replicate 32 0) bv w b (by decide) (M0 ..) (by decide) (by decide) (by rw[CJ];decide) (kp rfl) fun v r h bv w b=>?_;refine sr (i:=268) (n:=64) (news:=List.replicate 64 0) bv w b (by decide) (M0 ..) (by decide) (by decide) (by rw[CJ];decide) (kp rfl) fun v r h bv w b=>?_
 repeat first|refine Ge bv w b (by decide) (RD rfl) fun v r h bv w b=>?_
 exact ANl ok bv w (b.trans (by decide)) K
def ANn (ok:WD f)(bv:BufV v bs r)(w:AN (ChR r x pb ⟨KS f⟩ 242) h)(b:bs.length=236)(K:∀ v r h,BufV v (bs++List.replicate (4*4) 0++[UInt8.ofNat (f 154)]++[UInt8.ofNat (f 155)]++BR (f 156)++Ag (f 157)++Ag (f 158)++Ag (f 159)++List.replicate (4*17) 0++Ag (f 177)++Ag (f 178)++Ag (f 179)++BR (f 180)++BR (f 181)++Ag (f 182)++BR (f 183)++BR (f 184)++IU (f 185)++Ag (f 186)++[UInt8.ofNat (f 187)]++[UInt8.ofNat (f 188)]++BR (f 189)++IU (f 190)++Ag (f 191)++Ag (f 192)++IU (f 193)++Ag (f 194)++Ag (f 195)++Ag (f 196)++Ag (f 197)++IU (f 198)++List.replicate 32 0++Ag (f 231)++Ag (f 232)++Ag (f 233)++Ag (f 234)++IU (f 235)++List.replicate 32 0++List.replicate 64 0++Ag (f 332)++Ag (f 333)++Ag (f 334)++List.replicate (4*2) 0++List.replicate 4 0++List.replicate 16 0++Ag (f 357)++Ag (f 358)++Ag (f 359)++[UInt8.ofNat (f 360)]++[UInt8.ofNat (f 361)]++[UInt8.ofNat (f 362)]++[UInt8.ofNat (f 363)]++[UInt8.ofNat (f 364)]++[UInt8.ofNat (f 365)]++List.replicate 2 0++List.replicate (4*96) 0++Ag (f 464)) r->AN (r+x) h->Q v h):Aw 150 (Pt pb) fun a=>Ae true 4 a h fun arr=>Wq Q (Pt pb) arr v  AF h:=by
 obtain⟨d,c⟩:=id ok;unfold Wq Wm BL;refine bwL (i:=150) (n:=4) bv w b (by decide) (by decide) (by rw[CJ];decide) (sbz (f:=f) 150 4 (kp rfl)) (fun v r h bv w b=>?_) rfl
 repeat first|refine bw8 bv w b (by decide) (d _ (by decide)) (RD rfl) fun v r h bv w b=>?_|refine LE bv w b (by decide) (RD rfl) fun v r h bv w b=>?_|refine Ge bv w b (by decide) (RD rfl) fun v r h bv w b=>?_
 exact ANm ok bv w (b.trans (by decide)) K
end sb
theorem ASC {f:Nat->Nat}(ok:WD f)(w:AN x h)(K:∀ v r h,BufV v (KR f) r->AN (r+x) h->Q v h):ALV (.agg ⟨KS f⟩) h Q:=by
 obtain⟨c,b⟩:=id ok;unfold ALV AW;refine BG w fun pb h w=>?_;have w:AN (ChR 0 x pb ⟨KS f⟩ 242) h:=w.cast (Res.zero_add _).symm;have bv:BufV  cst__slice_none_0_0 [] 0:=.nil;have a:([]:Bs).length=0:=rfl
 repeat first|refine Ge bv w a (by decide) (RD rfl) fun v r h bv w a=>?_|refine LE bv w a (by decide) (RD rfl) fun v r h bv w a=>?_
 refine sr (i:=31) (n:=16) (news:=List.replicate 16 0) bv w a (by decide) (M0 ..) (by decide) (by decide) (by rw[CJ];decide) (kp rfl) fun v r h bv w a=>?_;refine sr (i:=47) (n:=16) (news:=List.replicate 16 0) bv w a (by decide) (M0 ..) (by decide) (by decide) (by rw[CJ];decide) (kp rfl) fun v r h bv w a=>?_;refine sr (i:=63) (n:=64) (news:=List.replicate 64 0) bv w a (by decide) (M0 ..) (by decide) (by decide) (by rw[CJ];decide) (kp rfl) fun v r h bv w a=>?_
 repeat first|refine Ge bv w a (by decide) (RD rfl) fun v r h bv w a=>?_|refine bw8 bv w a (by decide) (c _ (by decide)) (RD rfl) fun v r h bv w a=>?_|refine LE bv w a (by decide) (RD rfl) fun v r h bv w a=>?_
 refine sr (i:=131) (n:=16) (news:=List.replicate 16 0) bv w a (by decide) (M0 ..) (by decide) (by decide) (by rw[CJ];decide) (kp rfl) fun v r h bv w a=>?_
 repeat first|refine Ge bv w a (by decide) (RD rfl) fun v r h bv w a=>?_
 exact ANn ok bv w (a.trans (by decide)) K
def GL (wb:Nat)(ad:Nat->Nat)(iv:Vz)(S:PS)(x:Res)(h:H):Prop:=∃ s L tr,mz wb S s ad L tr/\s.inv=iv/\AN (FR s ad L tr+x) h
def GL.rep {iv:Vz}(p:GL wb ad iv S x h):CD wb ad S x h:=by
 obtain⟨s,L,tr,a,_,w⟩:=p;exact⟨s,L,tr,a,w⟩
def CD.repI (p:CD wb ad S x h):∃ iv,GL wb ad iv S x h:=by
 obtain⟨s,L,tr,a,w⟩:=p;exact⟨s.inv,s,L,tr,a,rfl,w⟩
def GL.cast {iv:Vz}(p:GL wb ad iv S x h)(e:x=y):GL wb ad iv S y h:=e▸p
def GL.mono {iv:Vz}(p:GL wb ad iv S (x+y) h):GL wb ad iv S x h:=by
 obtain⟨s,L,tr,a,e,w⟩:=p;exact⟨s,L,tr,a,e,AN.left (y:=y) (w.cast (by ac_rfl))⟩
def PS.put (S:PS)(bs:Bs):PS:={S with B:=putL S.B S.pos bs,pos:=S.pos+bs.length}
def j6 {iv v:Vz}{bs:Bs}(p:GL wb ad iv S x h)(d:RdX x v bs)(f:0<bs.length)(c:S.pos+bs.length<=S.max)(K:∀ h,GL wb ad iv (S.put bs) x h->Q (.tuple #[AB (bs.length:Nat),.nilIface]) h):f98 (Pt wb) v h Q:=by
 obtain⟨s,L,tr,a,e,w⟩:=p;rw[<-a.wb];refine s98 (x:=tr+sumR ad L+x) a.ok.ws (w.cast (by unfold FR;ac_rfl)) d.bf f (by rw[a.pos,a.max];exact c) (by rw[a.d9,a.pos]) fun dv r h b w=>K h ⟨{s with dv:=dv,dr:=r,B:=putL s.B s.pos bs,d9:=s.pos+bs.length,pos:=s.pos+bs.length},L,tr,⟨a.ok.ws' b rfl,a.wb,a.ini,a.M,?_,?_,?_,a.dw,a.dm,a.cur,a.inl,a.max,a.gd,a.db⟩,e,w.cast (by unfold FR;ac_rfl)⟩
 ·show putL s.B s.pos bs=putL S.B S.pos bs;rw[a.B,a.pos]
 ·show s.pos+bs.length=S.pos+bs.length;rw[a.pos]
 ·show s.pos+bs.length=S.pos+bs.length;rw[a.pos]
def VJ {iv:Vz}{n:Nat}(p:GL wb ad iv S x h)(d:n=0->S.pos<=S.B.length)(c:S.pos+n<=S.max)(K:∀ h,GL wb ad iv (S.put (List.replicate n 0)) x h->Q (.tuple #[AB (n:Nat),.nilIface]) h):vu (Pt wb) (AB (n:Int)) h Q:=by
 obtain⟨s,L,tr,a,e,w⟩:=p;rw[<-a.wb];refine APl (x:=tr+sumR ad L+x) a.ok.ws (w.cast (by unfold FR;ac_rfl)) (by rw[a.pos,a.B];exact d) (by rw[a.pos,a.max];exact c) (by rw[a.d9,a.pos]) fun dv r h b w=>K h ⟨{s with dv:=dv,dr:=r,B:=putL s.B s.pos (List.replicate n 0),d9:=s.pos+n,pos:=s.pos+n},L,tr,⟨a.ok.ws' b rfl,a.wb,a.ini,a.M,?_,?_,?_,a.dw,a.dm,a.cur,a.inl,a.max,a.gd,a.db⟩,e,w.cast (by unfold FR;ac_rfl)⟩
 ·show putL s.B s.pos _=putL S.B S.pos _;rw[a.B,a.pos]
 ·show s.pos+n=S.pos+(List.replicate n (0:UInt8)).length;rw[a.pos,M0]
 ·show s.pos+n=S.pos+(List.replicate n (0:UInt8)).length;rw[a.pos,M0]
@[go_sem] def AOO {k':Iq}{a:Nat}:AQ .shr (AB (a:Int)) (.int k' 32) k=k (AB ((a/4294967296:Nat):Int)):=GC (s:=32)
theorem m8 {a:Nat}(e:a<9223372036854775808):AQ .and (AB (a:Int)) (AB 4294967295) k=k (AB ((a%4294967296:Nat):Int)):=by
 refine IN ?_;have b:(BitVec.ofInt 64 (a:Int) &&& BitVec.ofInt 64 4294967295).toNat=a%4294967296:=by
  have c:(BitVec.ofInt 64 4294967295:BitVec 64).toNat=2^32-1:=by decide
  rw[BitVec.toNat_and,BitVec.ofInt_natCast,BitVec.toNat_ofNat,C2 (by omega),c,U8]
 have d:DO .and (AB (a:Int)) (AB 4294967295)=some (AB (IntKind.i64.wrap (((BitVec.ofInt 64 (a:Int) &&& BitVec.ofInt 64 4294967295).toNat:Nat):Int))):=rfl;rw[d,b,Bq (by omega)]
def WH {a:Nat}(b:a<4294967296):AQ .and (AM (a:Int)) (AM 65535) k=k (AM ((a%65536:Nat):Int)):=by
 rw[ZS b (by decide)];have:a &&& 65535=a%65536:=U8 a 16;rw[this]
structure PNok (p:PN):Prop where
 uid:p.uid<4294967296
 gid:p.gid<4294967296
 size:p.size<4611686018427387904
 fe:p.fe.length<=104
 d7:p.d7<4294967296
 d8:p.d8<4294967296
def Co (p:PN):Nat->Nat
 | 0=>p.en
 | 1=>p.uid%65536
 | 2=>p.size%4294967296
 | 3=>p.at_%4294967296
 | 4=>p.ct%4294967296
 | 5=>p.mt%4294967296
 | 7=>p.gid%65536
 | 8=>p.ek%65536
 | 9=>p.bu
 | 10=>p.ed
 | 13=>p.xblk
 | 14=>p.size/4294967296
 | 18=>p.uid/65536
 | 19=>p.gid/65536
 | 22=>24
 | 24=>p.ct/4294967296%4294967296
 | 25=>p.mt/4294967296%4294967296
 | 26=>p.at_/4294967296%4294967296
 | 27=>p.cr%4294967296
 | 28=>p.cr/4294967296%4294967296
 | _=>0
def mj:Am TP 305=some (.agg (KM (Gt fun _=>0) (List.replicate 60 0) (Gu fun _=>0))):=by kernel_rfl
def ml:Am TP 306=some (.agg ⟨[str [],Ax,.slice none 0 0]⟩):=by kernel_rfl
def AFL {v:Vz}{bs:Bs}{j:Nat}{kk:Iq}(b:BufV v bs r)(a:j<=bs.length)(f:0<j)(K:∀ d,BufV d (bs.take j) r->k d):Cf (.slice 1) v none (some (.int kk (j:Int))) k:=by
 cases b with
 | nil=>simp at a;omega
 | own e=>
  rename_i b n all;have c:(all.take n).length=n:=by simp[V2 e]
  rw[c] at a;rw[RE (by omega)];refine K _ (.own' (by omega) rfl ?_);rw[T6,V2 a]
def Oo (p:PN)(blk:Bs):Bs:=(CH (Co p) blk).take 152
def EL {f:Nat->Nat}{blk:Bs}(h:blk.length=60):(CH f blk).length=160:=by
 unfold CH;simp only[C0,Ba,BK,C4,h]
def HI (p:PN)(blk fe:Bs):Bs:=Oo p blk++fe++List.replicate (104-fe.length) 0
def Yg {p:PN}{blk fe:Bs}(h:blk.length=60)(a:fe.length<=104):(HI p blk fe).length=256:=by
 unfold HI Oo;simp only[C0,W1,EL h,M0];omega
def td {b off n c:Nat}{a f:List Vz}{all src:Bs}{s:Vz}{T:Tj}(w:AN (pts b (.cells (KM a all f) T (0,0))+x) h)(d:RdX x s src)(e:off=a.length)(j:n=all.length)
  (K:∀ h,AN (pts b (.cells (KM a (setL all 0 (src.take n)) f) T (0,0))+x) h->kt (AB (min src.length n:Nat)) h):JB 1 (.slice (some ⟨b,off,none⟩) n c) s h kt:=by
 have rd:=d.rd w.right;refine⟨_,n,c,src.length,bcs (src.take (min src.length n)),rfl,rd.srcLen,rd.src _ (Nat.min_le_left _ _),.inr ⟨_,KM a all f,T,rfl,rfl,w.left.one,?_,LD _,?_⟩⟩
 ·rw[JE,DX,W1];simp only;omega
 ·have g:src.take (min src.length n)=src.take n:=by
   rcases Nat.le_total src.length n with h|h
   ·rw[V2 h,X2 (I0 _),X2 h]
   ·rw[Nat.min_eq_right h]
  rw[g];have i:Av (KM a all f) off (bcs (src.take n)).toList=KM a (setL all 0 (src.take n)) f:=Lq (o:=0) e (by rw[W1];omega);simp only;rw[i];exact K _ w.set
def kh {nd:Nd}{p:PN}{bb na:Nat}{blk:Bs}{rec1:Vz->H->Prop}{x0 x1 x20 t u:Vz}(a:blk.length=60)(ah:nd.fe.length<=104)(bx:BufV nd.ff nd.fe nd.xr)
  (w:AN (pts bb (.cells (KM (Gt (Co p)) blk (Gu (Co p))) 305 (0,0))+(pts na (.cells nd.cells 197 (0,0))+(nd.xr+x))) h)
  (K:∀ v r h,BufV v (HI p blk nd.fe) r->AN (r+(pts na (.cells nd.cells 197 (0,0))+(nd.xr+x))) h->HG Q rec1 x0 x1 v x20 t u h) :
  Ae true 91 (Pt bb) h fun e=>Call TP 171 [e] h fun f h=>Cf (.slice 1) f none (some (AB 152)) fun g=>Ae false 1 (.pointer (some ⟨na,16,none⟩)) h fun i=>Ac 5 (Am TP 5) 1 1 g i h fun l h=>Ae false 1 (.pointer (some ⟨na,16,none⟩)) h fun n=>DM n fun o=>AQ .sub (AB 104) o fun q=>HY 5 (Am TP 5) 1 1 l q h fun s h=>HG Q rec1 x0 x1 s x20 t u h:=by
 have c:(KM (Gt (Co p)) blk (Gu (Co p))).size=91:=by rw[JE,a];rfl
 rw[BC (w.find (b:=bb)) (by rw[c];exact I0 _)];have ae:(KM (Gt (Co p)) blk (Gu (Co p))).extract 0 (0+91)=KM (Gt (Co p)) blk (Gu (Co p)):=by
  rw[<-c,U1,Array.extract_size]
 rw[ae];refine AF9 (ASZ w a fun v r h bv w=>?_);refine AFL (j:=152) bv (by rw[EL a];decide) (by decide) fun v bv=>?_;rw[AC w];simp only[go_sem];refine Bu bv w (bx.rd (w.cast (show _=nd.xr+(r+(pts bb (.cells (KM (Gt (Co p)) blk (Gu (Co p))) 305 (0,0))+(pts na (.cells nd.cells 197 (0,0))+x))) by ac_rfl))) (by rw[W1,EL a];omega) fun v r h bv w=>?_;obtain⟨xa,xc,d⟩:=bx.len;rw[AC w];simp only[go_sem,d];have e1:(AQ .sub (AB 104) (AB (nd.fe.length:Nat)))=fun k=>k (AB ((104-nd.fe.length:Nat):Int)):=funext fun k=>by
  rw[Ci,<-Bq (m:=104-nd.fe.length) (by omega),Int.ofNat_sub ah];rfl
 rw[e1];refine LB bv w (by rw[C0,W1,EL a];omega) fun v r h bv w=>?_;exact K v r h bv (AN.right (x:=pts bb (.cells (KM (Gt (Co p)) blk (Gu (Co p))) 305 (0,0))) (w.cast (Res.left_comm _ _ _)))
theorem pq {all:Bs}{o e t delta m:Nat}{a:XA}(b:e+a.need<=t)(u:o+t<=m)(c:m<=all.length):(JR all o e t delta a).take m=JR (all.take m) o e t delta a:=by
 unfold XA.need at b;have d:a.nm.length<=Bg a.nm.length:=by unfold Bg;omega
 have f:a.bs.length<=Bg a.bs.length:=by unfold Bg;omega
 have l1:∀ n,(BR n).length=2:=fun _=>rfl;have l2:∀ n,(Ag n).length=4:=fun _=>rfl;have l0:∀ n:Nat,[UInt8.ofNat n].length=1:=fun _=>rfl;have st:∀ (l m':Bs) (q:Nat),m<=l.length->q+m'.length<=m->(setL l q m').take m=setL (l.take m) q m'/\m<=(setL l q m').length:=fun l m' q a1 a2=>⟨Mc a2 a1,by rw[Ad (by omega)];exact a1⟩;rw[FS,FS];obtain⟨s1,t1⟩:=st all [UInt8.ofNat a.nm.length] (o+e) c (by rw[l0];omega);obtain⟨s2,t2⟩:=st _ [UInt8.ofNat a.ix] (o+e+1) t1 (by rw[l0];omega);obtain⟨s3,t3⟩:=st _ (BR (t-Bg a.bs.length+delta)) (o+e+2) t2 (by rw[l1];omega);obtain⟨s4,t4⟩:=st _ (Ag a.bs.length) (o+e+8) t3 (by rw[l2];omega);obtain⟨g,p⟩:=st _ (Ag (hashX a.nm a.bs)) (o+e+12) t4 (by rw[l2];omega);obtain⟨i,s⟩:=st _ a.nm (o+e+16) p (by omega);obtain⟨j,v⟩:=st _ a.bs (o+(t-Bg a.bs.length)) s (by omega);rw[j,i,g,s4,s3,s2,s1]
def FB (v:Vz)(bs:Bs):XA:=⟨[100,97,116,97],7,v,bs⟩
def Im (fe bs:Bs):Bs:=JR fe 4 0 100 0 (FB  cst__slice_none_0_0 bs)
def AHL (v:Vz)(fe bs:Bs):Ej 4 0 [FB v bs] 0 100 fe=Im fe bs:=by
 unfold Ej Ej Im;simp only[FS,FB]
theorem Qx {fe bs:Bs}(c:104<=fe.length)(d:bs.length<=76):(Im fe bs).length=fe.length:=by
 have e:Bg bs.length<=76:=by unfold Bg;omega
 have a:Bg (FB  cst__slice_none_0_0 bs).nm.length=4:=by simp[FB,Bg]
 have b:Bg (FB  cst__slice_none_0_0 bs).bs.length=Bg bs.length:=rfl;exact PM (by rw[a];omega) (by rw[b];omega) (by omega)
def Ch:Bs:=List.replicate 60 0
def Cz (p:PN):Prop:=kindB p.en=16384\/kindB p.en=32768\/kindB p.en=40960
def Oq (p:PN):Prop:=kindB p.en=24576\/kindB p.en=8192
instance (p:PN):Decidable (Cz p):=by unfold Cz;infer_instance
instance (p:PN):Decidable (Oq p):=by unfold Oq;infer_instance
def th (p:PN):Nat:=((p.d8 &&& 255) ||| (p.d7*256%4294967296)) ||| ((p.d8 &&& 4294967040)*4096%4294967296)
def DE (p:PN):Bs:=if Cz p then setL Ch 0 (p.ck.take 60) else if Oq p then setL Ch 4 (Ag (th p)) else Ch
def DN (p:PN):Bs:=if Cz p/\60<p.ck.length then Im p.fe (p.ck.drop 60) else p.fe
def CQ (p:PN):Bs:=HI p (DE p) (DN p)
def Ha (p:PN):(DE p).length=60:=by
 unfold DE;have a:Ch.length=60:=by simp[Ch]
 split
 ·rw[Ad (by rw[a,W1];omega),a]
 ·split
  ·rw[Ad (by rw[a,BK];omega),a]
  ·exact a
def xOK (p:PN):Prop:=Cz p->60<p.ck.length->p.fe.length=104/\p.ck.length<=136
def RT {p:PN}(h:p.fe.length<=104)(a:xOK p):(DN p).length<=104:=by
 unfold DN;split
 ·rename_i hh;obtain⟨b,c⟩:=a hh.1 hh.2;rw[Qx (by omega) (by rw[J2];omega)];omega
 ·exact h
def JK {p:PN}(h:p.fe.length<=104)(a:xOK p):(CQ p).length=256:=Yg (Ha p) (RT h a)
abbrev sg (p:PN)(blk:Bs):Array Vz:=KM (Gt (Co p)) blk (Gu (Co p))
def Tw {v:Vz}{bs:Bs}(b:BufV v bs r)(h:0<bs.length):∃ bb all,v=.slice (some ⟨bb,0,none⟩) bs.length all.length/\r=buf bb all/\bs=all.take bs.length/\bs.length<=all.length:=by
 cases b with
 | nil=>simp at h
 | own c=>
  rename_i bb n all;have a:(all.take n).length=n:=by simp[V2 c]
  exact⟨bb,all,by rw[a],rfl,by rw[a],by rw[a];exact c⟩
def APi {nd:Nd}{p:PN}{bb na:Nat}{rec1:Vz->H->Prop}{x0 x1 x20 x21 x22 x134:Vz}(hp:nd.pn=p)(hx:xOK p)(hd:Cz p)(hxb:nd.fe.length<=104)(hdl:nd.ck.length<1000000)(bd:BufV nd.data nd.ck nd.dr)(bx:BufV nd.ff nd.fe nd.xr)
  (w:AN (pts bb (.cells (sg p Ch) 305 (0,0))+(pts na (.cells nd.cells 197 (0,0))+(nd.dr+(nd.xr+x)))) h)
  (K:∀ v r xr h,BufV v (CQ p) r->BufV nd.ff (DN p) xr->AN (r+(pts na (.cells nd.cells 197 (0,0))+(nd.dr+(xr+x)))) h->HG Q rec1 x0 x1 v x20 x21 x22 h) :
  OT Q rec1 x0 x1 (Pt na) (Pt bb) x20 x21 x22 x134 AI h:=by
 have hdb:nd.ck=p.ck:=by rw[<-hp];rfl
 have hxbs:nd.fe=p.fe:=by rw[<-hp];rfl
 have hz:Ch.length=60:=by simp[Ch]
 have hblk:DE p=setL Ch 0 (nd.ck.take 60):=by unfold DE;rw[D0 hd,hdb]
 have hb60:(setL Ch 0 (nd.ck.take 60)).length=60:=by rw[<-hblk];exact Ha p
 obtain⟨da,dc,hdv⟩:=bd.len;unfold OT AW;simp only[go_sem,AC w,EB (show 0<60 by decide)];refine td w bd.rdX.an.bf rfl hz.symm fun h w=>?_;simp only[go_sem,AC w,hdv];refine AS (fun hlt=>?_) (fun hge=>?_)
 ·have h60:60<nd.ck.length:=by omega
  obtain⟨q1,q2⟩:=hx hd (by rw[<-hdb];exact h60);have hmin:min nd.ck.length 60=60:=by omega
  rw[hmin];obtain⟨db,dall,e1,e2,e3,e4⟩:=Tw bd (by omega);obtain⟨xb,xall,f1,f2,f3,f4⟩:=Tw bx (by rw[hxbs];omega);have hxl:nd.fe.length=104:=by rw[hxbs];exact q1
  rw[hxl] at f1 f3 f4;rw[e1] at hdv;obtain⟨rfl,rfl⟩:some ⟨db,0,none⟩=da/\dall.length=dc:=by cases hdv;exact⟨rfl,rfl⟩
  have hd136:nd.ck.length<=136:=by rw[hdb];exact q2
  simp (disch:=omega) only[go_sem,JX];refine BA HC rfl (rs:=[str [100,97,116,97],.int .u8 7,.slice (some ⟨db,0+60,none⟩) (nd.ck.length-60) (dall.length-60)]) rfl ?_;refine BA ml rfl (rs:=[str [100,97,116,97],.int .u8 7,.slice (some ⟨db,0+60,none⟩) (nd.ck.length-60) (dall.length-60)]) rfl ?_;refine AV w ml rfl fun tb h w=>?_;refine AD w ⟨[str [100,97,116,97],.int .u8 7,.slice (some ⟨db,0+60,none⟩) (nd.ck.length-60) (dall.length-60)]⟩ ((AY _ _ _).trans rfl) rfl (by simp) rfl fun h w=>?_;simp (disch:=omega) only[go_sem,EB (show 0<1 by decide),AC w,f1];have hl60:(nd.ck.drop 60).length=nd.ck.length-60:=J2;have hu:Bg (nd.ck.length-60)<=76:=by unfold Bg;omega
  have hu4:Bg 4=4:=by decide
  have k2:∀ A B C D E F:Res,A+(B+(C+(D+(E+F))))=E+(A+(D+(B+(C+F)))):=by intros;ac_rfl
  refine fu (AP8 (TX:=306) (l:=[FB (.slice (some ⟨db,0+60,none⟩) (nd.ck.length-60) (dall.length-60)) (nd.ck.drop 60)]) (rX:=pts tb (.cells ⟨[str [100,97,116,97],.int .u8 7,.slice (some ⟨db,0+60,none⟩) (nd.ck.length-60) (dall.length-60)]⟩ 306 (0,0)))
   (bb:=xb) (all0:=xall) (T:=5) (o:=0+4) (n:=104-4) (c:=xall.length-4) (delta:=0) (x:=buf db dall+(pts bb (.cells (sg p (setL Ch 0 (nd.ck.take 60))) 305 (0,0))+(pts na (.cells nd.cells 197 (0,0))+x))) (.own' (I0 _) rfl rfl) (w.cast (by rw[f2,e2];exact k2 _ _ _ _ _ _)) ?_ (by omega) (by omega) ?_ (by omega) (by simp) fun h w=>?_)
  ·intro a ha;rw[H4] at ha;subst ha;refine⟨RdX.an (.inr ⟨db,0+60,dall.length-60,dall.map bc,5,(0,0),0,by simp[FB],(Res.add_zero _).symm,by simp[FB];omega,?_,by simp[FB];omega⟩),by simp[FB],by simp[FB],by simp[FB];omega⟩;show ((dall.map bc).drop (0+60)).take (nd.ck.drop 60).length=(nd.ck.drop 60).map bc;rw[<-X8,<-J7,hl60,<-V3,<-e3]
  ·show needs [FB _ _]+4<=104-4;unfold needs XA.need FB;simp only[Q1,P8,F6,List.sum_nil,J1,C4,U1,Nat.reduceAdd,hl60,hu4];omega
  ·have hput:Ej (0+4) 0 [FB (.slice (some ⟨db,0+60,none⟩) (nd.ck.length-60) (dall.length-60)) (nd.ck.drop 60)] 0 (104-4) xall=Im xall (nd.ck.drop 60):=AHL _ _ _;rw[hput] at w;have hxo:DN p=Im nd.fe (nd.ck.drop 60):=by unfold DN;rw[D0 ⟨hd,by rw[<-hdb];exact h60⟩,hdb,hxbs]
   have hrl:(Im xall (nd.ck.drop 60)).length=xall.length:=Qx f4 (by omega);have htk:(Im xall (nd.ck.drop 60)).take 104=DN p:=by
    rw[hxo];have:nd.fe=xall.take 104:=f3;rw[this];refine pq ?_ (by omega) f4;unfold XA.need FB;simp only[J1,C4,U1,Nat.reduceAdd,hl60,hu4];omega
   have bx':BufV nd.ff (DN p) (buf xb (Im xall (nd.ck.drop 60))):=by rw[f1];exact .own' (by omega) hrl htk
   have k3:∀ A B C D E F:Res,A+(B+(C+(D+(E+F))))=D+(E+(A+(C+(F+B)))):=by intros;ac_rfl
   refine kh (nd:={nd with fe:=DN p,xr:=buf xb (Im xall (nd.ck.drop 60))}) (p:=p) (x:=buf db dall+(x+pts tb (.cells ⟨[str [100,97,116,97],.int .u8 7,.slice (some ⟨db,0+60,none⟩) (nd.ck.length-60) (dall.length-60)]⟩ 306 (0,0)))) hb60 (RT (by rw[<-hxbs];exact hxb) hx) bx' (w.cast (k3 _ _ _ _ _ _)) fun v r h bv w=>?_
   ·refine K v r (buf xb (Im xall (nd.ck.drop 60))) h ?_ bx' (AN.left (y:=pts tb (.cells ⟨[str [100,97,116,97],.int .u8 7,.slice (some ⟨db,0+60,none⟩) (nd.ck.length-60) (dall.length-60)]⟩ 306 (0,0))) (w.cast ?_))
    ·unfold CQ;rw[hblk];exact bv
    ·have k5:∀ R N X D Y T:Res,R+(N+(X+(D+(Y+T))))=R+(N+(D+(X+Y)))+T:=by intros;ac_rfl
     rw[e2];exact k5 _ _ _ _ _ _
 ·have h60:¬60<nd.ck.length:=by omega
  have hxe:DN p=nd.fe:=by unfold DN;rw[F0 (by rw[<-hdb];exact fun h=>h60 h.2),hxbs]
  refine kh (p:=p) hb60 hxb bx (w.cast (AFC _ _ _ _ _)) fun v r h bv w=>?_;refine K v r nd.xr h ?_ (by rw[hxe];exact bx) (w.cast (AFC _ _ _ _ _));unfold CQ;rw[hblk,hxe];exact bv
def KA {b i o:Nat}{a c:List Vz}{all:Bs}{v:UInt8}{T:Tj}{d:H->Prop}(w:AN (pts b (.cells (KM a all c) T (0,0))+x) h)(hi:i=a.length+o)(e:o<all.length)
  (K:∀ h,AN (pts b (.cells (KM a (setL all o [v]) c) T (0,0))+x) h->d h):BV 1 (.pointer (some ⟨b,i,none⟩)) (bc v) h d:=
 AD w (KM a (setL all o [v]) c) (Lq (m:=[v]) hi (by simp;omega)) rfl (by rw[JE];omega) rfl K
def AQB {b i o n c m:Nat}{a d:List Vz}{all:Bs}{T:Tj}(w:AN (pts b (.cells (KM a all d) T (0,0))+x) h)(hi:i=a.length+o)(e:4<=n)(f:o+4<=all.length)(K:∀ h,AN (pts b (.cells (KM a (setL all o (Ag m)) d) T (0,0))+x) h->Q (.tuple #[]) h) :
  AAc (.slice (some ⟨b,i,none⟩) n c) (AM (m:Int)) h Q:=by
 unfold AAc AW;simp (disch:=omega) only[go_sem,LX,QK];refine KA w (o:=o) (by omega) (by omega) fun h w=>?_;refine KA w (o:=o+1) (by omega) (by rw[Ad (by simp;omega)];omega) fun h w=>?_;rw[FM (p:=o+1) (m:=[UInt8.ofNat m]) (m':=[UInt8.ofNat (m/256)]) (by simp) (by simp;omega)] at w;refine KA w (o:=o+2) (by omega) (by rw[Ad (by simp;omega)];omega) fun h w=>?_;rw[FM (p:=o+2) (m:=[UInt8.ofNat m]++[UInt8.ofNat (m/256)]) (m':=[UInt8.ofNat (m/65536)]) (by simp) (by simp;omega)] at w;refine KA w (o:=o+3) (by omega) (by rw[Ad (by simp;omega)];omega) fun h w=>K h ?_;rw[FM (p:=o+3) (m:=[UInt8.ofNat m]++[UInt8.ofNat (m/256)]++[UInt8.ofNat (m/65536)]) (m':=[UInt8.ofNat (m/16777216)]) (by simp) (by simp;omega)] at w;exact w
@[go_sem] def ARJ {k':Iq}{a:Nat}:AQ .shl (AM (a:Int)) (.int k' 12) k=k (AM ((a*4096%4294967296:Nat):Int)):=(Ga (s:=12) (by decide)).trans (by rw[w32])
def Lt {b o n sz l:Nat}{kk:Iq}(d:l<n):Cf (.arr n sz) (.pointer (some ⟨b,o,none⟩)) (some (.int kk (l:Int))) none k=k (.slice (some ⟨b,o+l*sz,none⟩) (n-l) (n-l)):=by
 have c:Bi (.arr n sz) (.pointer (some ⟨b,o,none⟩)) (some (.int kk (l:Int))) none=some (.slice (some ⟨b,o+l*sz,none⟩) (n-l) (n-l)):=by
  simp only[Bi,DY];simp only[Bb];rw[D0 ⟨by omega,I0 _⟩,F0 (by omega),Cb]
 exact propext ⟨fun⟨v,a,b⟩=>by rw[c] at a;cases a;exact b,fun a=>⟨_,c,a⟩⟩
theorem AKv {nd:Nd}{p:PN}{bb na:Nat}{rec1:Vz->H->Prop}{x0 x1 x20 x21 x22:Vz}(hp:nd.pn=p)(hok:PNok p)(hd:¬Cz p)(hv:Oq p)(hxb:nd.fe.length<=104)(bx:BufV nd.ff nd.fe nd.xr)
  (w:AN (pts bb (.cells (sg p Ch) 305 (0,0))+(pts na (.cells nd.cells 197 (0,0))+(nd.xr+x))) h)
  (K:∀ v r h,BufV v (CQ p) r->AN (r+(pts na (.cells nd.cells 197 (0,0))+(nd.xr+x))) h->HG Q rec1 x0 x1 v x20 x21 x22 h) :
  OS Q rec1 x0 x1 (Pt na) (Pt bb) x20 x21 x22 (.bool true) h:=by
 have hz:Ch.length=60:=by simp[Ch]
 have hmaj:nd.d7=p.d7:=by rw[<-hp];rfl
 have hmin:nd.d8=p.d8:=by rw[<-hp];rfl
 have hxe:DN p=nd.fe:=by unfold DN;rw[F0 (fun h=>hd h.1),<-hp];rfl
 have hblk:DE p=setL Ch 4 (Ag (th p)):=by unfold DE;rw[F0 hd,D0 hv]
 have h1:=hok.d7;have h2:=hok.d8;have a1:p.d8 &&& 255<4294967296:=U6 O7 h2;have a2:p.d8 &&& 4294967040<4294967296:=U6 O7 h2;have a3:(p.d8 &&& 255) ||| (p.d7*256%4294967296)<4294967296:=Q6 (n:=32) a1 (by omega)
 unfold OS AW;simp (disch:=omega) only[go_sem,AC w,hmaj,hmin];have e4:(Value.int .i64 4)=AB ((4:Nat):Int):=rfl;rw[e4,Lt (by omega)];refine Nf (AQB (m:=th p) (o:=4) w rfl (by omega) (by rw[hz];omega) fun h w=>?_);have hb60:(setL Ch 4 (Ag (th p))).length=60:=by rw[<-hblk];exact Ha p
 refine kh (p:=p) hb60 hxb bx w fun v r h bv w=>K v r h ?_ w;unfold CQ;rw[hblk,hxe];exact bv
def APk {nd:Nd}{p:PN}{bb na:Nat}{rec1:Vz->H->Prop}{x0 x1 x20 b c:Vz}(g:nd.pn=p)(f:¬Cz p)(i:¬Oq p)(d:nd.fe.length<=104)(bx:BufV nd.ff nd.fe nd.xr)
  (w:AN (pts bb (.cells (sg p Ch) 305 (0,0))+(pts na (.cells nd.cells 197 (0,0))+(nd.xr+x))) h)
  (K:∀ v r h,BufV v (CQ p) r->AN (r+(pts na (.cells nd.cells 197 (0,0))+(nd.xr+x))) h->HG Q rec1 x0 x1 v x20 b c h) :
  OS Q rec1 x0 x1 (Pt na) (Pt bb) x20 b c  AE h:=by
 have j:Ch.length=60:=by simp[Ch]
 have e:DN p=nd.fe:=by unfold DN;rw[F0 (fun h=>f h.1),<-g];rfl
 have a:DE p=Ch:=by unfold DE;rw[F0 f,F0 i]
 unfold OS AW;simp only[go_sem];refine kh (p:=p) j d bx w fun v r h bv w=>K v r h ?_ w;unfold CQ;rw[a,e];exact bv
theorem APj {nd:Nd}{p:PN}{na i:Nat}{iv:Vz}{n:Nat}{rec1:Vz->H->Prop}{x0 x1:Vz}(f:nd.pn=p)(b:PNok p)(hx:xOK p)(hm:nd.en<65536)(l:nd.ck.length<1000000)(hi:i<n)
  (g:∀ k:Vz->Prop,k (Pt na)->Ap (.slice 1) iv (AB (i:Int)) fun a=>Ae false 1 a h k) (bd:BufV nd.data nd.ck nd.dr) (bx:BufV nd.ff nd.fe nd.xr)
  (w:AN (pts na (.cells nd.cells 197 (0,0))+(nd.dr+(nd.xr+x))) h)
  (K:∀ v r xr h,BufV v (CQ p) r->BufV nd.ff (DN p) xr->AN (r+(pts na (.cells nd.cells 197 (0,0))+(nd.dr+(xr+x)))) h->HG Q rec1 x0 x1 v iv (AB (n:Int)) (AB (i:Int)) h) :
  Kb Q rec1 x0 x1 iv (AB (n:Int)) (AB (i:Int)) h:=by
 have c1:nd.uid=p.uid:=by rw[<-f];rfl
 have c2:nd.gid=p.gid:=by rw[<-f];rfl
 have c3:nd.size=p.size:=by rw[<-f];rfl
 have c4:nd.en=p.en:=by rw[<-f];rfl
 have d:nd.fe.length<=104:=by have:=b.fe;rw[<-f] at this;exact this
 have o1:=b.uid;have o2:=b.gid;have o3:=b.size;unfold Kb BL;simp (disch:=omega) only[go_sem,H0];refine g _ ?_;simp (maxSteps:=4000000) (disch:=omega) only[go_sem,AC w,WH,m8];subst f;refine BA mj rfl (rs:=Gt (Co nd.pn)++Ch.map bc++Gu (Co nd.pn)) (by kernel_rfl) ?_;refine AV w mj rfl fun bb h w=>?_;refine⟨Aj w rfl,Aj w rfl,Aj w rfl,Aj w rfl,Aj w rfl,Aj w rfl,Aj w rfl,Aj w rfl,Aj w rfl,Aj w rfl,Aj w rfl,Aj w rfl,Aj w rfl,Aj w rfl,Aj w rfl,Aj w rfl,Aj w rfl,Aj w rfl,Aj w rfl,?_⟩;refine AD w (sg nd.pn Ch) (by kernel_rfl) rfl (by exact I0 91) (by kernel_rfl) fun h w=>?_;simp (disch:=omega) only[go_sem,AC w];have m:(nd.en &&& 61440)=kindB nd.en:=rfl;rw[m];have fin:Cz nd.pn->OT Q rec1 x0 x1 (Pt na) (Pt bb) iv (AB (n:Int)) (AB (i:Int)) (cU16 (kindB nd.en:Nat))  AI h:=fun hd=>APi rfl hx hd d l bd bx w K;refine AS (fun s=>fin (.inl (by show kindB nd.en=16384;omega))) fun s=>?_;refine AS (fun t=>fin (.inr (.inl (by show kindB nd.en=32768;omega)))) fun t=>?_;by_cases u:kindB nd.en=40960
 ·have e:decide ((kindB nd.en:Int)=40960)=true:=H0 (by omega);rw[e];exact fin (.inr (.inr u))
 ·have c:¬Cz nd.pn:=fun hh=>by
   rcases hh with hh|hh|hh
   ·exact s (by have:kindB nd.en=16384:=hh;omega)
   ·exact t (by have:kindB nd.en=32768:=hh;omega)
   ·exact u hh
  have o:DN nd.pn=nd.fe:=by unfold DN;rw[F0 (fun h=>c h.1)];rfl
  have e:decide ((kindB nd.en:Int)=40960)=false:=J0 (by omega);rw[e];have j:∀ v r h,BufV v (CQ nd.pn) r->AN (r+(pts na (.cells nd.cells 197 (0,0))+(nd.xr+(nd.dr+x)))) h->HG Q rec1 x0 x1 v iv (AB (n:Int)) (AB (i:Int)) h:=fun v r h bv w=>K v r nd.xr h bv (by rw[o];exact bx) (w.cast (AFC _ _ _ _ _));have q:=w.cast (AFC _ _ _ _ _);unfold OT AW;simp only[go_sem];refine AS (fun h4=>AKv rfl b c (.inl (by show kindB nd.en=24576;omega)) d bx q j) fun h4=>?_;by_cases h5:kindB nd.en=8192
  ·have e:decide ((kindB nd.en:Int)=8192)=true:=H0 (by omega);rw[e];exact AKv rfl b c (.inr h5) d bx q j
  ·have e:decide ((kindB nd.en:Int)=8192)=false:=J0 (by omega);rw[e];refine APk rfl c (fun hh=>?_) d bx q j;rcases hh with hh|hh
   ·exact h4 (by have:kindB nd.en=24576:=hh;omega)
   ·exact h5 hh
def VG {B m:Bs}{p:Nat}(h:B.length=p):putL B p m=B++m:=by
 subst h;unfold putL setL;rw[show B.length+m.length-B.length=m.length by omega];have a:(B++List.replicate m.length (0:UInt8)).take B.length=B:=by rw[L2 (I0 _),L1]
 have b:(B++List.replicate m.length (0:UInt8)).drop (B.length+m.length)=[]:=List.drop_eq_nil_iff.2 (by simp);rw[a,b,X0]
def PS.app (S:PS)(bs:Bs):PS:={S with B:=S.B++bs,pos:=S.pos+bs.length}
def Nr {bs:Bs}(h:S.B.length=S.pos):S.put bs=S.app bs:=by unfold PS.put PS.app;rw[VG h]
def IB (p:PN):PN:={p with fe:=DN p}
def Px:Option PN->Bs
 | some p=>CQ p
 | none=>List.replicate 256 0
def FN (M:List (Option PN)):Bs:=M.flatMap Px
def TabOK (M:List (Option PN)):Prop:=∀ p,some p∈M->PNok p/\xOK p/\p.ck.length<1000000
def IA {M:List (Option PN)}(h:TabOK M):(FN M).length=256*M.length:=by
 induction M with
 | nil=>rfl
 | cons o M c=>
  have d:(Px o).length=256:=by
   cases o with
   | none=>exact M0 ..
   | some p=>
    obtain⟨a,b,_⟩:=h p (T0 ..);exact JK a.fe b
  unfold FN at c ⊢;rw[M3,C0,d,c fun p e=>h p (U0 _ e),J1];omega
def PS.tab (S:PS)(i:Nat):PS:={S with M:=(S.M.take i).map (Option.map IB)++S.M.drop i,B:=S.B++FN (S.M.take i),pos:=S.pos+256*i}
def ld {i:Nat}(h:i<S.M.length):(S.tab i).M[i]? = S.M[i]?:=by
 show ((S.M.take i).map (Option.map IB)++S.M.drop i)[i]? = _;rw[X1 (by simp;omega)];simp only[Z0,W1,Q3];congr 1;omega
def AHd {i:Nat}{o:Option PN}(h:S.M[i]? = some o):(S.tab i).M.set i (o.map IB)=(S.tab (i+1)).M:=by
 have a:=(G0.1 h).1;have c:=(G0.1 h).2;show ((S.M.take i).map (Option.map IB)++S.M.drop i).set i (o.map IB)=(S.M.take (i+1)).map (Option.map IB)++S.M.drop (i+1);rw[E8 _ _ (by simp;omega)];have b:i-((S.M.take i).map (Option.map IB)).length=0:=by simp;omega
 rw[b,N3 a,List.set_cons_zero,List.take_succ_eq_append_getElem a,H2,c];simp
def ARS {i:Nat}{o:Option PN}(h:S.M[i]? = some o):(S.tab i).B++Px o=(S.tab (i+1)).B:=by
 have b:=(G0.1 h).1;have a:=(G0.1 h).2;show S.B++FN (S.M.take i)++Px o=S.B++FN (S.M.take (i+1));rw[List.take_succ_eq_append_getElem b,a];unfold FN;rw[W5];simp
def VK {iv:Vz}(p:GL wb ad iv S x h):∃ a c,iv=.slice a S.M.length c:=by
 obtain⟨s,L,tr,a,e,w⟩:=p;obtain⟨⟨d,f,b⟩,_⟩:=a.ok.vec.len;have:L.length=S.M.length:=by rw[<-a.M];simp[pnL]
 exact⟨d,f,by rw[<-e,b,this]⟩
def AEN {iv v:Vz}{i n:Nat}{rec1:Vz->H->Prop}{bs:Bs}{v1:Vz}(p:GL wb ad iv S (r+x) h)(b:BufV v bs r)(a:bs.length=256)(c:S.pos+256<=S.max)(hi:i<100000)(K:∀ h,GL wb ad iv (S.put bs) x h->rec1 (AB ((i+1:Nat):Int)) h) :
  HG Q rec1 (Pt wb) v1 v iv (AB (n:Int)) (AB (i:Int)) h:=by
 unfold HG AW;refine ST (j6 p b.rdX.an (by omega) (by omega) fun h p=>?_);simp (disch:=omega) only[go_sem];exact K h (GL.mono (y:=r) (p.cast (Res.comm _ _)))
theorem APh {iv:Vz}{i T:Nat}{rec1:Vz->H->Prop}(p:GL wb ad iv (S.tab i) x h)(ok:TabOK S.M)(hi:i<S.M.length)(hB:S.B.length=S.pos)(hm:S.pos+256*S.M.length<=S.max)(K:∀ h,GL wb ad iv (S.tab (i+1)) x h->rec1 (AB ((i+1:Nat):Int)) h) :
  Kb Q rec1 (Pt wb) (AM (T:Int)) iv (AB (S.M.length:Int)) (AB (i:Int)) h:=by
 obtain⟨s,L,tr,a,e,w⟩:=p;have hLM:pnL L=(S.tab i).M:=a.M;have hlen:L.length=S.M.length:=by
  have:(pnL L).length=(S.tab i).M.length:=by rw[hLM]
  have h2:(S.tab i).M.length=S.M.length:=by show ((S.M.take i).map (Option.map IB)++S.M.drop i).length=_;simp;omega
  rw[h2] at this;simpa[pnL] using this
 have hl3:=a.ok.len;have hBt:(S.tab i).B.length=(S.tab i).pos:=by
  show (S.B++FN (S.M.take i)).length=S.pos+256*i;rw[C0,IA fun p hp=>ok p (List.mem_of_mem_take hp),W1,V2 (by omega),hB]
 obtain⟨o,ho⟩:∃ o,S.M[i]? = some o:=⟨_,B0 hi⟩;have hLo:(pnL L)[i]? = some o:=by rw[hLM,ld hi,ho]
 have hpos:(S.tab i).pos=S.pos+256*i:=rfl;have hmx:(S.tab i).max=S.max:=rfl;have next:∀ bs:Bs,bs=Px o->∀ M',M'=(S.tab i).M.set i (o.map IB)->PS.put {S.tab i with M:=M' } bs=S.tab (i+1):=by
  intro bs hbs M' hM';subst hbs hM';rw[Nr (S:={S.tab i with M:=(S.tab i).M.set i (Option.map IB o)}) hBt];have h256:(Px o).length=256:=by
   cases o with
   | none=>exact M0 ..
   | some p=>
    obtain⟨a,b,_⟩:=ok p (D1 ho);exact JK a.fe b
  unfold PS.app;dsimp only;rw[AHd ho,ARS ho,h256];have:S.pos+256*i+256=S.pos+256*(i+1):=by omega
  unfold PS.tab;dsimp only;rw[this]
 cases o with
 | none=>
  have hL:L[i]? = some none:=by
   rw[Nq,K4] at hLo;obtain⟨q,h1,h2⟩:=hLo;cases q with
   | none=>exact h1
   | some _=>cases h2
  unfold Kb BL;simp (disch:=omega) only[go_sem,H0];rw[<-e];refine CF (x:=s.res+(sumR ad L+x)) a.ok.vec (w.cast (by unfold FR;ac_rfl)) (by rw[Y0,hL];rfl) ?_;simp only[ptrO,go_sem];have p:GL wb ad iv (S.tab i) x h:=⟨s,L,tr,a,e,w⟩;obtain⟨r0,w0,cl⟩:=p.rep.ep;refine Ei (n:=256) w (by decide) fun mb h w=>?_;rw[e];have p:GL wb ad iv (S.tab i) (buf mb (List.replicate 256 0)+x) h:=⟨s,L,tr,a,e,w.cast (Res.left_comm _ _ _)⟩;have hrp:(List.replicate 256 (0:UInt8)).length=256:=M0 ..;refine AEN p (.own' (by rw[hrp];exact I0 _) hrp (by rw[X2 (by rw[hrp];exact I0 _)])) hrp (by omega) (by omega) fun h p=>K h ?_;have hn:=next (List.replicate 256 0) rfl (S.tab i).M (by
   have:(S.tab i).M[i]? = some none:=by rw[ld hi];exact ho
   rw[Option.map_none];apply O4;intro j;rw[G4];split
   ·rename_i hj;subst hj;rw[this,D0 (G0.1 this).1]
   ·rfl)
  have hs:({S.tab i with M:=(S.tab i).M}:PS)=S.tab i:=rfl;rw[hs] at hn;rw[<-hn];exact p
 | some p0=>
  obtain⟨nd,hnd,hp0⟩:=Cw hLo;have hnd1:L[(i+1)-1]? = some (some nd):=by rw[S5];exact hnd
  obtain⟨w',hnum⟩:=Cs (c:=i+1) a.ok (by omega) hnd1 w;have hN:=a.ok.ndOK hnd;obtain⟨q1,q2,q3⟩:=ok p0 (D1 ho);have hdbs:nd.ck=p0.ck:=by rw[<-hp0];rfl
  have k1:∀ A B C D E F G X:Res,A+(B+(C+D))+(E+(F+(G+X)))=A+(B+(C+(D+(E+(F+(G+X)))))):=by intros;ac_rfl
  refine APj (na:=ad (i+1)) (nd:=nd) (x:=nd.kr ad+(s.res+(tr+(sumR ad (L.set (i+1-1) none)+x)))) hp0 q1 q2 hN.1.2.2.1 (by rw[hdbs];exact q3) hi (fun k hk=>?_) hN.1.1 hN.1.2.1 (w'.cast (by unfold Nd.res;rw[show ad nd.num=ad (i+1) by rw[hnum]];exact k1 _ _ _ _ _ _ _ _)) fun v r xr h bv bx w=>?_
  ·rw[<-e];refine CF (x:=s.res+(sumR ad L+x)) a.ok.vec (w.cast (by unfold FR;ac_rfl)) (by rw[Y0,hnd];rfl) ?_;show k (Pt (ad nd.num));rw[hnum];exact hk
  ·have hL:=(G0.1 hnd).1;obtain⟨nd',hnd'⟩:∃ nd':Nd,nd' = {nd with fe:=DN p0,xr:=xr}:=⟨_,rfl⟩;have hpn':nd'.pn=IB p0:=by rw[hnd'];show ({nd.pn with fe:=DN p0}:PN)=_;rw[hp0];rfl
   have hres:nd'.res ad=pts (ad (i+1)) (.cells nd.cells 197 (0,0))+(nd.dr+(xr+nd.kr ad)):=by
    rw[hnd'];unfold Nd.res;show pts (ad nd.num) _+_=_;rw[show ad nd.num=ad (i+1) by rw[hnum]];rfl
   have p:GL wb ad iv {S.tab i with M:=(S.tab i).M.set i (some (IB p0))} (r+x) h:=by
    refine⟨s,L.set i (some nd'),tr,⟨Gs a.ok a.ok.ws rfl hnd (by rw[hnd']) ⟨⟨by rw[hnd'];exact hN.1.1,by rw[hnd'];exact bx,by rw[hnd'];exact hN.1.2.2.1,by rw[hnd'];exact hN.1.2.2.2.1,by rw[hnd'];exact hN.1.2.2.2.2⟩,by rw[hnd'];exact hN.2⟩,a.wb,a.ini,?_,a.B,a.pos,a.d9,a.dw,a.dm,a.cur,a.inl,a.max,a.gd,a.db⟩,e,w.cast ?_⟩
    ·unfold pnL;rw[E7];show (pnL L).set i (some nd'.pn)=_;rw[hLM,hpn']
    ·unfold FR;rw[Hz hL,hres,S5];ac_rfl
   refine AEN p bv (JK q1.fe q2) (by show S.pos+256*i+256<=S.max;omega) (by omega) fun h p=>K h ?_;rw[<-next (CQ p0) rfl _ rfl];exact p
def PS.ey (S:PS)(T:Nat):PS:={S with M:=S.M.map (Option.map IB),B:=S.B++(FN S.M++List.replicate (T-256*S.M.length) 0),pos:=S.pos+T}
def ASA {T:Nat}(p:CD wb ad S x h)(ok:TabOK S.M)(v:S.B.length=S.pos)(hT:256*S.M.length<=T)(ae:T<4294967296)(hm:S.pos+T<=S.max)(K:∀ h,CD wb ad (S.ey T) x h->Q .nilIface h):ALT (Pt wb) (AM (T:Int)) h Q:=by
 obtain⟨iv,p⟩:=p.repI;obtain⟨va,vc,hv⟩:=VK p;have b:=IA ok;have hn:S.M.length<=10000:=by
  obtain⟨s,L,tr,a,_,_⟩:=p;have h1:=a.ok.len;have:L.length=S.M.length:=by rw[<-a.M];simp[pnL]
  omega
 unfold ALT AW;obtain⟨s,L,tr,a,e,w⟩:=id p;have d:s.wb=wb:=a.wb;rw[<-d];simp only[go_sem,AC w];rw[e,hv];simp only[go_sem];rw[<-hv,d];unfold vo;refine Bj (fun m u t=>∃ i,m=S.M.length-i/\i<=S.M.length/\u=AB (i:Nat)/\GL wb ad iv (S.tab i) x t) S.M.length ⟨0,rfl,Q2 _,rfl,?_⟩ ?_
 ·have:S.tab 0=S:=by unfold PS.tab FN;simp
  rw[this];exact p
 ·rintro rec m u t ⟨i,rfl,hi,rfl,p⟩ c;by_cases l:i<S.M.length
  ·exact APh p ok l v (by omega) fun h p=>c _ _ _ ⟨i+1,rfl,by omega,rfl,p⟩ (by omega)
  ·have j:i=S.M.length:=by omega
   subst j;have f:(S.tab S.M.length).B.length=(S.tab S.M.length).pos:=by
    show (S.B++FN (S.M.take S.M.length)).length=S.pos+256*S.M.length;rw[L1,C0,b,v]
   obtain⟨ah,ai,o⟩:=VK p;have g:(S.tab S.M.length).M.length=S.M.length:=by show ((S.M.take S.M.length).map (Option.map IB)++S.M.drop S.M.length).length=_;simp
   unfold Kb BL;simp (disch:=omega) only[go_sem,J0];obtain⟨s,L,tr,a,e,w⟩:=id p;have d:s.wb=wb:=a.wb;rw[<-d];simp only[go_sem,AC w];rw[e,o,g];have q:S.M.length*256<=T:=by omega
   simp (disch:=omega) only[go_sem];rw[d];refine Rn (VJ (n:=T-S.M.length*256) p (fun _=>by omega) (by show S.pos+256*S.M.length+_<=S.max;omega) fun h p=>?_);simp (disch:=omega) only[go_sem];refine K h ?_;have:(S.tab S.M.length).put (List.replicate (T-S.M.length*256) 0)=S.ey T:=by
    rw[Nr f];unfold PS.app PS.tab PS.ey;simp only[L1,X6,X0,M0,P0];rw[show S.M.length*256=256*S.M.length by omega,show S.pos+256*S.M.length+(T-256*S.M.length)=S.pos+T by omega]
   rw[<-this];exact p.rep
def gcL (b n p:Nat):Nat:=(max b ((n-1)/p*(32768-p/16-2)+1)+(32768-p/16-2)-1)/(32768-p/16-2)
def ASY {b n p:Nat}(q:1<=n)(g:n<=32768)(i:16<=p)(j:p<=32768)(o:b<=65536)(K:Q (AM (gcL b n p:Nat)) h):AME (AM (b:Int)) (AM (n:Int)) (AM (p:Int)) h Q:=by
 have l:(n-1)/p<=2048:=by
  rw[Nat.div_le_iff_le_mul_add_pred (by omega)];have:p*2048>=16*2048:=H3 2048 i;omega
 have f:30718<=32768-p/16-2:=by omega
 have a:32768-p/16-2<=32768:=by omega
 have d:(n-1)/p*(32768-p/16-2)<=2048*32768:=Nat.mul_le_mul l a;have c:p*256/4096=p/16:=by omega
 have e1:(AQ .sub (AM 32768) (AM (p/16:Nat)))=fun k=>k (AM ((32768-p/16:Nat):Int)):=funext fun k=>by
  rw[Ci,<-Lz (m:=32768-p/16) (by omega),Int.ofNat_sub (by omega)];rfl
 unfold gcL at K;unfold AME AW;simp (disch:=omega) only[go_sem,c,e1];refine AS (fun e=>?_) (fun e=>?_)
 ·rw[Nat.max_eq_right (by omega)] at K;rw[C2 (U6 (A9 _ _) (by omega))];exact K
 ·rw[Nat.max_eq_left (by omega)] at K;rw[C2 (U6 (A9 _ _) (by omega))];exact K
def ipgOf (n:Nat):Nat:=(n+15)/16*16
def ANI {b n p:Nat}(j:1<=n)(l:16<=p)(f:p<=32768)(g:b+p/16+2<=32768)(e:n<=p):gcL b n p=1:=by
 unfold gcL;have a:(n-1)/p=0:=Nat.div_eq_of_lt (by omega);simp only[a,G6];generalize c:32768-p/16-2=d;have i:30718<=d:=by omega
 rw[Nat.div_eq_of_lt_le]
 ·omega
 ·omega
def ANK {b n p:Nat}(j:16<=p)(f:p<=32768)(e:p<n):2<=gcL b n p:=by
 unfold gcL;have a:1<=(n-1)/p:=(Nat.one_le_div_iff (by omega)).2 (by omega);generalize c:32768-p/16-2=d;have i:30718<=d:=by omega
 have g:d<=(n-1)/p*d:=Nat.le_mul_of_pos_left d a;rw[Nat.le_div_iff_mul_le (by omega)];omega
def ANJ {b n p:Nat}(f:16<=p)(g:p<=32768)(j:b<=65536)(m:n<=32768):1<=gcL b n p/\gcL b n p<4294967296:=by
 unfold gcL;generalize e:32768-p/16-2=d;have l:30718<=d:=by omega
 have i:(n-1)/p<=2048:=by
  rw[Nat.div_le_iff_le_mul_add_pred (by omega)];have:p*2048>=16*2048:=H3 2048 f;omega
 have a:(n-1)/p*d<=2048*d:=H3 d i;have c:d<=32768:=by omega
 constructor
 ·rw[Nat.le_div_iff_mul_le (by omega)];omega
 ·refine U6 (A9 _ _) ?_;omega
def AR9 {b n:Nat}(l:1<=n)(ah:n<=32000)(u:b+ipgOf n/16+2<=32768)(K:Q (.tuple #[AM 1,AM (ipgOf n:Nat)]) h):ALS (AM (b:Int)) (AM (n:Int)) h Q:=by
 have hi:n<=ipgOf n/\ipgOf n<n+16/\ipgOf n%16=0:=by unfold ipgOf;omega
 unfold ALS vi AW;refine Ms (fun m u4 u5 o i=>∃ g q p:Nat,m=32784-p/\u4=AM (g:Nat)/\u5=AM (q:Nat)/\o=AM (p:Nat)/\16<=p/\p<=32784/\p%16=0/\i=h/\g<4294967296/\(if p<=ipgOf n then 2<=g else g=1/\q=ipgOf n)) 32768
  ⟨4294967295,0,16,rfl,rfl,rfl,rfl,by omega,by omega,by omega,rfl,by omega,by rw[D0 (by omega)];omega⟩ ?_
 rintro rec m u4 u5 o i ⟨g,q,p,rfl,rfl,rfl,rfl,c,ai,aj,rfl,j,d⟩ a;unfold Wi BL;simp (disch:=omega) only[go_sem];refine AS (fun w=>?_) (fun v=>?_)
 ·obtain⟨q1,q2⟩:=ANJ (b:=b) (n:=n) (p:=p) c (by omega) (by omega) (by omega);refine AF8 (ASY l (by omega) c (by omega) (by omega) ?_);simp (disch:=omega) only[go_sem];by_cases ae:p<ipgOf n
  ·rw[D0 (by omega)] at d;have t:=ANK (b:=b) (n:=n) (p:=p) c (by omega) (by omega);refine AS (fun _=>?_) (fun _=>?_)
   ·exact a _ _ _ _ _ ⟨gcL b n p,p,p+16,rfl,rfl,rfl,rfl,by omega,by omega,by omega,rfl,q2,by rw[D0 (by omega)];exact t⟩ (by omega)
   ·exact a _ _ _ _ _ ⟨g,q,p+16,rfl,rfl,rfl,rfl,by omega,by omega,by omega,rfl,j,by rw[D0 (by omega)];exact d⟩ (by omega)
  ·by_cases f:p=ipgOf n
   ·rw[D0 (by omega)] at d;have s:=ANI (b:=b) (n:=n) (p:=p) l c (by omega) (by rw[f];exact u) (by omega);rw[s];refine AS (fun _=>?_) (fun e=>absurd (by omega:((1:Nat):Int)<(g:Int)) e);exact a _ _ _ _ _ ⟨1,p,p+16,rfl,rfl,rfl,rfl,by omega,by omega,by omega,rfl,by omega,by rw[F0 (by omega)];exact⟨rfl,f⟩⟩ (by omega)
   ·rw[F0 (by omega)] at d;refine AS (fun e=>absurd e (by omega)) (fun _=>?_);exact a _ _ _ _ _ ⟨g,q,p+16,rfl,rfl,rfl,rfl,by omega,by omega,by omega,rfl,j,by rw[F0 (by omega)];exact d⟩ (by omega)
 ·rw[F0 (by omega)] at d;obtain⟨rfl,rfl⟩:=d;exact K
def b8 (a0 a1 a2 a3 a4 a5 a6 a7:Bool):Nat:=a0.toNat+2*a1.toNat+4*a2.toNat+8*a3.toNat+16*a4.toNat+32*a5.toNat+64*a6.toNat+128*a7.toNat
def AOo (a a1 a2 a3 a4 a5 a6 a7:Bool):b8 a a1 a2 a3 a4 a5 a6 a7<256:=by
 have:=V4 a;have:=V4 a1;have:=V4 a2;have:=V4 a3;have:=V4 a4;have:=V4 a5;have:=V4 a6;have:=V4 a7;unfold b8;omega
def AOp:∀ a a1 a2 a3 a4 a5 a6 a7:Bool,b8 a a1 a2 a3 a4 a5 a6 a7 ||| 1=b8 true a1 a2 a3 a4 a5 a6 a7/\b8 a a1 a2 a3 a4 a5 a6 a7 ||| 2=b8 a true a2 a3 a4 a5 a6 a7/\b8 a a1 a2 a3 a4 a5 a6 a7 ||| 4=b8 a a1 true a3 a4 a5 a6 a7 /\
  b8 a a1 a2 a3 a4 a5 a6 a7 ||| 8=b8 a a1 a2 true a4 a5 a6 a7/\b8 a a1 a2 a3 a4 a5 a6 a7 ||| 16=b8 a a1 a2 a3 true a5 a6 a7/\b8 a a1 a2 a3 a4 a5 a6 a7 ||| 32=b8 a a1 a2 a3 a4 true a6 a7 /\
  b8 a a1 a2 a3 a4 a5 a6 a7 ||| 64=b8 a a1 a2 a3 a4 a5 true a7/\b8 a a1 a2 a3 a4 a5 a6 a7 ||| 128=b8 a a1 a2 a3 a4 a5 a6 true:=by decide +kernel
def Dw (f:Nat->Bool)(q:Nat):Nat:=b8 (f (8*q)) (f (8*q+1)) (f (8*q+2)) (f (8*q+3)) (f (8*q+4)) (f (8*q+5)) (f (8*q+6)) (f (8*q+7))
def Mb (f:Nat->Bool)(j:Nat):Nat->Bool:=fun i=>Nat.beq i j||f i
def Eo (f:Nat->Bool)(j:Nat):Mb f j j=true:=by unfold Mb;simp
def Ao {f:Nat->Bool}{i j:Nat}(h:i≠j):Mb f j i=f i:=by
 unfold Mb;have:Nat.beq i j=false:=by
  cases a:Nat.beq i j with
  | false=>rfl
  | true=>exact absurd (W7 a) h
 rw[this,Bool.false_or]
def nz {f:Nat->Bool}{q s:Nat}(m:s<8):Dw (Mb f (8*q+s)) q=Dw f q ||| 2^s:=by
 obtain⟨a,b,c,d,e,g,i,j⟩:=AOp (f (8*q)) (f (8*q+1)) (f (8*q+2)) (f (8*q+3)) (f (8*q+4)) (f (8*q+5)) (f (8*q+6)) (f (8*q+7));have l:s=0\/s=1\/s=2\/s=3\/s=4\/s=5\/s=6\/s=7:=by omega
 unfold Dw;rcases l with rfl|rfl|rfl|rfl|rfl|rfl|rfl|rfl
 ·rw[show 2^0=1 from rfl,a,Z4,Eo,Ao (by omega),Ao (by omega),Ao (by omega),Ao (by omega),Ao (by omega),Ao (by omega),Ao (by omega)]
 ·rw[show 2^1=2 from rfl,b,Eo,Ao (by omega),Ao (by omega),Ao (by omega),Ao (by omega),Ao (by omega),Ao (by omega),Ao (by omega)]
 ·rw[show 2^2=4 from rfl,c,Eo,Ao (by omega),Ao (by omega),Ao (by omega),Ao (by omega),Ao (by omega),Ao (by omega),Ao (by omega)]
 ·rw[show 2^3=8 from rfl,d,Eo,Ao (by omega),Ao (by omega),Ao (by omega),Ao (by omega),Ao (by omega),Ao (by omega),Ao (by omega)]
 ·rw[show 2^4=16 from rfl,e,Eo,Ao (by omega),Ao (by omega),Ao (by omega),Ao (by omega),Ao (by omega),Ao (by omega),Ao (by omega)]
 ·rw[show 2^5=32 from rfl,g,Eo,Ao (by omega),Ao (by omega),Ao (by omega),Ao (by omega),Ao (by omega),Ao (by omega),Ao (by omega)]
 ·rw[show 2^6=64 from rfl,i,Eo,Ao (by omega),Ao (by omega),Ao (by omega),Ao (by omega),Ao (by omega),Ao (by omega),Ao (by omega)]
 ·rw[show 2^7=128 from rfl,j,Eo,Ao (by omega),Ao (by omega),Ao (by omega),Ao (by omega),Ao (by omega),Ao (by omega),Ao (by omega)]
def Ty {f:Nat->Bool}{q a s:Nat}(c:s<8)(b:a≠q):Dw (Mb f (8*q+s)) a=Dw f a:=by
 unfold Dw;rw[Ao (by omega),Ao (by omega),Ao (by omega),Ao (by omega),Ao (by omega),Ao (by omega),Ao (by omega),Ao (by omega)]
def Ew (f:Nat->Bool)(n:Nat):Bs:=(List.range n).map fun q=>UInt8.ofNat (Dw f q)
def Gk (f:Nat->Bool)(n:Nat):(Ew f n).length=n:=by simp[Ew]
def NW {f:Nat->Bool}{n q:Nat}(h:q<n):(Ew f n)[q]? = some (UInt8.ofNat (Dw f q)):=by
 unfold Ew;rw[Y0,List.getElem?_range h];rfl
def GD {f g:Nat->Bool}{n:Nat}(h:∀ i,i<8*n->f i=g i):Ew f n=Ew g n:=by
 unfold Ew;apply Q4;intro q a;rw[H6] at a;unfold Dw;rw[h _ (by omega),h _ (by omega),h _ (by omega),h _ (by omega),h _ (by omega),h _ (by omega),h _ (by omega),h _ (by omega)]
def sn (n:Nat):Ew (fun _=>false) n=List.replicate n 0:=by
 unfold Ew;apply O4;intro i;rw[Y0,S6];by_cases h:i<n
 ·rw[List.getElem?_range h,D0 h];rfl
 ·rw[D3 (by simpa using h),F0 h];rfl
def AFJ {f:Nat->Bool}{n q s:Nat}(j:q<n)(a:s<8):setL (Ew f n) q [UInt8.ofNat (Dw f q ||| 2^s)]=Ew (Mb f (8*q+s)) n:=by
 apply O4;intro i;rw[Ep (by rw[Gk];simp;omega)];by_cases b:i<n
 ·rw[NW b,NW b];by_cases c:i<q
  ·rw[D0 c,Ty a (by omega)]
  ·rw[F0 c];by_cases d:i=q
   ·subst d;rw[D0 (by simp),nz a];simp
   ·rw[F0 (by simp;omega),Ty a d]
 ·have e:∀ g,(Ew g n)[i]? = none:=fun g=>D3 (by rw[Gk];omega);rw[e,e];simp only[U3];rw[F0 (by omega),F0 (by omega)]
def On {b o n i:Nat}{kk:Iq}(hi:i<n):Ap (.arr n 1) (.pointer (some ⟨b,o,none⟩)) (.int kk (i:Int)) k=k (.pointer (some ⟨b,o+i,none⟩)):=by
 unfold Ap;refine propext ⟨fun⟨kk',m,h1,a,h2,h3,h4,h5⟩=>?_,fun c=>⟨kk,i,rfl,_,rfl,by omega,by omega,?_⟩⟩
 ·cases h1;cases h2;rw[J5,M5,Cb] at h5;exact h5
 ·rw[J5,M5,Cb];exact c
def AHX {s:Nat}{k':Iq}(b:s<8):AQ .shl (.int .u8 1) (.int k' (s:Int)) k=k (.int .u8 ((2^s:Nat):Int)):=by
 refine IN ?_;have a:s=0\/s=1\/s=2\/s=3\/s=4\/s=5\/s=6\/s=7:=by omega
 rcases a with rfl|rfl|rfl|rfl|rfl|rfl|rfl|rfl<;>rfl
def TC {b n q s:Nat}{f:Nat->Bool}{T:Tj}{k1 k2:Iq}{l:H->Prop}(w:AN (pts b (.cells (bcs (Ew f n)) T (0,0))+x) h)(e:q<n)(j:s<8)(K:∀ h,AN (pts b (.cells (bcs (Ew (Mb f (8*q+s)) n)) T (0,0))+x) h->l h) :
  Ap (.arr n 1) (Pt b) (.int k1 (q:Int)) fun a=>Ae false 1 a h fun v=>AQ .shl (.int .u8 1) (.int k2 (s:Int)) fun m=>AQ .or v m fun u=>Ap (.arr n 1) (Pt b) (.int k1 (q:Int)) fun a=>BV 1 a u h l:=by
 have g:=AOo (f (8*q)) (f (8*q+1)) (f (8*q+2)) (f (8*q+3)) (f (8*q+4)) (f (8*q+5)) (f (8*q+6)) (f (8*q+7));have c:Dw f q<256:=g;have d:2^s<256:=Nat.pow_lt_pow_right (m:=s) (n:=8) (by omega) j;have i:Dw f q ||| 2^s<256:=Q6 (n:=8) c d
 rw[On e,U1,AC w,Ji,NW e];simp only[N5,Hn];rw[AHX j,<-QJ c,jy rfl c d,On e,U1,QJ i];refine AD w (bcs (Ew (Mb f (8*q+s)) n)) ?_ rfl (by rw[DX,Gk];omega) rfl K;rw[<-AFJ e j];exact Ds (m:=[UInt8.ofNat (Dw f q ||| 2^s)]) (by rw[Gk];simp;omega)
def AHu:Am TP 222=some (.agg ⟨List.replicate 8192 BE ⟩):=by kernel_rfl
def AHt:Am TP 205=some (.agg ⟨List.replicate 4096 BE ⟩):=by kernel_rfl
def TT:Am TP 226=some (.agg ⟨HH fun _=>0⟩):=by kernel_rfl
abbrev bmR (b:Nat)(f:Nat->Bool):Res:=pts b (.cells (bcs (Ew f 8192)) 222 (0,0))
def AFK {b:Nat}:pts b (.cells ⟨List.replicate 8192 BE⟩ 222 (0,0))=bmR b (fun _=>false):=by
 unfold bmR;rw[sn,FP];congr 2
attribute [local irreducible] BJ CR
section loops
variable {rec2:Vz->Vz->Vz->H->Prop} {x0 x7 x8 x9 x11 x12 x13 x14 x16 x17 x18 x19 x20 x22' x23 x24:Vz} {b vd:Nat}
def AQh (w:AN (bmR b (fun _=>false)+x) h)(g:vd<32768)(K:∀ h,AN (bmR b (fun i=>decide (i<vd))+x) h->AB7 Q rec2 x0 x7 x8 x9 x11 x12 (AM (vd:Int)) x14 x16 x17 x18 x19 x20 (AM ((0:Nat):Int)) (Pt b) x23 x24 (cU16 (vd:Int)) h) :
  ACB Q rec2 x0 x7 x8 x9 x11 x12 (AM (vd:Int)) x14 x16 x17 x18 x19 x20 (AM ((0:Nat):Int)) (Pt b) x23 x24 (cU16 ((0:Nat):Int)) (AM ((0:Nat):Int)) h:=by
 unfold ACB;refine DF (fun m u v c=>∃ j,m=vd-j/\j<=vd/\u=cU16 (j:Nat)/\v=AM (j:Nat)/\AN (bmR b (fun i=>decide (i<j))+x) c) vd ⟨0,rfl,Q2 _,rfl,rfl,?_⟩ ?_
 ·refine w.cast ?_;have e:Ew (fun _=>false) 8192=Ew (fun i=>decide (i<0)) 8192:=GD fun i _=>by simp
  unfold bmR;rw[e]
 ·rintro rec m u v c ⟨j,rfl,f,rfl,rfl,w⟩ a;unfold AB5 BL;simp (disch:=omega) only[go_sem,G6,C8];refine AS (fun d=>?_) (fun d=>?_)
  ·refine TC (q:=j/8) (s:=j%8) w (by omega) (by omega) fun h w=>?_;refine a _ _ _ _ ⟨j+1,rfl,by omega,rfl,rfl,w.cast ?_⟩ (by omega);have e:Ew (Mb (fun i=>decide (i<j)) (8*(j/8)+j%8)) 8192=Ew (fun i=>decide (i<j+1)) 8192:=?_
   ·unfold bmR;rw[e]
   refine GD fun i _=>?_;rw[Nat.div_add_mod];by_cases hi:i=j
   ·subst hi;rw[Eo];simp
   ·rw[Ao hi];exact decide_eq_decide.2 (by omega)
  ·have:j=vd:=by omega
   subst this;exact K _ w
def AQb {a:Vz->Vz->H->Prop}{j:Nat}(w:AN (bmR b (fun i=>decide (i<j))+x) h)(g:j<=32768)(c:∀ h,j<32768->AN (bmR b (fun i=>decide (i<j+1))+x) h->a (cU16 ((j+1:Nat):Int)) (AM ((j+1:Nat):Int)) h)
  (d:j=32768->UL Q rec2 x0 x7 x8 x9 x11 x12 x13 x14 x16 x17 x18 x19 x20 (AM ((0:Nat):Int)) (Pt b) (cU16 (j:Int)) x23 x24  BP  h) :
  gk Q rec2 a x0 x7 x8 x9 x11 x12 x13 x14 x16 x17 x18 x19 x20 (AM ((0:Nat):Int)) (Pt b) x23 x24 (cU16 (j:Int)) (AM (j:Int)) h:=by
 unfold gk BL;simp (disch:=omega) only[go_sem];refine AS (fun f=>?_) (fun f=>d (by omega));refine TC (q:=j/8) (s:=j%8) w (by omega) (by omega) fun h w=>c h (by omega) (w.cast ?_);have e:Ew (Mb (fun i=>decide (i<j)) (8*(j/8)+j%8)) 8192=Ew (fun i=>decide (i<j+1)) 8192:=?_
 ·unfold bmR;rw[e]
 refine GD fun i _=>?_;rw[Nat.div_add_mod];by_cases hi:i=j
 ·subst hi;rw[Eo];simp
 ·rw[Ao hi];exact decide_eq_decide.2 (by omega)
def AQg {c:Nat}(w:AN (bmR b (fun i=>decide (i<vd))+x) h)(q:vd<32768)(d:c=vd)(K:∀ h,AN (bmR b (fun i=>decide (i<32768))+x) h->UL Q rec2 x0 x7 x8 x9 x11 x12 x13 x14 x16 x17 x18 x19 x20 (AM ((0:Nat):Int)) (Pt b) (cU16 ((32768:Nat):Int)) x23 x24  BP  h) :
  ACA Q rec2 x0 x7 x8 x9 x11 x12 x13 x14 x16 x17 x18 x19 x20 (AM ((0:Nat):Int)) (Pt b) x23 x24 (cU16 (vd:Int)) (AM (c:Int)) h:=by
 subst d;unfold ACA;obtain⟨N,o⟩:∃ N,N=32768:=⟨_,rfl⟩;refine DF (fun m u v e=>∃ j,m+j=N/\c<=j/\j<=N/\u=cU16 (j:Nat)/\v=AM (j:Nat)/\AN (bmR b (fun i=>decide (i<j))+x) e) (N-c) ⟨c,by omega,I0 _,by omega,rfl,rfl,w⟩ ?_;rintro rec m u v e ⟨j,n,g,p,rfl,rfl,w⟩ a;refine AQb w (by omega) (fun h l w=>a (N-(j+1)) _ _ _ ⟨j+1,by omega,by omega,by omega,rfl,rfl,w⟩ (by omega)) fun f=>?_;subst f;exact K _ w
def HR (M:List (Option PN))(j:Nat):Nat->Bool:=fun i=>decide (i<32768)||(decide (i<32768+j)&&(decide (i-32768<10)||(M[i-32768]?.join).isSome))
def Bl (M:List (Option PN))(j:Nat):Bool:=decide (j<10)||(M[j]?.join).isSome
def Dg (M:List (Option PN))(j:Nat):Bool:=match M[j]? with|some (some n)=>kindB n.en == 16384|_=>false
def Ez (f:Nat->Bool):Nat->Nat
 | 0=>0
 | n+1=>Ez f n+(f n).toNat
theorem KZ (f:Nat->Bool):∀ n,Ez f n<=n
 | 0=>I0 _
 | n+1=>by have:=KZ f n;have:=V4 (f n);unfold Ez;omega
end loops
def AHG (p:CD wb ad S x h){j:Nat}(c:j<1000000)(K:Q (match S.M[j]?.join with|some _=>Pt (ad (j+1))|none=>.pointer none) h):vp (Pt wb) (AM ((j+1:Nat):Int)) h Q:=by
 obtain⟨s,L,tr,a,w⟩:=p;rw[<-a.wb];refine ANi (i:=j+1) a.ok w (by omega) (by omega) ?_;unfold KV;rw[S5];rw[<-a.M,Nq] at K;cases b:L[j]? with
 | none=>rw[b] at K;exact K
 | some o=>
  rw[b] at K;cases o with
  | none=>exact K
  | some n=>
   have:=a.ok.num _ _ b;simp only[ptrO];rw[this];exact K
def AHI {b n q s:Nat}{f:Nat->Bool}{T:Tj}{k1 k2:Iq}{c:H->Prop}(p:CD wb ad S (pts b (.cells (bcs (Ew f n)) T (0,0))+x) h)(d:q<n)(e:s<8)(K:∀ h,CD wb ad S (pts b (.cells (bcs (Ew (Mb f (8*q+s)) n)) T (0,0))+x) h->c h) :
  Ap (.arr n 1) (Pt b) (.int k1 (q:Int)) fun a=>Ae false 1 a h fun v=>AQ .shl (.int .u8 1) (.int k2 (s:Int)) fun m=>AQ .or v m fun u=>Ap (.arr n 1) (Pt b) (.int k1 (q:Int)) fun a=>BV 1 a u h c:=by
 obtain⟨r0,w,cl⟩:=p.ep;exact TC (w.cast (Res.left_comm _ _ _)) d e fun h w=>K h (cl _ _ (w.cast (Res.left_comm _ _ _)))
section loops
variable {rec2 rec3:Vz->Vz->Vz->H->Prop} {x7 x8 x11 x12 x13 x14 x16 x17 x18 x19 x20 x25:Vz} {b eh:Nat}
def Tv {M:List (Option PN)}{j:Nat}:Ew (HR M (j+1)) 8192=if Bl M j=true then Ew (Mb (HR M j) (32768+j)) 8192 else Ew (HR M j) 8192:=by
 split
 ·rename_i a;refine GD fun i _=>?_;by_cases hi:i=32768+j
  ·subst hi;rw[Eo];unfold HR;unfold Bl at a;rw[M4,a];simp
  ·rw[Ao hi];unfold HR;have:decide (i<32768+(j+1))=decide (i<32768+j):=decide_eq_decide.2 (by omega);rw[this]
 ·rename_i a;refine GD fun i _=>?_;unfold HR;by_cases hi:i=32768+j
  ·subst hi;unfold Bl at a;have b:(decide (j<10)||(M[j]?.join).isSome)=false:=by simpa using a
   rw[M4,b];simp
  ·have:decide (i<32768+(j+1))=decide (i<32768+j):=decide_eq_decide.2 (by omega);rw[this]
theorem AQa {j:Nat}(p:CD wb ad S (bmR b (HR S.M j)+x) h)(hj:j<eh)(hi:eh<=32768)
  (K:∀ h,CD wb ad S (bmR b (HR S.M (j+1))+x) h->rec3 (cU16 (Ez (Dg S.M) (j+1):Nat)) (cU16 (Ez (Bl S.M) (j+1):Nat)) (AM ((j+1:Nat):Int)) h) :
  UK Q rec2 rec3 (Pt wb) x7 x8 (AM (eh:Int)) x11 x12 x13 x14 x16 x17 x18 x19 x20 (AM ((0:Nat):Int)) (Pt b) x25 (cU16 (Ez (Dg S.M) j:Nat)) (cU16 (Ez (Bl S.M) j:Nat)) (AM (j:Int)) h:=by
 have hc1:=KZ (Dg S.M) j;have hc2:=KZ (Bl S.M) j;have e1:(AQ .add BW  (AM ((0:Nat):Int)))=fun k=>k (AM ((1:Nat):Int)):=funext fun k=>by rw[BT];rfl
 unfold UK BL;have hlt:decide ((j:Int)<(eh:Int))=true:=H0 (by omega);simp (disch:=omega) only[go_sem,G6,e1,hlt,O8 1 j];have tail:∀ (u:Nat) h,CD wb ad S (bmR b (HR S.M (j+1))+x) h->u=Ez (Bl S.M) (j+1)->∀ pv:Vz,pv=(match S.M[j]?.join with|some _=>Pt (ad (j+1))|none=>.pointer none)->
   HF .ptr true true h pv  Au  fun x247=>CR x247 true (BS pv fun x250=>Aw 6 x250 fun x251=>Ae false 1 x251 h fun x252=>AQ .and x252 (cU16 61440) fun x253=>AQ .eql x253 Bz  fun x254=>BJ x254
    (rec3 (cU16 ((Ez (Dg S.M) j+1:Nat):Int)) (cU16 (u:Int)) (AM ((j+1:Nat):Int)) h) (rec3 (cU16 (Ez (Dg S.M) j:Nat)) (cU16 (u:Int)) (AM ((j+1:Nat):Int)) h))
    (rec3 (cU16 (Ez (Dg S.M) j:Nat)) (cU16 (u:Int)) (AM ((j+1:Nat):Int)) h):=by
  intro u h p hu pv hpv;subst hu;have K:=K h p;rw[show Ez (Dg S.M) (j+1)=Ez (Dg S.M) j+(Dg S.M j).toNat from rfl] at K;cases hM:S.M[j]? with
  | none=>
   have e0:Dg S.M j=false:=by unfold Dg;rw[hM]
   rw[hM] at hpv;have hpv:pv=.pointer none:=hpv;subst hpv;rw[e0] at K;simp only[go_sem];exact K
  | some o=>
   cases o with
   | none=>
    have e0:Dg S.M j=false:=by unfold Dg;rw[hM]
    rw[hM] at hpv;have hpv:pv=.pointer none:=hpv;subst hpv;rw[e0] at K;simp only[go_sem];exact K
   | some n=>
    have e0:Dg S.M j=(kindB n.en == 16384):=by unfold Dg;rw[hM]
    rw[hM] at hpv;have hpv:pv=Pt (ad (j+1)):=hpv;subst hpv;rw[e0] at K;obtain⟨nd,rr,hnd,hw,_,hmd⟩:=j9 (c:=j+1) p (by omega) (by rw[S5];exact hM);have hmode:nd.en=n.en:=by rw[<-hnd];rfl
    simp (disch:=omega) only[go_sem,AC hw];have hkk:(nd.en &&& 61440)=kindB nd.en:=rfl;rw[hkk,hmode];by_cases hk:kindB n.en=16384
    ·have e:decide ((kindB n.en:Int)=16384)=true:=H0 (by omega);have e':(kindB n.en == 16384)=true:=by rw[hk];rfl
     rw[e,Ab];rw[e'] at K;exact K
    ·have e:decide ((kindB n.en:Int)=16384)=false:=J0 (by omega);have e':(kindB n.en == 16384)=false:=by simpa using hk
     rw[e,AJ];rw[e'] at K;exact K
 refine Rm (AHG p (by omega) ?_);obtain⟨pv,hpv⟩:∃ pv:Vz,pv=(match S.M[j]?.join with|some _=>Pt (ad (j+1))|none=>.pointer none):=⟨_,rfl⟩;rw[<-hpv];have used:Bl S.M j=true->gm Q rec2 rec3 (Pt wb) x7 x8 (AM (eh:Int)) x11 x12 x13 x14 x16 x17 x18 x19 x20 (AM ((0:Nat):Int)) (Pt b) (cU16 (Ez (Dg S.M) j:Nat)) (cU16 (Ez (Bl S.M) j:Nat)) x25 (AM (j:Int)) pv  AI h:=fun hu=>by
  unfold gm AW;have e2:(AQ .add (AM 4096) (AM (j/8:Nat)))=fun k=>k (AM ((4096+j/8:Nat):Int)):=funext fun k=>by rw[BT,<-Lz (m:=4096+j/8) (by omega)];rfl
  simp (disch:=omega) only[go_sem,e2];have hb:8*(4096+j/8)+j%8=32768+j:=by omega
  refine AHI (q:=4096+j/8) (s:=j%8) p (by omega) (by omega) fun h p=>?_;rw[hb] at p;have p:CD wb ad S (bmR b (HR S.M (j+1))+x) h:=by
   unfold bmR;rw[Tv,D0 hu];exact p
  have hcu:Ez (Bl S.M) j+1=Ez (Bl S.M) (j+1):=by
   show _=Ez (Bl S.M) j+(Bl S.M j).toNat;rw[hu];rfl
  exact tail _ h p hcu pv hpv
 by_cases h11:j+1<11
 ·have e:decide (((j+1:Nat):Int)<11)=true:=H0 (by omega);rw[e];simp only[go_sem];exact used (by unfold Bl;rw[H0 (by omega:j<10)];rfl)
 ·have e:decide (((j+1:Nat):Int)<11)=false:=J0 (by omega);rw[e];simp only[go_sem];cases hM:S.M[j]?.join with
  | some n=>
   rw[hM] at hpv;have hpv':pv=Pt (ad (j+1)):=hpv;rw[hpv'] at used ⊢;simp only[go_sem];exact used (by unfold Bl;rw[hM];simp)
  | none=>
   rw[hM] at hpv;have hpv':pv=.pointer none:=hpv;have hu:Bl S.M j=false:=by unfold Bl;rw[hM,J0 (by omega:¬j<10)];rfl
   have hcu:Ez (Bl S.M) j=Ez (Bl S.M) (j+1):=by
    show _=Ez (Bl S.M) j+(Bl S.M j).toNat;rw[hu];rfl
   have p:CD wb ad S (bmR b (HR S.M (j+1))+x) h:=by
    unfold bmR;rw[Tv,F0 (by rw[hu];simp)];exact p
   have t:=tail _ h p hcu pv (by rw[hM];exact hpv);rw[hpv'] at t ⊢;simp only[go_sem];unfold gm AW;simp (disch:=omega) only[go_sem] at t ⊢;exact t
end loops
end
end Go.Proofs.YtollddkkdgoonaaGreatDoor
