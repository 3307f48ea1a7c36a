/- A part of a proof over images that are written and read. No condition; a step. -/
import Derived.Test.YtollddkkdgoonaaGreatDoorM9
namespace Go.Proofs.YtollddkkdgoonaaGreatDoor
open Go
set_option linter.unusedVariables false
set_option linter.unusedSimpArgs false
section
variable {h:H} {k:Value→Prop} {kt Q:Kt} {x y r:Res} {wb:Nat} {S S':PS} {ad:Nat→Nat}
theorem Gf {l:List Bs}{i:Nat}{a:Bs}(h:l[i]? = some a):(strs l)[i]? = some (str a):=by unfold strs;rw[A21,h];rfl
set_option maxRecDepth 20000 in
theorem MJ {E:H→Prop}{F dv cv c:Nat}{es:List (Bs×Nat)}{l0:List Bs}{v:Value}(p:BM wb ad S (r+(dvR dv (ad c)+(cvR cv v+x))) h)(d:Vec 9 1 v l0.length (strs l0) r)(hl0:l0.length≤100000)(hall:∀ a∈l0,∃ k,lookE es a=some k)(hFb:F9 TP F=true)
  (hF:∀ (i j:Nat) (l:List Bs) (r:Res) (Q:Kt) (h:H) (a b:Bs),BM wb ad S (r+(dvR dv (ad c)+(cvR cv v+x))) h→Vec 9 1 v l0.length (strs l) r→l[i]? = some a→l[j]? = some b→(∃ k,lookE es a=some k)→(∃ k,lookE es b=some k)→Q (.bool (lessE es a b)) h →
   Call TP F [.int .i64 i,.int .i64 j,Pt dv,Pt cv] h Q)
  (K:∀ r h,Vec 9 1 v l0.length (strs (sortL (lessE es) (l0.length-1) 1 l0)) r→BM wb ad S (r+(dvR dv (ad c)+(cvR cv v+x))) h→E h) :
  A1 (fun rec2 x16 h=>AB false 1 (Pt cv) h fun x66=>Ab x66 fun x67=>AD .lss x16 x67 fun x68=>AK x68
   (A1 (fun rec3 x17 h=>AD .gtr x17 (.int .i64 0) fun x73=>Az x73 true (AD .sub x17 (.int .i64 1) fun x78=>Bj TP (.func (.func F) #[] #[Pt dv,Pt cv]) [x17,x78] h fun x79 h=>AK x79
    (AB false 1 (Pt cv) h fun x83=>AB false 1 (Pt cv) h fun x85=>AD .sub x17 (.int .i64 1) fun x87=>AB false 1 (Pt cv) h fun x88=>AD .sub x17 (.int .i64 1) fun x90=>AI (.slice 1) x88 x90 fun x91=>AB false 1 x91 h fun x92=>AB false 1 (Pt cv) h fun x93=>AI (.slice 1) x93 x17 fun x95=>AB false 1 x95 h fun x96=>AI (.slice 1) x83 x17 fun x97=>AJ 1 x97 x92 h fun h=>((AB false 1 (Pt cv) h fun v=>v=x85)∧AI (.slice 1) x85 x87 fun x98=>AJ 1 x98 x96 h fun h=>AD .sub x17 (.int .i64 1) fun x82=>rec3 x82 h))
    (AD .add x16 (.int .i64 1) fun x70=>rec2 x70 h)) (AD .add x16 (.int .i64 1) fun x70=>rec2 x70 h)) x16 h)
   (E h)) (.int .i64 1) h:=by
 have hgd:∀ (l:List Bs) (i:Nat),i<l.length→l[i]? = some (l.getD i []):=fun l i hi=>by rw[A10,A00 hi];rfl
 have hknown:∀ (l:List Bs) (i:Nat),l.Perm l0→i<l.length→∃ k,lookE es (l.getD i [])=some k:=fun l i hp hi=>hall _ (hp.mem_iff.1 (A28 (hgd l i hi)))
 have hv:∃ a m,v=.slice a l0.length m:=by obtain⟨⟨a,m,e⟩,_⟩:=d.len;exact⟨a,m,e⟩
 obtain⟨va,vm,hv⟩:=hv
 refine Ba (fun m u h'=>∃ (i:Nat) (l:List Bs) (r:Res),m=l0.length+1-i∧1≤i∧u=.int .i64 (i:Nat)∧l.Perm l0∧sortL (lessE es) (l0.length-i) i l=sortL (lessE es) (l0.length-1) 1 l0∧Vec 9 1 v l0.length (strs l) r∧BM wb ad S (r+(dvR dv (ad c)+(cvR cv v+x))) h') l0.length
  ⟨1,l0,r,rfl,A07 _,rfl,List.Perm.refl _,rfl,d,p⟩ ?_
 rintro rec2 m u h' ⟨i,l,r,rfl,hi1,rfl,hpm,hs,d,p⟩ hrec2
 have hll:=hpm.length_eq
 simp only[go_sem,A4 p]
 rw[hv]
 simp only[go_sem]
 refine AX (fun hlt=>?_) (fun hge=>?_)
 ·have hlt':i<l0.length:=by omega
  have hm:l0.length-i=(l0.length-(i+1))+1:=by omega
  rw[hm,sortL] at hs
  have next:∀ (l':List Bs) (r:Res) (h:H),l'=Fc (lessE es) i l→Vec 9 1 v l0.length (strs l') r→BM wb ad S (r+(dvR dv (ad c)+(cvR cv v+x))) h→rec2 (.int .i64 ((i+1:Nat):Int)) h:=fun l' r h e d p=>by
   subst e
   exact hrec2 _ _ _ ⟨i+1,Fc (lessE es) i l,r,rfl,by omega,rfl,(HR _ _ _ (by omega)).trans hpm,hs,d,p⟩ (by omega)
  refine Ba (fun m u h'=>∃ (j:Nat) (l':List Bs) (r:Res),m=j∧j≤i∧u=.int .i64 (j:Nat)∧l'.Perm l0∧Fc (lessE es) j l'=Fc (lessE es) i l∧Vec 9 1 v l0.length (strs l') r∧BM wb ad S (r+(dvR dv (ad c)+(cvR cv v+x))) h') i ⟨i,l,r,rfl,A07 _,rfl,hpm,rfl,d,p⟩ ?_
  rintro rec3 m u h' ⟨j,l',r,hmj,hji,rfl,hpm',hs',d,p⟩ hrec3
  have hll':=hpm'.length_eq
  simp (disch:=omega) only[go_sem]
  refine C3 (fun hj=>?_) (fun hj=>?_)
  ·obtain⟨j',rfl⟩:∃ j',j=j'+1:=⟨j-1,by omega⟩
   have ga:=hgd l' (j'+1) (by omega)
   have gb:=hgd l' j' (by omega)
   simp (disch:=omega) only[go_sem,A79]
   refine IF (l:=[.int .i64 ((j'+1:Nat):Int),.int .i64 (j':Int),Pt dv,Pt cv]) rfl hFb (hF (j'+1) j' l' r _ h' _ _ p d ga gb (hknown l' _ hpm' (by omega)) (hknown l' _ hpm' (by omega)) ?_)
   rw[Fc] at hs'
   cases hle:lessE es (l'.getD (j'+1) []) (l'.getD j' []) with
   | false=>
    rw[hle,A05 (by simp)] at hs'
    simp (disch:=omega) only[go_sem]
    exact next l' r _ hs' d p
   | true=>
    rw[hle,A03 rfl] at hs'
    simp (disch:=omega) only[go_sem,A4 p]
    refine Dw p d (Gf gb) ?_
    refine Dw p d (Gf ga) ?_
    refine O4 p d (by omega) rfl rfl fun r h d p=>?_
    refine⟨IM p rfl,?_⟩
    refine O4 p d (by omega) rfl rfl fun r h d p=>?_
    rw[Of,Of] at d
    exact hrec3 j' _ _ ⟨j',JA l' (j'+1),r,rfl,by omega,rfl,(LB (by omega) (by omega)).trans hpm',hs',d,p⟩ (by omega)
  ·have hj0:j=0:=by omega
   subst hj0
   exact next l' r _ hs' d p
 ·have h0:l0.length-i=0:=by omega
  rw[h0,sortL] at hs
  subst hs
  exact K r _ d p
end
section
variable {h:H} {k:Value→Prop} {kt Q:Kt} {x y r:Res} {wb:Nat} {S S':PS} {ad:Nat→Nat}
theorem Uo {c n:Nat}{nm:ByteArray}(p:BM wb ad S x h)(hc:S.cur=none)(K:∀ h,BM wb ad {S with cur:=some c,dw:=0,dm:=n} x h→Q (.tuple #[]) h):f96 (Pt wb) (.string nm) (Pt (ad c)) (.int .i64 (n:Int)) h Q:=by
 obtain⟨s,L,tr,a,w⟩:=p
 rw[←a.wb]
 refine s96 (x:=tr+sumR ad L+x) (w.cast (by unfold FR;ac_rfl)) (by rw[a.cur,hc];rfl) ⟨_,rfl⟩ fun h w=>K h ⟨{s with nm:=.string nm,cur:=Pt (ad c),dw:=0,dm:=n},L,tr,⟨a.ok.ws' ⟨a.ok.ws.buf,a.ok.ws.len,a.ok.ws.max⟩ rfl,a.wb,a.ini,a.M,a.B,a.pos,a.dpos,rfl,rfl,rfl,a.inl,a.max,a.gd,a.db⟩,w.cast (by unfold FR;ac_rfl)⟩
def BZ:Nat→List (Nat×Nat×Bs)→Nat×Bs
 | left,[]=>(left,[])
 | left,e::r=>((BZ (Dk left e.1 e.2.1 e.2.2).1 r).1,(Dk left e.1 e.2.1 e.2.2).2++(BZ (Dk left e.1 e.2.1 e.2.2).1 r).2)
def Bg (l:List (Nat×Nat×Bs)):Bs:=(BZ 4096 l).2++HC (BZ 4096 l).1
def modeAt (M:List (Option PN))(k:Nat):Nat:=match M[k-1]? with|some (some n)=>n.mode|_=>0
def FX (M:List (Option PN))(es:List (Bs×Nat))(nm:Bs):Nat×Nat×Bs:=((lookE es nm).getD 0,EG (modeAt M ((lookE es nm).getD 0)),nm)
def Cf (M:List (Option PN))(c pp:Nat)(es:List (Bs×Nat))(l:List Bs):List (Nat×Nat×Bs):=(c,EG (modeAt M c),[46])::(pp,EG (modeAt M pp),[46,46])::l.map (FX M es)
theorem Mt {left c ft:Nat}{nm:Bs}(h1:12≤left)(h2:left≤4096)(hn:nm.length<256):12≤(Dk left c ft nm).1∧(Dk left c ft nm).1≤4096∧(Dk left c ft nm).2.length≤552:=by
 have hrl:8+nm.length≤Dm nm∧Dm nm<8+nm.length+4:=by unfold Dm;omega
 unfold Dk
 split
 ·simp only[A01,GR (show 8≤left by omega),IK];omega
 ·simp only[IK];omega
def PS.dirOpen (S:PS)(c:Nat)(bs:Bs):PS:=PS.wrote {S with cur:=some c,dw:=0,dm:=9223372036854775807} bs
def PS.dirDone (S:PS)(c:Nat)(n:PN)(bs:Bs):PS:={S.dirOpen c bs with M:=S.M.set (c-1) (some {n with size:=bs.length}),dm:=bs.length}
theorem GX {c:Nat}{a b:Bs}(h:S.B.length≤S.pos):(S.dirOpen c a).wrote b=S.dirOpen c (a++b):=EK h
theorem KP {c room:Nat}{n:PN}{bs:Bs}(h1:1≤c)(hn:S.M[c-1]? = some (some n))(hfl:n.flags=262144)(hd:bs.length+room≤100000000)(hm:S.pos+bs.length+room≤S.max):FS (S.dirOpen c bs) c n room:=
 ⟨rfl,h1,hn,hfl,rfl,by show 0+bs.length+room≤100000000;omega,by show S.pos+bs.length+room≤S.max;omega⟩
theorem IN (p:BM wb ad S x h){c:Nat}{n:PN}(h1:1≤c)(hn:S.M[c-1]? = some (some n)):n.mode<65536∧c<4294967296∧n.num=c:=by
 obtain⟨s,L,tr,a,w⟩:=p
 obtain⟨nd,hnd,rfl⟩:=CF (a.M▸hn)
 have hl:=(A02.1 hnd).1
 have hl2:=a.ok.len
 have:=a.ok.num _ _ hnd
 exact⟨(a.ok.nd _ _ hnd).2.2.1,by omega,by show nd.num=c;omega⟩
set_option maxRecDepth 20000 in
theorem AFk {wv c:Nat}{n:PN}{bs:Bs}(p:BM wb ad (S.dirOpen c bs) (wvR wv wb+x) h)(h1:1≤c)(hn:S.M[c-1]? = some (some n))(K:∀ h,BM wb ad (S.dirDone c n bs) (wvR wv wb+x) h→Q .nilIface h) :
  AB false 1 (Pt wv) h fun x127=>AE x127 fun x128=>AC 3 x128 fun x129=>AB false 1 x129 h fun x130=>AB false 1 (Pt wv) h fun x131=>AE x131 fun x132=>AC 5 x132 fun x133=>AB false 1 x133 h fun x134=>AE x130 fun x135=>AC 0 x135 fun x136=>AJ 1 x136 x134 h fun h=>AB false 1 (Pt wv) h fun x137=>AB false 1 (Pt wv) h fun x138=>AE x138 fun x139=>AC 5 x139 fun x140=>AB false 1 x140 h fun x141=>AE x137 fun x142=>AC 6 x142 fun x143=>AJ 1 x143 x141 h fun h=>Q .nilIface h:=by
 obtain⟨s,L,tr,a,w⟩:=p
 obtain⟨nd,hnd,hp⟩:=CF (a.M▸(show (S.dirOpen c bs).M[c-1]? = some (some n) from hn))
 obtain⟨w',hnum⟩:=CG a.ok h1 hnd w
 have hcur:s.cur=Pt (ad c):=a.cur
 have hdw:s.dw=bs.length:=by rw[a.dw];show 0+bs.length=_;omega
 have hl:=(A02.1 hnd).1
 have wl:AN (s.res+(pts (ad c) (.cells nd.cells 197 (0,0))+(wvR wv wb+(nd.dr+(nd.xr+nd.kr ad)+(tr+sumR ad (L.set (c-1) none))+x)))) h:=w'.cast (by unfold Nd.res;rw[show ad nd.num=ad c by rw[hnum]];ac_rfl)
 rw[←a.wb] at wl
 simp only[go_sem,AF wl,hcur,hdw]
 refine AL wl (Nd.cells {nd with size:=bs.length}) rfl rfl (by simp) rfl fun h w=>?_
 simp only[go_sem,AF w,hdw]
 refine AL w (WS.cells {s with dm:=bs.length}) rfl rfl (by simp) rfl fun h w=>?_
 have hnd':=a.ok.ndOK hnd
 refine K h ⟨{s with dm:=bs.length},L.set (c-1) (some {nd with size:=bs.length}),tr,⟨F7 a.ok ⟨a.ok.ws.buf,a.ok.ws.len,a.ok.ws.max⟩ rfl hnd rfl hnd',a.wb,a.ini,?_,a.B,a.pos,a.dpos,a.dw,rfl,a.cur,a.inl,a.max,a.gd,a.db⟩,?_⟩
 ·unfold pnL
  rw[B22]
  have hM:pnL L=S.M:=a.M
  show (pnL L).set (c-1) (some {nd.pn with size:=bs.length})=S.M.set (c-1) (some {n with size:=bs.length})
  rw[hM,hp]
 ·rw[a.wb] at w
  refine w.cast ?_
  unfold FR
  rw[GN hl]
  unfold Nd.res WS.res Nd.kr
  dsimp only
  rw[show ad nd.num=ad c by rw[hnum],a.wb]
  ac_rfl
end
section
variable {h:H} {k:Value→Prop} {kt Q:Kt} {x y r:Res} {wb:Nat} {S S':PS} {ad:Nat→Nat}
theorem HL:AG TP 3=some (.int .i64 0):=by kernel_rfl
theorem AAi:AG TP 141=some .nilFunc:=by kernel_rfl
theorem XJ:AG TP 49=some (.slice none 0 0):=by kernel_rfl
structure F0 (S:PS) (c pp:Nat) (n np:PN) (es:List (Bs×Nat)) (srt:List Bs):Prop where
 cur:S.cur=none
 c1:1≤c
 nd:S.M[c-1]? = some (some n)
 kids:n.kids=some es
 kin:KidsIn S es
 nms:∀ e∈es,1≤e.1.length∧e.1.length<256
 pp1:1≤pp
 pnd:S.M[pp-1]? = some (some np)
 fl:n.flags=262144
 B:S.B.length≤S.pos
 room:S.pos+560*es.length+10000≤S.max
 few:es.length≤10000
 srt:∀ l:List Bs,l.Perm (es.map (·.1))→sortL (lessE es) (l.length-1) 1 l=srt
 known:∀ a∈es.map (·.1),∃ k,lookE es a=some k
theorem F0.sperm {c pp:Nat}{n np:PN}{es:List (Bs×Nat)}{srt:List Bs}(d:F0 S c pp n np es srt):srt.Perm (es.map (·.1)):=by
 have:=d.srt (es.map (·.1)) (List.Perm.refl _)
 rw[←this]
 cases h:es.map (·.1) with
 | nil=>exact List.Perm.refl _
 | cons a l=>exact KK _ _ _ _ (by simp;omega)
set_option maxRecDepth 20000 in
theorem ADW {dv wv lb fv c pp:Nat}{n np:PN}{es:List (Bs×Nat)}{srt:List Bs}{v:Value}{pre bs:Bs}{left:Nat}(d:F0 S c pp n np es srt)(dv':Vec 9 1 v srt.length (strs srt) r)
  (p:BM wb ad (S.dirOpen c pre) (lbR lb left+(wvR wv wb+(fvR fv lb wv+(dvR dv (ad c)+(r+x))))) h) (hl1:12≤left) (hl2:left≤4096) (hpre:pre.length≤1104)
  (hbs:pre++((BZ left (srt.map (FX S.M es))).2++HC (BZ left (srt.map (FX S.M es))).1)=bs)
  (K:∀ h,BM wb ad (S.dirDone c n bs) x h→Q .nilIface h) :
  Pu Q (Pt wv) (Pt dv) (Pt fv) (.func (.func 202) #[] #[Pt lb,Pt fv,Pt wv]) v (.int .i64 (srt.length:Nat)) (.int .i64 ((0:Nat):Int)) h:=by
 have hsl:srt.length=es.length:=by have:=d.sperm.length_eq;simpa using this
 have hfew:=d.few
 have hroom:=d.room
 unfold Pu
 refine Ba (fun m u h'=>∃ (i:Nat) (left:Nat) (pre:Bs),m=srt.length-i∧i≤srt.length∧u=.int .i64 (i:Nat)∧12≤left∧left≤4096∧pre.length≤1104+552*i ∧
   pre++((BZ left ((srt.drop i).map (FX S.M es))).2++HC (BZ left ((srt.drop i).map (FX S.M es))).1)=bs ∧
   BM wb ad (S.dirOpen c pre) (lbR lb left+(wvR wv wb+(fvR fv lb wv+(dvR dv (ad c)+(r+x))))) h') srt.length
  ⟨0,left,pre,rfl,A39 _,rfl,hl1,hl2,hpre,by rw[A68];exact hbs,p⟩ ?_
 rintro rec m u h' ⟨i,left,pre,rfl,hi,rfl,hl1,hl2,hpre,hbs,p⟩ hrec
 have hat:FS (S.dirOpen c pre) c n (560*es.length+10000-pre.length):=KP d.c1 d.nd d.fl (by omega) (by omega)
 have hB':(S.dirOpen c pre).B.length≤(S.dirOpen c pre).pos:=NN (S:={S with cur:=some c,dw:=0,dm:=9223372036854775807}) d.B
 unfold QL
 simp (disch:=omega) only[go_sem]
 refine AX (fun hlt=>?_) (fun hge=>?_)
 ·have hlt':i<srt.length:=by omega
  have gi:srt[i]? = some srt[i]:=A00 hlt'
  obtain⟨k,hk⟩:=d.known srt[i] (d.sperm.mem_iff.1 (Q3 hlt'))
  have hmem:=Gt hk
  obtain⟨hk1,nk,hnk⟩:=d.kin _ hmem
  obtain⟨hn1,hn2⟩:=d.nms _ hmem
  obtain⟨hm,hk4,hknum⟩:=IN p hk1 hnk
  refine Dw (r:=r) (x:=lbR lb left+(wvR wv wb+(fvR fv lb wv+(dvR dv (ad c)+x)))) (p.cast (by ac_rfl)) dv' (Gf gi) ?_
  obtain⟨nd,rr,hnd,hnum,w,_⟩:=DM p d.c1 d.nd
  obtain⟨mb,hdir⟩:∃ mb,nd.dir=some (mb,es):=by
   have:nd.dir.map (·.2)=some es:=by rw[←d.kids,←hnd];rfl
   rw[A74] at this
   obtain⟨⟨mb,es'⟩,e1,e2⟩:=this
   cases e2
   exact⟨mb,e1⟩
  have wl:AN (pts (ad c) (.cells nd.cells 197 (0,0))+(nd.dr+(nd.xr+nd.kr ad))+(rr+(lbR lb left+(wvR wv wb+(fvR fv lb wv+(dvR dv (ad c)+(r+x))))))) h':=w.cast (by unfold Nd.res;rw[hnum])
  rw[A4 p]
  simp only[go_sem]
  rw[AF wl]
  simp only[go_sem]
  refine EJ w ?_
  simp only[hdir,hk,go_sem]
  obtain⟨ndk,rk,hpk,hnumk,wk,_⟩:=DM p hk1 hnk
  have wk':AN (pts (ad k) (.cells ndk.cells 197 (0,0))+(ndk.dr+(ndk.xr+ndk.kr ad))+(rk+(lbR lb left+(wvR wv wb+(fvR fv lb wv+(dvR dv (ad c)+(r+x))))))) h':=wk.cast (by unfold Nd.res;rw[hnumk])
  rw[AF wk']
  simp only[go_sem]
  have hnk':ndk.num=k:=hnumk
  rw[hnk']
  refine IF (l:=[.int .u32 (k:Nat),str srt[i],Pt lb,Pt fv,Pt wv]) rfl (by kernel_rfl) (Mn _ _ _ _ _ _ _ (AC5 (x:=dvR dv (ad c)+(r+x)) p hat hk1 hnk hm hn1 hn2 hk4 hl1 hl2 (by omega) hB' fun h p=>?_))
  simp (disch:=omega) only[go_sem]
  rw[GX d.B] at p
  have hd:srt.drop i=srt[i]::srt.drop (i+1):=A50 hlt'
  have he:FX S.M es srt[i]=(k,EG nk.mode,srt[i]):=by
   have hma:modeAt S.M k=nk.mode:=by
    have:S.M[k-1]? = some (some nk):=hnk
    unfold modeAt;rw[this]
   unfold FX
   rw[hk,Option.getD_some,hma]
  rw[hd,A33,he,BZ] at hbs
  simp only at hbs
  obtain⟨q1,q2,q3⟩:=Mt (c:=k) (ft:=EG nk.mode) (nm:=srt[i]) hl1 hl2 hn2
  refine hrec _ _ _ ⟨i+1,(Dk left k (EG nk.mode) srt[i]).1,pre++(Dk left k (EG nk.mode) srt[i]).2,rfl,by omega,rfl,q1,q2,by rw[A01];omega,?_,p⟩ (by omega)
  rw[←hbs]
  simp only[A12]
 ·have hi':i=srt.length:=by omega
  rw[hi',B15,B46,BZ,A34] at hbs
  simp only at hbs
  rw[A4 p]
  simp only[go_sem]
  refine IF (l:=[Pt lb,Pt wv]) rfl (by kernel_rfl) (SS _ _ _ _ (AFw (x:=fvR fv lb wv+(dvR dv (ad c)+(r+x))) p hat hl1 hl2 (by omega) hB' fun h p=>?_))
  simp (disch:=omega) only[LE]
  simp only[AU]
  rw[GX d.B,hbs] at p
  refine AFk (wv:=wv) (x:=lbR lb 4096+(fvR fv lb wv+(dvR dv (ad c)+(r+x)))) (p.cast (by ac_rfl)) d.c1 d.nd fun h p=>?_
  exact K h (BM.mono (y:=wvR wv wb+(lbR lb 4096+(fvR fv lb wv+(dvR dv (ad c)+r)))) (p.cast (by ac_rfl)))
set_option maxRecDepth 20000 in
theorem AGv {dv wv lb fv c pp l1:Nat}{n np:PN}{es:List (Bs×Nat)}{srt:List Bs}{pre bs:Bs}(d:F0 S c pp n np es srt)(hfew:es.length≤10000)(p:BM wb ad (S.dirOpen c pre) (lbR lb l1+(wvR wv wb+(fvR fv lb wv+(dvR dv (ad c)+x)))) h)(b1:12≤l1)(b2:l1≤4096)(hprel:pre.length≤1104)
  (hbs:pre++((BZ l1 (srt.map (FX S.M es))).2++HC (BZ l1 (srt.map (FX S.M es))).1)=bs) (K:∀ h,BM wb ad (S.dirDone c n bs) x h→Q .nilIface h) :
  AQ (AG TP 49) 49 h fun x13 h=>AB false 1 (Pt dv) h fun x51=>AE x51 fun x52=>AC 17 x52 fun x53=>AB false 1 x53 h fun x54=>D5 x54 h fun x55 h=>Qf Q (Pt wv) (Pt dv) (Pt fv) (.func (.func 202) #[] #[Pt lb,Pt fv,Pt wv]) x13 x55 h:=by
 refine DG p XJ rfl fun cv h p=>?_
 simp only[go_sem,A4 p]
 have p:BM wb ad (S.dirOpen c pre) (lbR lb l1+(wvR wv wb+(fvR fv lb wv+(dvR dv (ad c)+(cvR cv (.slice none 0 0)+x))))) h:=p.cast (by unfold lbR wvR fvR dvR cvR;ac_rfl)
 obtain⟨nd,rr,hnd,hnum,w,cl⟩:=DM p d.c1 d.nd
 obtain⟨mb,hdir⟩:∃ mb,nd.dir=some (mb,es):=by
  have:nd.dir.map (·.2)=some es:=by rw[←d.kids,←hnd];rfl
  rw[A74] at this
  obtain⟨⟨mb,es'⟩,e1,e2⟩:=this
  cases e2
  exact⟨mb,e1⟩
 have hkr:nd.kr ad=pts mb (CP ad es):=by unfold Nd.kr;rw[hdir]
 have hkv:nd.kids=.map (some mb):=by unfold Nd.kids;rw[hdir];rfl
 have wl:AN (pts (ad c) (.cells nd.cells 197 (0,0))+(pts mb (CP ad es)+(nd.dr+nd.xr+rr+(lbR lb l1+(wvR wv wb+(fvR fv lb wv+(dvR dv (ad c)+(cvR cv (.slice none 0 0)+x)))))))) h:=w.cast (by unfold Nd.res lbR wvR fvR dvR cvR;rw[hnum,hkr];ac_rfl)
 rw[AF wl]
 simp only[go_sem]
 rw[hkv]
 refine Ir (m:=mb) wl fun ib h w=>?_
 have w2:AN (pts mb (CP ad es)+(pts ib (.mapIter (some mb) es.length #[] es.length)+(cvR cv (.slice none 0 0)+(pts (ad c) (.cells nd.cells 197 (0,0))+(nd.dr+nd.xr+rr+(lbR lb l1+(wvR wv wb+(fvR fv lb wv+(dvR dv (ad c)+x))))))))) h:=by
  have key:∀ A B C D E1 E2 E3 E4 V X:Res,A+(C+(B+(D+(E1+(E2+(E3+(E4+(V+X))))))))=B+(A+(V+(C+(D+(E1+(E2+(E3+(E4+X)))))))):=by intros;ac_rfl
  exact w.cast (key _ _ _ _ _ _ _ _ _ _)
 unfold Qf RY
 refine Wz (E:=Qb Q (Pt wv) (Pt dv) (Pt fv) (.func (.func 202) #[] #[Pt lb,Pt fv,Pt wv]) (Pt cv) (.func (.func 204) #[] #[Pt dv,Pt cv]) (.int .i64 1)) (ib:=ib) (cv:=cv) (ad:=ad) (es:=es) (x:=pts (ad c) (.cells nd.cells 197 (0,0))+(nd.dr+nd.xr+rr+(lbR lb l1+(wvR wv wb+(fvR fv lb wv+(dvR dv (ad c)+x)))))) (by omega) w2 fun l v r h hperm dvec w=>?_
 have p:BM wb ad (S.dirOpen c pre) (r+(dvR dv (ad c)+(cvR cv v+(lbR lb l1+(wvR wv wb+(fvR fv lb wv+x)))))) h:=cl _ _ (w.cast (by unfold Nd.res lbR wvR fvR dvR cvR;rw[hnum,hkr];ac_rfl))
 have hll:l.length=es.length:=by have:=hperm.length_eq;simpa using this
 rw[←hll] at dvec
 unfold Qb P7 Vu Qg R9
 refine MJ (F:=204) (c:=c) (es:=es) p dvec (by omega) (fun a ha=>d.known a (hperm.mem_iff.1 ha)) (by kernel_rfl) (fun i j l' r Q h a b p dv hi hj ha hb K=>AAM _ _ _ _ _ _ (AHo p dv d.c1 d.nd d.kids d.kin hi hj ha hb K)) fun r h dvec p=>?_
 rw[d.srt l hperm] at dvec
 have hsl:srt.length=l.length:=by have:=d.sperm.length_eq;simp at this;omega
 rw[←hsl] at dvec
 simp only[go_sem,A4 p]
 obtain⟨⟨va,vc,hv⟩,_⟩:=dvec.len
 rw[hv]
 simp only[go_sem]
 rw[←hv]
 refine ADW (x:=cvR cv v+x) d dvec (p.cast (by ac_rfl)) b1 b2 hprel hbs fun h p=>K h (BM.mono (y:=cvR cv v) (p.cast (Res.comm _ _)))
theorem Vc {c room:Nat}{n:PN}(h1:1≤c)(hn:S.M[c-1]? = some (some n))(hfl:n.flags=262144)(hd:room≤100000000)(hm:S.pos+room≤S.max):FS {S with cur:=some c,dw:=0,dm:=9223372036854775807} c n room:=
 ⟨rfl,h1,hn,hfl,rfl,by show 0+room≤100000000;omega,hm⟩
set_option maxRecDepth 20000 in
theorem AHq {c pp:Nat}{n np:PN}{es:List (Bs×Nat)}{srt:List Bs}{S0:PS}(d:F0 S c pp n np es srt)(p:BM wb ad S0 x h)(fin:Fin S0 S)(K:∀ h,BM wb ad (S.dirDone c n (Bg (Cf S.M c pp es srt))) x h→Q .nilIface h) :
  AEW (Pt wb) (Pt (ad c)) (Pt (ad pp)) h Q:=by
 have hfew:=d.few
 have hroom:=d.room
 have hr1:560*es.length+10000≤100000000:=B28 (Nat.add_le_add_right (Nat.mul_le_mul_left 560 hfew) 10000) (by decide)
 have hr2:S.pos+(560*es.length+10000)≤S.max:=B28 (Nat.le_of_eq (B62 _ _ _).symm) hroom
 unfold AEW
 refine M3 p fun wv h p=>?_
 have p:BM wb ad S0 (wvR wv wb+x) h:=p
 refine M3 p fun dv h p=>?_
 have p:BM wb ad S0 (dvR dv (ad c)+(wvR wv wb+x)) h:=p
 simp only[go_sem,A4 p,Value.cells]
 refine ND _ _ _ (Jq p fin fun h p=>?_)
 simp only[go_sem,A4 p]
 refine Vx _ _ _ _ _ _ (Uo (n:=9223372036854775807) p d.cur fun h p=>?_)
 refine DG p HL rfl fun lb h p=>?_
 refine DD p ⟨[.int .i64 ((4096:Nat):Int)]⟩ rfl rfl (by simp) rfl fun h p=>?_
 refine DG p AAi rfl fun fv h p=>?_
 refine DD p ⟨[.func (.func 200) #[] #[Pt lb,Pt wv]]⟩ rfl rfl (by simp) rfl fun h p=>?_
 simp only[go_sem,A4 p]
 have p:BM wb ad {S with cur:=some c,dw:=0,dm:=9223372036854775807} (lbR lb 4096+(wvR wv wb+(fvR fv lb wv+(dvR dv (ad c)+x)))) h:=p.cast (by unfold lbR wvR fvR dvR;ac_rfl)
 obtain⟨nd,rr,hnd,hnum,w,_⟩:=DM p d.c1 d.nd
 have wl:AN (pts (ad c) (.cells nd.cells 197 (0,0))+(nd.dr+(nd.xr+nd.kr ad))+(rr+(lbR lb 4096+(wvR wv wb+(fvR fv lb wv+(dvR dv (ad c)+x)))))) h:=w.cast (by unfold Nd.res;rw[hnum])
 rw[AF wl]
 simp only[go_sem,hnum]
 have hat:FS {S with cur:=some c,dw:=0,dm:=9223372036854775807} c n (560*es.length+10000):=Vc (S:=S) (room:=560*es.length+10000) d.c1 d.nd d.fl hr1 hr2
 obtain⟨hm,hc4,_⟩:=IN p d.c1 d.nd
 obtain⟨hmp,hp4,_⟩:=IN p d.pp1 d.pnd
 have hs1:(Value.string ⟨#[46]⟩)=str [46]:=rfl
 have hs2:(Value.string ⟨#[46,46]⟩)=str [46,46]:=rfl
 rw[hs1,hs2]
 refine IF (l:=[.int .u32 (c:Nat),str [46],Pt lb,Pt fv,Pt wv]) rfl (by kernel_rfl) (Mn _ _ _ _ _ _ _ (AC5 (x:=dvR dv (ad c)+x) p hat d.c1 d.nd hm (by decide) (by decide) hc4 (by omega) (by omega) (by omega) d.B fun h p=>?_))
 obtain⟨a1,a2,a3⟩:=Mt (left:=4096) (c:=c) (ft:=EG n.mode) (nm:=[46]) (by omega) (by omega) (by decide)
 have p:BM wb ad (S.dirOpen c (Dk 4096 c (EG n.mode) [46]).2) (lbR lb (Dk 4096 c (EG n.mode) [46]).1+(wvR wv wb+(fvR fv lb wv+(dvR dv (ad c)+x)))) h:=p
 simp only[go_sem]
 obtain⟨nd,rr,hnd,hnum,w,_⟩:=DM p d.pp1 d.pnd
 have wl:AN (pts (ad pp) (.cells nd.cells 197 (0,0))+(nd.dr+(nd.xr+nd.kr ad))+(rr+(lbR lb (Dk 4096 c (EG n.mode) [46]).1+(wvR wv wb+(fvR fv lb wv+(dvR dv (ad c)+x)))))) h:=w.cast (by unfold Nd.res;rw[hnum])
 rw[AF wl]
 simp only[go_sem,hnum]
 have hat2:FS (S.dirOpen c (Dk 4096 c (EG n.mode) [46]).2) c n (560*es.length+9000):=KP d.c1 d.nd d.fl (by omega) (by omega)
 have hB2:(S.dirOpen c (Dk 4096 c (EG n.mode) [46]).2).B.length≤(S.dirOpen c (Dk 4096 c (EG n.mode) [46]).2).pos:=NN (S:={S with cur:=some c,dw:=0,dm:=9223372036854775807}) d.B
 refine IF (l:=[.int .u32 (pp:Nat),str [46,46],Pt lb,Pt fv,Pt wv]) rfl (by kernel_rfl) (Mn _ _ _ _ _ _ _ (AC5 (x:=dvR dv (ad c)+x) p hat2 d.pp1 d.pnd hmp (by decide) (by decide) hp4 a1 a2 (by omega) hB2 fun h p=>?_))
 rw[GX d.B] at p
 obtain⟨b1,b2,b3⟩:=Mt (left:=(Dk 4096 c (EG n.mode) [46]).1) (c:=pp) (ft:=EG np.mode) (nm:=[46,46]) a1 a2 (by decide)
 obtain⟨l1,hl1⟩:∃ l1,l1=(Dk (Dk 4096 c (EG n.mode) [46]).1 pp (EG np.mode) [46,46]).1:=⟨_,rfl⟩
 obtain⟨pre,hpre⟩:∃ pre,pre=(Dk 4096 c (EG n.mode) [46]).2++(Dk (Dk 4096 c (EG n.mode) [46]).1 pp (EG np.mode) [46,46]).2:=⟨_,rfl⟩
 have hbs:pre++((BZ l1 (srt.map (FX S.M es))).2++HC (BZ l1 (srt.map (FX S.M es))).1)=Bg (Cf S.M c pp es srt):=by
  have hmc:modeAt S.M c=n.mode:=by unfold modeAt;rw[d.nd]
  have hmp:modeAt S.M pp=np.mode:=by unfold modeAt;rw[d.pnd]
  unfold Bg Cf
  rw[hmc,hmp,BZ,BZ]
  simp only
  rw[←hl1,hpre]
  simp only[A12]
 rw[←hl1] at b1 b2 p
 rw[←hpre] at p
 have hprel:pre.length≤1104:=by rw[hpre,A01];omega
 simp only[go_sem]
 exact AGv d hfew p b1 b2 hprel hbs K
end
section
variable {h:H} {k:Value→Prop} {kt Q:Kt} {x y r:Res} {wb:Nat} {S S':PS} {ad:Nat→Nat}
def Um (R:PS→Nat→Nat→PS→Prop)(c:Nat)(es:List (Bs×Nat)):PS→List Bs→PS→Prop
 | S,[],S'=>S'=S
 | S,nm::l,S'=>∃ n k nk,S.M[c-1]? = some (some n)∧n.kids=some es∧lookE es nm=some k∧1≤k∧S.M[k-1]? = some (some nk)∧(if kindB nk.mode=16384 then ∃ S1,R S k c S1∧Um R c es S1 l S' else Um R c es S l S')
def RecD:Nat→PS→Nat→Nat→PS→Prop
 | 0,_,_,_,_=>False
 | f+1,S0,c,pp,S'=>∃ S n np es srt,Fin S0 S∧F0 S c pp n np es srt∧Um (RecD f) c es (S.dirDone c n (Bg (Cf S.M c pp es srt))) srt S'
theorem N9 {c:Nat}{n:PN}{bs:Bs}{i:Nat}{m:PN}(h:S.M[i]? = some (some m)):∃ m',(S.dirDone c n bs).M[i]? = some (some m'):=by
 show ∃ m',(S.M.set (c-1) (some {n with size:=bs.length}))[i]? = some (some m')
 have hl:=(A02.1 h).1
 rw[A54]
 by_cases hc:c-1=i
 ·subst hc;rw[A03 rfl,A03 hl];exact⟨_,rfl⟩
 ·rw[A05 hc];exact⟨m,h⟩
set_option maxRecDepth 20000 in
theorem ACb {f dv c:Nat}{es:List (Bs×Nat)}{srt:List Bs}{v:Value}{S0 S':PS}
  (ih:∀ (S0:PS) (c pp:Nat) (S':PS) (x:Res) (h:H) (Q:Kt),RecD f S0 c pp S'→BM wb ad S0 x h→(∀ h,BM wb ad S' x h→Q .nilIface h)→ZJ (Pt wb) (Pt (ad c)) (Pt (ad pp)) h Q)
  (d:Vec 9 1 v srt.length (strs srt) r) (hc1:1≤c) (hfew:srt.length≤10000) (p:BM wb ad S0 (r+(dvR dv (ad c)+x)) h) (hr:Um (RecD f) c es S0 srt S') (K:∀ h,BM wb ad S' x h→Q .nilIface h) :
  RI Q (Pt wb) (Pt dv) v (.int .i64 (srt.length:Nat)) (.int .i64 ((0:Nat):Int)) h:=by
 unfold RI
 refine Ba (fun m u h'=>∃ (i:Nat) (S:PS),m=srt.length-i∧i≤srt.length∧u=.int .i64 (i:Nat)∧Um (RecD f) c es S (srt.drop i) S'∧BM wb ad S (r+(dvR dv (ad c)+x)) h') srt.length ⟨0,S0,rfl,A39 _,rfl,by rw[A68];exact hr,p⟩ ?_
 rintro rec m u h' ⟨i,S,rfl,hi,rfl,hr,p⟩ hrec
 unfold Rt
 simp (disch:=omega) only[go_sem]
 refine AX (fun hlt=>?_) (fun hge=>?_)
 ·have hlt':i<srt.length:=by omega
  have gi:srt[i]? = some srt[i]:=A00 hlt'
  have hd:srt.drop i=srt[i]::srt.drop (i+1):=A50 hlt'
  rw[hd] at hr
  obtain⟨n,k,nk,hn,hkids,hk,hk1,hnk,hr⟩:=hr
  refine Dw p d (Gf gi) ?_
  obtain⟨nd,rr,hnd,hnum,w,_⟩:=DM p hc1 hn
  obtain⟨mb,hdir⟩:∃ mb,nd.dir=some (mb,es):=by
   have:nd.dir.map (·.2)=some es:=by rw[←hkids,←hnd];rfl
   rw[A74] at this
   obtain⟨⟨mb,es'⟩,e1,e2⟩:=this
   cases e2
   exact⟨mb,e1⟩
  have wl:AN (pts (ad c) (.cells nd.cells 197 (0,0))+(nd.dr+(nd.xr+nd.kr ad))+(rr+(r+(dvR dv (ad c)+x)))) h':=w.cast (by unfold Nd.res;rw[hnum])
  rw[A4 p]
  simp only[go_sem]
  rw[AF wl]
  simp only[go_sem]
  refine EJ w ?_
  simp only[hdir,hk]
  obtain⟨ndk,rk,hpk,hnumk,wk,_⟩:=DM p hk1 hnk
  have wk':AN (pts (ad k) (.cells ndk.cells 197 (0,0))+(ndk.dr+(ndk.xr+ndk.kr ad))+(rk+(r+(dvR dv (ad c)+x)))) h':=wk.cast (by unfold Nd.res;rw[hnumk])
  obtain⟨hm,_,_⟩:=IN p hk1 hnk
  have hmk:ndk.mode=nk.mode:=by rw[←hpk];rfl
  refine Pz _ _ _ (s93 wk' (by rw[hmk];exact hm) ?_)
  rw[hmk]
  by_cases hdk:kindB nk.mode=16384
  ·rw[A03 hdk] at hr
   obtain⟨S1,h1,h2⟩:=hr
   rw[A04 hdk]
   simp only[go_sem,A4 p]
   refine SZ _ _ _ _ _ (ih S k c S1 _ _ _ h1 p fun h p=>?_)
   simp (disch:=omega) only[go_sem]
   exact hrec _ _ _ ⟨i+1,S1,rfl,by omega,rfl,h2,p⟩ (by omega)
  ·rw[A05 hdk] at hr
   rw[A08 hdk]
   simp (disch:=omega) only[go_sem]
   exact hrec _ _ _ ⟨i+1,S,rfl,by omega,rfl,hr,p⟩ (by omega)
 ·have hi':i=srt.length:=by omega
  rw[hi',B15] at hr
  have hr:S'=S:=hr
  subst hr
  exact K _ (BM.mono (y:=r+dvR dv (ad c)) (p.cast (by ac_rfl)))
set_option maxRecDepth 20000 in
theorem AFV:∀ (f:Nat) (S0:PS) (c pp:Nat) (S':PS) (x:Res) (h:H) (Q:Kt),RecD f S0 c pp S'→BM wb ad S0 x h→(∀ h,BM wb ad S' x h→Q .nilIface h)→ZJ (Pt wb) (Pt (ad c)) (Pt (ad pp)) h Q
 | 0,_,_,_,_,_,_,_,hr,_,_=>hr.elim
 | f+1,S0,c,pp,S',x,h,Q,hr,p,K=>by
  obtain⟨S,n,np,es,srt,fin,d,hl⟩:=hr
  have hfew:=d.few
  unfold ZJ
  refine M3 p fun dv h p=>?_
  have p:BM wb ad S0 (dvR dv (ad c)+x) h:=p
  rw[A4 p]
  simp only[go_sem]
  refine AAa _ _ _ _ _ (AHq d p fin fun h p=>?_)
  simp only[go_sem]
  refine DG p XJ rfl fun cv h p=>?_
  simp only[go_sem,A4 p]
  obtain⟨n',hn'⟩:∃ n',n'=({n with size:=(Bg (Cf S.M c pp es srt)).length}:PN):=⟨_,rfl⟩
  have hnd':(S.dirDone c n (Bg (Cf S.M c pp es srt))).M[c-1]? = some (some n'):=by
   show (S.M.set (c-1) (some _))[c-1]? = _
   rw[List.getElem?_set_self (A02.1 d.nd).1,hn']
  have hk':n'.kids=some es:=by rw[hn'];exact d.kids
  have hkin:KidsIn (S.dirDone c n (Bg (Cf S.M c pp es srt))) es:=fun e he=>by
   obtain⟨h1,m,hm⟩:=d.kin e he
   exact⟨h1,N9 hm⟩
  have p:BM wb ad (S.dirDone c n (Bg (Cf S.M c pp es srt))) (cvR cv (.slice none 0 0)+(dvR dv (ad c)+x)) h:=p
  obtain⟨nd,rr,hnd,hnum,w,cl⟩:=DM p d.c1 hnd'
  obtain⟨mb,hdir⟩:∃ mb,nd.dir=some (mb,es):=by
   have:nd.dir.map (·.2)=some es:=by rw[←hk',←hnd];rfl
   rw[A74] at this
   obtain⟨⟨mb,es'⟩,e1,e2⟩:=this
   cases e2
   exact⟨mb,e1⟩
  have hkr:nd.kr ad=pts mb (CP ad es):=by unfold Nd.kr;rw[hdir]
  have hkv:nd.kids=.map (some mb):=by unfold Nd.kids;rw[hdir];rfl
  have k1:∀ A B D1 D2 R V W X:Res,A+(D1+(D2+B))+(R+(V+(W+X)))=A+(B+(D1+D2+R+(V+(W+X)))):=by intros;ac_rfl
  have wl:AN (pts (ad c) (.cells nd.cells 197 (0,0))+(pts mb (CP ad es)+(nd.dr+nd.xr+rr+(cvR cv (.slice none 0 0)+(dvR dv (ad c)+x))))) h:=w.cast (by unfold Nd.res;rw[hnum,hkr];exact k1 _ _ _ _ _ _ _ _)
  rw[AF wl]
  simp only[go_sem]
  rw[hkv]
  refine Ir (m:=mb) wl fun ib h w=>?_
  have k2:∀ I A B Y V W X:Res,I+(A+(B+(Y+(V+(W+X)))))=B+(I+(V+(A+(Y+(W+X))))):=by intros;ac_rfl
  unfold Vm Qu
  refine Wz (E:=Rs Q (Pt wb) (Pt dv) (Pt cv) (.func (.func 167) #[] #[Pt dv,Pt cv]) (.int .i64 1)) (ib:=ib) (cv:=cv) (ad:=ad) (es:=es) (x:=pts (ad c) (.cells nd.cells 197 (0,0))+(nd.dr+nd.xr+rr+(dvR dv (ad c)+x))) (by omega) (w.cast (k2 _ _ _ _ _ _ _)) fun l v r h hperm dvec w=>?_
  have k3:∀ A B D1 D2 R0 R V W X:Res,B+(R+(V+(A+(D1+D2+R0+(W+X)))))=A+(D1+(D2+B))+(R0+(R+(W+(V+X)))):=by intros;ac_rfl
  have p:BM wb ad (S.dirDone c n (Bg (Cf S.M c pp es srt))) (r+(dvR dv (ad c)+(cvR cv v+x))) h:=cl _ _ (w.cast (by unfold Nd.res;rw[hnum,hkr];exact k3 _ _ _ _ _ _ _ _ _))
  have hll:l.length=es.length:=by have:=hperm.length_eq;simpa using this
  rw[←hll] at dvec
  unfold Rs Q7 Wi Rf Q8
  refine MJ (F:=167) (c:=c) (es:=es) p dvec (by omega) (fun a ha=>d.known a (hperm.mem_iff.1 ha)) (by kernel_rfl) (fun i j l' r Q h a b p dv hi hj ha hb K=>Yc _ _ _ _ _ _ (AHs p dv d.c1 hnd' hk' hkin hi hj ha hb K)) fun r h dvec p=>?_
  rw[d.srt l hperm] at dvec
  have hsl:srt.length=l.length:=by have:=d.sperm.length_eq;simp at this;omega
  rw[←hsl] at dvec
  simp only[go_sem,A4 p]
  obtain⟨⟨va,vc,hv⟩,_⟩:=dvec.len
  rw[hv]
  simp only[go_sem]
  rw[←hv]
  refine ACb (x:=cvR cv v+x) (AFV f) dvec d.c1 (by omega) p hl fun h p=>K h (BM.mono (y:=cvR cv v) (p.cast (Res.comm _ _)))
end
section
set_option maxRecDepth 100000
def OG (Q:Kt)(x0 a4 c7 c8:Value)(h:H):Prop:=
 AZ (.arr 4096 1) c7 (some (.int .i64 1024)) none fun x363=>AB true 465 c8 h fun x364=>Call TP 119 [x364] h fun x365 h=>DI 1 x363 x365 h fun x366 h=>Call TP 101 [x0,(.int .u32 0)] h fun x368 h=>AZ (.arr 4096 1) c7 none none fun x371=>Call TP 98 [x0,x371] h fun x372 h=>AO x372 0 fun x373=>AO x372 1 fun x374=>Bq .iface true true h x374 .nilIface fun x376=>AK x376
 (Q x374 h)
 (Call TP 101 [x0,a4] h fun x380 h=>AE x0 fun x382=>AC 7 x382 fun x383=>AB false 1 x383 h fun x384=>Q x384 h)
def Mb (Q:Kt)(r1:R1)(x0 x8 x9 a4 a9 b0 x326 x327 x328:Value)(h:H):Prop:=
 AD .lss x328 x327 fun x329=>AK x329
 (AI (.slice 12) x326 x328 fun x330=>AB true 12 x330 h fun x331=>AQ (AG TP 226) 226 h fun c6 h=>AJ 12 c6 x331 h fun h=>AE x0 fun x333=>AC 0 x333 fun x334=>AB false 1 x334 h fun x335=>AB true 12 c6 h fun x336=>Call TP 118 [x336] h fun x337 h=>((AB false 1 x334 h fun v=>v=x335)∧Call TP 117 [x335,x337] h fun x338 h=>AD .add x328 (.int .i64 1) fun x339=>r1 x339 h))
 (AQ (AG TP 205) 205 h fun c7 h=>AD .mul x9 x8 fun x342=>AD .mul (.int .u32 32768) x8 fun x345=>AD .sub x345 a9 fun x347=>AD .mul x9 x8 fun x350=>AD .sub x350 b0 fun x352=>Ae (.struct [(0,1),(1,1),(2,1),(3,1),(4,1),(5,1),(6,1),(7,1),(8,1),(9,1),(10,1),(11,1),(12,1),(13,1),(14,1),(15,1),(16,1),(17,1),(18,1),(19,1),(20,1),(21,1),(22,1),(23,1),(24,1),(25,1),(26,1),(27,1),(28,1),(29,1),(30,1),(31,16),(47,16),(63,64),(127,1),(128,1),(129,1),(130,1),(131,16),(147,1),(148,1),(149,1),(150,4),(154,1),(155,1),(156,1),(157,1),(158,1),(159,1),(160,17),(177,1),(178,1),(179,1),(180,1),(181,1),(182,1),(183,1),(184,1),(185,1),(186,1),(187,1),(188,1),(189,1),(190,1),(191,1),(192,1),(193,1),(194,1),(195,1),(196,1),(197,1),(198,1),(199,32),(231,1),(232,1),(233,1),(234,1),(235,1),(236,32),(268,64),(332,1),(333,1),(334,1),(335,2),(337,4),(341,16),(357,1),(358,1),(359,1),(360,1),(361,1),(362,1),(363,1),(364,1),(365,1),(366,2),(368,96),(464,1)]) (AG TP 242) [(0,x342),(1,a4),(3,x347),(4,x352),(5,(.int .u32 0)),(6,(.int .u32 2)),(7,(.int .u32 2)),(8,(.int .u32 32768)),(9,(.int .u32 32768)),(10,x9),(15,(.int .u16 61267)),(16,(.int .u16 1)),(17,(.int .u16 1)),(21,(.int .u32 0)),(22,(.int .u32 1)),(25,(.int .u32 11)),(86,(.int .u32 11)),(26,(.int .u16 256)),(28,(.int .u32 520)),(29,(.int .u32 578)),(30,(.int .u32 4170)),(53,(.int .u16 24)),(54,(.int .u16 24)),(60,(.int .u8 31))] fun x354=>AQ (AG TP 242) 242 h fun c8 h=>AJ 465 c8 x354 h fun h=>AE x0 fun x356=>AC 9 x356 fun x357=>AB false 1 x357 h fun x358=>AK x358
 (AC 29 c8 fun x359=>AB false 1 x359 h fun x360=>AD .or x360 (.int .u32 32768) fun x361=>AC 29 c8 fun x362=>AJ 1 x362 x361 h fun h=>OG Q x0 a4 c7 c8 h)
 (OG Q x0 a4 c7 c8 h))
def S5 (Q:Kt)(x0 x8 x9 a4 a9 b0 x326 x327 x328:Value)(h:H):Prop:=A1 (fun r1 x328 h=>Mb Q r1 x0 x8 x9 a4 a9 b0 x326 x327 x328 h) x328 h
def MI (Q:Kt)(r2:R3)(r3:R3)(x0 x7 x8 x9 a1 a2 a3 a4 a6 a7 a8 a9 b0 b1 b2 b3 b4 b5 c0 c2 x233:Value)(h:H):Prop:=
 AK x233
 (AD .quo c0 (.int .u32 8) fun x235=>AD .add (.int .u32 4096) x235 fun x236=>AI (.arr 8192 1) b2 x236 fun x237=>AB false 1 x237 h fun x238=>AD .rem c0 (.int .u32 8) fun x240=>AD .shl (.int .u8 1) x240 fun x241=>AD .or x238 x241 fun x242=>AI (.arr 8192 1) b2 x236 fun x243=>AJ 1 x243 x242 h fun h=>AD .add b4 (.int .u16 1) fun x245=>Bq .ptr true true h c2 (.pointer none) fun x247=>Az x247 true (AE c2 fun x250=>AC 6 x250 fun x251=>AB false 1 x251 h fun x252=>AD .and x252 (.int .u16 61440) fun x253=>AD .eql x253 (.int .u16 16384) fun x254=>AK x254
 (AD .add b3 (.int .u16 1) fun x257=>AD .add c0 (.int .u32 1) fun x218=>r3 x257 x245 x218 h)
 (AD .add c0 (.int .u32 1) fun x218=>r3 b3 x245 x218 h)) (AD .add c0 (.int .u32 1) fun x218=>r3 b3 x245 x218 h))
 (Bq .ptr true true h c2 (.pointer none) fun x247=>Az x247 true (AE c2 fun x250=>AC 6 x250 fun x251=>AB false 1 x251 h fun x252=>AD .and x252 (.int .u16 61440) fun x253=>AD .eql x253 (.int .u16 16384) fun x254=>AK x254
 (AD .add b3 (.int .u16 1) fun x257=>AD .add c0 (.int .u32 1) fun x218=>r3 x257 b4 x218 h)
 (AD .add c0 (.int .u32 1) fun x218=>r3 b3 b4 x218 h)) (AD .add c0 (.int .u32 1) fun x218=>r3 b3 b4 x218 h))
def OX (Q:Kt)(r2:R3)(r3:R3)(x0 x7 x8 x9 a1 a2 a3 a4 a6 a7 a8 a9 b0 b1 b2 b5 b3 b4 c0:Value)(h:H):Prop:=
 AD .lss c0 x9 fun x216=>AK x216
 (AD .mul b1 x9 fun x221=>AD .add (.int .u32 1) x221 fun x222=>AD .add x222 c0 fun x224=>Call TP 115 [x0,x224] h fun x227 h=>AD .lss x224 (.int .u32 11) fun x229=>Az x229 false (Bq .ptr true true h x227 (.pointer none) fun x232=>MI Q r2 r3 x0 x7 x8 x9 a1 a2 a3 a4 a6 a7 a8 a9 b0 b1 b2 b3 b4 b5 c0 x227 x232 h) (MI Q r2 r3 x0 x7 x8 x9 a1 a2 a3 a4 a6 a7 a8 a9 b0 b1 b2 b3 b4 b5 c0 x227 (.bool true) h))
 (AZ (.arr 8192 1) b2 none none fun x260=>Call TP 98 [x0,x260] h fun x261 h=>AO x261 0 fun x262=>AO x261 1 fun x263=>Bq .iface true true h x263 .nilIface fun x265=>AK x265
 (Q x263 h)
 (AD .mul (.int .u32 2) b1 fun x271=>AD .add a1 x271 fun x272=>AD .mul (.int .u32 2) b1 fun x275=>AD .add a1 x275 fun x276=>AD .add x276 (.int .u32 1) fun x277=>AD .mul b1 a8 fun x281=>AD .add x7 x281 fun x282=>AV .u16 x9 fun x285=>AD .sub x285 b4 fun x287=>AD .sub (.int .u16 32768) b5 fun x289=>Ae (.struct [(0,1),(1,1),(2,1),(3,1),(4,1),(5,1),(6,1),(7,1),(8,1),(9,1),(10,1),(11,1)]) (AG TP 226) [(0,x272),(1,x277),(2,x282),(5,b3),(4,x287),(3,x289)] fun x290=>AI (.slice 12) a7 b1 fun x291=>AJ 12 x291 x290 h fun h=>AV .u32 b5 fun x294=>AD .add a9 x294 fun x295=>AV .u32 b4 fun x298=>AD .add b0 x298 fun x299=>AD .add b1 (.int .u32 1) fun p7=>r2 x295 x299 p7 h))
def Lu (Q:Kt)(r2:R3)(x0 x7 x8 x9 a1 a2 a3 a4 a6 a7 a8 a9 b0 b1 b2 b5 b3 b4 c0:Value)(h:H):Prop:=K9 (fun r3 b3 b4 c0 h=>OX Q r2 r3 x0 x7 x8 x9 a1 a2 a3 a4 a6 a7 a8 a9 b0 b1 b2 b5 b3 b4 c0 h) b3 b4 c0 h
def Tn (Q:Kt)(r2:R3)(r4:R2)(x0 x7 x8 x9 a1 a2 a3 a4 a6 a7 a8 a9 b0 b1 b2 b3 b4 b5 b9:Value)(h:H):Prop:=
 AD .lss b9 (.int .u32 32768) fun x200=>AK x200
 (AD .quo b9 (.int .u32 8) fun x204=>AI (.arr 8192 1) b2 x204 fun x205=>AB false 1 x205 h fun x206=>AD .rem b9 (.int .u32 8) fun x208=>AD .shl (.int .u8 1) x208 fun x209=>AD .or x206 x209 fun x210=>AI (.arr 8192 1) b2 x204 fun x211=>AJ 1 x211 x210 h fun h=>AD .add b5 (.int .u16 1) fun x213=>AD .add b9 (.int .u32 1) fun x202=>r4 x213 x202 h)
 (Lu Q r2 x0 x7 x8 x9 a1 a2 a3 a4 a6 a7 a8 a9 b0 b1 b2 b5 b3 b4 (.int .u32 0) h)
def Xc (Q:Kt)(r2:R3)(x0 x7 x8 x9 a1 a2 a3 a4 a6 a7 a8 a9 b0 b1 b2 b3 b4 b5 b9:Value)(h:H):Prop:=Bx (fun r4 b5 b9 h=>Tn Q r2 r4 x0 x7 x8 x9 a1 a2 a3 a4 a6 a7 a8 a9 b0 b1 b2 b3 b4 b5 b9 h) b5 b9 h
def Td (Q:Kt)(r2:R3)(x0 x7 x8 x9 a1 a2 a3 a4 a6 a7 a8 a9 b0 b1 b2 b3 b4 b5 x196:Value)(h:H):Prop:=
 AK x196
 (AD .rem a4 (.int .u32 32768) fun x198=>Xc Q r2 x0 x7 x8 x9 a1 a2 a3 a4 a6 a7 a8 a9 b0 b1 b2 b3 b4 b5 x198 h)
 (Lu Q r2 x0 x7 x8 x9 a1 a2 a3 a4 a6 a7 a8 a9 b0 b1 b2 b5 b3 b4 (.int .u32 0) h)
def SI (Q:Kt)(r2:R3)(x0 x7 x8 x9 a1 a2 a3 a4 a6 a7 a8 a9 b0 b1 b2 b3 b4 b5:Value)(h:H):Prop:=
 AD .sub x8 (.int .u32 1) fun x190=>AD .eql b1 x190 fun x191=>Az x191 true (AD .rem a4 (.int .u32 32768) fun x194=>AD .neq x194 (.int .u32 0) fun x195=>Td Q r2 x0 x7 x8 x9 a1 a2 a3 a4 a6 a7 a8 a9 b0 b1 b2 b3 b4 b5 x195 h) (Td Q r2 x0 x7 x8 x9 a1 a2 a3 a4 a6 a7 a8 a9 b0 b1 b2 b3 b4 b5 (.bool false) h)
def X0 (Q:Kt)(r2:R3)(r5:R2)(x0 x7 x8 x9 a1 a2 a3 a4 a6 a7 a8 a9 b0 b1 b2 b3 b4 b5 b8:Value)(h:H):Prop:=
 AE x0 fun y0=>AC 11 y0 fun y1=>AB false 1 y1 h fun y2=>AD .add (.int .u32 1) y2 fun y3=>AD .lss b8 y3 fun y4=>AK y4
 (AD .quo b8 (.int .u32 8) fun y8=>AI (.arr 8192 1) b2 y8 fun y9=>AB false 1 y9 h fun z0=>AD .rem b8 (.int .u32 8) fun z2=>AD .shl (.int .u8 1) z2 fun z3=>AD .andNot z0 z3 fun z4=>AI (.arr 8192 1) b2 y8 fun z5=>AJ 1 z5 z4 h fun h=>AD .sub b5 (.int .u16 1) fun z7=>AD .add b8 (.int .u32 1) fun y6=>r5 z7 y6 h)
 (SI Q r2 x0 x7 x8 x9 a1 a2 a3 a4 a6 a7 a8 a9 b0 b1 b2 b3 b4 b5 h)
def ABK (Q:Kt)(r2:R3)(x0 x7 x8 x9 a1 a2 a3 a4 a6 a7 a8 a9 b0 b1 b2 b3 b4 b5 b8:Value)(h:H):Prop:=Bx (fun r5 b5 b8 h=>X0 Q r2 r5 x0 x7 x8 x9 a1 a2 a3 a4 a6 a7 a8 a9 b0 b1 b2 b3 b4 b5 b8 h) b5 b8 h
def Lt (Q:Kt)(r2:R3)(x0 x7 x8 x9 a1 a2 a3 a4 a6 a7 a8 a9 b0 b1 b2 b3 b4 b5:Value)(h:H):Prop:=
 AD .eql b1 (.int .u32 0) fun w5=>AK w5
 (AD .add (.int .u32 1) a6 fun w7=>ABK Q r2 x0 x7 x8 x9 a1 a2 a3 a4 a6 a7 a8 a9 b0 b1 b2 b3 b4 b5 w7 h)
 (SI Q r2 x0 x7 x8 x9 a1 a2 a3 a4 a6 a7 a8 a9 b0 b1 b2 b3 b4 b5 h)
def ABa (Q:Kt)(r2:R3)(r6:R1)(x0 x7 x8 x9 a1 a2 a3 a4 a6 a7 a8 a9 b0 b1 b2 b3 b4 q4 q5:Value)(h:H):Prop:=
 AD .lss q5 q4 fun q6=>AK q6
 (AI (.arr 8192 1) b2 q5 fun q9=>AJ 1 q9 (.int .u8 255) h fun h=>AD .add q5 (.int .i64 1) fun t0=>r6 t0 h)
 (Lt Q r2 x0 x7 x8 x9 a1 a2 a3 a4 a6 a7 a8 a9 b0 b1 b2 b3 b4 (.int .u16 32768) h)
def AFL (Q:Kt)(r2:R3)(x0 x7 x8 x9 a1 a2 a3 a4 a6 a7 a8 a9 b0 b1 b2 b3 b4 q4 q5:Value)(h:H):Prop:=A1 (fun r6 q5 h=>ABa Q r2 r6 x0 x7 x8 x9 a1 a2 a3 a4 a6 a7 a8 a9 b0 b1 b2 b3 b4 q4 q5 h) q5 h
def WN (Q:Kt)(r2:R3)(r7:R2)(x0 x7 x8 x9 a1 a2 a3 a4 a6 a7 a8 a9 b0 b1 b2 b3 b4 b5 b7:Value)(h:H):Prop:=
 AD .mul b1 (.int .u32 32768) fun t8=>AD .sub a3 t8 fun t9=>AD .lss b7 t9 fun v0=>AK v0
 (AD .quo b7 (.int .u32 8) fun v4=>AI (.arr 8192 1) b2 v4 fun v5=>AB false 1 v5 h fun v6=>AD .rem b7 (.int .u32 8) fun v8=>AD .shl (.int .u8 1) v8 fun v9=>AD .or v6 v9 fun w0=>AI (.arr 8192 1) b2 v4 fun w1=>AJ 1 w1 w0 h fun h=>AD .add b5 (.int .u16 1) fun w3=>AD .add b7 (.int .u32 1) fun v2=>r7 w3 v2 h)
 (Lt Q r2 x0 x7 x8 x9 a1 a2 a3 a4 a6 a7 a8 a9 b0 b1 b2 b3 b4 b5 h)
def VY (Q:Kt)(r2:R3)(x0 x7 x8 x9 a1 a2 a3 a4 a6 a7 a8 a9 b0 b1 b2 b3 b4 b5 b7:Value)(h:H):Prop:=Bx (fun r7 b5 b7 h=>WN Q r2 r7 x0 x7 x8 x9 a1 a2 a3 a4 a6 a7 a8 a9 b0 b1 b2 b3 b4 b5 b7 h) b5 b7 h
def Pe (Q:Kt)(r2:R3)(x0 x7 x8 x9 a1 a2 a3 a4 a6 a7 a8 a9 b0 b1:Value)(h:H):Prop:=
 AD .lss b1 x8 fun p5=>AK p5
 (AQ (AG TP 222) 222 h fun b2 h=>AD .add b1 (.int .u32 1) fun p9=>AD .mul p9 (.int .u32 32768) fun q0=>AD .leq q0 a3 fun q2=>AK q2
 (AZ (.arr 8192 1) b2 none (some (.int .i64 4096)) fun q3=>Ab q3 fun q4=>AFL Q r2 x0 x7 x8 x9 a1 a2 a3 a4 a6 a7 a8 a9 b0 b1 b2 (.int .u16 0) (.int .u16 0) q4 (.int .i64 0) h)
 (AD .mul b1 (.int .u32 32768) fun t2=>AD .lss t2 a3 fun t4=>AK t4
 (VY Q r2 x0 x7 x8 x9 a1 a2 a3 a4 a6 a7 a8 a9 b0 b1 b2 (.int .u16 0) (.int .u16 0) (.int .u16 0) (.int .u32 0) h)
 (Lt Q r2 x0 x7 x8 x9 a1 a2 a3 a4 a6 a7 a8 a9 b0 b1 b2 (.int .u16 0) (.int .u16 0) (.int .u16 0) h)))
 (AD .sub a4 a1 fun x304=>AD .sub x304 a2 fun x306=>AV .i64 x306 fun x307=>AD .mul x307 (.int .i64 4096) fun x308=>Call TP 116 [x0,x308] h fun x309 h=>AO x309 0 fun x310=>AO x309 1 fun x311=>Bq .iface true true h x311 .nilIface fun x313=>AK x313
 (Q x311 h)
 (Call TP 101 [x0,(.int .u32 1)] h fun x316 h=>AE x0 fun x318=>AC 7 x318 fun x319=>AB false 1 x319 h fun x320=>Bq .iface true true h x320 .nilIface fun x321=>AK x321
 (AE x0 fun x323=>AC 7 x323 fun x324=>AB false 1 x324 h fun x325=>Q x325 h)
 (Ab a7 fun x327=>S5 Q x0 x8 x9 a4 a9 b0 a7 x327 (.int .i64 0) h)))
def VT (Q:Kt)(x0 x7 x8 x9 a1 a2 a3 a4 a6 a7 a8 a9 b0 b1:Value)(h:H):Prop:=K9 (fun r2 a9 b0 b1 h=>Pe Q r2 x0 x7 x8 x9 a1 a2 a3 a4 a6 a7 a8 a9 b0 b1 h) a9 b0 b1 h
def Po (Q:Kt)(x0 x7 x8 x9 a1 a2 a3 a4:Value)(h:H):Prop:=
 AD .sub x8 (.int .u32 1) fun m9=>AD .quo m9 (.int .u32 128) fun n0=>AD .add n0 (.int .u32 1) fun n1=>AE x0 fun n4=>AC 11 n4 fun n5=>AB false 1 n5 h fun n6=>AD .gtr n1 n6 fun n7=>AK n7
 (AE x0 fun n9=>AC 10 n9 fun o0=>AB false 1 o0 h fun o1=>Ae (.struct [(0,1)]) (AG TP 220) [(0,o1)] fun o2=>Q (.iface 220 o2) h)
 (AE x0 fun o5=>AC 11 o5 fun o6=>AB false 1 o6 h fun o7=>AD .mul o7 (.int .u32 128) fun o8=>AY (AG TP 226) 12 32 226 o8 o8 h fun o9 h=>AD .mul x9 (.int .u32 256) fun p1=>AD .quo p1 (.int .u32 4096) fun p2=>VT Q x0 x7 x8 x9 a1 a2 a3 a4 n1 o9 p2 (.int .u32 0) (.int .u32 0) (.int .u32 0) h)
def f63 (x0:Value)(h:H)(Q:Kt):Prop:=
 Call TP 91 [x0] h fun d2 h=>Bq .iface true true h d2 .nilIface fun d4=>AK d4
 (Q d2 h)
 (Call TP 109 [x0] h fun d7 h=>Call TP 112 [x0,d7,d7] h fun g1 h=>Bq .iface true true h g1 .nilIface fun g3=>AK g3
 (Q g1 h)
 (Call TP 91 [x0] h fun g6 h=>Bq .iface true true h g6 .nilIface fun g8=>AK g8
 (Q g6 h)
 (Call TP 100 [x0] h fun i1 h=>AE x0 fun i5=>AC 1 i5 fun i6=>AB false 1 i6 h fun i7=>Ab i7 fun i8=>AV .u32 i8 fun i9=>Call TP 113 [i1,i9] h fun j0 h=>AO j0 0 fun j1=>AO j0 1 fun j2=>AD .mul j1 j2 fun j6=>AD .mul j6 (.int .u32 256) fun j7=>Call TP 114 [x0,j7] h fun j8 h=>Bq .iface true true h j8 .nilIface fun k0=>AK k0
 (Q j8 h)
 (Call TP 100 [x0] h fun k3 h=>AD .mul j1 (.int .u32 2) fun k5=>AD .add k3 k5 fun k8=>AD .sub j1 (.int .u32 1) fun m1=>AD .mul m1 (.int .u32 32768) fun m2=>AD .add m2 (.int .u32 1) fun m3=>AD .lss k8 m3 fun m6=>AK m6
 (Po Q x0 i1 j1 j2 k3 k5 k8 m3 h)
 (Po Q x0 i1 j1 j2 k3 k5 k8 k8 h)))))
def AHV (Q:Kt)(r:RS):Nat→DJ:=tab [(2147483646,.jn fun e h=>OG Q (e 0) (e 14) (e 37) (e 38) h),
 (1073741813,.lp [0,8,9,14,19,20,326,327] [328] fun s e l h=>Mb Q (u1 s) (e 0) (e 8) (e 9) (e 14) (e 19) (e 20) (e 326) (e 327) (gl l 0) h),
 (35184360158362,.jn fun e h=>MI Q (u3 (r 16777210)) (u3 (r 68719453434)) (e 0) (e 7) (e 8) (e 9) (e 11) (e 12) (e 13) (e 14) (e 16) (e 17) (e 18) (e 19) (e 20) (e 21) (e 22) (e 23) (e 24) (e 25) (e 30) (e 32) (e 233) h),
 (137438906869,.lp [0,7,8,9,11,12,13,14,16,17,18,19,20,21,22,25] [23,24,30] fun s e l h=>OX Q (u3 (r 16777210)) (u3 s) (e 0) (e 7) (e 8) (e 9) (e 11) (e 12) (e 13) (e 14) (e 16) (e 17) (e 18) (e 19) (e 20) (e 21) (e 22) (e 25) (gl l 0) (gl l 1) (gl l 2) h),
 (274877813717,.lp [0,7,8,9,11,12,13,14,16,17,18,19,20,21,22,23,24] [25,29] fun s e l h=>Tn Q (u3 (r 16777210)) (u2 s) (e 0) (e 7) (e 8) (e 9) (e 11) (e 12) (e 13) (e 14) (e 16) (e 17) (e 18) (e 19) (e 20) (e 21) (e 22) (e 23) (e 24) (gl l 0) (gl l 1) h),
 (34359726714,.jn fun e h=>Td Q (u3 (r 16777210)) (e 0) (e 7) (e 8) (e 9) (e 11) (e 12) (e 13) (e 14) (e 16) (e 17) (e 18) (e 19) (e 20) (e 21) (e 22) (e 23) (e 24) (e 25) (e 196) h),
 (8589931678,.jn fun e h=>SI Q (u3 (r 16777210)) (e 0) (e 7) (e 8) (e 9) (e 11) (e 12) (e 13) (e 14) (e 16) (e 17) (e 18) (e 19) (e 20) (e 21) (e 22) (e 23) (e 24) (e 25) h),
 (137438906837,.lp [0,7,8,9,11,12,13,14,16,17,18,19,20,21,22,23,24] [25,28] fun s e l h=>X0 Q (u3 (r 16777210)) (u2 s) (e 0) (e 7) (e 8) (e 9) (e 11) (e 12) (e 13) (e 14) (e 16) (e 17) (e 18) (e 19) (e 20) (e 21) (e 22) (e 23) (e 24) (gl l 0) (gl l 1) h),
 (4294965838,.jn fun e h=>Lt Q (u3 (r 16777210)) (e 0) (e 7) (e 8) (e 9) (e 11) (e 12) (e 13) (e 14) (e 16) (e 17) (e 18) (e 19) (e 20) (e 21) (e 22) (e 23) (e 24) (e 25) h),
 (137438906789,.lp [0,7,8,9,11,12,13,14,16,17,18,19,20,21,22,23,24,134] [135] fun s e l h=>ABa Q (u3 (r 16777210)) (u1 s) (e 0) (e 7) (e 8) (e 9) (e 11) (e 12) (e 13) (e 14) (e 16) (e 17) (e 18) (e 19) (e 20) (e 21) (e 22) (e 23) (e 24) (e 134) (gl l 0) h),
 (274877813621,.lp [0,7,8,9,11,12,13,14,16,17,18,19,20,21,22,23,24] [25,27] fun s e l h=>WN Q (u3 (r 16777210)) (u2 s) (e 0) (e 7) (e 8) (e 9) (e 11) (e 12) (e 13) (e 14) (e 16) (e 17) (e 18) (e 19) (e 20) (e 21) (e 22) (e 23) (e 24) (gl l 0) (gl l 1) h),
 (33554421,.lp [0,7,8,9,11,12,13,14,16,17,18] [19,20,21] fun s e l h=>Pe Q (u3 s) (e 0) (e 7) (e 8) (e 9) (e 11) (e 12) (e 13) (e 14) (e 16) (e 17) (e 18) (gl l 0) (gl l 1) (gl l 2) h),
 (131070,.jn fun e h=>Po Q (e 0) (e 7) (e 8) (e 9) (e 11) (e 12) (e 13) (e 14) h)]
theorem ACT (x0:Value)(h:H)(Q:Kt)(x:f63 x0 h Q):Call TP 63 [x0] h Q:=Bb (AHV Q) Tryz.func63 (by kernel_rfl) x
def Rg (Q:Kt)(r1:R3)(x0 x1 x4 x5 x6:Value)(h:H):Prop:=
 AD .leq x6 (.int .u32 32768) fun x9=>AK x9
 (Call TP 168 [x0,x1,x6] h fun a5 h=>AD .lss a5 x4 fun a8=>AK a8
 (AD .add x6 (.int .u32 16) fun a1=>r1 a5 x6 a1 h)
 (AD .add x6 (.int .u32 16) fun a1=>r1 x4 x5 a1 h))
 (Q (.tuple #[x4,x5]) h)
def YG (Q:Kt)(x0 x1 x4 x5 x6:Value)(h:H):Prop:=K9 (fun r1 x4 x5 x6 h=>Rg Q r1 x0 x1 x4 x5 x6 h) x4 x5 x6 h
def ADl (x0 x1:Value)(h:H)(Q:Kt):Prop:=
 YG Q x0 x1 (.int .u32 4294967295) (.int .u32 0) (.int .u32 16) h
def AGg (Q:Kt)(r:RS):Nat→DJ:=tab [(117,.lp [0,1] [4,5,6] fun s e l h=>Rg Q (u3 s) (e 0) (e 1) (gl l 0) (gl l 1) (gl l 2) h)]
theorem Ya (x0 x1:Value)(h:H)(Q:Kt)(x:ADl x0 x1 h Q):Call TP 113 [x0,x1] h Q:=Bb (AGg Q) Tryz.func113 (by kernel_rfl) x
def ADC (x0 x1 x2:Value)(h:H)(Q:Kt):Prop:=
 AD .mul x2 (.int .u32 256) fun a1=>AD .quo a1 (.int .u32 4096) fun a2=>AD .sub (.int .u32 32768) a2 fun a4=>AD .sub a4 (.int .u32 2) fun a5=>AD .sub x1 (.int .u32 1) fun a7=>AD .quo a7 x2 fun a9=>AD .mul a9 a5 fun b1=>AD .add b1 (.int .u32 1) fun b2=>AD .lss x0 b2 fun b5=>AK b5
 (AD .add b2 a5 fun b9=>AD .sub b9 (.int .u32 1) fun c0=>AD .quo c0 a5 fun c2=>Q c2 h)
 (AD .add x0 a5 fun b9=>AD .sub b9 (.int .u32 1) fun c0=>AD .quo c0 a5 fun c2=>Q c2 h)
theorem AAR (x0 x1 x2:Value)(h:H)(Q:Kt)(x:ADC x0 x1 x2 h Q):Call TP 168 [x0,x1,x2] h Q:=Bb nT Tryz.func168 (by kernel_rfl) x
def Cz (Q:Kt)(r1:R1)(x0 x1 x7 b0 b1 b2:Value)(h:H):Prop:=
 Call TP 98 [x0,x7] h fun x214 h=>AO x214 0 fun x215=>AO x214 1 fun x216=>Bq .iface true true h x216 .nilIface fun x218=>AK x218
 (Q x216 h)
 (AD .add b2 (.int .i64 1) fun x220=>r1 x220 h)
def HX (Q:Kt)(r1:R1)(x0 x1 x6 x8 b0 b1 b2 w8:Value)(h:H):Prop:=
 AK w8
 (AE x6 fun y2=>AC 13 y2 fun y3=>AB false 1 y3 h fun y4=>AD .and y4 (.int .u32 255) fun y5=>AE x6 fun y7=>AC 12 y7 fun y8=>AB false 1 y8 h fun y9=>AD .shl y9 (.int .u64 8) fun z0=>AD .or y5 z0 fun z1=>AE x6 fun z3=>AC 13 z3 fun z4=>AB false 1 z4 h fun z5=>AD .and z5 (.int .u32 4294967040) fun z6=>AD .shl z6 (.int .u64 12) fun z7=>AD .or z1 z7 fun z8=>AC 12 x8 fun z9=>AZ (.arr 60 1) z9 (some (.int .i64 4)) none fun x190=>Call TP 170 [x190,z8] h fun x192 h=>AB true 91 x8 h fun x193=>Call TP 171 [x193] h fun x194 h=>AZ (.slice 1) x194 none (some (.int .i64 152)) fun x195=>AE x6 fun x198=>AC 16 x198 fun x199=>AB false 1 x199 h fun x200=>AM 5 (AG TP 5) 1 1 x195 x200 h fun x201 h=>AE x6 fun x204=>AC 16 x204 fun x205=>AB false 1 x205 h fun x206=>Ab x206 fun x207=>AD .sub (.int .i64 104) x207 fun x208=>CI 5 (AG TP 5) 1 1 x201 x208 h fun x209 h=>Cz Q r1 x0 x1 x209 b0 b1 b2 h)
 (AB true 91 x8 h fun x193=>Call TP 171 [x193] h fun x194 h=>AZ (.slice 1) x194 none (some (.int .i64 152)) fun x195=>AE x6 fun x198=>AC 16 x198 fun x199=>AB false 1 x199 h fun x200=>AM 5 (AG TP 5) 1 1 x195 x200 h fun x201 h=>AE x6 fun x204=>AC 16 x204 fun x205=>AB false 1 x205 h fun x206=>Ab x206 fun x207=>AD .sub (.int .i64 104) x207 fun x208=>CI 5 (AG TP 5) 1 1 x201 x208 h fun x209 h=>Cz Q r1 x0 x1 x209 b0 b1 b2 h)
def GP (Q:Kt)(r1:R1)(x0 x1 x6 x8 b0 b1 b2 q4 q5:Value)(h:H):Prop:=
 AK q5
 (AC 12 x8 fun q9=>AZ (.arr 60 1) q9 none none fun t0=>AE x6 fun t2=>AC 15 t2 fun t3=>AB false 1 t3 h fun t4=>DI 1 t0 t4 h fun t5 h=>AE x6 fun t8=>AC 15 t8 fun t9=>AB false 1 t9 h fun v0=>Ab v0 fun v1=>AD .lss t5 v1 fun v2=>AK v2
 (AE x6 fun v4=>AC 15 v4 fun v5=>AB false 1 v5 h fun v6=>AZ (.slice 1) v6 (some t5) none fun v8=>Ae (.struct [(0,1),(1,1),(2,1)]) (AG TP 291) [(0,(.string ⟨#[100,97,116,97]⟩)),(1,(.int .u8 7)),(2,v8)] fun v9=>Ae (.arr 3) (AG TP 306) [(0,v9)] fun w0=>AQ (AG TP 306) 306 h fun a0 h=>AJ 3 a0 w0 h fun h=>AZ (.arr 1 3) a0 none none fun w1=>AE x6 fun w3=>AC 16 w3 fun w4=>AB false 1 w4 h fun w5=>AZ (.slice 1) w5 (some (.int .i64 4)) none fun w6=>Call TP 169 [w1,w6,(.int .u16 0)] h fun w7 h=>AB true 91 x8 h fun x193=>Call TP 171 [x193] h fun x194 h=>AZ (.slice 1) x194 none (some (.int .i64 152)) fun x195=>AE x6 fun x198=>AC 16 x198 fun x199=>AB false 1 x199 h fun x200=>AM 5 (AG TP 5) 1 1 x195 x200 h fun x201 h=>AE x6 fun x204=>AC 16 x204 fun x205=>AB false 1 x205 h fun x206=>Ab x206 fun x207=>AD .sub (.int .i64 104) x207 fun x208=>CI 5 (AG TP 5) 1 1 x201 x208 h fun x209 h=>Cz Q r1 x0 x1 x209 b0 b1 b2 h)
 (AB true 91 x8 h fun x193=>Call TP 171 [x193] h fun x194 h=>AZ (.slice 1) x194 none (some (.int .i64 152)) fun x195=>AE x6 fun x198=>AC 16 x198 fun x199=>AB false 1 x199 h fun x200=>AM 5 (AG TP 5) 1 1 x195 x200 h fun x201 h=>AE x6 fun x204=>AC 16 x204 fun x205=>AB false 1 x205 h fun x206=>Ab x206 fun x207=>AD .sub (.int .i64 104) x207 fun x208=>CI 5 (AG TP 5) 1 1 x201 x208 h fun x209 h=>Cz Q r1 x0 x1 x209 b0 b1 b2 h))
 (AD .eql q4 (.int .u16 24576) fun w9=>AK w9
 (HX Q r1 x0 x1 x6 x8 b0 b1 b2 (.bool true) h)
 (AD .eql q4 (.int .u16 8192) fun y0=>HX Q r1 x0 x1 x6 x8 b0 b1 b2 y0 h))
def HT (Q:Kt)(r1:R1)(x0 x1 b0 b1 b2:Value)(h:H):Prop:=
 AD .lss b2 b1 fun b3=>AK b3
 (AI (.slice 1) b0 b2 fun b4=>AB false 1 b4 h fun b5=>Bq .ptr true true h b5 (.pointer none) fun b7=>AK b7
 (AE b5 fun b9=>AC 6 b9 fun c0=>AB false 1 c0 h fun c1=>AE b5 fun c3=>AC 7 c3 fun c4=>AB false 1 c4 h fun c5=>AD .and c5 (.int .u32 65535) fun c6=>AV .u16 c6 fun c7=>AE b5 fun c9=>AC 8 c9 fun d0=>AB false 1 d0 h fun d1=>AD .and d1 (.int .u32 65535) fun d2=>AV .u16 d2 fun d3=>AE b5 fun d5=>AC 0 d5 fun d6=>AB false 1 d6 h fun d7=>AD .and d7 (.int .i64 4294967295) fun d8=>AV .u32 d8 fun d9=>AE b5 fun g1=>AC 0 g1 fun g2=>AB false 1 g2 h fun g3=>AD .shr g3 (.int .u64 32) fun g4=>AV .u32 g4 fun g5=>AE b5 fun g7=>AC 9 g7 fun g8=>AB false 1 g8 h fun g9=>AV .u16 g9 fun i0=>AE b5 fun i2=>AC 11 i2 fun i3=>AB false 1 i3 h fun i4=>AE b5 fun i6=>AC 14 i6 fun i7=>AB false 1 i7 h fun i8=>AE b5 fun j0=>AC 10 j0 fun j1=>AB false 1 j1 h fun j2=>AE b5 fun j4=>AC 7 j4 fun j5=>AB false 1 j5 h fun j6=>AD .shr j6 (.int .u64 16) fun j7=>AV .u16 j7 fun j8=>AE b5 fun k0=>AC 8 k0 fun k1=>AB false 1 k1 h fun k2=>AD .shr k2 (.int .u64 16) fun k3=>AV .u16 k3 fun k4=>AE b5 fun k6=>AC 1 k6 fun k7=>AB false 1 k7 h fun k8=>AV .u32 k8 fun k9=>AE b5 fun m1=>AC 1 m1 fun m2=>AB false 1 m2 h fun m3=>AD .shr m3 (.int .u64 32) fun m4=>AV .u32 m4 fun m5=>AE b5 fun m7=>AC 2 m7 fun m8=>AB false 1 m8 h fun m9=>AV .u32 m9 fun n0=>AE b5 fun n2=>AC 2 n2 fun n3=>AB false 1 n3 h fun n4=>AD .shr n4 (.int .u64 32) fun n5=>AV .u32 n5 fun n6=>AE b5 fun n8=>AC 3 n8 fun n9=>AB false 1 n9 h fun o0=>AV .u32 o0 fun o1=>AE b5 fun o3=>AC 3 o3 fun o4=>AB false 1 o4 h fun o5=>AD .shr o5 (.int .u64 32) fun o6=>AV .u32 o6 fun o7=>AE b5 fun o9=>AC 4 o9 fun p0=>AB false 1 p0 h fun p1=>AV .u32 p1 fun p2=>AE b5 fun p4=>AC 4 p4 fun p5=>AB false 1 p5 h fun p6=>AD .shr p6 (.int .u64 32) fun p7=>AV .u32 p7 fun p8=>Ae (.struct [(0,1),(1,1),(2,1),(3,1),(4,1),(5,1),(6,1),(7,1),(8,1),(9,1),(10,1),(11,1),(12,60),(72,1),(73,1),(74,1),(75,1),(76,1),(77,1),(78,1),(79,1),(80,1),(81,1),(82,1),(83,1),(84,1),(85,1),(86,1),(87,1),(88,1),(89,1),(90,1)]) (AG TP 305) [(0,c1),(1,c7),(7,d3),(2,d9),(15,g5),(8,i0),(9,i4),(10,i8),(14,j2),(19,j8),(20,k4),(23,(.int .u16 24)),(3,k9),(27,m5),(4,n0),(25,n6),(5,o1),(26,o7),(28,p2),(29,p8)] fun p9=>AQ (AG TP 305) 305 h fun x8 h=>((AB false 1 c0 h fun v=>v=c1)∧(AB false 1 c4 h fun v=>v=c5)∧(AB false 1 d0 h fun v=>v=d1)∧(AB false 1 d6 h fun v=>v=d7)∧(AB false 1 g2 h fun v=>v=g3)∧(AB false 1 g8 h fun v=>v=g9)∧(AB false 1 i3 h fun v=>v=i4)∧(AB false 1 i7 h fun v=>v=i8)∧(AB false 1 j1 h fun v=>v=j2)∧(AB false 1 j5 h fun v=>v=j6)∧(AB false 1 k1 h fun v=>v=k2)∧(AB false 1 k7 h fun v=>v=k8)∧(AB false 1 m2 h fun v=>v=m3)∧(AB false 1 m8 h fun v=>v=m9)∧(AB false 1 n3 h fun v=>v=n4)∧(AB false 1 n9 h fun v=>v=o0)∧(AB false 1 o4 h fun v=>v=o5)∧(AB false 1 p0 h fun v=>v=p1)∧(AB false 1 p5 h fun v=>v=p6)∧AJ 91 x8 p9 h fun h=>AE b5 fun q1=>AC 6 q1 fun q2=>AB false 1 q2 h fun q3=>AD .and q3 (.int .u16 61440) fun q4=>AD .eql q4 (.int .u16 16384) fun q6=>AK q6
 (GP Q r1 x0 x1 b5 x8 b0 b1 b2 q4 (.bool true) h)
 (AD .eql q4 (.int .u16 32768) fun q7=>AK q7
 (GP Q r1 x0 x1 b5 x8 b0 b1 b2 q4 (.bool true) h)
 (AD .eql q4 (.int .u16 40960) fun q8=>GP Q r1 x0 x1 b5 x8 b0 b1 b2 q4 q8 h))))
 (AY (AG TP 5) 1 1 5 (.int .i64 256) (.int .i64 256) h fun x210 h=>Cz Q r1 x0 x1 x210 b0 b1 b2 h))
 (AE x0 fun x223=>AC 1 x223 fun x224=>AB false 1 x224 h fun x225=>Ab x225 fun x226=>AD .mul x226 (.int .i64 256) fun x227=>AV .u32 x227 fun x228=>AD .sub x1 x228 fun x229=>AV .i64 x229 fun x233=>Call TP 116 [x0,x233] h fun x234 h=>AO x234 0 fun x235=>AO x234 1 fun x236=>Bq .iface true true h x236 .nilIface fun x238=>AK x238
 (Q x236 h)
 (Q .nilIface h))
def XI (Q:Kt)(x0 x1 b0 b1 b2:Value)(h:H):Prop:=A1 (fun r1 b2 h=>HT Q r1 x0 x1 b0 b1 b2 h) b2 h
def ACw (x0 x1:Value)(h:H)(Q:Kt):Prop:=
 AE x0 fun a8=>AC 1 a8 fun a9=>AB false 1 a9 h fun b0=>Ab b0 fun b1=>XI Q x0 x1 b0 b1 (.int .i64 0) h
def AFe (Q:Kt)(r:RS):Nat→DJ:=tab [(13518,.jn fun e h=>Cz Q (u1 (r 26)) (e 0) (e 1) (e 7) (e 20) (e 21) (e 22) h),
 (6920878,.jn fun e h=>HX Q (u1 (r 26)) (e 0) (e 1) (e 6) (e 8) (e 20) (e 21) (e 22) (e 168) h),
 (1730218,.jn fun e h=>GP Q (u1 (r 26)) (e 0) (e 1) (e 6) (e 8) (e 20) (e 21) (e 22) (e 134) (e 135) h),
 (53,.lp [0,1,20,21] [22] fun s e l h=>HT Q (u1 s) (e 0) (e 1) (e 20) (e 21) (gl l 0) h)]
theorem AAI (x0 x1:Value)(h:H)(Q:Kt)(x:ACw x0 x1 h Q):Call TP 114 [x0,x1] h Q:=Bb (AFe Q) Tryz.func114 (by kernel_rfl) x
def AEA (x0:Value)(h:H)(Q:Kt):Prop:=
 BB 226 (x0:Value).cells h fun x1 h=>AC 0 x1 fun x5=>AB false 1 x5 h fun x6=>Call TP 172 [(.slice none 0 0),x6] h fun x7 h=>AC 1 x1 fun x9=>AB false 1 x9 h fun a0=>Call TP 172 [x7,a0] h fun a1 h=>AC 2 x1 fun a3=>AB false 1 a3 h fun a4=>Call TP 172 [a1,a4] h fun a5 h=>AC 3 x1 fun a7=>AB false 1 a7 h fun a8=>Call TP 173 [a5,a8] h fun a9 h=>AC 4 x1 fun b1=>AB false 1 b1 h fun b2=>Call TP 173 [a9,b2] h fun b3 h=>AC 5 x1 fun b5=>AB false 1 b5 h fun b6=>Call TP 173 [b3,b6] h fun b7 h=>AC 6 x1 fun b9=>AB false 1 b9 h fun c0=>Call TP 173 [b7,c0] h fun c1 h=>AC 7 x1 fun c3=>AB false 1 c3 h fun c4=>Call TP 172 [c1,c4] h fun c5 h=>AC 8 x1 fun c7=>AB false 1 c7 h fun c8=>Call TP 173 [c5,c8] h fun c9 h=>AC 9 x1 fun d1=>AB false 1 d1 h fun d2=>Call TP 173 [c9,d2] h fun d3 h=>AC 10 x1 fun d5=>AB false 1 d5 h fun d6=>Call TP 173 [d3,d6] h fun d7 h=>AC 11 x1 fun d9=>AB false 1 d9 h fun g0=>Call TP 173 [d7,g0] h fun g1 h=>Q g1 h
theorem AAA (x0:Value)(h:H)(Q:Kt)(x:AEA x0 h Q):Call TP 118 [x0] h Q:=Bb nT Tryz.func118 (by kernel_rfl) x
def SA (Q:Kt)(r1:R2)(x1 x424 x3 x425:Value)(h:H):Prop:=
 AD .lss x425 (.int .i64 96) fun x426=>AK x426
 (Ch false 96 1 x424 x425 fun x427=>Call TP 172 [x3,x427] h fun x430 h=>AD .add x425 (.int .i64 1) fun x431=>r1 x430 x431 h)
 (AC 464 x1 fun x433=>AB false 1 x433 h fun x434=>Call TP 172 [x3,x434] h fun x435 h=>Q x435 h)
def QZ (Q:Kt)(x1 x424 x3 x425:Value)(h:H):Prop:=Bx (fun r1 x3 x425 h=>SA Q r1 x1 x424 x3 x425 h) x3 x425 h
def Q4 (Q:Kt)(r2:R2)(x1 x361 x3 x362:Value)(h:H):Prop:=
 AD .lss x362 (.int .i64 2) fun x363=>AK x363
 (Ch false 2 1 x361 x362 fun x364=>Call TP 172 [x3,x364] h fun x367 h=>AD .add x362 (.int .i64 1) fun x368=>r2 x367 x368 h)
 (AC 337 x1 fun x370=>AZ (.arr 4 1) x370 none none fun x371=>AM 5 (AG TP 5) 1 1 x3 x371 h fun x372 h=>AC 341 x1 fun x374=>AZ (.arr 16 1) x374 none none fun x375=>AM 5 (AG TP 5) 1 1 x372 x375 h fun x376 h=>AC 357 x1 fun x378=>AB false 1 x378 h fun x379=>Call TP 172 [x376,x379] h fun x380 h=>AC 358 x1 fun x382=>AB false 1 x382 h fun x383=>Call TP 172 [x380,x383] h fun x384 h=>AC 359 x1 fun x386=>AB false 1 x386 h fun x387=>Call TP 172 [x384,x387] h fun x388 h=>AC 360 x1 fun x390=>AB false 1 x390 h fun x391=>AH (.arr 1) 5 (AG TP 5) 1 1 [(0,x391)] h fun x392 h=>AM 5 (AG TP 5) 1 1 x388 x392 h fun x393 h=>AC 361 x1 fun x395=>AB false 1 x395 h fun x396=>AH (.arr 1) 5 (AG TP 5) 1 1 [(0,x396)] h fun x397 h=>AM 5 (AG TP 5) 1 1 x393 x397 h fun x398 h=>AC 362 x1 fun x400=>AB false 1 x400 h fun x401=>AH (.arr 1) 5 (AG TP 5) 1 1 [(0,x401)] h fun x402 h=>AM 5 (AG TP 5) 1 1 x398 x402 h fun x403 h=>AC 363 x1 fun x405=>AB false 1 x405 h fun x406=>AH (.arr 1) 5 (AG TP 5) 1 1 [(0,x406)] h fun x407 h=>AM 5 (AG TP 5) 1 1 x403 x407 h fun x408 h=>AC 364 x1 fun x410=>AB false 1 x410 h fun x411=>AH (.arr 1) 5 (AG TP 5) 1 1 [(0,x411)] h fun x412 h=>AM 5 (AG TP 5) 1 1 x408 x412 h fun x413 h=>AC 365 x1 fun x415=>AB false 1 x415 h fun x416=>AH (.arr 1) 5 (AG TP 5) 1 1 [(0,x416)] h fun x417 h=>AM 5 (AG TP 5) 1 1 x413 x417 h fun x418 h=>AC 366 x1 fun x420=>AZ (.arr 2 1) x420 none none fun x421=>AM 5 (AG TP 5) 1 1 x418 x421 h fun x422 h=>AC 368 x1 fun x423=>AB true 96 x423 h fun x424=>QZ Q x1 x424 x422 (.int .i64 0) h)
def Ql (Q:Kt)(x1 x361 x3 x362:Value)(h:H):Prop:=Bx (fun r2 x3 x362 h=>Q4 Q r2 x1 x361 x3 x362 h) x3 x362 h
def Qn (Q:Kt)(r3:R2)(x1 x218 x3 x219:Value)(h:H):Prop:=
 AD .lss x219 (.int .i64 17) fun x220=>AK x220
 (Ch false 17 1 x218 x219 fun x221=>Call TP 172 [x3,x221] h fun x224 h=>AD .add x219 (.int .i64 1) fun x225=>r3 x224 x225 h)
 (AC 177 x1 fun x227=>AB false 1 x227 h fun x228=>Call TP 172 [x3,x228] h fun x229 h=>AC 178 x1 fun x231=>AB false 1 x231 h fun x232=>Call TP 172 [x229,x232] h fun x233 h=>AC 179 x1 fun x235=>AB false 1 x235 h fun x236=>Call TP 172 [x233,x236] h fun x237 h=>AC 180 x1 fun x239=>AB false 1 x239 h fun x240=>Call TP 173 [x237,x240] h fun x241 h=>AC 181 x1 fun x243=>AB false 1 x243 h fun x244=>Call TP 173 [x241,x244] h fun x245 h=>AC 182 x1 fun x247=>AB false 1 x247 h fun x248=>Call TP 172 [x245,x248] h fun x249 h=>AC 183 x1 fun x251=>AB false 1 x251 h fun x252=>Call TP 173 [x249,x252] h fun x253 h=>AC 184 x1 fun x255=>AB false 1 x255 h fun x256=>Call TP 173 [x253,x256] h fun x257 h=>AC 185 x1 fun x259=>AB false 1 x259 h fun x260=>Call TP 174 [x257,x260] h fun x261 h=>AC 186 x1 fun x263=>AB false 1 x263 h fun x264=>Call TP 172 [x261,x264] h fun x265 h=>AC 187 x1 fun x267=>AB false 1 x267 h fun x268=>AH (.arr 1) 5 (AG TP 5) 1 1 [(0,x268)] h fun x269 h=>AM 5 (AG TP 5) 1 1 x265 x269 h fun x270 h=>AC 188 x1 fun x272=>AB false 1 x272 h fun x273=>AH (.arr 1) 5 (AG TP 5) 1 1 [(0,x273)] h fun x274 h=>AM 5 (AG TP 5) 1 1 x270 x274 h fun x275 h=>AC 189 x1 fun x277=>AB false 1 x277 h fun x278=>Call TP 173 [x275,x278] h fun x279 h=>AC 190 x1 fun x281=>AB false 1 x281 h fun x282=>Call TP 174 [x279,x282] h fun x283 h=>AC 191 x1 fun x285=>AB false 1 x285 h fun x286=>Call TP 172 [x283,x286] h fun x287 h=>AC 192 x1 fun x289=>AB false 1 x289 h fun x290=>Call TP 172 [x287,x290] h fun x291 h=>AC 193 x1 fun x293=>AB false 1 x293 h fun x294=>Call TP 174 [x291,x294] h fun x295 h=>AC 194 x1 fun x297=>AB false 1 x297 h fun x298=>Call TP 172 [x295,x298] h fun x299 h=>AC 195 x1 fun x301=>AB false 1 x301 h fun x302=>Call TP 172 [x299,x302] h fun x303 h=>AC 196 x1 fun x305=>AB false 1 x305 h fun x306=>Call TP 172 [x303,x306] h fun x307 h=>AC 197 x1 fun x309=>AB false 1 x309 h fun x310=>Call TP 172 [x307,x310] h fun x311 h=>AC 198 x1 fun x313=>AB false 1 x313 h fun x314=>Call TP 174 [x311,x314] h fun x315 h=>AC 199 x1 fun x317=>AZ (.arr 32 1) x317 none none fun x318=>AM 5 (AG TP 5) 1 1 x315 x318 h fun x319 h=>AC 231 x1 fun x321=>AB false 1 x321 h fun x322=>Call TP 172 [x319,x322] h fun x323 h=>AC 232 x1 fun x325=>AB false 1 x325 h fun x326=>Call TP 172 [x323,x326] h fun x327 h=>AC 233 x1 fun x329=>AB false 1 x329 h fun x330=>Call TP 172 [x327,x330] h fun x331 h=>AC 234 x1 fun x333=>AB false 1 x333 h fun x334=>Call TP 172 [x331,x334] h fun x335 h=>AC 235 x1 fun x337=>AB false 1 x337 h fun x338=>Call TP 174 [x335,x338] h fun x339 h=>AC 236 x1 fun x341=>AZ (.arr 32 1) x341 none none fun x342=>AM 5 (AG TP 5) 1 1 x339 x342 h fun x343 h=>AC 268 x1 fun x345=>AZ (.arr 64 1) x345 none none fun x346=>AM 5 (AG TP 5) 1 1 x343 x346 h fun x347 h=>AC 332 x1 fun x349=>AB false 1 x349 h fun x350=>Call TP 172 [x347,x350] h fun x351 h=>AC 333 x1 fun x353=>AB false 1 x353 h fun x354=>Call TP 172 [x351,x354] h fun x355 h=>AC 334 x1 fun x357=>AB false 1 x357 h fun x358=>Call TP 172 [x355,x358] h fun x359 h=>AC 335 x1 fun x360=>AB true 2 x360 h fun x361=>Ql Q x1 x361 x359 (.int .i64 0) h)
def Rj (Q:Kt)(x1 x218 x3 x219:Value)(h:H):Prop:=Bx (fun r3 x3 x219 h=>Qn Q r3 x1 x218 x3 x219 h) x3 x219 h
def QB (Q:Kt)(r4:R2)(x1 z3 x3 z4:Value)(h:H):Prop:=
 AD .lss z4 (.int .i64 4) fun z5=>AK z5
 (Ch false 4 1 z3 z4 fun z6=>Call TP 172 [x3,z6] h fun z9 h=>AD .add z4 (.int .i64 1) fun x190=>r4 z9 x190 h)
 (AC 154 x1 fun x192=>AB false 1 x192 h fun x193=>AH (.arr 1) 5 (AG TP 5) 1 1 [(0,x193)] h fun x194 h=>AM 5 (AG TP 5) 1 1 x3 x194 h fun x195 h=>AC 155 x1 fun x197=>AB false 1 x197 h fun x198=>AH (.arr 1) 5 (AG TP 5) 1 1 [(0,x198)] h fun x199 h=>AM 5 (AG TP 5) 1 1 x195 x199 h fun x200 h=>AC 156 x1 fun x202=>AB false 1 x202 h fun x203=>Call TP 173 [x200,x203] h fun x204 h=>AC 157 x1 fun x206=>AB false 1 x206 h fun x207=>Call TP 172 [x204,x207] h fun x208 h=>AC 158 x1 fun x210=>AB false 1 x210 h fun x211=>Call TP 172 [x208,x211] h fun x212 h=>AC 159 x1 fun x214=>AB false 1 x214 h fun x215=>Call TP 172 [x212,x215] h fun x216 h=>AC 160 x1 fun x217=>AB true 17 x217 h fun x218=>Rj Q x1 x218 x216 (.int .i64 0) h)
def QH (Q:Kt)(x1 z3 x3 z4:Value)(h:H):Prop:=Bx (fun r4 x3 z4 h=>QB Q r4 x1 z3 x3 z4 h) x3 z4 h
def ADJ (x0:Value)(h:H)(Q:Kt):Prop:=
 BB 242 (x0:Value).cells h fun x1 h=>AC 0 x1 fun a3=>AB false 1 a3 h fun a4=>Call TP 172 [(.slice none 0 0),a4] h fun a5 h=>AC 1 x1 fun a7=>AB false 1 a7 h fun a8=>Call TP 172 [a5,a8] h fun a9 h=>AC 2 x1 fun b1=>AB false 1 b1 h fun b2=>Call TP 172 [a9,b2] h fun b3 h=>AC 3 x1 fun b5=>AB false 1 b5 h fun b6=>Call TP 172 [b3,b6] h fun b7 h=>AC 4 x1 fun b9=>AB false 1 b9 h fun c0=>Call TP 172 [b7,c0] h fun c1 h=>AC 5 x1 fun c3=>AB false 1 c3 h fun c4=>Call TP 172 [c1,c4] h fun c5 h=>AC 6 x1 fun c7=>AB false 1 c7 h fun c8=>Call TP 172 [c5,c8] h fun c9 h=>AC 7 x1 fun d1=>AB false 1 d1 h fun d2=>Call TP 172 [c9,d2] h fun d3 h=>AC 8 x1 fun d5=>AB false 1 d5 h fun d6=>Call TP 172 [d3,d6] h fun d7 h=>AC 9 x1 fun d9=>AB false 1 d9 h fun g0=>Call TP 172 [d7,g0] h fun g1 h=>AC 10 x1 fun g3=>AB false 1 g3 h fun g4=>Call TP 172 [g1,g4] h fun g5 h=>AC 11 x1 fun g7=>AB false 1 g7 h fun g8=>Call TP 172 [g5,g8] h fun g9 h=>AC 12 x1 fun i1=>AB false 1 i1 h fun i2=>Call TP 172 [g9,i2] h fun i3 h=>AC 13 x1 fun i5=>AB false 1 i5 h fun i6=>Call TP 173 [i3,i6] h fun i7 h=>AC 14 x1 fun i9=>AB false 1 i9 h fun j0=>Call TP 173 [i7,j0] h fun j1 h=>AC 15 x1 fun j3=>AB false 1 j3 h fun j4=>Call TP 173 [j1,j4] h fun j5 h=>AC 16 x1 fun j7=>AB false 1 j7 h fun j8=>Call TP 173 [j5,j8] h fun j9 h=>AC 17 x1 fun k1=>AB false 1 k1 h fun k2=>Call TP 173 [j9,k2] h fun k3 h=>AC 18 x1 fun k5=>AB false 1 k5 h fun k6=>Call TP 173 [k3,k6] h fun k7 h=>AC 19 x1 fun k9=>AB false 1 k9 h fun m0=>Call TP 172 [k7,m0] h fun m1 h=>AC 20 x1 fun m3=>AB false 1 m3 h fun m4=>Call TP 172 [m1,m4] h fun m5 h=>AC 21 x1 fun m7=>AB false 1 m7 h fun m8=>Call TP 172 [m5,m8] h fun m9 h=>AC 22 x1 fun n1=>AB false 1 n1 h fun n2=>Call TP 172 [m9,n2] h fun n3 h=>AC 23 x1 fun n5=>AB false 1 n5 h fun n6=>Call TP 173 [n3,n6] h fun n7 h=>AC 24 x1 fun n9=>AB false 1 n9 h fun o0=>Call TP 173 [n7,o0] h fun o1 h=>AC 25 x1 fun o3=>AB false 1 o3 h fun o4=>Call TP 172 [o1,o4] h fun o5 h=>AC 26 x1 fun o7=>AB false 1 o7 h fun o8=>Call TP 173 [o5,o8] h fun o9 h=>AC 27 x1 fun p1=>AB false 1 p1 h fun p2=>Call TP 173 [o9,p2] h fun p3 h=>AC 28 x1 fun p5=>AB false 1 p5 h fun p6=>Call TP 172 [p3,p6] h fun p7 h=>AC 29 x1 fun p9=>AB false 1 p9 h fun q0=>Call TP 172 [p7,q0] h fun q1 h=>AC 30 x1 fun q3=>AB false 1 q3 h fun q4=>Call TP 172 [q1,q4] h fun q5 h=>AC 31 x1 fun q7=>AZ (.arr 16 1) q7 none none fun q8=>AM 5 (AG TP 5) 1 1 q5 q8 h fun q9 h=>AC 47 x1 fun t1=>AZ (.arr 16 1) t1 none none fun t2=>AM 5 (AG TP 5) 1 1 q9 t2 h fun t3 h=>AC 63 x1 fun t5=>AZ (.arr 64 1) t5 none none fun t6=>AM 5 (AG TP 5) 1 1 t3 t6 h fun t7 h=>AC 127 x1 fun t9=>AB false 1 t9 h fun v0=>Call TP 172 [t7,v0] h fun v1 h=>AC 128 x1 fun v3=>AB false 1 v3 h fun v4=>AH (.arr 1) 5 (AG TP 5) 1 1 [(0,v4)] h fun v5 h=>AM 5 (AG TP 5) 1 1 v1 v5 h fun v6 h=>AC 129 x1 fun v8=>AB false 1 v8 h fun v9=>AH (.arr 1) 5 (AG TP 5) 1 1 [(0,v9)] h fun w0 h=>AM 5 (AG TP 5) 1 1 v6 w0 h fun w1 h=>AC 130 x1 fun w3=>AB false 1 w3 h fun w4=>Call TP 173 [w1,w4] h fun w5 h=>AC 131 x1 fun w7=>AZ (.arr 16 1) w7 none none fun w8=>AM 5 (AG TP 5) 1 1 w5 w8 h fun w9 h=>AC 147 x1 fun y1=>AB false 1 y1 h fun y2=>Call TP 172 [w9,y2] h fun y3 h=>AC 148 x1 fun y5=>AB false 1 y5 h fun y6=>Call TP 172 [y3,y6] h fun y7 h=>AC 149 x1 fun y9=>AB false 1 y9 h fun z0=>Call TP 172 [y7,z0] h fun z1 h=>AC 150 x1 fun z2=>AB true 4 z2 h fun z3=>QH Q x1 z3 z1 (.int .i64 0) h
def AEo (Q:Kt)(r:RS):Nat→DJ:=tab [(10141204801825835211973625642997,.lp [1,424] [3,425] fun s e l h=>SA Q (u2 s) (e 1) (e 424) (gl l 0) (gl l 1) h),
 (1237940039285380274899124213,.lp [1,361] [3,362] fun s e l h=>Q4 Q (u2 s) (e 1) (e 361) (gl l 0) (gl l 1) h),
 (72057594037927925,.lp [1,218] [3,219] fun s e l h=>Qn Q (u2 s) (e 1) (e 218) (gl l 0) (gl l 1) h),
 (562949953421301,.lp [1,183] [3,184] fun s e l h=>QB Q (u2 s) (e 1) (e 183) (gl l 0) (gl l 1) h)]
theorem AAo (x0:Value)(h:H)(Q:Kt)(x:ADJ x0 h Q):Call TP 119 [x0] h Q:=Bb (AEo Q) Tryz.func119 (by kernel_rfl) x
def ADp (x0:Value)(h:H)(Q:Kt):Prop:=
 BB 305 (x0:Value).cells h fun x1 h=>AC 0 x1 fun x5=>AB false 1 x5 h fun x6=>Call TP 173 [(.slice none 0 0),x6] h fun x7 h=>AC 1 x1 fun x9=>AB false 1 x9 h fun a0=>Call TP 173 [x7,a0] h fun a1 h=>AC 2 x1 fun a3=>AB false 1 a3 h fun a4=>Call TP 172 [a1,a4] h fun a5 h=>AC 3 x1 fun a7=>AB false 1 a7 h fun a8=>Call TP 172 [a5,a8] h fun a9 h=>AC 4 x1 fun b1=>AB false 1 b1 h fun b2=>Call TP 172 [a9,b2] h fun b3 h=>AC 5 x1 fun b5=>AB false 1 b5 h fun b6=>Call TP 172 [b3,b6] h fun b7 h=>AC 6 x1 fun b9=>AB false 1 b9 h fun c0=>Call TP 172 [b7,c0] h fun c1 h=>AC 7 x1 fun c3=>AB false 1 c3 h fun c4=>Call TP 173 [c1,c4] h fun c5 h=>AC 8 x1 fun c7=>AB false 1 c7 h fun c8=>Call TP 173 [c5,c8] h fun c9 h=>AC 9 x1 fun d1=>AB false 1 d1 h fun d2=>Call TP 172 [c9,d2] h fun d3 h=>AC 10 x1 fun d5=>AB false 1 d5 h fun d6=>Call TP 172 [d3,d6] h fun d7 h=>AC 11 x1 fun d9=>AB false 1 d9 h fun g0=>Call TP 172 [d7,g0] h fun g1 h=>AC 12 x1 fun g3=>AZ (.arr 60 1) g3 none none fun g4=>AM 5 (AG TP 5) 1 1 g1 g4 h fun g5 h=>AC 72 x1 fun g7=>AB false 1 g7 h fun g8=>Call TP 172 [g5,g8] h fun g9 h=>AC 73 x1 fun i1=>AB false 1 i1 h fun i2=>Call TP 172 [g9,i2] h fun i3 h=>AC 74 x1 fun i5=>AB false 1 i5 h fun i6=>Call TP 172 [i3,i6] h fun i7 h=>AC 75 x1 fun i9=>AB false 1 i9 h fun j0=>Call TP 172 [i7,j0] h fun j1 h=>AC 76 x1 fun j3=>AB false 1 j3 h fun j4=>Call TP 173 [j1,j4] h fun j5 h=>AC 77 x1 fun j7=>AB false 1 j7 h fun j8=>Call TP 173 [j5,j8] h fun j9 h=>AC 78 x1 fun k1=>AB false 1 k1 h fun k2=>Call TP 173 [j9,k2] h fun k3 h=>AC 79 x1 fun k5=>AB false 1 k5 h fun k6=>Call TP 173 [k3,k6] h fun k7 h=>AC 80 x1 fun k9=>AB false 1 k9 h fun m0=>Call TP 173 [k7,m0] h fun m1 h=>AC 81 x1 fun m3=>AB false 1 m3 h fun m4=>Call TP 173 [m1,m4] h fun m5 h=>AC 82 x1 fun m7=>AB false 1 m7 h fun m8=>Call TP 173 [m5,m8] h fun m9 h=>AC 83 x1 fun n1=>AB false 1 n1 h fun n2=>Call TP 173 [m9,n2] h fun n3 h=>AC 84 x1 fun n5=>AB false 1 n5 h fun n6=>Call TP 172 [n3,n6] h fun n7 h=>AC 85 x1 fun n9=>AB false 1 n9 h fun o0=>Call TP 172 [n7,o0] h fun o1 h=>AC 86 x1 fun o3=>AB false 1 o3 h fun o4=>Call TP 172 [o1,o4] h fun o5 h=>AC 87 x1 fun o7=>AB false 1 o7 h fun o8=>Call TP 172 [o5,o8] h fun o9 h=>AC 88 x1 fun p1=>AB false 1 p1 h fun p2=>Call TP 172 [o9,p2] h fun p3 h=>AC 89 x1 fun p5=>AB false 1 p5 h fun p6=>Call TP 172 [p3,p6] h fun p7 h=>AC 90 x1 fun p9=>AB false 1 p9 h fun q0=>Call TP 172 [p7,q0] h fun q1 h=>Q q1 h
theorem ZQ (x0:Value)(h:H)(Q:Kt)(x:ADp x0 h Q):Call TP 171 [x0] h Q:=Bb nT Tryz.func171 (by kernel_rfl) x
end
end Go.Proofs.YtollddkkdgoonaaGreatDoor
