/- A part of a proof over images that are written and read. No condition; a step. -/
import Derived.Test.YtollddkkdgoonaaGreatDoorM11
namespace Go.Proofs.YtollddkkdgoonaaGreatDoor
open Go
set_option linter.unusedVariables false
set_option linter.unusedSimpArgs false
set_option maxRecDepth 100000
section
variable {h:H} {k:Value→Prop} {kt Q:Kt} {x y r:Res} {wb:Nat} {S S':PS} {ad:Nat→Nat}
theorem OV {B m:Bs}{p:Nat}(h:B.length=p):BG B p m=B++m:=by
 subst h
 unfold BG setL
 rw[show B.length+m.length-B.length=m.length by omega]
 have h1:(B++List.replicate m.length (0:UInt8)).take B.length=B:=by rw[A24 (A07 _),A38]
 have h2:(B++List.replicate m.length (0:UInt8)).drop (B.length+m.length)=[]:=List.drop_eq_nil_iff.2 (by simp)
 rw[h1,h2,A22]
def PS.app (S:PS)(bs:Bs):PS:={S with B:=S.B++bs,pos:=S.pos+bs.length}
theorem Jf {bs:Bs}(h:S.B.length=S.pos):S.put bs=S.app bs:=by unfold PS.put PS.app;rw[OV h]
def FY (p:PN):PN:={p with xbs:=Bl p}
def LZ:Option PN→Bs
 | some p=>BR p
 | none=>List.replicate 256 0
def Dl (M:List (Option PN)):Bs:=M.flatMap LZ
def TabOK (M:List (Option PN)):Prop:=∀ p,some p∈M→PNok p∧xOK p∧p.dbs.length<1000000
theorem FM {M:List (Option PN)}(h:TabOK M):(Dl M).length=256*M.length:=by
 induction M with
 | nil=>rfl
 | cons o M ih=>
  have h1:(LZ o).length=256:=by
   cases o with
   | none=>exact A09 ..
   | some p=>
    obtain⟨a,b,_⟩:=h p (A13 ..)
    exact GQ a.xbs b
  unfold Dl at ih ⊢
  rw[A37,A01,h1,ih fun p hp=>h p (A16 _ hp),A19]
  omega
def PS.tab (S:PS)(i:Nat):PS:={S with M:=(S.M.take i).map (Option.map FY)++S.M.drop i,B:=S.B++Dl (S.M.take i),pos:=S.pos+256*i}
theorem TA {i:Nat}(h:i<S.M.length):(S.tab i).M[i]? = S.M[i]?:=by
 show ((S.M.take i).map (Option.map FY)++S.M.drop i)[i]? = _
 rw[A17 (by simp;omega)]
 simp only[A25,A20,A53]
 congr 1
 omega
theorem AAb {i:Nat}{o:Option PN}(h:S.M[i]? = some o):(S.tab i).M.set i (o.map FY)=(S.tab (i+1)).M:=by
 have hl:=(A02.1 h).1
 have hg:=(A02.1 h).2
 show ((S.M.take i).map (Option.map FY)++S.M.drop i).set i (o.map FY)=(S.M.take (i+1)).map (Option.map FY)++S.M.drop (i+1)
 rw[List.set_append_right _ _ (by simp;omega)]
 have h1:i-((S.M.take i).map (Option.map FY)).length=0:=by simp;omega
 rw[h1,A50 hl,List.set_cons_zero,List.take_succ_eq_append_getElem hl,A36,hg]
 simp
theorem AGR {i:Nat}{o:Option PN}(h:S.M[i]? = some o):(S.tab i).B++LZ o=(S.tab (i+1)).B:=by
 have hl:=(A02.1 h).1
 have hg:=(A02.1 h).2
 show S.B++Dl (S.M.take i)++LZ o=S.B++Dl (S.M.take (i+1))
 rw[List.take_succ_eq_append_getElem hl,hg]
 unfold Dl
 rw[A73]
 simp
theorem PV {iv:Value}(p:ET wb ad iv S x h):∃ a c,iv=.slice a S.M.length c:=by
 obtain⟨s,L,tr,a,e,w⟩:=p
 obtain⟨⟨va,vc,hv⟩,_⟩:=a.ok.vec.len
 have:L.length=S.M.length:=by rw[←a.M];simp[pnL]
 exact⟨va,vc,by rw[←e,hv,this]⟩
theorem WE {iv v:Value}{i n:Nat}{rec1:Value→H→Prop}{bs:Bs}{v1:Value}(p:ET wb ad iv S (r+x) h)(b:BufV v bs r)(hb:bs.length=256)(hm:S.pos+256≤S.max)(hi:i<100000)(K:∀ h,ET wb ad iv (S.put bs) x h→rec1 (.int .i64 ((i+1:Nat):Int)) h) :
  Cz Q rec1 (Pt wb) v1 v iv (.int .i64 (n:Int)) (.int .i64 (i:Int)) h:=by
 unfold Cz Ucl
 refine Ms (TL p b.rdX.addL (by omega) (by omega) fun h p=>?_)
 simp (disch:=omega) only[go_sem]
 exact K h (ET.mono (y:=r) (p.cast (Res.comm _ _)))
theorem AFo {iv:Value}{i T:Nat}{rec1:Value→H→Prop}(p:ET wb ad iv (S.tab i) x h)(ok:TabOK S.M)(hi:i<S.M.length)(hB:S.B.length=S.pos)(hm:S.pos+256*S.M.length≤S.max)(K:∀ h,ET wb ad iv (S.tab (i+1)) x h→rec1 (.int .i64 ((i+1:Nat):Int)) h) :
  HT Q rec1 (Pt wb) (.int .u32 (T:Int)) iv (.int .i64 (S.M.length:Int)) (.int .i64 (i:Int)) h:=by
 obtain⟨s,L,tr,a,e,w⟩:=p
 have hLM:pnL L=(S.tab i).M:=a.M
 have hlen:L.length=S.M.length:=by
  have:(pnL L).length=(S.tab i).M.length:=by rw[hLM]
  have h2:(S.tab i).M.length=S.M.length:=by show ((S.M.take i).map (Option.map FY)++S.M.drop i).length=_;simp;omega
  rw[h2] at this
  simpa[pnL] using this
 have hl3:=a.ok.len
 have hBt:(S.tab i).B.length=(S.tab i).pos:=by
  show (S.B++Dl (S.M.take i)).length=S.pos+256*i
  rw[A01,FM fun p hp=>ok p (List.mem_of_mem_take hp),A20,A30 (by omega),hB]
 obtain⟨o,ho⟩:∃ o,S.M[i]? = some o:=⟨_,A00 hi⟩
 have hLo:(pnL L)[i]? = some o:=by rw[hLM,TA hi,ho]
 have hpos:(S.tab i).pos=S.pos+256*i:=rfl
 have hmx:(S.tab i).max=S.max:=rfl
 have next:∀ bs:Bs,bs=LZ o→∀ M',M'=(S.tab i).M.set i (o.map FY)→PS.put {S.tab i with M:=M' } bs=S.tab (i+1):=by
  intro bs hbs M' hM'
  subst hbs hM'
  rw[Jf (S:={S.tab i with M:=(S.tab i).M.set i (Option.map FY o)}) hBt]
  have h256:(LZ o).length=256:=by
   cases o with
   | none=>exact A09 ..
   | some p=>
    obtain⟨a,b,_⟩:=ok p (A28 ho)
    exact GQ a.xbs b
  unfold PS.app
  dsimp only
  rw[AAb ho,AGR ho,h256]
  have:S.pos+256*i+256=S.pos+256*(i+1):=by omega
  unfold PS.tab
  dsimp only
  rw[this]
 cases o with
 | none=>
  have hL:L[i]? = some none:=by
   rw[Js,A74] at hLo
   obtain⟨q,h1,h2⟩:=hLo
   cases q with
   | none=>exact h1
   | some _=>cases h2
  unfold HT Ucm Uil Uff Uld Umk Ukp Unf Ucl
  simp (disch:=omega) only[go_sem,A04]
  rw[←e]
  refine Bu (x:=s.res+(sumR ad L+x)) a.ok.vec (w.cast (by unfold FR;ac_rfl)) (by rw[A21,hL];rfl) ?_
  simp only[ptrO,go_sem]
  have p:ET wb ad iv (S.tab i) x h:=⟨s,L,tr,a,e,w⟩
  obtain⟨r0,w0,cl⟩:=p.rep.opened
  refine ER (n:=256) w (by decide) fun mb h w=>?_
  rw[e]
  have p:ET wb ad iv (S.tab i) (buf mb (List.replicate 256 0)+x) h:=⟨s,L,tr,a,e,w.cast (Res.left_comm _ _ _)⟩
  have hrp:(List.replicate 256 (0:UInt8)).length=256:=A09 ..
  refine WE p (.own' (by rw[hrp];exact A07 _) hrp (by rw[A43 (by rw[hrp];exact A07 _)])) hrp (by omega) (by omega) fun h p=>K h ?_
  have hn:=next (List.replicate 256 0) rfl (S.tab i).M (by
   have:(S.tab i).M[i]? = some none:=by rw[TA hi];exact ho
   rw[Option.map_none]
   apply A60
   intro j
   rw[A54]
   split
   ·rename_i hj;subst hj
    rw[this,A03 (A02.1 this).1]
   ·rfl)
  have hs:({S.tab i with M:=(S.tab i).M}:PS)=S.tab i:=rfl
  rw[hs] at hn
  rw[←hn]
  exact p
 | some p0=>
  obtain⟨nd,hnd,hp0⟩:=CF hLo
  have hnd1:L[(i+1)-1]? = some (some nd):=by rw[A79];exact hnd
  obtain⟨w',hnum⟩:=CG (c:=i+1) a.ok (by omega) hnd1 w
  have hN:=a.ok.ndOK hnd
  obtain⟨q1,q2,q3⟩:=ok p0 (A28 ho)
  have hdbs:nd.dbs=p0.dbs:=by rw[←hp0];rfl
  have k1:∀ A B C D E F G X:Res,A+(B+(C+D))+(E+(F+(G+X)))=A+(B+(C+(D+(E+(F+(G+X)))))):=by intros;ac_rfl
  refine AE6 (na:=ad (i+1)) (nd:=nd) (x:=nd.kr ad+(s.res+(tr+(sumR ad (L.set (i+1-1) none)+x)))) hp0 q1 q2 hN.1.2.2.1 (by rw[hdbs];exact q3) hi (fun k hk=>?_) hN.1.1 hN.1.2.1 (w'.cast (by unfold Nd.res;rw[show ad nd.num=ad (i+1) by rw[hnum]];exact k1 _ _ _ _ _ _ _ _)) fun v r xr h bv bx w=>?_
  ·rw[←e]
   refine Bu (x:=s.res+(sumR ad L+x)) a.ok.vec (w.cast (by unfold FR;ac_rfl)) (by rw[A21,hnd];rfl) ?_
   show k (Pt (ad nd.num))
   rw[hnum];exact hk
  ·have hL:=(A02.1 hnd).1
   obtain⟨nd',hnd'⟩:∃ nd':Nd,nd' = {nd with xbs:=Bl p0,xr:=xr}:=⟨_,rfl⟩
   have hpn':nd'.pn=FY p0:=by rw[hnd'];show ({nd.pn with xbs:=Bl p0}:PN)=_;rw[hp0];rfl
   have hres:nd'.res ad=pts (ad (i+1)) (.cells nd.cells 197 (0,0))+(nd.dr+(xr+nd.kr ad)):=by
    rw[hnd'];unfold Nd.res
    show pts (ad nd.num) _+_=_
    rw[show ad nd.num=ad (i+1) by rw[hnum]];rfl
   have p:ET wb ad iv {S.tab i with M:=(S.tab i).M.set i (some (FY p0))} (r+x) h:=by
    refine⟨s,L.set i (some nd'),tr,⟨F7 a.ok a.ok.ws rfl hnd (by rw[hnd']) ⟨⟨by rw[hnd'];exact hN.1.1,by rw[hnd'];exact bx,by rw[hnd'];exact hN.1.2.2.1,by rw[hnd'];exact hN.1.2.2.2.1,by rw[hnd'];exact hN.1.2.2.2.2⟩,by rw[hnd'];exact hN.2⟩,a.wb,a.ini,?_,a.B,a.pos,a.dpos,a.dw,a.dm,a.cur,a.inl,a.max,a.gd,a.db⟩,e,w.cast ?_⟩
    ·unfold pnL
     rw[B22]
     show (pnL L).set i (some nd'.pn)=_
     rw[hLM,hpn']
    ·unfold FR
     rw[GN hL,hres,A79]
     ac_rfl
   refine WE p bv (GQ q1.xbs q2) (by show S.pos+256*i+256≤S.max;omega) (by omega) fun h p=>K h ?_
   rw[←next (BR p0) rfl _ rfl]
   exact p
end
section
variable {h:H} {k:Value→Prop} {kt Q:Kt} {x y r:Res} {wb:Nat} {S S':PS} {ad:Nat→Nat}
def PS.tabbed (S:PS)(T:Nat):PS:={S with M:=S.M.map (Option.map FY),B:=S.B++(Dl S.M++List.replicate (T-256*S.M.length) 0),pos:=S.pos+T}
theorem AIB {T:Nat}(p:BM wb ad S x h)(ok:TabOK S.M)(hB:S.B.length=S.pos)(hT:256*S.M.length≤T)(hT2:T<4294967296)(hm:S.pos+T≤S.max)(K:∀ h,BM wb ad (S.tabbed T) x h→Q .nilIface h):ACw (Pt wb) (.int .u32 (T:Int)) h Q:=by
 obtain⟨iv,p⟩:=p.repI
 obtain⟨va,vc,hv⟩:=PV p
 have hlen:=FM ok
 have hn:S.M.length≤10000:=by
  obtain⟨s,L,tr,a,_,_⟩:=p
  have h1:=a.ok.len
  have:L.length=S.M.length:=by rw[←a.M];simp[pnL]
  omega
 unfold ACw Unf
 obtain⟨s,L,tr,a,e,w⟩:=id p
 have hw:s.wb=wb:=a.wb
 rw[←hw]
 simp only[go_sem,AF w]
 rw[e,hv]
 simp only[go_sem]
 rw[←hv,hw]
 unfold XI
 refine Ba (fun m u h'=>∃ i,m=S.M.length-i∧i≤S.M.length∧u=.int .i64 (i:Nat)∧ET wb ad iv (S.tab i) x h') S.M.length ⟨0,rfl,A39 _,rfl,?_⟩ ?_
 ·have:S.tab 0=S:=by unfold PS.tab Dl;simp
  rw[this];exact p
 ·rintro rec m u h' ⟨i,rfl,hi,rfl,p⟩ hrec
  by_cases hlt:i<S.M.length
  ·exact AFo p ok hlt hB (by omega) fun h p=>hrec _ _ _ ⟨i+1,rfl,by omega,rfl,p⟩ (by omega)
  ·have hi':i=S.M.length:=by omega
   subst hi'
   have hBt:(S.tab S.M.length).B.length=(S.tab S.M.length).pos:=by
    show (S.B++Dl (S.M.take S.M.length)).length=S.pos+256*S.M.length
    rw[A38,A01,hlen,hB]
   obtain⟨va',vc',hv'⟩:=PV p
   have hML:(S.tab S.M.length).M.length=S.M.length:=by show ((S.M.take S.M.length).map (Option.map FY)++S.M.drop S.M.length).length=_;simp
   unfold HT Ucm Uil Uff Uld Umk Ukp Unf Ucl
   simp (disch:=omega) only[go_sem,A08]
   obtain⟨s,L,tr,a,e,w⟩:=id p
   have hw:s.wb=wb:=a.wb
   rw[←hw]
   simp only[go_sem,AF w]
   rw[e,hv',hML]
   have e256:S.M.length*256≤T:=by omega
   simp (disch:=omega) only[go_sem]
   rw[hw]
   refine NI (Pb (n:=T-S.M.length*256) p (fun _=>by omega) (by show S.pos+256*S.M.length+_≤S.max;omega) fun h p=>?_)
   simp (disch:=omega) only[go_sem]
   refine K h ?_
   have:(S.tab S.M.length).put (List.replicate (T-S.M.length*256) 0)=S.tabbed T:=by
    rw[Jf hBt]
    unfold PS.app PS.tab PS.tabbed
    simp only[A38,B15,A22,A09,A12]
    rw[show S.M.length*256=256*S.M.length by omega,show S.pos+256*S.M.length+(T-256*S.M.length)=S.pos+T by omega]
   rw[←this]
   exact p.rep
def YS (b n p:Nat):Nat:=(max b ((n-1)/p*(32768-p/16-2)+1)+(32768-p/16-2)-1)/(32768-p/16-2)
theorem AHF {b n p:Nat}(hn:1≤n)(hn2:n≤32768)(hp:16≤p)(hp2:p≤32768)(hb:b≤65536)(K:Q (.int .u32 (YS b n p:Nat)) h):ADC (.int .u32 (b:Int)) (.int .u32 (n:Int)) (.int .u32 (p:Int)) h Q:=by
 have hq:(n-1)/p≤2048:=by
  rw[Nat.div_le_iff_le_mul_add_pred (by omega)]
  have:p*2048≥16*2048:=A48 2048 hp
  omega
 have hd1:30718≤32768-p/16-2:=by omega
 have hd2:32768-p/16-2≤32768:=by omega
 have hprod:(n-1)/p*(32768-p/16-2)≤2048*32768:=Nat.mul_le_mul hq hd2
 have hdd:p*256/4096=p/16:=by omega
 have e1:(AD .sub (.int .u32 32768) (.int .u32 (p/16:Nat)))=fun k=>k (.int .u32 ((32768-p/16:Nat):Int)):=funext fun k=>by
  rw[Bv,←JR (m:=32768-p/16) (by omega),Int.ofNat_sub (by omega)];rfl
 unfold YS at K
 unfold ADC Ucm
 simp (disch:=omega) only[go_sem,hdd,e1]
 refine AX (fun hc=>?_) (fun hc=>?_)
 ·rw[Nat.max_eq_right (by omega)] at K
  rw[A23 (B06 (B67 _ _) (by omega))]
  exact K
 ·rw[Nat.max_eq_left (by omega)] at K
  rw[A23 (B06 (B67 _ _) (by omega))]
  exact K
def ipgOf (n:Nat):Nat:=(n+15)/16*16
theorem ADu {b n p:Nat}(hn:1≤n)(hp:16≤p)(hp2:p≤32768)(hb:b+p/16+2≤32768)(hle:n≤p):YS b n p=1:=by
 unfold YS
 have h0:(n-1)/p=0:=Nat.div_eq_of_lt (by omega)
 simp only[h0,A92]
 generalize hdv:32768-p/16-2=d
 have hd:30718≤d:=by omega
 rw[Nat.div_eq_of_lt_le]
 ·omega
 ·omega
theorem AEF {b n p:Nat}(hp:16≤p)(hp2:p≤32768)(hlt:p<n):2≤YS b n p:=by
 unfold YS
 have h0:1≤(n-1)/p:=(Nat.one_le_div_iff (by omega)).2 (by omega)
 generalize hdv:32768-p/16-2=d
 have hd:30718≤d:=by omega
 have h1:d≤(n-1)/p*d:=Nat.le_mul_of_pos_left d h0
 rw[Nat.le_div_iff_mul_le (by omega)]
 omega
theorem ACk {b n p:Nat}(hp:16≤p)(hp2:p≤32768)(hb:b≤65536)(hn:n≤32768):1≤YS b n p∧YS b n p<4294967296:=by
 unfold YS
 generalize hdv:32768-p/16-2=d
 have hd:30718≤d:=by omega
 have hq:(n-1)/p≤2048:=by
  rw[Nat.div_le_iff_le_mul_add_pred (by omega)]
  have:p*2048≥16*2048:=A48 2048 hp
  omega
 have hprod:(n-1)/p*d≤2048*d:=A48 d hq
 have hd2:d≤32768:=by omega
 constructor
 ·rw[Nat.le_div_iff_mul_le (by omega)];omega
 ·refine B06 (B67 _ _) ?_
  omega
theorem AH0 {b n:Nat}(hn:1≤n)(hn2:n≤32000)(hb:b+ipgOf n/16+2≤32768)(K:Q (.tuple #[.int .u32 1,.int .u32 (ipgOf n:Nat)]) h):ADl (.int .u32 (b:Int)) (.int .u32 (n:Int)) h Q:=by
 have hi:n≤ipgOf n∧ipgOf n<n+16∧ipgOf n%16=0:=by unfold ipgOf;omega
 unfold ADl YG
 refine MA (fun m u4 u5 u6 h'=>∃ g q p:Nat,m=32784-p∧u4=.int .u32 (g:Nat)∧u5=.int .u32 (q:Nat)∧u6=.int .u32 (p:Nat)∧16≤p∧p≤32784∧p%16=0∧h'=h∧g<4294967296∧(if p≤ipgOf n then 2≤g else g=1∧q=ipgOf n)) 32768
  ⟨4294967295,0,16,rfl,rfl,rfl,rfl,by omega,by omega,by omega,rfl,by omega,by rw[A03 (by omega)];omega⟩ ?_
 rintro rec m u4 u5 u6 h' ⟨g,q,p,rfl,rfl,rfl,rfl,hp1,hp2,hp3,rfl,hg,hc⟩ hrec
 unfold Rg Ucm Ucl
 simp (disch:=omega) only[go_sem]
 refine AX (fun hle=>?_) (fun hgt=>?_)
 ·obtain⟨q1,q2⟩:=ACk (b:=b) (n:=n) (p:=p) hp1 (by omega) (by omega) (by omega)
  refine AAR (AHF hn (by omega) hp1 (by omega) (by omega) ?_)
  simp (disch:=omega) only[go_sem]
  by_cases hlt:p<ipgOf n
  ·rw[A03 (by omega)] at hc
   have h2:=AEF (b:=b) (n:=n) (p:=p) hp1 (by omega) (by omega)
   refine AX (fun _=>?_) (fun _=>?_)
   ·exact hrec _ _ _ _ _ ⟨YS b n p,p,p+16,rfl,rfl,rfl,rfl,by omega,by omega,by omega,rfl,q2,by rw[A03 (by omega)];exact h2⟩ (by omega)
   ·exact hrec _ _ _ _ _ ⟨g,q,p+16,rfl,rfl,rfl,rfl,by omega,by omega,by omega,rfl,hg,by rw[A03 (by omega)];exact hc⟩ (by omega)
  ·by_cases heq:p=ipgOf n
   ·rw[A03 (by omega)] at hc
    have h1:=ADu (b:=b) (n:=n) (p:=p) hn hp1 (by omega) (by rw[heq];exact hb) (by omega)
    rw[h1]
    refine AX (fun _=>?_) (fun hcn=>absurd (by omega:((1:Nat):Int)<(g:Int)) hcn)
    exact hrec _ _ _ _ _ ⟨1,p,p+16,rfl,rfl,rfl,rfl,by omega,by omega,by omega,rfl,by omega,by rw[A05 (by omega)];exact⟨rfl,heq⟩⟩ (by omega)
   ·rw[A05 (by omega)] at hc
    refine AX (fun hcn=>absurd hcn (by omega)) (fun _=>?_)
    exact hrec _ _ _ _ _ ⟨g,q,p+16,rfl,rfl,rfl,rfl,by omega,by omega,by omega,rfl,hg,by rw[A05 (by omega)];exact hc⟩ (by omega)
 ·rw[A05 (by omega)] at hc
  obtain⟨rfl,rfl⟩:=hc
  exact K
end
section
variable {h:H} {k:Value→Prop} {kt Q:Kt} {x y r:Res} {wb:Nat} {S S':PS} {ad:Nat→Nat}
def b8 (a0 a1 a2 a3 a4 a5 a6 a7:Bool):Nat:=a0.toNat+2*a1.toNat+4*a2.toNat+8*a3.toNat+16*a4.toNat+32*a5.toNat+64*a6.toNat+128*a7.toNat
theorem AF2 (a0 a1 a2 a3 a4 a5 a6 a7:Bool):b8 a0 a1 a2 a3 a4 a5 a6 a7<256:=by
 have:=A55 a0;have:=A55 a1;have:=A55 a2;have:=A55 a3
 have:=A55 a4;have:=A55 a5;have:=A55 a6;have:=A55 a7
 unfold b8;omega
theorem AE0:∀ a0 a1 a2 a3 a4 a5 a6 a7:Bool,b8 a0 a1 a2 a3 a4 a5 a6 a7 ||| 1=b8 true a1 a2 a3 a4 a5 a6 a7∧b8 a0 a1 a2 a3 a4 a5 a6 a7 ||| 2=b8 a0 true a2 a3 a4 a5 a6 a7∧b8 a0 a1 a2 a3 a4 a5 a6 a7 ||| 4=b8 a0 a1 true a3 a4 a5 a6 a7 ∧
  b8 a0 a1 a2 a3 a4 a5 a6 a7 ||| 8=b8 a0 a1 a2 true a4 a5 a6 a7∧b8 a0 a1 a2 a3 a4 a5 a6 a7 ||| 16=b8 a0 a1 a2 a3 true a5 a6 a7∧b8 a0 a1 a2 a3 a4 a5 a6 a7 ||| 32=b8 a0 a1 a2 a3 a4 true a6 a7 ∧
  b8 a0 a1 a2 a3 a4 a5 a6 a7 ||| 64=b8 a0 a1 a2 a3 a4 a5 true a7∧b8 a0 a1 a2 a3 a4 a5 a6 a7 ||| 128=b8 a0 a1 a2 a3 a4 a5 a6 true:=by decide +kernel
def Cs (f:Nat→Bool)(q:Nat):Nat:=b8 (f (8*q)) (f (8*q+1)) (f (8*q+2)) (f (8*q+3)) (f (8*q+4)) (f (8*q+5)) (f (8*q+6)) (f (8*q+7))
def Ib (f:Nat→Bool)(j:Nat):Nat→Bool:=fun i=>Nat.beq i j||f i
theorem DL (f:Nat→Bool)(j:Nat):Ib f j j=true:=by unfold Ib;simp
theorem Af {f:Nat→Bool}{i j:Nat}(h:i≠j):Ib f j i=f i:=by
 unfold Ib
 have:Nat.beq i j=false:=by
  cases hb:Nat.beq i j with
  | false=>rfl
  | true=>exact absurd (B23 hb) h
 rw[this,Bool.false_or]
theorem UK {f:Nat→Bool}{q s:Nat}(hs:s<8):Cs (Ib f (8*q+s)) q=Cs f q ||| 2^s:=by
 obtain⟨h0,h1,h2,h3,h4,h5,h6,h7⟩:=AE0 (f (8*q)) (f (8*q+1)) (f (8*q+2)) (f (8*q+3)) (f (8*q+4)) (f (8*q+5)) (f (8*q+6)) (f (8*q+7))
 have hc:s=0∨s=1∨s=2∨s=3∨s=4∨s=5∨s=6∨s=7:=by omega
 unfold Cs
 rcases hc with rfl|rfl|rfl|rfl|rfl|rfl|rfl|rfl
 ·rw[show 2^0=1 from rfl,h0,A58,DL,Af (by omega),Af (by omega),Af (by omega),Af (by omega),Af (by omega),Af (by omega),Af (by omega)]
 ·rw[show 2^1=2 from rfl,h1,DL,Af (by omega),Af (by omega),Af (by omega),Af (by omega),Af (by omega),Af (by omega),Af (by omega)]
 ·rw[show 2^2=4 from rfl,h2,DL,Af (by omega),Af (by omega),Af (by omega),Af (by omega),Af (by omega),Af (by omega),Af (by omega)]
 ·rw[show 2^3=8 from rfl,h3,DL,Af (by omega),Af (by omega),Af (by omega),Af (by omega),Af (by omega),Af (by omega),Af (by omega)]
 ·rw[show 2^4=16 from rfl,h4,DL,Af (by omega),Af (by omega),Af (by omega),Af (by omega),Af (by omega),Af (by omega),Af (by omega)]
 ·rw[show 2^5=32 from rfl,h5,DL,Af (by omega),Af (by omega),Af (by omega),Af (by omega),Af (by omega),Af (by omega),Af (by omega)]
 ·rw[show 2^6=64 from rfl,h6,DL,Af (by omega),Af (by omega),Af (by omega),Af (by omega),Af (by omega),Af (by omega),Af (by omega)]
 ·rw[show 2^7=128 from rfl,h7,DL,Af (by omega),Af (by omega),Af (by omega),Af (by omega),Af (by omega),Af (by omega),Af (by omega)]
theorem Oh {f:Nat→Bool}{q q' s:Nat}(hs:s<8)(hq:q'≠q):Cs (Ib f (8*q+s)) q'=Cs f q':=by
 unfold Cs
 rw[Af (by omega),Af (by omega),Af (by omega),Af (by omega),Af (by omega),Af (by omega),Af (by omega),Af (by omega)]
def Db (f:Nat→Bool)(n:Nat):Bs:=(List.range n).map fun q=>UInt8.ofNat (Cs f q)
theorem En (f:Nat→Bool)(n:Nat):(Db f n).length=n:=by simp[Db]
theorem J3 {f:Nat→Bool}{n q:Nat}(h:q<n):(Db f n)[q]? = some (UInt8.ofNat (Cs f q)):=by
 unfold Db
 rw[A21,List.getElem?_range h];rfl
theorem EF {f g:Nat→Bool}{n:Nat}(h:∀ i,i<8*n→f i=g i):Db f n=Db g n:=by
 unfold Db
 apply A72
 intro q hq
 rw[A96] at hq
 unfold Cs
 rw[h _ (by omega),h _ (by omega),h _ (by omega),h _ (by omega),h _ (by omega),h _ (by omega),h _ (by omega),h _ (by omega)]
theorem YQ (n:Nat):Db (fun _=>false) n=List.replicate n 0:=by
 unfold Db
 apply A60
 intro i
 rw[A21,B18]
 by_cases h:i<n
 ·rw[List.getElem?_range h,A03 h];rfl
 ·rw[A40 (by simpa using h),A05 h];rfl
theorem ZH {f:Nat→Bool}{n q s:Nat}(hq:q<n)(hs:s<8):setL (Db f n) q [UInt8.ofNat (Cs f q ||| 2^s)]=Db (Ib f (8*q+s)) n:=by
 apply A60
 intro i
 rw[DN (by rw[En];simp;omega)]
 by_cases h1:i<n
 ·rw[J3 h1,J3 h1]
  by_cases h2:i<q
  ·rw[A03 h2,Oh hs (by omega)]
  ·rw[A05 h2]
   by_cases h3:i=q
   ·subst h3
    rw[A03 (by simp),UK hs];simp
   ·rw[A05 (by simp;omega),Oh hs h3]
 ·have e:∀ g,(Db g n)[i]? = none:=fun g=>A40 (by rw[En];omega)
  rw[e,e]
  simp only[A57]
  rw[A05 (by omega),A05 (by omega)]
theorem Km {b o n i:Nat}{kk:IntKind}(hi:i<n):AI (.arr n 1) (.pointer (some ⟨b,o,none⟩)) (.int kk (i:Int)) k=k (.pointer (some ⟨b,o+i,none⟩)):=by
 unfold AI
 refine propext ⟨fun⟨kk',m,h1,a,h2,h3,h4,h5⟩=>?_,fun hk=>⟨kk,i,rfl,_,rfl,by omega,by omega,?_⟩⟩
 ·cases h1;cases h2
  rw[A77,A67,Bm] at h5
  exact h5
 ·rw[A77,A67,Bm];exact hk
theorem Ys {s:Nat}{k':IntKind}(hs:s<8):AD .shl (.int .u8 1) (.int k' (s:Int)) k=k (.int .u8 ((2^s:Nat):Int)):=by
 refine Fo ?_
 have hc:s=0∨s=1∨s=2∨s=3∨s=4∨s=5∨s=6∨s=7:=by omega
 rcases hc with rfl|rfl|rfl|rfl|rfl|rfl|rfl|rfl<;>rfl
theorem Nc {b n q s:Nat}{f:Nat→Bool}{T:TypeId}{k1 k2:IntKind}{kh:H→Prop}(w:AN (pts b (.cells (bcs (Db f n)) T (0,0))+x) h)(hq:q<n)(hs:s<8)(K:∀ h,AN (pts b (.cells (bcs (Db (Ib f (8*q+s)) n)) T (0,0))+x) h→kh h) :
  AI (.arr n 1) (Pt b) (.int k1 (q:Int)) fun a=>AB false 1 a h fun v=>AD .shl (.int .u8 1) (.int k2 (s:Int)) fun m=>AD .or v m fun u=>AI (.arr n 1) (Pt b) (.int k1 (q:Int)) fun a=>AJ 1 a u h kh:=by
 have hlt:=AF2 (f (8*q)) (f (8*q+1)) (f (8*q+2)) (f (8*q+3)) (f (8*q+4)) (f (8*q+5)) (f (8*q+6)) (f (8*q+7))
 have hlt':Cs f q<256:=hlt
 have h2s:2^s<256:=Nat.pow_lt_pow_right (m:=s) (n:=8) (by omega) hs
 have hor:Cs f q ||| 2^s<256:=B01 (n:=8) hlt' h2s
 rw[Km hq,A29,AF w,G9,J3 hq]
 simp only[A80,Fi]
 rw[Ys hs,←Sb hlt',T7 rfl hlt' h2s,Km hq,A29,Sb hor]
 refine AL w (bcs (Db (Ib f (8*q+s)) n)) ?_ rfl (by rw[CH,En];omega) rfl K
 rw[←ZH hq hs]
 exact Cc (m:=[UInt8.ofNat (Cs f q ||| 2^s)]) (by rw[En];simp;omega)
end
section
variable {h:H} {k:Value→Prop} {kt Q:Kt} {x y r:Res} {wb:Nat} {S S':PS} {ad:Nat→Nat}
theorem AAy:AG TP 222=some (.agg ⟨List.replicate 8192 (.int .u8 0)⟩):=by kernel_rfl
theorem AAj:AG TP 205=some (.agg ⟨List.replicate 4096 (.int .u8 0)⟩):=by kernel_rfl
theorem NM:AG TP 226=some (.agg ⟨E6 fun _=>0⟩):=by kernel_rfl
abbrev bmR (b:Nat)(f:Nat→Bool):Res:=pts b (.cells (bcs (Db f 8192)) 222 (0,0))
theorem AKR {b:Nat}:pts b (.cells ⟨List.replicate 8192 (.int .u8 0)⟩ 222 (0,0))=bmR b (fun _=>false):=by
 unfold bmR
 rw[YQ,Dn]
 congr 2
attribute [local irreducible] AK Az
section loops
variable {rec2:Value→Value→Value→H→Prop} {x0 x7 x8 x9 x11 x12 x13 x14 x16 x17 x18 x19 x20 x22' x23 x24:Value} {b vd:Nat}
theorem AGw (w:AN (bmR b (fun _=>false)+x) h)(hv:vd<32768)(K:∀ h,AN (bmR b (fun i=>decide (i<vd))+x) h→Lt Q rec2 x0 x7 x8 x9 x11 x12 (.int .u32 (vd:Int)) x14 x16 x17 x18 x19 x20 (.int .u32 ((0:Nat):Int)) (Pt b) x23 x24 (.int .u16 (vd:Int)) h) :
  VY Q rec2 x0 x7 x8 x9 x11 x12 (.int .u32 (vd:Int)) x14 x16 x17 x18 x19 x20 (.int .u32 ((0:Nat):Int)) (Pt b) x23 x24 (.int .u16 ((0:Nat):Int)) (.int .u32 ((0:Nat):Int)) h:=by
 unfold VY
 refine DE (fun m u v h'=>∃ j,m=vd-j∧j≤vd∧u=.int .u16 (j:Nat)∧v=.int .u32 (j:Nat)∧AN (bmR b (fun i=>decide (i<j))+x) h') vd ⟨0,rfl,A39 _,rfl,rfl,?_⟩ ?_
 ·refine w.cast ?_
  have e:Db (fun _=>false) 8192=Db (fun i=>decide (i<0)) 8192:=EF fun i _=>by simp
  unfold bmR
  rw[e]
 ·rintro rec m u v h' ⟨j,rfl,hj,rfl,rfl,w⟩ hrec
  unfold WN Ucm Uld
  simp (disch:=omega) only[go_sem,A92,B35]
  refine AX (fun hc=>?_) (fun hc=>?_)
  ·refine Nc (q:=j/8) (s:=j%8) w (by omega) (by omega) fun h w=>?_
   refine hrec _ _ _ _ ⟨j+1,rfl,by omega,rfl,rfl,w.cast ?_⟩ (by omega)
   have e:Db (Ib (fun i=>decide (i<j)) (8*(j/8)+j%8)) 8192=Db (fun i=>decide (i<j+1)) 8192:=?_
   ·unfold bmR
    rw[e]
   refine EF fun i _=>?_
   rw[Nat.div_add_mod]
   by_cases hi:i=j
   ·subst hi;rw[DL];simp
   ·rw[Af hi];exact decide_eq_decide.2 (by omega)
  ·have:j=vd:=by omega
   subst this
   exact K _ w
theorem AEq {rec4:Value→Value→H→Prop}{j:Nat}(w:AN (bmR b (fun i=>decide (i<j))+x) h)(hj:j≤32768)(K1:∀ h,j<32768→AN (bmR b (fun i=>decide (i<j+1))+x) h→rec4 (.int .u16 ((j+1:Nat):Int)) (.int .u32 ((j+1:Nat):Int)) h)
  (K2:j=32768→Lu Q rec2 x0 x7 x8 x9 x11 x12 x13 x14 x16 x17 x18 x19 x20 (.int .u32 ((0:Nat):Int)) (Pt b) (.int .u16 (j:Int)) x23 x24 (.int .u32 0) h) :
  Tn Q rec2 rec4 x0 x7 x8 x9 x11 x12 x13 x14 x16 x17 x18 x19 x20 (.int .u32 ((0:Nat):Int)) (Pt b) x23 x24 (.int .u16 (j:Int)) (.int .u32 (j:Int)) h:=by
 unfold Tn Ucm Uld
 simp (disch:=omega) only[go_sem]
 refine AX (fun hc=>?_) (fun hc=>K2 (by omega))
 refine Nc (q:=j/8) (s:=j%8) w (by omega) (by omega) fun h w=>K1 h (by omega) (w.cast ?_)
 have e:Db (Ib (fun i=>decide (i<j)) (8*(j/8)+j%8)) 8192=Db (fun i=>decide (i<j+1)) 8192:=?_
 ·unfold bmR
  rw[e]
 refine EF fun i _=>?_
 rw[Nat.div_add_mod]
 by_cases hi:i=j
 ·subst hi;rw[DL];simp
 ·rw[Af hi];exact decide_eq_decide.2 (by omega)
theorem AEt {vp:Nat}(w:AN (bmR b (fun i=>decide (i<vd))+x) h)(hv:vd<32768)(hvp:vp=vd)(K:∀ h,AN (bmR b (fun i=>decide (i<32768))+x) h→Lu Q rec2 x0 x7 x8 x9 x11 x12 x13 x14 x16 x17 x18 x19 x20 (.int .u32 ((0:Nat):Int)) (Pt b) (.int .u16 ((32768:Nat):Int)) x23 x24 (.int .u32 0) h) :
  Xc Q rec2 x0 x7 x8 x9 x11 x12 x13 x14 x16 x17 x18 x19 x20 (.int .u32 ((0:Nat):Int)) (Pt b) x23 x24 (.int .u16 (vd:Int)) (.int .u32 (vp:Int)) h:=by
 subst hvp
 unfold Xc
 obtain⟨N,hN⟩:∃ N,N=32768:=⟨_,rfl⟩
 refine DE (fun m u v h'=>∃ j,m+j=N∧vp≤j∧j≤N∧u=.int .u16 (j:Nat)∧v=.int .u32 (j:Nat)∧AN (bmR b (fun i=>decide (i<j))+x) h') (N-vp) ⟨vp,by omega,A07 _,by omega,rfl,rfl,w⟩ ?_
 rintro rec m u v h' ⟨j,hmj,hj0,hj,rfl,rfl,w⟩ hrec
 refine AEq w (by omega) (fun h hlt w=>hrec (N-(j+1)) _ _ _ ⟨j+1,by omega,by omega,by omega,rfl,rfl,w⟩ (by omega)) fun he=>?_
 subst he
 exact K _ w
def FD (M:List (Option PN))(j:Nat):Nat→Bool:=fun i=>decide (i<32768)||(decide (i<32768+j)&&(decide (i-32768<10)||(M[i-32768]?.join).isSome))
def A8 (M:List (Option PN))(j:Nat):Bool:=decide (j<10)||(M[j]?.join).isSome
def CS (M:List (Option PN))(j:Nat):Bool:=match M[j]? with|some (some n)=>kindB n.mode == 16384|_=>false
def Dc (f:Nat→Bool):Nat→Nat
 | 0=>0
 | n+1=>Dc f n+(f n).toNat
theorem HS (f:Nat→Bool):∀ n,Dc f n≤n
 | 0=>A07 _
 | n+1=>by have:=HS f n;have:=A55 (f n);unfold Dc;omega
end loops
end
section
variable {h:H} {k:Value→Prop} {kt Q:Kt} {x y r:Res} {wb:Nat} {S S':PS} {ad:Nat→Nat}
attribute [local irreducible] AK Az
theorem AAO (p:BM wb ad S x h){j:Nat}(hj:j<1000000)(K:Q (match S.M[j]?.join with|some _=>Pt (ad (j+1))|none=>.pointer none) h):U9 (Pt wb) (.int .u32 ((j+1:Nat):Int)) h Q:=by
 obtain⟨s,L,tr,a,w⟩:=p
 rw[←a.wb]
 refine ACV (i:=j+1) a.ok w (by omega) (by omega) ?_
 unfold HJ
 rw[A79]
 rw[←a.M,Js] at K
 cases hL:L[j]? with
 | none=>rw[hL] at K;exact K
 | some o=>
  rw[hL] at K
  cases o with
  | none=>exact K
  | some n=>
   have:=a.ok.num _ _ hL
   simp only[ptrO]
   rw[this]
   exact K
theorem AKU {b n q s:Nat}{f:Nat→Bool}{T:TypeId}{k1 k2:IntKind}{kh:H→Prop}(p:BM wb ad S (pts b (.cells (bcs (Db f n)) T (0,0))+x) h)(hq:q<n)(hs:s<8)(K:∀ h,BM wb ad S (pts b (.cells (bcs (Db (Ib f (8*q+s)) n)) T (0,0))+x) h→kh h) :
  AI (.arr n 1) (Pt b) (.int k1 (q:Int)) fun a=>AB false 1 a h fun v=>AD .shl (.int .u8 1) (.int k2 (s:Int)) fun m=>AD .or v m fun u=>AI (.arr n 1) (Pt b) (.int k1 (q:Int)) fun a=>AJ 1 a u h kh:=by
 obtain⟨r0,w,cl⟩:=p.opened
 exact Nc (w.cast (Res.left_comm _ _ _)) hq hs fun h w=>K h (cl _ _ (w.cast (Res.left_comm _ _ _)))
section loops
variable {rec2 rec3:Value→Value→Value→H→Prop} {x7 x8 x11 x12 x13 x14 x16 x17 x18 x19 x20 x25:Value} {b ipg:Nat}
theorem OQ {M:List (Option PN)}{j:Nat}:Db (FD M (j+1)) 8192=if A8 M j=true then Db (Ib (FD M j) (32768+j)) 8192 else Db (FD M j) 8192:=by
 split
 ·rename_i hu
  refine EF fun i _=>?_
  by_cases hi:i=32768+j
  ·subst hi
   rw[DL]
   unfold FD
   unfold A8 at hu
   rw[A62,hu]
   simp
  ·rw[Af hi]
   unfold FD
   have:decide (i<32768+(j+1))=decide (i<32768+j):=decide_eq_decide.2 (by omega)
   rw[this]
 ·rename_i hu
  refine EF fun i _=>?_
  unfold FD
  by_cases hi:i=32768+j
  ·subst hi
   unfold A8 at hu
   have hu':(decide (j<10)||(M[j]?.join).isSome)=false:=by simpa using hu
   rw[A62,hu']
   simp
  ·have:decide (i<32768+(j+1))=decide (i<32768+j):=decide_eq_decide.2 (by omega)
   rw[this]
theorem AEr {j:Nat}(p:BM wb ad S (bmR b (FD S.M j)+x) h)(hj:j<ipg)(hi:ipg≤32768)
  (K:∀ h,BM wb ad S (bmR b (FD S.M (j+1))+x) h→rec3 (.int .u16 (Dc (CS S.M) (j+1):Nat)) (.int .u16 (Dc (A8 S.M) (j+1):Nat)) (.int .u32 ((j+1:Nat):Int)) h) :
  OX Q rec2 rec3 (Pt wb) x7 x8 (.int .u32 (ipg:Int)) x11 x12 x13 x14 x16 x17 x18 x19 x20 (.int .u32 ((0:Nat):Int)) (Pt b) x25 (.int .u16 (Dc (CS S.M) j:Nat)) (.int .u16 (Dc (A8 S.M) j:Nat)) (.int .u32 (j:Int)) h:=by
 have hc1:=HS (CS S.M) j
 have hc2:=HS (A8 S.M) j
 have e1:(AD .add (.int .u32 1) (.int .u32 ((0:Nat):Int)))=fun k=>k (.int .u32 ((1:Nat):Int)):=funext fun k=>by rw[A0];rfl
 unfold OX Ucm Ucl Ucf
 have hlt:decide ((j:Int)<(ipg:Int))=true:=A04 (by omega)
 simp (disch:=omega) only[go_sem,A92,e1,hlt,B54 1 j]
 have tail:∀ (u:Nat) h,BM wb ad S (bmR b (FD S.M (j+1))+x) h→u=Dc (A8 S.M) (j+1)→∀ pv:Value,pv=(match S.M[j]?.join with|some _=>Pt (ad (j+1))|none=>.pointer none)→
   Bq .ptr true true h pv (.pointer none) fun x247=>Az x247 true (AE pv fun x250=>AC 6 x250 fun x251=>AB false 1 x251 h fun x252=>AD .and x252 (.int .u16 61440) fun x253=>AD .eql x253 (.int .u16 16384) fun x254=>AK x254
    (rec3 (.int .u16 ((Dc (CS S.M) j+1:Nat):Int)) (.int .u16 (u:Int)) (.int .u32 ((j+1:Nat):Int)) h) (rec3 (.int .u16 (Dc (CS S.M) j:Nat)) (.int .u16 (u:Int)) (.int .u32 ((j+1:Nat):Int)) h))
    (rec3 (.int .u16 (Dc (CS S.M) j:Nat)) (.int .u16 (u:Int)) (.int .u32 ((j+1:Nat):Int)) h):=by
  intro u h p hu pv hpv
  subst hu
  have K:=K h p
  rw[show Dc (CS S.M) (j+1)=Dc (CS S.M) j+(CS S.M j).toNat from rfl] at K
  cases hM:S.M[j]? with
  | none=>
   have e0:CS S.M j=false:=by unfold CS;rw[hM]
   rw[hM] at hpv
   have hpv:pv=.pointer none:=hpv
   subst hpv
   rw[e0] at K
   simp only[go_sem]
   exact K
  | some o=>
   cases o with
   | none=>
    have e0:CS S.M j=false:=by unfold CS;rw[hM]
    rw[hM] at hpv
    have hpv:pv=.pointer none:=hpv
    subst hpv
    rw[e0] at K
    simp only[go_sem]
    exact K
   | some n=>
    have e0:CS S.M j=(kindB n.mode == 16384):=by unfold CS;rw[hM]
    rw[hM] at hpv
    have hpv:pv=Pt (ad (j+1)):=hpv
    subst hpv
    rw[e0] at K
    obtain⟨nd,rr,hnd,hw,_,hmd⟩:=TY (c:=j+1) p (by omega) (by rw[A79];exact hM)
    have hmode:nd.mode=n.mode:=by rw[←hnd];rfl
    simp (disch:=omega) only[go_sem,AF hw]
    have hkk:(nd.mode &&& 61440)=kindB nd.mode:=rfl
    rw[hkk,hmode]
    by_cases hk:kindB n.mode=16384
    ·have e:decide ((kindB n.mode:Int)=16384)=true:=A04 (by omega)
     have e':(kindB n.mode == 16384)=true:=by rw[hk];rfl
     rw[e,Ak]
     rw[e'] at K
     exact K
    ·have e:decide ((kindB n.mode:Int)=16384)=false:=A08 (by omega)
     have e':(kindB n.mode == 16384)=false:=by simpa using hk
     rw[e,AU]
     rw[e'] at K
     exact K
 refine NS (AAO p (by omega) ?_)
 obtain⟨pv,hpv⟩:∃ pv:Value,pv=(match S.M[j]?.join with|some _=>Pt (ad (j+1))|none=>.pointer none):=⟨_,rfl⟩
 rw[←hpv]
 have used:A8 S.M j=true→MI Q rec2 rec3 (Pt wb) x7 x8 (.int .u32 (ipg:Int)) x11 x12 x13 x14 x16 x17 x18 x19 x20 (.int .u32 ((0:Nat):Int)) (Pt b) (.int .u16 (Dc (CS S.M) j:Nat)) (.int .u16 (Dc (A8 S.M) j:Nat)) x25 (.int .u32 (j:Int)) pv (.bool true) h:=fun hu=>by
  unfold MI Uld Unf Ucm
  have e2:(AD .add (.int .u32 4096) (.int .u32 (j/8:Nat)))=fun k=>k (.int .u32 ((4096+j/8:Nat):Int)):=funext fun k=>by rw[A0,←JR (m:=4096+j/8) (by omega)];rfl
  simp (disch:=omega) only[go_sem,e2]
  have hb:8*(4096+j/8)+j%8=32768+j:=by omega
  refine AKU (q:=4096+j/8) (s:=j%8) p (by omega) (by omega) fun h p=>?_
  rw[hb] at p
  have p:BM wb ad S (bmR b (FD S.M (j+1))+x) h:=by
   unfold bmR
   rw[OQ,A03 hu]
   exact p
  have hcu:Dc (A8 S.M) j+1=Dc (A8 S.M) (j+1):=by
   show _=Dc (A8 S.M) j+(A8 S.M j).toNat
   rw[hu];rfl
  exact tail _ h p hcu pv hpv
 by_cases h11:j+1<11
 ·have e:decide (((j+1:Nat):Int)<11)=true:=A04 (by omega)
  rw[e]
  simp only[go_sem]
  exact used (by unfold A8;rw[A04 (by omega:j<10)];rfl)
 ·have e:decide (((j+1:Nat):Int)<11)=false:=A08 (by omega)
  rw[e]
  simp only[go_sem]
  cases hM:S.M[j]?.join with
  | some n=>
   rw[hM] at hpv
   have hpv':pv=Pt (ad (j+1)):=hpv
   rw[hpv'] at used ⊢
   simp only[go_sem]
   exact used (by unfold A8;rw[hM];simp)
  | none=>
   rw[hM] at hpv
   have hpv':pv=.pointer none:=hpv
   have hu:A8 S.M j=false:=by unfold A8;rw[hM,A08 (by omega:¬j<10)];rfl
   have hcu:Dc (A8 S.M) j=Dc (A8 S.M) (j+1):=by
    show _=Dc (A8 S.M) j+(A8 S.M j).toNat
    rw[hu];rfl
   have p:BM wb ad S (bmR b (FD S.M (j+1))+x) h:=by
    unfold bmR
    rw[OQ,A05 (by rw[hu];simp)]
    exact p
   have t:=tail _ h p hcu pv (by rw[hM];exact hpv)
   rw[hpv'] at t ⊢
   simp only[go_sem]
   unfold MI Uld Unf Ucm
   simp (disch:=omega) only[go_sem] at t ⊢
   exact t
end loops
end
section
variable {h:H} {k:Value→Prop} {kt Q:Kt} {x y r:Res} {wb:Nat} {S S':PS} {ad:Nat→Nat}
attribute [local irreducible] AK Az
theorem ACS {v:Value}{bs:Bs}(p:BM wb ad S x h)(d:RdX x v bs)(hp:0<bs.length)(hm:S.pos+bs.length≤S.max)(K:∀ h,BM wb ad (S.put bs) x h→Q (.tuple #[.int .i64 (bs.length:Nat),.nilIface]) h):f98 (Pt wb) v h Q:=by
 obtain⟨iv,p⟩:=p.repI
 exact TL p d hp hm fun h p=>K h p.rep
theorem Yy {n:Nat}(p:BM wb ad S x h)(hp:n=0→S.pos≤S.B.length)(hm:S.pos+n≤S.max)(K:∀ h,BM wb ad (S.put (List.replicate n 0)) x h→Q (.tuple #[.int .i64 (n:Nat),.nilIface]) h):Xt (Pt wb) (.int .i64 (n:Int)) h Q:=by
 obtain⟨iv,p⟩:=p.repI
 exact Pb p hp hm fun h p=>K h p.rep
theorem ZK {n:Nat}(p:BM wb ad S x h)(hn:n<4294967296)(K:∀ h,BM wb ad {S with pos:=n*4096} x h→Q (.tuple #[]) h):AAn (Pt wb) (.int .u32 (n:Int)) h Q:=by
 obtain⟨s,L,tr,a,w⟩:=p
 rw[←a.wb]
 exact AAG (x:=tr+sumR ad L+x) (w.cast (by unfold FR;ac_rfl)) hn fun h w=>K h ⟨{s with dpos:=n*4096,pos:=n*4096},L,tr,⟨a.ok.ws' ⟨a.ok.ws.buf,a.ok.ws.len,a.ok.ws.max⟩ rfl,a.wb,a.ini,a.M,a.B,rfl,rfl,a.dw,a.dm,a.cur,a.inl,a.max,a.gd,a.db⟩,w.cast (by unfold FR;ac_rfl)⟩
def Pp (bo ito fi dirs:Nat):Nat→Nat
 | 0=>bo
 | 1=>bo+1
 | 2=>ito
 | 4=>fi
 | 5=>dirs
 | _=>0
def HD (f:Nat→Nat):List (Nat→Nat):=f::List.replicate 127 fun _=>0
abbrev gdR (gb:Nat)(f:Nat→Nat):Res:=pts gb (.cells ⟨(HD f).flatMap E6⟩ 226 (0,0))
section grp
variable {b gb ito bo ipg vd:Nat} {rec2:Value→Value→Value→H→Prop}
theorem Uu {f g:Nat→Nat}:Ai ⟨(HD f).flatMap E6⟩ 0 (E6 g)=(⟨(HD g).flatMap E6⟩:Array Value):=by
 unfold HD
 rw[A37,A37]
 generalize (List.replicate 127 fun _=>0:List (Nat→Nat)).flatMap E6=rest
 exact (A2 _ _ _).trans rfl
theorem AC7 {f:Nat→Nat}:0+0*12+12≤(⟨(HD f).flatMap E6⟩:Array Value).size:=by
 rw[A31]
 unfold HD
 rw[A37,A01]
 exact Nat.le_add_right 12 _
theorem AE4 (p:BM wb ad S (bmR b (fun i=>decide (i<32768))+(gdR gb (fun _=>0)+x)) h)(hB:S.B.length=S.pos)(hi:ipg≤32768)(hm:S.pos+8192≤S.max)(hvd:vd=bo+2)(hvd2:vd<32768)(hito:ito<32768)
  (K:∀ h,BM wb ad (S.app (Db (FD S.M ipg) 8192)) (gdR gb (Pp bo ito (ipg-Dc (A8 S.M) ipg) (Dc (CS S.M) ipg))+x) h→rec2 (.int .u32 ((32768:Nat):Int)) (.int .u32 (Dc (A8 S.M) ipg:Nat)) (.int .u32 ((1:Nat):Int)) h) :
  Lu Q rec2 (Pt wb) (.int .u32 (ito:Int)) (.int .u32 ((1:Nat):Int)) (.int .u32 (ipg:Int)) (.int .u32 (bo:Int)) (.int .u32 ((2:Nat):Int)) (.int .u32 (vd:Int)) (.int .u32 (vd:Int)) (.int .u32 ((1:Nat):Int)) (.slice (some ⟨gb,0,none⟩) 128 128) (.int .u32 (ipg*256/4096:Nat)) (.int .u32 ((0:Nat):Int)) (.int .u32 ((0:Nat):Int)) (.int .u32 ((0:Nat):Int)) (Pt b) (.int .u16 ((32768:Nat):Int)) (.int .u16 0) (.int .u16 0) (.int .u32 0) h:=by
 unfold Lu
 have p0:BM wb ad S (bmR b (FD S.M 0)+(gdR gb (fun _=>0)+x)) h:=by
  have e:Db (FD S.M 0) 8192=Db (fun i=>decide (i<32768)) 8192:=EF fun i _=>by
   unfold FD
   rw[A58]
   by_cases hi:i<32768<;>simp[hi]
  unfold bmR
  rw[e]
  exact p
 refine MA (fun m u4 u5 u6 h'=>∃ j,m=ipg-j∧j≤ipg∧u4=.int .u16 (Dc (CS S.M) j:Nat)∧u5=.int .u16 (Dc (A8 S.M) j:Nat)∧u6=.int .u32 (j:Nat)∧BM wb ad S (bmR b (FD S.M j)+(gdR gb (fun _=>0)+x)) h') ipg ⟨0,rfl,A39 _,rfl,rfl,rfl,p0⟩ ?_
 rintro rec m u4 u5 u6 h' ⟨j,rfl,hj,rfl,rfl,rfl,p⟩ hrec
 by_cases hlt:j<ipg
 ·exact AEr p hlt hi fun h p=>hrec (ipg-(j+1)) _ _ _ _ ⟨j+1,rfl,by omega,rfl,rfl,rfl,p⟩ (by omega)
 ·have hjn:j=ipg:=by omega
  subst hjn
  have hc1:=HS (CS S.M) j
  have hc2:=HS (A8 S.M) j
  have hbl:=En (FD S.M j) 8192
  unfold OX Ucm Ucl Ucf
  simp (disch:=omega) only[go_sem,A08,Cu (show 0<8192 by decide)]
  refine Ms (ACS (bs:=Db (FD S.M j) 8192) p (RdX.addL (.inr ⟨b,0,8192,(Db (FD S.M j) 8192).map bc,222,(0,0),0,by rw[hbl],(Res.add_zero _).symm,by rw[A25];omega,by rw[A68,←B11,A38],by omega⟩)) (by omega) (by omega) fun h p=>?_)
  have e0:(AD .mul (.int .u32 2) (.int .u32 ((0:Nat):Int)))=fun k=>k (.int .u32 ((0:Nat):Int)):=funext fun k=>by rw[Bc];rfl
  have e1:(AD .sub (.int .u16 32768) (.int .u16 ((32768:Nat):Int)))=fun k=>k (.int .u16 ((0:Nat):Int)):=funext fun k=>by rw[Bv];rfl
  rw[Jf hB] at p
  simp (disch:=omega) only[go_sem,e0,e1,A92,A58,A29]
  refine Au NM rfl (rs:=E6 (Pp bo ito (j-Dc (A8 S.M) j) (Dc (CS S.M) j))) (by kernel_rfl) ?_
  rw[RK (by omega)]
  refine DD p ⟨(HD (Pp bo ito (j-Dc (A8 S.M) j) (Dc (CS S.M) j))).flatMap E6⟩ ?_ rfl AC7 rfl fun h p=>?_
  ·rw[A92,A29];exact Uu
  ·exact K h (BM.mono (y:=bmR b (FD S.M j)) (p.cast (Res.comm _ _)))
end grp
end
section
variable {h:H} {k:Value→Prop} {kt Q:Kt} {x y r:Res} {wb:Nat} {S S':PS} {ad:Nat→Nat}
attribute [local irreducible] AK Az
section grp
variable {b gb ito bo ipg vd:Nat} {rec2:Value→Value→Value→H→Prop}
def PS.maps (S:PS)(ipg:Nat):PS:={S.app (Db (FD S.M ipg) 8192) with pos:=4096}
theorem AGA (p:BM wb ad S (gdR gb (fun _=>0)+x) h)(hB:S.B.length=S.pos)(hi:ipg≤32768)(hm:S.pos+8192≤S.max)(hvd:vd=bo+2)(hvd2:vd<32768)(hito:ito<32768)(hgd:S.gd=1)
  (K:∀ h,BM wb ad (S.app (Db (FD S.M ipg) 8192)) (gdR gb (Pp bo ito (ipg-Dc (A8 S.M) ipg) (Dc (CS S.M) ipg))+x) h→rec2 (.int .u32 ((32768:Nat):Int)) (.int .u32 (Dc (A8 S.M) ipg:Nat)) (.int .u32 ((1:Nat):Int)) h) :
  Pe Q rec2 (Pt wb) (.int .u32 (ito:Int)) (.int .u32 ((1:Nat):Int)) (.int .u32 (ipg:Int)) (.int .u32 (bo:Int)) (.int .u32 ((2:Nat):Int)) (.int .u32 (vd:Int)) (.int .u32 (vd:Int)) (.int .u32 ((1:Nat):Int)) (.slice (some ⟨gb,0,none⟩) 128 128) (.int .u32 (ipg*256/4096:Nat)) (.int .u32 ((0:Nat):Int)) (.int .u32 ((0:Nat):Int)) (.int .u32 ((0:Nat):Int)) h:=by
 unfold Pe Ucm Umk Ucl Unf
 have e1:decide (((0:Nat):Int)<((1:Nat):Int))=true:=rfl
 rw[AT,e1,Ak]
 refine DG p AAy rfl fun b h p=>?_
 rw[AKR] at p
 have f1:(AD .add (.int .u32 ((0:Nat):Int)) (.int .u32 1))=fun k=>k (.int .u32 ((1:Nat):Int)):=funext fun k=>by rw[A0];rfl
 have f2:(AD .mul (.int .u32 ((1:Nat):Int)) (.int .u32 32768))=fun k=>k (.int .u32 ((32768:Nat):Int)):=funext fun k=>by rw[Bc];rfl
 have f3:(AD .mul (.int .u32 ((0:Nat):Int)) (.int .u32 32768))=fun k=>k (.int .u32 ((0:Nat):Int)):=funext fun k=>by rw[Bc];rfl
 have e2:decide (((32768:Nat):Int)≤((vd:Nat):Int))=false:=A08 (by omega)
 have e3:decide (((0:Nat):Int)<((vd:Nat):Int))=true:=A04 (by omega)
 simp only[f1,f2,f3,BW,AT]
 rw[e2,AU,e3,Ak]
 obtain⟨r0,w,cl⟩:=p.opened
 refine AGw (b:=b) (x:=r0+(gdR gb (fun _=>0)+x)) (w.cast (Res.left_comm _ _ _)) hvd2 fun h w=>?_
 unfold Lt Ucm
 have e4:decide (((0:Nat):Int)=0)=true:=rfl
 have e5:(AD .add (.int .u32 1) (.int .u32 ((1:Nat):Int)))=fun k=>k (.int .u32 ((2:Nat):Int)):=funext fun k=>by rw[A0];rfl
 simp only[go_sem,e4,e5]
 have p:BM wb ad S (bmR b (fun i=>decide (i<vd))+(gdR gb (fun _=>0)+x)) h:=cl _ _ (w.cast (Res.left_comm _ _ _))
 unfold ABK
 refine DE (fun m u v h'=>m=0∧u=.int .u16 (vd:Nat)∧v=.int .u32 ((2:Nat):Int)∧BM wb ad S (bmR b (fun i=>decide (i<vd))+(gdR gb (fun _=>0)+x)) h') 0 ⟨rfl,rfl,rfl,p⟩ ?_
 rintro rec5 m u v h' ⟨rfl,rfl,rfl,p⟩ _
 unfold X0 Unf Ucm Uld
 obtain⟨s,L,tr,a,w⟩:=id p
 have hsg:s.gd=1:=by rw[a.gd,hgd]
 have hw:s.wb=wb:=a.wb
 have e6:decide (((2:Nat):Int)<((2:Nat):Int))=false:=rfl
 rw[←hw]
 simp only[go_sem,AF w,hsg,e5,e6]
 rw[hw]
 unfold SI Ucg
 have e7:(AD .sub (.int .u32 ((1:Nat):Int)) (.int .u32 1))=fun k=>k (.int .u32 ((0:Nat):Int)):=funext fun k=>by rw[Bv];rfl
 have e9:vd%32768=vd:=A23 hvd2
 have e10:decide (((vd:Nat):Int)≠0)=true:=A04 (by omega)
 simp (disch:=omega) only[go_sem,e7,e9,decide_true]
 rw[e10]
 unfold Td
 simp (disch:=omega) only[go_sem,e9]
 obtain⟨r0,w,cl⟩:=p.opened
 refine AEt (b:=b) (x:=r0+(gdR gb (fun _=>0)+x)) (w.cast (Res.left_comm _ _ _)) hvd2 rfl fun h w=>?_
 have p:BM wb ad S (bmR b (fun i=>decide (i<32768))+(gdR gb (fun _=>0)+x)) h:=cl _ _ (w.cast (Res.left_comm _ _ _))
 exact AE4 p hB hi hm hvd hvd2 hito K
theorem AGD (p:BM wb ad S (gdR gb (fun _=>0)+x) h)(hB:S.B.length=S.pos)(hi:ipg≤32768)(hm:S.pos+8192≤S.max)(hvd:vd=bo+2)(hvd2:vd<32768)(hito:ito<32768)(hgd:S.gd=1)
  (K:∀ h,BM wb ad (S.maps ipg) (gdR gb (Pp bo ito (ipg-Dc (A8 S.M) ipg) (Dc (CS S.M) ipg))+x) h→S5 Q (Pt wb) (.int .u32 ((1:Nat):Int)) (.int .u32 (ipg:Int)) (.int .u32 (vd:Int)) (.int .u32 ((32768:Nat):Int)) (.int .u32 (Dc (A8 S.M) ipg:Nat)) (.slice (some ⟨gb,0,none⟩) 128 128) (.int .i64 ((128:Nat):Int)) (.int .i64 0) h) :
  VT Q (Pt wb) (.int .u32 (ito:Int)) (.int .u32 ((1:Nat):Int)) (.int .u32 (ipg:Int)) (.int .u32 (bo:Int)) (.int .u32 ((2:Nat):Int)) (.int .u32 (vd:Int)) (.int .u32 (vd:Int)) (.int .u32 ((1:Nat):Int)) (.slice (some ⟨gb,0,none⟩) 128 128) (.int .u32 (ipg*256/4096:Nat)) (.int .u32 0) (.int .u32 0) (.int .u32 0) h:=by
 unfold VT
 refine MA (fun m u v t h'=>(m=1∧u=.int .u32 ((0:Nat):Int)∧v=.int .u32 ((0:Nat):Int)∧t=.int .u32 ((0:Nat):Int)∧BM wb ad S (gdR gb (fun _=>0)+x) h')∨
   (m=0∧u=.int .u32 ((32768:Nat):Int)∧v=.int .u32 (Dc (A8 S.M) ipg:Nat)∧t=.int .u32 ((1:Nat):Int)∧BM wb ad (S.app (Db (FD S.M ipg) 8192)) (gdR gb (Pp bo ito (ipg-Dc (A8 S.M) ipg) (Dc (CS S.M) ipg))+x) h')) 1 (.inl ⟨rfl,rfl,rfl,rfl,p⟩) ?_
 rintro rec m u v t h' (⟨rfl,rfl,rfl,rfl,p⟩|⟨rfl,rfl,rfl,rfl,p⟩) hrec
 ·exact AGA p hB hi hm hvd hvd2 hito hgd fun h p=>hrec 0 _ _ _ _ (.inr ⟨rfl,rfl,rfl,rfl,p⟩) (by omega)
 ·unfold Pe Ucm Umk Ucl Unf
  have e1:decide (((1:Nat):Int)<((1:Nat):Int))=false:=rfl
  have hz:(vd-bo-2)*4096=0:=by omega
  have hbl:=En (FD S.M ipg) 8192
  simp (disch:=omega) only[go_sem,e1,hz]
  have hB':(S.app (Db (FD S.M ipg) 8192)).B.length=(S.app (Db (FD S.M ipg) 8192)).pos:=by
   show (S.B++Db (FD S.M ipg) 8192).length=S.pos+(Db (FD S.M ipg) 8192).length
   rw[A01,hB]
  refine NI (Yy (n:=0) p (fun _=>by omega) (by show S.pos+(Db (FD S.M ipg) 8192).length+0≤S.max;omega) fun h p=>?_)
  rw[Jf hB'] at p
  have hs:(S.app (Db (FD S.M ipg) 8192)).app (List.replicate 0 0)=S.app (Db (FD S.M ipg) 8192):=by
   unfold PS.app
   simp
  rw[hs] at p
  simp only[go_sem]
  refine Jt (ZK (n:=1) p (by decide) fun h p=>?_)
  have p:BM wb ad (S.maps ipg) (gdR gb (Pp bo ito (ipg-Dc (A8 S.M) ipg) (Dc (CS S.M) ipg))+x) h:=p
  obtain⟨s,L,tr,a,w⟩:=id p
  have hw:s.wb=wb:=a.wb
  rw[←hw]
  simp only[go_sem,AF w]
  rw[hw]
  exact K h p
end grp
end
section
variable {h:H} {k:Value→Prop} {kt Q:Kt} {x y r:Res} {wb:Nat} {S S':PS} {ad:Nat→Nat}
attribute [local irreducible] AK Az
theorem NH {α:Type}{g:α→List Value}{n:Nat}(hg:∀ a,(g a).length=n):∀ (l:List α) (i:Nat) (a:α),l[i]? = some a→(⟨l.flatMap g⟩:Array Value).extract (i*n) (i*n+n)=⟨g a⟩
 | [],i,a,h=>by simp at h
 | b::l,0,a,h=>by
  simp only[A51,A26] at h
  subst h
  apply A56
  simp only[A37,B42,A44,A92,A29,B35,A68]
  rw[←hg b,A24 (A07 _),A38]
 | b::l,i+1,a,h=>by
  have ih:=NH hg l i a (by simpa using h)
  apply A56
  have ih':=A76 Array.toList ih
  simp only[A37,B42,A44,A62] at ih' ⊢
  have e:(i+1)*n=(g b).length+i*n:=by rw[hg b,A93,B34,B54]
  rw[e,List.drop_append,show (g b).length+i*n-(g b).length=i*n by omega,A59 (show (g b).length≤(g b).length+i*n by omega),A34]
  exact ih'
theorem KS {α β:Type}{g:α→List β}{n:Nat}(hg:∀ a,(g a).length=n):∀ l:List α,(l.flatMap g).length=l.length*n
 | []=>by simp
 | a::l=>by rw[A37,A01,KS hg l,hg,A19,A93,B34,B54]
theorem Ky (f:Nat→Nat):(E6 f).length=12:=rfl
theorem F5 (f:Nat→Nat):(Pr f).length=32:=rfl
theorem KG (f:Nat→Nat):(HD f).length=128:=by simp[HD]
def Bp (f:Nat→Nat)(i:Nat):Bs:=((HD f).take i).flatMap Pr
theorem Dh (f:Nat→Nat)(i:Nat)(hi:i≤128):(Bp f i).length=32*i:=by
 unfold Bp
 rw[KS F5,A20,KG]
 omega
theorem Tk {B m:Bs}{p:Nat}(h:p+m.length≤B.length):BG B p m=setL B p m:=by
 unfold BG
 rw[show p+m.length-B.length=0 by omega]
 simp
theorem AEv {s:WS}{gb:Nat}{f:Nat→Nat}{x8 x9 x14 x19 x20:Value}{B:Bs}(ok:s.OK)(w:AN (s.res+(gdR gb f+x)) h)(hB:s.B=B)(hdp:s.dpos=4096)(hl:8192≤B.length)
  (K:∀ (rec1:Value→H→Prop) dv r h,WS.OK {s with dv:=dv,dr:=r,B:=setL B 4096 (Bp f 128),dpos:=8192}→AN (WS.res {s with dv:=dv,dr:=r,B:=setL B 4096 (Bp f 128),dpos:=8192}+(gdR gb f+x)) h →
   Mb Q rec1 (Pt s.wb) x8 x9 x14 x19 x20 (.slice (some ⟨gb,0,none⟩) 128 128) (.int .i64 ((128:Nat):Int)) (.int .i64 ((128:Nat):Int)) h) :
  S5 Q (Pt s.wb) x8 x9 x14 x19 x20 (.slice (some ⟨gb,0,none⟩) 128 128) (.int .i64 ((128:Nat):Int)) (.int .i64 0) h:=by
 have hmax:=ok.max
 have hlen:=ok.len
 have hBl:(setL B 4096 ([]:Bs)).length=B.length:=by rw[KB]
 unfold S5
 refine Ba (fun m u h'=>∃ (i:Nat) (dv:Value) (r:Res),m=128-i∧i≤128∧u=.int .i64 (i:Nat)∧WS.OK {s with dv:=dv,dr:=r,B:=setL B 4096 (Bp f i),dpos:=4096+32*i} ∧
   AN (WS.res {s with dv:=dv,dr:=r,B:=setL B 4096 (Bp f i),dpos:=4096+32*i}+(gdR gb f+x)) h') 128 ⟨0,s.dv,s.dr,rfl,by omega,rfl,?_,?_⟩ ?_
 ·have e:Bp f 0=[]:=rfl
  rw[e,KB]
  exact⟨by rw[←hB];exact ok.buf,by rw[←hB];exact ok.len,ok.max⟩
 ·refine w.cast ?_
  unfold WS.res
  rw[hdp]
 ·rintro rec m u h' ⟨i,dv,r,rfl,hi,rfl,oki,w⟩ hrec
  by_cases hlt:i<128
  ·obtain⟨g,hg⟩:∃ g,(HD f)[i]? = some g:=⟨_,A00 (by rw[KG];exact hlt)⟩
   have hdl:=Dh f i (by omega)
   have hsl:(setL B 4096 (Bp f i)).length=B.length:=AS (by omega)
   unfold Mb Ucm Umk Uff Uld Ucl Ukp Unf Ufl
   have e1:decide ((i:Int)<((128:Nat):Int))=true:=A04 (by omega)
   rw[AT,e1,Ak,RK hlt,A29,Am (w.find (b:=gb)) (by rw[A31,KS Ky,KG];omega),NH Ky _ _ _ hg]
   refine Ah w NM rfl fun tb h w=>?_
   refine AL w ⟨E6 g⟩ ((A2 _ _ _).trans rfl) rfl (by exact A07 12) rfl fun h w=>?_
   simp only[go_sem,AF w]
   have hex:(⟨E6 g⟩:Array Value).extract 0 (0+12)=⟨E6 g⟩:=rfl
   rw[Am (w.find (b:=tb)) (by exact A07 12),hex]
   refine AAA (AH7 w fun v r2 h bv w=>⟨Ad w rfl,?_⟩)
   have k1:∀ A T W D R G X:Res,A+(T+(W+(D+R)+(G+X)))=D+(R+(W+(A+(T+(G+X))))):=by intros;ac_rfl
   refine Nt (ACY (news:=Pr g) (T:=121) oki.buf (w.cast (k1 _ _ _ _ _ _ _)) (bv.rdX.addL.addR) (by rw[F5];show 4096+32*i+32≤140737488355328;omega) (by show (setL B 4096 (Bp f i)).length≤140737488355328;rw[hsl,←hB];omega) (by rw[F5];omega) fun dv' r' h bv' w=>?_)
   simp (disch:=omega) only[go_sem]
   have hB2:BG (setL B 4096 (Bp f i)) (4096+32*i) (Pr g)=setL B 4096 (Bp f (i+1)):=by
    rw[Tk (by rw[hsl,F5];omega),Dd (by omega) (by rw[hdl,F5];omega)]
    congr 1
    unfold Bp
    rw[A85,hg]
    simp
   have bv2:BufV dv' (setL B 4096 (Bp f (i+1))) r':=by rw[←hB2];exact bv'
   have k2:∀ A T W D R G X:Res,D+(R+(W+(A+(T+(G+X)))))=(W+(D+R)+(G+X))+(A+T):=by intros;ac_rfl
   refine hrec (128-(i+1)) _ _ ⟨i+1,dv',r',rfl,by omega,rfl,⟨bv2,?_,hmax⟩,?_⟩ (by omega)
   ·show (setL B 4096 (Bp f (i+1))).length≤s.max
    rw[AS (by rw[Dh f (i+1) (by omega)];omega),←hB];exact hlen
   ·have hp:4096+32*i+(Pr g).length=4096+32*(i+1):=by rw[F5];omega
    have w2:=w.cast (k2 _ _ _ _ _ _ _)
    rw[show ({s with dv:=dv,dr:=r,B:=setL B 4096 (Bp f i),dpos:=4096+32*i}:WS).dpos=4096+32*i from rfl,hp] at w2
    exact w2.left
  ·have hi':i=128:=by omega
   subst hi'
   exact K rec dv r h' oki w
end
section
variable {h:H} {k:Value→Prop} {kt Q:Kt} {x y r:Res} {wb:Nat} {S S':PS} {ad:Nat→Nat}
attribute [local irreducible] AK Az
def JQ (ipg vd fi inc:Nat):Nat→Nat
 | 0=>ipg
 | 1=>vd
 | 4=>fi
 | 6=>2
 | 7=>2
 | 8=>32768
 | 9=>32768
 | 10=>ipg
 | 15=>61267
 | 16=>1
 | 17=>1
 | 22=>1
 | 25=>11
 | 26=>256
 | 28=>520
 | 29=>inc
 | 30=>4170
 | 180=>24
 | 181=>24
 | 187=>31
 | 357=>11
 | _=>0
theorem Sl:AG TP 242=some (.agg ⟨HE fun _=>0⟩):=by kernel_rfl
theorem Ar {c:Array Value}{l:List Value}(h:l.length=c.size):Ai c 0 l=⟨l⟩:=by
 apply B02
 intro i
 rw[DZ _ _ _ _ (by omega)]
 have e:(⟨l⟩:Array Value)[i]? = l[i]?:=by simp
 rw[e]
 by_cases hi:i<l.length
 ·rw[A03 (by omega),B35]
 ·rw[A05 (by omega),A40 (by omega),Array.getElem?_eq_none (by omega)]
theorem Vv {ipg vd fi inc:Nat}(h1:ipg<4294967296)(h2:vd<4294967296)(h3:fi<4294967296)(h4:inc<4294967296):RL (JQ ipg vd fi inc):=by
 have hz:∀ i,JQ ipg vd fi inc i<18446744073709551616:=fun i=>by unfold JQ;split<;>omega
 refine⟨fun i hi=>?_,hz⟩
 simp only[A32,B45,or_false] at hi
 rcases hi with rfl|rfl|rfl|rfl|rfl|rfl|rfl|rfl|rfl|rfl|rfl|rfl<;>(first|exact Nat.zero_lt_succ _|(show 31<256;decide))
theorem Yt (f:Nat→Nat):(HE f).length=465:=by
 have:=BP (f:=f)
 rwa [A31] at this
theorem Gm (f:Nat→Nat):(HH f).length=1024:=by
 unfold HH
 simp only[A01,BI,Av,A61,A09,A57,show ∀ n,(E5 n).length=8 from fun _=>rfl]
def FF:Bs:=List.replicate 4096 0
theorem G2:FF.length=4096:=A09 ..
def Bz (F:Nat→Nat):Bs:=setL FF 1024 (HH F)
theorem FT (F:Nat→Nat):(Bz F).length=4096:=by
 unfold Bz
 rw[AS (by rw[Gm,G2];decide),G2]
theorem AAQ (F:Nat→Nat):setL FF (0+1024*1) (HH F)=Bz F:=rfl
attribute [local irreducible] HE HH Bz FF
theorem ABU {s:WS}{F:Nat→Nat}{bb sb vd:Nat}(ok:s.OK)(w:AN (s.res+(pts bb (.cells (bcs FF) 205 (0,0))+(pts sb (.cells ⟨HE F⟩ 242 (0,0))+x))) h)(hF:RL F)(hl:4096≤s.B.length)(hvd:vd<4294967296)
  (K:∀ dv r d p h,WS.OK {s with dv:=dv,dr:=r,B:=setL s.B 0 (Bz F),dpos:=d,pos:=p}→AN (WS.res {s with dv:=dv,dr:=r,B:=setL s.B 0 (Bz F),dpos:=d,pos:=p}+x) h→Q .nilIface h) :
  OG Q (Pt s.wb) (.int .u32 (vd:Int)) (Pt bb) (Pt sb) h:=by
 have hmax:=ok.max
 have hlen:=ok.len
 have e4:(Value.int .i64 1024)=.int .i64 ((1024:Nat):Int):=rfl
 have hs:=BP (f:=F)
 have hex:(⟨HE F⟩:Array Value).extract 0 (0+465)=⟨HE F⟩:=by rw[←hs,A29,Array.extract_size]
 unfold OG Ucl Unf
 rw[e4,Hs (by omega),Am (w.find (b:=sb)) (by rw[hs];exact A07 _),hex]
 refine AAo (AHQ hF w fun v r h bv w=>?_)
 have k1:∀ R S B C X:Res,R+(S+(B+(C+X)))=B+(R+(S+(C+X))):=by intros;ac_rfl
 refine FN (off:=0+1024*1) (all:=FF) (w.cast (k1 _ _ _ _ _)) bv.rdX.addL (by rw[Gm,G2];decide) (by rw[Gm];decide) fun h w=>?_
 have k2:∀ R S B C X:Res,B+(R+(S+(C+X)))=S+(B+(C+(R+X))):=by intros;ac_rfl
 refine Jt (AAG (n:=0) (s:=s) (w.cast (k2 _ _ _ _ _)) (by decide) fun h w=>?_)
 rw[Cu (show 0<4096 by decide)]
 have hbl:=FT F
 rw[AAQ] at w
 have w:AN (WS.res {s with dpos:=0,pos:=0}+(pts bb (.cells (bcs (Bz F)) 205 (0,0))+(pts sb (.cells ⟨HE F⟩ 242 (0,0))+(r+x)))) h:=w
 have d:RdX (pts bb (.cells (bcs (Bz F)) 205 (0,0))+(pts sb (.cells ⟨HE F⟩ 242 (0,0))+(r+x))) (.slice (some ⟨bb,0,none⟩) 4096 4096) (Bz F):=
  RdX.addL (.inr ⟨bb,0,4096,(Bz F).map bc,205,(0,0),0,by rw[hbl],(Res.add_zero _).symm,by rw[A25];omega,by rw[A68,←B11,A38],by omega⟩)
 have hput:BG s.B 0 (Bz F)=setL s.B 0 (Bz F):=Tk (by omega)
 refine Ms (s98 (s:={s with dpos:=0,pos:=0}) (news:=Bz F) ⟨ok.buf,ok.len,ok.max⟩ w d (by omega) (by rw[hbl];show 0+4096≤s.max;omega) rfl fun dv r2 h okw w=>?_)
 have okw:WS.OK {s with dv:=dv,dr:=r2,B:=BG s.B 0 (Bz F),dpos:=0+(Bz F).length,pos:=0+(Bz F).length}:=okw
 have w:AN (WS.res {s with dv:=dv,dr:=r2,B:=BG s.B 0 (Bz F),dpos:=0+(Bz F).length,pos:=0+(Bz F).length}+(pts bb (.cells (bcs (Bz F)) 205 (0,0))+(pts sb (.cells ⟨HE F⟩ 242 (0,0))+(r+x)))) h:=w
 rw[hput] at okw w
 simp only[go_sem]
 refine Jt (AAG (s:={s with dv:=dv,dr:=r2,B:=setL s.B 0 (Bz F),dpos:=0+(Bz F).length,pos:=0+(Bz F).length}) w hvd fun h w=>?_)
 simp only[go_sem,AF w]
 have k3:∀ R S B C X:Res,S+(B+(C+(R+X)))=S+X+(B+(C+R)):=by intros;ac_rfl
 exact K dv r2 (vd*4096) (vd*4096) h ⟨okw.buf,okw.len,okw.max⟩ (w.cast (k3 _ _ _ _ _)).left
end
end Go.Proofs.YtollddkkdgoonaaGreatDoor
