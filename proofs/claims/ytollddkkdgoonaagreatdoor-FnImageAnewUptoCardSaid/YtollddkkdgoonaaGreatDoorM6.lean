/- A step. No condition. -/
import Derived.Test.YtollddkkdgoonaaGreatDoorM5
namespace Go.Proofs.YtollddkkdgoonaaGreatDoor
open Go
set_option linter.unusedVariables false
set_option linter.unusedSimpArgs false
set_option linter.defProp false
set_option maxRecDepth 100000
variable {h:H} {k:Value->Prop} {kt Q:Kt} {x y z r:Res}
structure PN where
 num:Nat
 size:Nat
 at_:Nat
 ct:Nat
 mt:Nat
 cr:Nat
 en:Nat
 uid:Nat
 gid:Nat
 ek:Nat
 xblk:Nat
 bu:Nat
 d7:Nat
 d8:Nat
 ed:Nat
 ck:Bs
 fe:Bs
 kids:Option (List (Bs×Nat))
def Nd.pn (n:Nd):PN:=⟨n.num,n.size,n.at_,n.ct,n.mt,n.cr,n.en,n.uid,n.gid,n.ek,n.xblk,n.bu,n.d7,n.d8,n.ed,n.ck,n.fe,n.dir.map (·.2)⟩
def lnkB (f:FL):Bool:=decide (kindB (modeK f.en)=40960/\59<f.link.length)
def Py (f:FL)(pos:Nat):Nat:=(upB (pos+f.link.length)-pos)/4096
def mkP (p:PN)(f:FL)(inl:Bool)(al:AL)(pos:Nat):PN:=
 let kd:=kindB (modeK f.en)
 {p with en:=CC f.en,size:=Pj kd f.size f.link,fe:=TM inl kd f.size al,ed:=if lnkB f=true then 786432 else LQ inl kd f.size,ck:=if lnkB f=true then extRoot (Py f pos) (pos/4096) else LG inl kd f.size f.link,bu:=if lnkB f=true then p.bu+Py f pos else p.bu}
structure Te (s s':WS) (f:FL):Prop where
 ok:s'.OK
 eq:if lnkB f=true then ∃ dv dr nm,s' = {s with dv:=dv,dr:=dr,nm:=nm,B:=padB (putL s.B s.pos f.link) (s.pos+f.link.length),d9:=upB (s.pos+f.link.length),pos:=upB (s.pos+f.link.length),dw:=0,dm:=0} else s'=s
structure AOj (s:WS) (n n':Nd) (f:FL) (al:AL):Prop where
 pn:n'.pn=mkP (n.of f (modeK f.en)).pn f s.inl al s.pos
 dir:n'.dir=n.dir
 bd:BufV n'.data n'.ck n'.dr
 bx:BufV n'.ff n'.fe n'.xr
def notA (af lo:AL):AL:=lo.filter fun a=>(lookE af a.1).isNone
def AGs (es:XM)(nm:Bs):lookE (GI es) nm=(lookE es nm).map (·.2):=by
 unfold lookE GI;rw[List.find?_map,Option.map_map,Option.map_map];rfl
def ANc {es es2:XM}:GI (es++Dk es es2)=GI es++notA (GI es) (GI es2):=by
 unfold GI Dk notA;rw[H2];congr 1;rw[List.filter_map];congr 1;apply J8;intro e _;show (lookE es e.1).isNone=(lookE (GI es) e.1).isNone;rw[AGs];cases lookE es e.1<;>rfl
theorem Mw {α β:Type}(f:α->β):∀ (al:List β) (U:List α),al.Perm (U.map f)->∃ S:List α,S.Perm U/\S.map f=al
 | [],U,h=>by
  have:U=[]:=List.map_eq_nil_iff.1 (List.nil_perm.1 h);exact⟨[],by rw[this],rfl⟩
 | a::al,U,h=>by
  obtain⟨u,e,b⟩:=V1.1 (h.mem_iff.1 T0);obtain⟨s,t,rfl⟩:=List.append_of_mem e;have c:(s++u::t).Perm (u::(s++t)):=List.perm_middle;have d:(a::al).Perm (f u::(s++t).map f):=h.trans (c.map f);rw[b] at d;obtain⟨S,g,i⟩:=Mw f al _ ((List.perm_cons _).1 d);exact⟨u::S,(g.cons u).trans c.symm,by rw[Q1,b,i]⟩
def ALJ (a:Bs×Bs):dnX (toX a)=a:=by
 show (KL PX (compL a.1 PX).1 (compL a.1 PX).2,a.2)=a;rw[UE]
section
variable {s:WS} {n:Nd} {nb kd fb fm:Nat} {f:FL} {es:XM} {lo al:AL}
def AQ6 (g:HU x)(hv:EX x es)(bh:es.length<=400)(hb:∀ e∈al,e.1.length<100000/\e.2.length<100000)(hS:al.Pairwise fun a b=>Op.bytesLess a.1 b.1=true)(hP:al.Perm (GI es++notA (GI es) lo))(bx:RdX x n.ff (xinA lo))(ah:needs (lo.map toX)<=96)(bk:lo.length<=400)(o:∀ a∈lo,(compL a.1 PX).2≠[])(c:(lo.map (·.1)).Nodup)
  (w:AN (s.res+(pts nb (.cells n.cells 197 (0,0))+(pts fb (.cells ⟨f.cells (.map (some fm))⟩ 191 (0,0))+(pts fm (mapO es)+x)))) h) (hm:n.en=modeK f.en) (aw:f.en<65536) (ar:kd=kindB (modeK f.en)) (ao:n.ed=262144) (t:n.data=.slice none 0 0)
  (hk:kindOk kd) (az:f.size<=137438953472) (au:f.link.length<=100000) (ae:needs ((sdA s.inl kd f.size++al).map toX)<=96)
  (K:∀ dv dr sb xs y h,BufV dv (LG s.inl kd f.size f.link) dr->xs.OK->xs.il.map XA.key=((sdA s.inl kd f.size++al).map toX).map XA.key->xs.bl=[]->(∀ a∈xs.il,RdX (dr+(y+x)) a.v a.bs/\a.nm.length<256/\a.ix<256/\a.bs.length<100000)->
   AN (s.res+(pts nb (.cells (Nd.cells {n with en:=CC f.en,ff:=.slice none 0 0,data:=dv,ed:=LQ s.inl kd f.size}) 197 (0,0))+(XS.res sb xs+(pts fb (.cells ⟨f.cells (.map (some fm))⟩ 191 (0,0))+(dr+(y+x)))))) h->LP Q (Pt s.wb) (Pt fb) (Pt nb) (cU16 (kd:Int)) (Pt sb) (AB (Pj kd f.size f.link:Nat)) h) :
  iq Q (Pt s.wb) (Pt fb) (Pt nb) (cU16 (kd:Int)) h:=by
 have rest:∀ (em:Nat) (es2:XM) (y:Res) (h:H),GI es2=lo->EX x es2->AN (pts em (mapO es2)+(y+(s.res+(pts nb (.cells n.cells 197 (0,0))+(pts fb (.cells ⟨f.cells (.map (some fm))⟩ 191 (0,0))+(pts fm (mapO es)+x)))))) h->ip Q (Pt s.wb) (Pt fb) (Pt nb) (cU16 (kd:Int)) (.map (some em)) h:=by
  intro em es2 y h p bg w;rw[<-p,<-ANc] at hP;obtain⟨S,ai,d⟩:=Mw (fun e:Bs×(Vz×Bs)=>(e.1,e.2.2)) al _ hP;have q:GI S=al:=d;have bi:es2.length=lo.length:=by rw[<-p];unfold GI;rw[Z0]
  refine AQ5 (x:=y+x) (es2:=es2) (S:=S) (fm:=fm) (em:=em) g.bf ?_ ai hv.bf bg.bf ?_ (by omega) (fun e he=>?_) (w.cast (by ac_rfl)) hm aw ar ao t hk az au (by rw[q];exact ae) fun dv dr sb xs y2 h k1 k2 k3 k4 k5 w=>?_
  ·rw[<-d,E6] at hS;exact hS
  ·have:es2.map (·.1)=lo.map (·.1):=by rw[<-p];unfold GI;rw[D5];rfl
   rw[this];exact c
  ·have:=hb (e.1,e.2.2) (by rw[<-d];exact V1.2 ⟨e,he,rfl⟩);exact this
  ·rw[q] at k3;have e1:dr+(y2+(y+x))=dr+((y2+y)+x):=by rw[Res.assoc]
   rw[e1] at k5;exact K dv dr sb xs (y2+y) h k1 k2 k3 k4 k5 (w.cast (by rw[e1]))
 unfold iq AW;refine Nm w fun em h w=>?_;rw[Gw,AG];refine Af w (u:=n.ff) rfl ?_;obtain⟨xa,xc,hx⟩:=bx.len;have ln:∀ k:Vz->Prop,DM n.ff k=k (AB ((xinA lo).length:Nat)):=fun k=>by rw[hx,As]
 rw[ln,Ah];refine AS (fun hc=>?_) (fun hc=>?_)
 ·have ay:lo≠[]:=fun e=>by rw[e] at hc;exact absurd hc (by show ¬(((0:Nat):Int)>0);omega)
  have hB:xinA lo=Ag 3925999616++(FG 100 (lo.map toX)++(zs (100-needs (lo.map toX))++Ey (lo.map toX))):=by
   unfold xinA;rw[F0 ay];exact La ah
  have ev:=Gm (lo.map toX) 100;have v:(lo.map toX).map dnX=lo:=by
   rw[D5]
   conv=>rhs;rw[<-List.map_id lo]
   exact Q4 fun a _=>ALJ a
  have bj:(xinA lo).length=104:=by
   rw[hB];simp only[C0,M0,BK];omega
  rw[Gw,AG];refine Af w (u:=n.ff) rfl ?_;refine bx.slice (i:=4) (j:=(xinA lo).length) rfl rfl (by omega) (I0 _) fun v1 d1=>?_;rw[L1,hB,List.drop_left' (BK _)] at d1;refine AFa (AR4 (l:=lo.map toX) (m:=100-needs (lo.map toX)) (r:=s.res+(pts nb (.cells n.cells 197 (0,0))+(pts fb (.cells ⟨f.cells (.map (some fm))⟩ 191 (0,0))+pts fm (mapO es)))) (em:=em) d1 rfl (by omega) (by omega) (fun a ha=>?_) ?_ g (w.cast (by ac_rfl)) fun es2 y h e1 e2 w=>?_)
  ·obtain⟨b,aj,rfl⟩:=V1.1 ha;exact⟨o b aj,Ka _⟩
  ·rw[v];exact c
  ·rw[v] at e1;exact rest em es2 y h e1 e2 (w.cast (by ac_rfl))
 ·have h0:lo=[]:=by
   rcases lo with _|⟨a,l⟩
   ·rfl
   ·exfalso;have:xinA (a::l)=NM ((a::l).map toX):=F0 (by simp);rw[this,Ub ah] at hc;omega
  subst h0;exact rest em [] 0 h rfl (fun e he=>by cases he) (w.cast (by rw[Res.zero_add];rfl))
def ARB {xm:Vz}{rm:Res}(ok:s.OK)(g:HU x)(mv:MvR xm es rm)(hv:EX x es)(p:es.length<=400)(hb:∀ e∈al,e.1.length<100000/\e.2.length<100000)(hS:al.Pairwise fun a b=>Op.bytesLess a.1 b.1=true)(hP:al.Perm (GI es++notA (GI es) lo))(bx:RdX x n.ff (xinA lo))(ar:needs (lo.map toX)<=96)(ao:lo.length<=400)(j:∀ a∈lo,(compL a.1 PX).2≠[])(t:(lo.map (·.1)).Nodup)
  (w:AN (s.res+(pts nb (.cells n.cells 197 (0,0))+(pts fb (.cells ⟨f.cells xm⟩ 191 (0,0))+(rm+x)))) h) (u:f.en<65536) (hk:kindOk (kindB (modeK f.en))) (au:f.size<=137438953472) (q:f.link.length<=100000) (c:needs ((sdA s.inl (kindB (modeK f.en)) f.size++al).map toX)<=96)
  (h1:f.at_.ok) (h2:f.ct.ok) (h3:f.mt.ok) (h4:f.cr.ok) (aw:n.xblk=0) (ah:n.bu<1000000) (hL:lnkB f=true->s.ini=true/\s.cur=.pointer none/\s.d9=s.pos/\s.pos%4096=0/\s.B.length<=s.pos/\s.pos+f.link.length+4096<=s.max)
  (K:∀ n' s' fm y h,AOj s n n' f al->Te s s' f->AN (s'.res+(pts nb (.cells n'.cells 197 (0,0))+(n'.dr+(n'.xr+(pts fb (.cells ⟨f.cells (.map (some fm))⟩ 191 (0,0))+(y+x)))))) h->UQ Q (Pt s.wb) (Pt nb) h) :
  UP Q (Pt s.wb) (Pt fb) (Pt nb) (cU16 (modeK f.en:Nat)) (cU16 (kindB (modeK f.en):Nat)) h:=by
 have aj:=ADl (Dj u).1;refine AQ7 (f:=f) (x:=s.res+x) mv (w.cast (by ac_rfl)) h1 h2 h3 h4 fun fm h w=>?_;refine AQ6 (n:=n.of f (modeK f.en)) (fm:=fm) g hv p hb hS hP bx ar ao j t (w.cast (by ac_rfl)) rfl u rfl rfl rfl hk au q c fun dv dr sb xs y h bd az d ai v w=>?_;have ae:Vr xs.il=TM s.inl (kindB (modeK f.en)) f.size al:=AOa d;refine AQ3 (fb:=fb) (n:={n.of f (modeK f.en) with en:=CC f.en,ff:=.slice none 0 0,data:=dv,ed:=LQ s.inl (kindB (modeK f.en)) f.size}) (x:=s.res+(pts fb (.cells ⟨f.cells (.map (some fm))⟩ 191 (0,0))+(dr+(y+x)))) az (w.cast (by ac_rfl)) ai aw rfl (by rw[MV d];exact c) (fun a ha=>⟨(v a ha).1.bf.bf,(v a ha).2⟩) aj
  (by
    unfold Pj;split;· omega
    split<;>omega) (fun hn xv xr h bx w=>?_) (fun l o xv xr h bx w=>?_)
 ·have p1:∀ N X S W F D Y x:Res,N+(X+(S+(W+(F+(D+(Y+x))))))=W+(N+(D+(X+(F+((S+Y)+x))))):=by intros;ac_rfl
  have o:lnkB f=false:=by
   unfold lnkB;refine J0 fun hh=>hn ⟨hh.1,?_⟩;unfold Pj;rw[F0 (by omega),D0 hh.1];exact hh.2
  rw[ae] at bx;refine K {n.of f (modeK f.en) with en:=CC f.en,ff:=xv,fe:=TM s.inl (kindB (modeK f.en)) f.size al,xr:=xr,data:=dv,ck:=LG s.inl (kindB (modeK f.en)) f.size f.link,dr:=dr,ed:=LQ s.inl (kindB (modeK f.en)) f.size,size:=Pj (kindB (modeK f.en)) f.size f.link} s fm (XS.res sb xs+y) h ⟨?_,rfl,bd,bx⟩ ⟨ok,by rw[o];rfl⟩ (w.cast (p1 _ _ _ _ _ _ _ _));unfold mkP;rw[o];rfl
 ·have p2:∀ N X S W R:Res,N+(X+(S+(W+R)))=W+(N+(X+(S+R))):=by intros;ac_rfl
  have p3:∀ W N E Y2 X S F D Y x:Res,W+(N+(E+(Y2+(X+(S+(F+(D+(Y+x))))))))=W+(N+(E+(X+(F+((Y2+(S+(D+Y)))+x))))):=by intros;ac_rfl
  have i:Pj (kindB (modeK f.en)) f.size f.link=f.link.length:=by unfold Pj;rw[F0 (by omega),D0 l]
  rw[i] at o w ⊢;have m:lnkB f=true:=H0 ⟨l,o⟩;obtain⟨l1,l2,l5,l6,l7,l8⟩:=hL m;have hF:LQ s.inl (kindB (modeK f.en)) f.size=262144:=by
   unfold LQ inlK;rw[l];simp
  rw[ae] at bx;refine AOH (n:={n.of f (modeK f.en) with en:=CC f.en,ff:=xv,data:=dv,ed:=LQ s.inl (kindB (modeK f.en)) f.size,size:=f.link.length}) (fb:=fb) (fc:=f.cells (.map (some fm))) (lk:=f.link) (x:=xr+(XS.res sb xs+(pts fb (.cells ⟨f.cells (.map (some fm))⟩ 191 (0,0))+(dr+(y+x))))) ok rfl l1 l2 l5 l6 l7 (by omega) q l8 hF ah (w.cast (p2 _ _ _ _ _)) fun s' ev er y2 h he ay be w=>?_;refine K {n.of f (modeK f.en) with en:=CC f.en,ff:=xv,fe:=TM s.inl (kindB (modeK f.en)) f.size al,xr:=xr,data:=ev,ck:=extRoot (Py f s.pos) (s.pos/4096),dr:=er,ed:=LQ s.inl (kindB (modeK f.en)) f.size ||| 524288,size:=f.link.length,bu:=n.bu+Py f s.pos} s' fm (y2+(XS.res sb xs+(dr+y))) h ⟨?_,rfl,be,bx⟩ ⟨ay,by rw[m];exact he⟩ (w.cast (p3 _ _ _ _ _ _ _ _ _ _));unfold mkP;rw[m,hF];dsimp only;rw[i];rfl
end
def AHs:Am TP 197=some (.agg ⟨[AB 0,AH 0,AH 0,AH 0,AH 0,Al,Ex,Al,Al,Al,Al,Al,Al,Al,Al,.slice none 0 0,.slice none 0 0,.map none]⟩):=by kernel_rfl
def nd0 (num:Nat):Nd:=⟨num,0,0,0,0,0,0,0,0,0,0,0,0,0,0,.slice none 0 0,[],0,.slice none 0 0,[],0,none⟩
def ZT (f:FL)(num:Nat):PN:=⟨num,0,f.at_.laid,f.ct.laid,f.mt.laid,f.cr.laid,modeK f.en,f.uid,f.gid,if kindB (modeK f.en)=16384 then 1 else 0,0,0,f.d7,f.d8,262144,[],[],if kindB (modeK f.en)=16384 then some [] else none⟩
def newP (f:FL)(num:Nat)(inl:Bool)(al:AL)(pos:Nat):PN:=mkP (ZT f num) f inl al pos
section
variable {s s':WS} {ad:Nat->Nat} {L:List (Option Nd)} {tr tr':Res} {n n':Nd} {nb fb c:Nat} {inv:Vz} {f:FL} {es:XM} {lo al:AL} {xm:Vz} {rm:Res}
theorem AGe (ok:FOK s ad L tr)(ah:s'.OK)(f:n.num=L.length+1)(p:∀ mb es,n.dir=some (mb,es)->es=[])(ae:BufV n.data n.ck n.dr/\BufV n.ff n.fe n.xr/\n.en<65536/\n.ek<100000/\n.ed<4294967296)(ai:L.length<9999)(hi:s'.inv=inv)
  (dv:Vec 182 1 inv (L.length+1) (L.map (ptrO ad)++[Pt nb]) tr') :
  FOK s' (fun k=>if k=L.length+1 then nb else ad k) (L++[some n]) tr' /\
   sumR (fun k=>if k=L.length+1 then nb else ad k) (L++[some n])=pts nb (.cells n.cells 197 (0,0))+(n.dr+(n.xr+n.kr (fun _=>0)))+sumR ad L:=by
 have hold:∀ n',some n'∈L->n'.num<=L.length/\∀ mb es,n'.dir=some (mb,es)->∀ e∈es,e.2<=L.length:=fun n' m=>by
  obtain⟨i,hi⟩:=List.mem_iff_getElem?.1 m;have aj:=(G0.1 hi).1;refine⟨by rw[ok.num i n' hi];omega,fun mb es p e l=>?_⟩;obtain⟨j,c,b⟩:=ok.kid i n' mb es hi p e l;have:=(G0.1 b).1;omega
 have t:sumR (fun k=>if k=L.length+1 then nb else ad k) L=sumR ad L:=Ph L fun n' m=>by
  obtain⟨j,b⟩:=hold n' m;refine⟨F0 (by omega),fun mb es p e l=>F0 (by have:=b mb es p e l;omega)⟩
 have v:∀ g:Nat->Nat,n.kr g=n.kr (fun _=>0):=fun g=>by
  unfold Nd.kr;cases d:n.dir with
  | none=>rfl
  | some me=>
   obtain⟨mb,es⟩:=me;have:=p mb es d;subst this;rfl
 have q:L.map (ptrO (fun k=>if k=L.length+1 then nb else ad k))=L.map (ptrO ad):=Q4 fun o ho=>by
  cases o with
  | none=>rfl
  | some n'=>unfold ptrO;simp only;rw[F0 (by have:=(hold n' ho).1;omega)]
 have a:∀ i n',(L++[some n])[i]? = some (some n')->L[i]? = some (some n')\/(i=L.length/\n'=n):=fun i n' hi=>by
  rcases P5 i L.length with w|u
  ·rw[Z1 w] at hi;exact .inl hi
  ·rw[X1 u] at hi;have:i-L.length=0:=by
    have:=(G0.1 hi).1;simp at this;omega
   rw[this] at hi;simp at hi;exact .inr ⟨by omega,hi.symm⟩
 refine⟨⟨ah,?_,?_,?_,?_,by simp;omega⟩,?_⟩
 ·rw[H2,q];have:([some n]:List (Option Nd)).map (ptrO (fun k=>if k=L.length+1 then nb else ad k))=[Pt nb]:=by simp[ptrO,f]
  rw[this,C0,hi];exact dv
 ·intro i n' hi;rcases a i n' hi with hi|⟨j,b⟩
  ·exact ok.num i n' hi
  ·rw[b,f,j]
 ·intro i n' hi;rcases a i n' hi with hi|⟨j,b⟩
  ·exact ok.nd i n' hi
  ·rw[b];exact ae
 ·intro i n' mb es hi d e l;rcases a i n' hi with hi|⟨j,b⟩
  ·obtain⟨j,c,b⟩:=ok.kid i n' mb es hi d e l;exact⟨j,c,by rw[Z1 (G0.1 b).1];exact b⟩
  ·rw[b] at d;rw[p mb es d] at l;cases l
 ·rw[Fe,t];have e:ndR (fun k=>if k=L.length+1 then nb else ad k) (some n)=Nd.res (fun k=>if k=L.length+1 then nb else ad k) n:=rfl;rw[e];unfold Nd.res;rw[v];simp only[f,if_true]
structure FilOK (f:FL) (inl:Bool) (al:AL):Prop where
 en:f.en<65536
 kind:kindOk (kindB (modeK f.en))
 at_:f.at_.ok
 ct:f.ct.ok
 mt:f.mt.ok
 cr:f.cr.ok
 size:f.size<=137438953472
 link:f.link.length<=100000
 fit:needs ((sdA inl (kindB (modeK f.en)) f.size++al).map toX)<=96
 nm:∀ e∈al,e.1.length<100000/\e.2.length<100000
 srt:al.Pairwise fun a b=>Op.bytesLess a.1 b.1=true
def Td (s:WS)(f:FL):Prop:=lnkB f=true->s.ini=true/\s.cur=.pointer none/\s.d9=s.pos/\s.pos%4096=0/\s.B.length<=s.pos/\s.pos+f.link.length+4096<=s.max
def ADt {p:PN}{inl:Bool}{pos:Nat}:(mkP p f inl al pos).ed<4294967296:=by
 unfold mkP;dsimp only;split
 ·decide
 ·unfold LQ;split<;>decide
def Te.same (l:Te s s' f):s'.wb=s.wb/\s'.inv=s.inv/\s'.ini=s.ini/\s'.inl=s.inl/\s'.max=s.max/\s'.gd=s.gd/\s'.db=s.db/\s'.cur=s.cur:=by
 have:=l.eq;split at this
 ·obtain⟨_,_,_,rfl⟩:=this;exact⟨rfl,rfl,rfl,rfl,rfl,rfl,rfl,rfl⟩
 ·rw[this];exact⟨rfl,rfl,rfl,rfl,rfl,rfl,rfl,rfl⟩
theorem ARC (ok:FOK s ad L tr)(g:HU x)(d:FilOK f s.inl al)(lk:Td s f)(mv:MvR xm es rm)(hv:EX x es)(u:es.length<=400)(hP:al.Perm (GI es))(ai:L.length<9999)(w:AN (FR s ad L tr+(pts fb (.cells ⟨f.cells xm⟩ 191 (0,0))+(rm+x))) h)
  (K:∀ n nb s' inv tr' fm y h,n.pn=newP f (L.length+1) s.inl al s.pos->(∀ mb es,n.dir=some (mb,es)->es=[])->Te s s' f->FOK {s' with inv:=inv} (fun k=>if k=L.length+1 then nb else ad k) (L++[some n]) tr' ->
   AN (FR {s' with inv:=inv} (fun k=>if k=L.length+1 then nb else ad k) (L++[some n]) tr'+(pts fb (.cells ⟨f.cells (.map (some fm))⟩ 191 (0,0))+(y+x))) h->Q (.tuple #[Pt nb,.nilIface]) h) :
  f95 (Pt s.wb) (Pt fb) Au  h Q:=by
 obtain⟨⟨ia,ic,v⟩,_⟩:=ok.vec.len;have l:=d.en;have rest:∀ (nb:Nat) (n:Nd) (h:H),n = {nd0 (L.length+1) with dir:=n.dir,ek:=n.ek}->(n.ek=if kindB (modeK f.en)=16384 then 1 else 0)->(n.dir.map (·.2)=if kindB (modeK f.en)=16384 then some [] else none)->
   AN (pts nb (.cells n.cells 197 (0,0))+(n.kr (fun _=>0)+(FR s ad L tr+(pts fb (.cells ⟨f.cells xm⟩ 191 (0,0))+(rm+x))))) h->UP Q (Pt s.wb) (Pt fb) (Pt nb) (cU16 (modeK f.en:Int)) (cU16 (kindB (modeK f.en):Int)) h:=by
  intro nb n h q hl c w;have aj:n.kr (fun _=>0)=n.kr (fun _=>0):=rfl;have ah:(n.of f (modeK f.en)).pn=ZT f (L.length+1):=by
   unfold Nd.pn Nd.of ZT;dsimp only;rw[c,hl,q];rfl
  refine ARB (n:=n) (nb:=nb) (lo:=[]) (x:=n.kr (fun _=>0)+(tr+sumR ad L+x)) ok.ws g.bf.bf mv hv.bf.bf u d.nm d.srt ?_ ?_ (by decide) (by decide) (fun a ha=>by cases ha) (by simp) (w.cast ?_) d.en d.kind d.size d.link d.fit d.at_ d.ct d.mt d.cr (by rw[q];rfl) (by rw[q];show (0:Nat)<_;decide) lk fun n' s' fm y h md o w=>?_
  ·unfold notA;rw[List.filter_nil,X0];exact hP
  ·rw[q];exact .inl ⟨none,0,rfl,rfl⟩
  ·unfold FR;ac_rfl
  ·obtain⟨q1,q2,q3,q4,q5,q6,q7,q8⟩:=o.same;have e:n'.pn=newP f (L.length+1) s.inl al s.pos:=by rw[md.pn,ah];rfl
   have i:n'.num=L.length+1:=J3 PN.num e;have b:∀ mb es,n'.dir=some (mb,es)->es=[]:=fun mb es p=>by
    rw[md.dir] at p;rw[p] at c;split at c
    ·exact V0 c
    ·cases c
   rw[<-q1];refine ADM (s:=s') (n:=n') (N:=L.length) (tr:=tr) (vs:=L.map (ptrO ad)) (x:=n'.dr+(n'.xr+(pts fb (.cells ⟨f.cells (.map (some fm))⟩ 191 (0,0))+(y+(n.kr (fun _=>0)+(sumR ad L+x)))))) (by rw[q2];exact ok.vec) (w.cast (by ac_rfl)) i (by omega) fun inv tr' h dv w=>?_;have ae:BufV n'.data n'.ck n'.dr/\BufV n'.ff n'.fe n'.xr/\n'.en<65536/\n'.ek<100000/\n'.ed<4294967296:=by
    refine⟨md.bd,md.bx,?_,?_,?_⟩
    ·have:n'.en=CC f.en:=J3 PN.en e;rw[this];exact (Dj d.en).2.1
    ·have:n'.ek=if kindB (modeK f.en)=16384 then 1 else 0:=J3 PN.ek e
     rw[this];split<;>decide
    ·have:n'.ed=_:=J3 PN.ed e;rw[this];exact ADt
   obtain⟨f1,f2⟩:=AGe (s':={s' with inv:=inv}) ok ⟨o.ok.buf,o.ok.len,o.ok.max⟩ i b ae (by omega) rfl dv;refine K n' nb s' inv tr' fm y h e b o f1 (w.cast ?_);unfold FR;rw[f2];have e5:n'.kr (fun _=>0)=n.kr (fun _=>0):=by unfold Nd.kr;rw[md.dir]
   rw[e5];ac_rfl
 have key:∀ m,m=modeK f.en->OZ Q (Pt s.wb) (Pt fb)  Au  (cU16 (m:Int)) h:=by
  intro m l;subst l;have ao:=(Dj d.en).1;unfold OZ AW;simp (disch:=omega) only[go_sem,AC w,v];have j:(modeK f.en &&& 61440)=kindB (modeK f.en):=rfl;rw[j];refine BA AHs rfl rfl (BG w fun nb h w=>?_);have w':AN (pts nb (.cells (nd0 (L.length+1)).cells 197 (0,0))+(FR s ad L tr+(pts fb (.cells ⟨f.cells xm⟩ 191 (0,0))+(rm+x)))) h:=w;refine AS (fun p=>?_) (fun p=>?_)
  ·have b:kindB (modeK f.en)=16384:=by omega
   refine Nm w' fun mb h w=>?_;simp (disch:=omega) only[go_sem];refine AD w (Nd.cells {nd0 (L.length+1) with dir:=some (mb,[])}) rfl rfl (by exact I0 18) rfl fun h w=>?_;refine AD w (Nd.cells {nd0 (L.length+1) with dir:=some (mb,[]),ek:=1}) rfl rfl (by exact Nat.le_add_left 10 8) rfl fun h w=>?_;exact rest nb {nd0 (L.length+1) with dir:=some (mb,[]),ek:=1} h rfl (by rw[D0 b]) (by rw[D0 b];rfl) (w.cast (Res.left_comm _ _ _))
  ·have b:kindB (modeK f.en)≠16384:=by omega
   exact rest nb (nd0 (L.length+1)) h rfl (by rw[F0 b];rfl) (by rw[F0 b];rfl) (w'.cast (by show _=_+(0+_);rw[Res.zero_add]))
 unfold f95 AW;simp (disch:=omega) only[go_sem,AC w];have j:(f.en &&& 61440)=kindB f.en:=rfl;rw[j];refine AS (fun h0=>?_) (fun h0=>?_)
 ·have t:kindB f.en=0:=by omega
  exact key _ (by unfold modeK;rw[D0 t])
 ·exact key _ (by unfold modeK;rw[F0 (by omega)])
def Nd.pnOf (n:Nd)(f:FL):PN:=(n.of f (modeK f.en)).pn
theorem ATI (ok:FOK s ad L tr)(g:HU x)(b:FilOK f s.inl al)(lk:Td s f)(mv:MvR xm es rm)(hv:EX x es)(ah:es.length<=400)(hP:al.Perm (GI es++notA (GI es) lo))(hc:1<=c)(t:L[c-1]? = some (some n))(au:n.fe=xinA lo)(ar:needs (lo.map toX)<=96)(ao:lo.length<=400)(l:∀ a∈lo,(compL a.1 PX).2≠[])(p:(lo.map (·.1)).Nodup)
  (ai:n.ed &&& 524288=0) (aw:n.xblk=0) (ae:n.bu<1000000) (w:AN (FR s ad L tr+(pts fb (.cells ⟨f.cells xm⟩ 191 (0,0))+(rm+x))) h)
  (K:∀ n' s' fm y h,n'.pn=mkP (n.pnOf f) f s.inl al s.pos->n'.dir=n.dir->Te s s' f->FOK s' ad (L.set (c-1) (some n')) tr->AN (FR s' ad (L.set (c-1) (some n')) tr+(pts fb (.cells ⟨f.cells (.map (some fm))⟩ 191 (0,0))+(y+x))) h->Q (.tuple #[Pt (ad c),.nilIface]) h) :
  f95 (Pt s.wb) (Pt fb) (Pt (ad c)) h Q:=by
 obtain⟨⟨ia,ic,aj⟩,_⟩:=ok.vec.len;have hl:=(G0.1 t).1;have v:=ok.len;have i:=ok.ndOK t;have q:=b.en;have ay:=i.1.2.2.2.2;obtain⟨w',j⟩:=Cs ok hc t w;have key:∀ m,m=modeK f.en->OZ Q (Pt s.wb) (Pt fb) (Pt (ad c)) (cU16 (m:Int)) h:=by
  intro m q;subst q;have az:=(Dj b.en).1;unfold OZ AW;simp (disch:=omega) only[go_sem,AC w,aj];have o:(modeK f.en &&& 61440)=kindB (modeK f.en):=rfl;rw[o,<-j];simp (disch:=omega) only[go_sem,AC w',ai];have e0:decide (((0:Nat):Int)≠0)=false:=by simp
  rw[e0,AJ];have bx:RdX n.xr n.ff (xinA lo):=au▸i.1.2.1.rdX;refine ARB (n:=n) (nb:=ad n.num) (lo:=lo) (x:=n.xr+(n.dr+(n.kr ad+(tr+sumR ad (L.set (c-1) none)+x)))) ok.ws g.bf.bf.bf.bf mv hv.bf.bf.bf.bf ah b.nm b.srt hP bx.an ar ao l p (w'.cast ?_) b.en b.kind b.size b.link b.fit b.at_ b.ct b.mt b.cr aw ae lk fun n' s' fm y h md lw w=>?_
  ·unfold Nd.res;ac_rfl
  ·obtain⟨q1,q2,q3,q4,q5,q6,q7,q8⟩:=lw.same;have e:n'.pn=mkP (n.pnOf f) f s.inl al s.pos:=md.pn;have d:n'.num=n.num:=J3 PN.num e;rw[<-q1];refine ADN (s:=s') (n:=n') (N:=L.length) (tr:=tr) (vs:=L.map (ptrO ad)) (x:=n'.dr+(n'.xr+(pts fb (.cells ⟨f.cells (.map (some fm))⟩ 191 (0,0))+(y+(n.xr+(n.dr+(n.kr ad+(sumR ad (L.set (c-1) none)+x)))))))) (by rw[q2];exact ok.vec) (w.cast (by ac_rfl)) (by omega) (by omega) v ?_;rw[j];refine K n' s' fm (y+(n.xr+n.dr)) h e md.dir lw (Gs ok lw.ok q2 t d ⟨⟨md.bd,md.bx,?_,?_,?_⟩,fun mb es hd=>?_⟩) (w.cast ?_)
   ·have:n'.en=CC f.en:=J3 PN.en e;rw[this];exact (Dj b.en).2.1
   ·have:n'.ek=n.ek:=J3 PN.ek e;rw[this];exact i.1.2.2.2.1
   ·have:n'.ed=_:=J3 PN.ed e;rw[this];exact ADt
   ·rw[md.dir] at hd;exact i.2 mb es hd
   ·unfold FR;rw[Hz hl];unfold Nd.res;have e5:n'.kr ad=n.kr ad:=by unfold Nd.kr;rw[md.dir]
    rw[e5,d];ac_rfl
 unfold f95 AW;simp (disch:=omega) only[go_sem,AC w];have o:(f.en &&& 61440)=kindB f.en:=rfl;rw[o];refine AS (fun h0=>?_) (fun h0=>?_)
 ·have u:kindB f.en=0:=by omega
  exact key _ (by unfold modeK;rw[D0 u])
 ·exact key _ (by unfold modeK;rw[F0 (by omega)])
end
theorem AG9 {ad:Nat->Nat}{mb c:Nat}{es:List (Bs×Nat)}{nm:Bs}{d:H->Prop}(w:AN (pts mb (De ad es)+x) h)(g:lookE es nm=none)(K:∀ h,AN (pts mb (De ad (es++[(nm,c)]))+x) h->d h) :
  Ld (some .string) (.map (some mb)) (str nm) (Pt (ad c)) h d:=by
 obtain⟨q,f,b,_⟩:=Fy (fun c=>Pt (ad c)) nm es 0 0;rw[g] at b;simp only[Option.map_none,Option.map_eq_none_iff] at b;subst b;refine⟨rfl,mb,_,_,.map ((DK (fun c=>Pt (ad c)) es).push ⟨str nm,Pt (ad c),es.length⟩) (es.length+1),rfl,w.left.one,?_,?_⟩
 ·have:(DK (fun c=>Pt (ad c)) es).toList=es.zipIdx.map fun p=>(⟨str p.1.1,Pt (ad p.1.2),p.2⟩:MapEntry):=rfl;have a:DI (str nm) (DK (fun c=>Pt (ad c)) es).toList 0=some none:=by rw[this];exact f
  rw[a];rfl
 ·refine K _ ?_;have e:De ad (es++[(nm,c)])=.map ((DK (fun c=>Pt (ad c)) es).push ⟨str nm,Pt (ad c),es.length⟩) (es.length+1):=by
   rw[OQ (fun c=>Pt (ad c))];simp[De]
  rw[e];exact w.set
def WS.ep (s:WS)(kd:Nat)(p:Vz)(nm:Bs)(sz:Nat):WS:=if kd=32768 then {s with nm:=str nm,cur:=p,dw:=0,dm:=sz} else s
theorem AEW {s:WS}{n:Nd}{nb fb:Nat}{fc:List Vz}{nm:Bs}{sz:Nat}(w:AN (s.res+(pts nb (.cells n.cells 197 (0,0))+(pts fb (.cells ⟨fc⟩ 191 (0,0))+x))) h)(c:fc[1]? = some (AB sz))(b:s.cur=.pointer none)(f:n.en<65536)
  (K:∀ h,AN ((s.ep (kindB n.en) (Pt nb) nm sz).res+(pts nb (.cells n.cells 197 (0,0))+x)) h->Q .nilIface h):ABw Q (Pt s.wb) (str nm) (Pt fb) (Pt nb) h:=by
 unfold ABw AW;simp (disch:=omega) only[go_sem,AC w];have d:(n.en &&& 61440)=kindB n.en:=rfl;rw[d];refine AS (fun e=>?_) (fun e=>?_)
 ·have a:kindB n.en=32768:=by omega
  have:(⟨fc⟩:Array Vz)[1]? = some (AB sz):=by simpa using c
  rw[this];simp only[go_sem];refine YW (s96 w b ⟨_,rfl⟩ fun h w=>K h (AN.left (y:=pts fb (.cells ⟨fc⟩ 191 (0,0))) (w.cast ?_)));unfold WS.ep;rw[D0 a];ac_rfl
 ·have a:kindB n.en≠32768:=by omega
  refine K h (AN.left (y:=pts fb (.cells ⟨fc⟩ 191 (0,0))) (w.cast ?_));unfold WS.ep;rw[F0 a];ac_rfl
abbrev Nd.more (n:Nd)(mb:Nat)(es:List (Bs×Nat))(nm:Bs)(c kd:Nat):Nd:={n with dir:=some (mb,es++[(nm,c)]),ek:=n.ek+(if kd=16384 then 1 else 0)}
def AQU {s:WS}{ad:Nat->Nat}{n dn:Nd}{mb fb c:Nat}{es:List (Bs×Nat)}{fc:List Vz}{nm e:Bs}{sz:Nat}
  (w:AN (s.res+(pts (ad c) (.cells n.cells 197 (0,0))+(pts (ad dn.num) (.cells dn.cells 197 (0,0))+(pts mb (De ad es)+(pts fb (.cells ⟨fc⟩ 191 (0,0))+x))))) h) (f:fc[1]? = some (AB sz)) (a:s.cur=.pointer none) (l:n.en<65536)
  (d:dn.dir=some (mb,es)) (m:lookE es e=none) (o:n.ek<100000) (p:dn.ek<100000)
  (K:∀ h,AN ((s.ep (kindB n.en) (Pt (ad c)) nm sz).res+(pts (ad c) (.cells (Nd.cells {n with ek:=n.ek+1}) 197 (0,0))+(pts (ad dn.num) (.cells (dn.more mb es e c (kindB n.en)).cells 197 (0,0))+(pts mb (De ad (es++[(e,c)]))+x)))) h->Q .nilIface h) :
  ABx Q (Pt s.wb) (str nm) (Pt fb) (Pt (ad dn.num)) (str e) (Pt (ad c)) h:=by
 unfold ABx AW;have j:dn.kids=.map (some mb):=by unfold Nd.kids;rw[d];rfl
 simp (disch:=omega) only[go_sem,AC w];rw[j];refine AG9 (ad:=ad) (mb:=mb) (es:=es) (nm:=e) (c:=c) (x:=s.res+(pts (ad c) (.cells n.cells 197 (0,0))+(pts (ad dn.num) (.cells dn.cells 197 (0,0))+(pts fb (.cells ⟨fc⟩ 191 (0,0))+x)))) (w.cast (by ac_rfl)) m fun h w=>?_;simp (disch:=omega) only[go_sem,AC w];refine AD w (Nd.cells {n with ek:=n.ek+1}) rfl rfl (by simp) rfl fun h w=>?_;refine SR (s93 (n:={n with ek:=n.ek+1}) w l ?_);have b:dn.cells=Nd.cells {dn with dir:=some (mb,es++[(e,c)])}:=by unfold Nd.cells Nd.kids;rw[d];rfl
 refine AS (fun i=>?_) (fun i=>?_)
 ·simp (disch:=omega) only[go_sem,AC w];refine AD w (dn.more mb es e c (kindB n.en)).cells ?_ rfl (by simp) rfl fun h w=>?_
  ·rw[b];have:kindB n.en=16384:=i;unfold Nd.more;rw[D0 this];rfl
  ·refine AEW (n:={n with ek:=n.ek+1}) (x:=pts (ad dn.num) (.cells (dn.more mb es e c (kindB n.en)).cells 197 (0,0))+(pts mb (De ad (es++[(e,c)]))+x)) (w.cast (by ac_rfl)) f a l K
 ·have:kindB n.en≠16384:=i;have g:dn.cells=(dn.more mb es e c (kindB n.en)).cells:=by rw[b];unfold Nd.more;rw[F0 this];rfl
  rw[g] at w;exact AEW (n:={n with ek:=n.ek+1}) (x:=pts (ad dn.num) (.cells (dn.more mb es e c (kindB n.en)).cells 197 (0,0))+(pts mb (De ad (es++[(e,c)]))+x)) (w.cast (by ac_rfl)) f a l K
abbrev Pq (ad:Nat->Nat)(m nb:Nat):Nat->Nat:=fun k=>if k=m then nb else ad k
abbrev AEe (L:List (Option Nd))(d:Nat)(dn n:Nd)(mb:Nat)(es:List (Bs×Nat))(e:Bs):List (Option Nd):=
 (L++[some {n with ek:=n.ek+1}]).set (d-1) (some (dn.more mb es e (L.length+1) (kindB n.en)))
section
variable {s:WS} {ad:Nat->Nat} {L:List (Option Nd)} {tr:Res} {nm e:Bs} {d fb mb c:Nat} {n dn:Nd} {es:List (Bs×Nat)} {f:FL} {xs:XM} {lo al:AL} {xm:Vz} {rm:Res}
def Qp {s':WS}{kd sz:Nat}{p:Vz}(h:s'.OK):(s'.ep kd p nm sz).OK/\(s'.ep kd p nm sz).inv=s'.inv:=by
 unfold WS.ep;split<;>exact⟨⟨h.buf,h.len,h.max⟩,rfl⟩
theorem AQV (ok:FOK s ad L tr)(g:HU x)(fo:FilOK f s.inl al)(lk:Td s f)(mv:MvR xm xs rm)(hv:EX x xs)(hel:xs.length<=400)(hP:al.Perm (GI xs))
  (w:AN (FR s ad L tr+(pts fb (.cells ⟨f.cells xm⟩ 191 (0,0))+(rm+x))) h) (hcur:s.cur=.pointer none) (hlen:L.length<9999) (hd1:1<=d) (hdn:L[d-1]? = some (some dn)) (hdd:dn.dir=some (mb,es)) (hf:lookE es e=none) (hlk:dn.ek<65000)
  (K:∀ n nb s' inv tr' y h,n.pn=newP f (L.length+1) s.inl al s.pos->Te s s' f->FOK (WS.ep {s' with inv:=inv} (kindB n.en) (Pt nb) nm f.size) (Pq ad (L.length+1) nb) (AEe L d dn n mb es e) tr' ->
   AN (FR (WS.ep {s' with inv:=inv} (kindB n.en) (Pt nb) nm f.size) (Pq ad (L.length+1) nb) (AEe L d dn n mb es e) tr'+(y+x)) h->Q .nilIface h) :
  OX Q (Pt s.wb) (str nm) (Pt fb) (Pt (ad d)) Au  (str e)  Au h:=by
 have hdl:=(G0.1 hdn).1;unfold OX AW;refine YV (ARC ok g fo lk mv hv hel hP hlen w fun n nb s' inv tr' fm y h hpn hdir lw ok w=>?_);have hq:=lw.same;have hnum:n.num=L.length+1:=J3 PN.num hpn;have hnm:n.en<65536:=by have:=(ok.nd L.length n (by simp)).2.2.1;exact this
 have hnl:n.ek<100000:=by have:=(ok.nd L.length n (by simp)).2.2.2.1;exact this
 have had:Pq ad (L.length+1) nb d=ad d:=F0 (by omega);have hdn1:(L++[some n])[d-1]? = some (some dn):=by rw[Z1 hdl];exact hdn
 have hdnum:dn.num=d:=by have:=ok.num _ _ hdn1;omega
 have hsum:sumR (Pq ad (L.length+1) nb) (L++[some n])=n.res (Pq ad (L.length+1) nb)+(dn.res (Pq ad (L.length+1) nb)+sumR (Pq ad (L.length+1) nb) (L.set (d-1) none)):=by
  rw[Fe,Gc hdn];rfl
 have hnb:Pq ad (L.length+1) nb (L.length+1)=nb:=D0 rfl;simp (disch:=omega) only[go_sem];rw[<-had,<-hdnum];have hptr:Pt nb=Pt (Pq ad (L.length+1) nb (L.length+1)):=by rw[hnb]
 rw[hptr,<-hq.1];have hdkr:dn.kr (Pq ad (L.length+1) nb)=pts mb (De (Pq ad (L.length+1) nb) es):=by unfold Nd.kr;rw[hdd]
 refine AQU (s:={s' with inv:=inv}) (ad:=Pq ad (L.length+1) nb) (n:=n) (fc:=f.cells (.map (some fm))) (sz:=f.size)
  (x:=tr'+(n.dr+(n.xr+n.kr (Pq ad (L.length+1) nb)))+(dn.dr+dn.xr)+sumR (Pq ad (L.length+1) nb) (L.set (d-1) none)+(y+x)) (w.cast ?_) rfl (by show s'.cur=_;rw[hq.2.2.2.2.2.2.2];exact hcur) hnm hdd hf hnl (by omega) fun h w=>?_
 ·unfold FR;rw[hsum];unfold Nd.res;rw[hdkr,hnum];ac_rfl
 ·rw[hnb] at w;obtain⟨o1,o2⟩:=Qp (nm:=nm) (s':={s' with inv:=inv}) (kd:=kindB n.en) (p:=Pt nb) (sz:=f.size) ok.ws;have hlast:(L++[some n])[L.length]? = some (some n):=by simp
  have hnd:=ok.ndOK hlast;have okn:FOK (WS.ep {s' with inv:=inv} (kindB n.en) (Pt nb) nm f.size) (Pq ad (L.length+1) nb) ((L++[some n]).set L.length (some {n with ek:=n.ek+1})) tr':=by
   refine Gs ok o1 o2 hlast rfl ⟨⟨hnd.1.1,hnd.1.2.1,hnm,?_,hnd.1.2.2.2.2⟩,hnd.2⟩;show n.ek+1<100000;have:n.ek=if kindB (modeK f.en)=16384 then 1 else 0:=J3 PN.ek hpn
   split at this<;>omega
  have hset:(L++[some n]).set L.length (some {n with ek:=n.ek+1})=L++[some {n with ek:=n.ek+1}]:=by
   rw[E8 _ _ (I0 _)];simp
  rw[hset] at okn;have hdn2:(L++[some {n with ek:=n.ek+1}])[d-1]? = some (some dn):=by rw[Z1 hdl];exact hdn
  have hnd2:=okn.ndOK hdn2;refine K n nb s' inv tr' y h hpn lw (Gs okn okn.ws rfl hdn2 rfl ⟨⟨hnd2.1.1,hnd2.1.2.1,hnd2.1.2.2.1,?_,hnd2.1.2.2.2.2⟩,?_⟩) (w.cast ?_)
  ·show dn.ek+(if kindB n.en=16384 then 1 else 0)<100000;split<;>omega
  ·intro mb' es' hd' ent hent;cases hd';rcases N4.1 hent with he|he
   ·exact hnd2.2 mb es hdd ent he
   ·rw[H4] at he;subst he;exact⟨by show 1<=L.length+1;omega,{n with ek:=n.ek+1},by show (L++[some {n with ek:=n.ek+1}])[L.length+1-1]? = _;rw[S5];simp⟩
  ·unfold FR AEe;rw[Hz (by simp;omega),List.set_append_left _ _ hdl,Fe];unfold ndR Nd.res;have e1:(dn.more mb es e (L.length+1) (kindB n.en)).kr (Pq ad (L.length+1) nb)=pts mb (De (Pq ad (L.length+1) nb) (es++[(e,L.length+1)])):=rfl;rw[e1];dsimp only;have hna:Pq ad (L.length+1) nb n.num=nb:=by rw[hnum];exact hnb
   rw[hna];have e2:Nd.kr (Pq ad (L.length+1) nb) {n with ek:=n.ek+1}=n.kr (Pq ad (L.length+1) nb):=rfl;rw[e2];ac_rfl
def AOv {c:Bool}{b:Nat}:HF .ptr c true h (Pt b) (Pt b) k=k  AE:=by simp[HF,HS]
def AOE {x8:Vz}(ok:FOK s ad L tr)(g:HU x)(fo:FilOK f s.inl al)(lk:Td s f)(mv:MvR xm xs rm)(hv:EX x xs)(o:xs.length<=400)(hP:al.Perm (GI xs++notA (GI xs) lo))(hc:1<=c)(hn:L[c-1]? = some (some n))(ah:n.fe=xinA lo)(u:needs (lo.map toX)<=96)(t:lo.length<=400)(d:∀ a∈lo,(compL a.1 PX).2≠[])(l:(lo.map (·.1)).Nodup)
  (q:n.ed &&& 524288=0) (ai:n.xblk=0) (m:n.bu<1000000) (j:s.cur=.pointer none) (w:AN (FR s ad L tr+(pts fb (.cells ⟨f.cells xm⟩ 191 (0,0))+(rm+x))) h)
  (K:∀ n' s' y h,n'.pn=mkP (n.pnOf f) f s.inl al s.pos->Te s s' f->FOK (s'.ep (kindB n'.en) (Pt (ad c)) nm f.size) ad (L.set (c-1) (some n')) tr->AN (FR (s'.ep (kindB n'.en) (Pt (ad c)) nm f.size) ad (L.set (c-1) (some n')) tr+(y+x)) h->Q .nilIface h) :
  OX Q (Pt s.wb) (str nm) (Pt fb) x8 (Pt (ad c)) (str e) (Pt (ad c)) h:=by
 have hl:=(G0.1 hn).1;unfold OX AW;refine YV (ATI ok g fo lk mv hv o hP hc hn ah u t d l q ai m w fun n' s' fm y h ae aj lw ok w=>?_);have hq:=lw.same;rw[BF,BO,Ij,AJ,AOv,AJ,<-hq.1];have i:(L.set (c-1) (some n'))[c-1]? = some (some n'):=by rw[G4,D0 rfl,D0 hl]
 have v:=ok.ndOK i;obtain⟨w',b⟩:=Cs ok hc i w;obtain⟨o1,o2⟩:=Qp (nm:=nm) (s':=s') (kd:=kindB n'.en) (p:=Pt (ad c)) (sz:=f.size) ok.ws;refine AEW (s:=s') (n:=n') (nb:=ad c) (fb:=fb) (fc:=f.cells (.map (some fm))) (sz:=f.size) (nm:=nm) (x:=n'.dr+(n'.xr+n'.kr ad)+(tr+(sumR ad ((L.set (c-1) (some n')).set (c-1) none)+(y+x)))) (w'.cast ?_) rfl (by rw[hq.2.2.2.2.2.2.2];exact j) v.1.2.2.1 fun h w=>?_
 ·unfold Nd.res;rw[b];ac_rfl
 ·refine K n' s' y h ae lw (ok.ws' o1 o2) (w.cast ?_);unfold FR;rw[Gc i];unfold Nd.res;rw[b];ac_rfl
end
section
variable {ad:Nat->Nat}
def pnL (L:List (Option Nd)):List (Option PN):=L.map (Option.map Nd.pn)
def Nq {L:List (Option Nd)}{i:Nat}:(pnL L)[i]? = (L[i]?).map (Option.map Nd.pn):=by unfold pnL;rw[Y0]
def Cw {L:List (Option Nd)}{i:Nat}{p:PN}(h:(pnL L)[i]? = some (some p)):∃ n,L[i]? = some (some n)/\n.pn=p:=by
 rw[Nq,K4] at h;obtain⟨o,b,a⟩:=h;rw[K4] at a;obtain⟨n,c,d⟩:=a;subst c;exact⟨n,b,d⟩
def Fi (M:List (Option PN))(c:Nat)(nm:Bs):Option Nat:=match M[c-1]? with
 | some (some n)=>match n.kids with|some es=>lookE es nm|none=>none
 | _=>none
def walkP (M:List (Option PN)):Nat->List Bs->Option Nat
 | c,[]=>some c
 | c,e::es=>(Fi M c e).bind fun d=>walkP M d es
def oh {L:List (Option Nd)}{c:Nat}{nm:Bs}:Fi (pnL L) c nm=EZ L c nm:=by
 unfold Fi EZ;rw[Nq];cases L[c-1]? with
 | none=>rfl
 | some o=>
  cases o with
  | none=>rfl
  | some n=>
   show (match n.dir.map (·.2) with|some es=>lookE es nm|none=>none)=(match n.dir with|some (_,es)=>lookE es nm|none=>none);cases n.dir with
   | none=>rfl
   | some me=>obtain⟨a,b⟩:=me;rfl
theorem Pn {L:List (Option Nd)}:∀ (ns:List Bs) (c:Nat),walkP (pnL L) c ns=walk L c ns
 | [],_=>rfl
 | e::es,c=>by
  rw[walkP,walk,oh];cases EZ L c e with
  | none=>rfl
  | some d=>exact Pn es d
def Dd (M:List (Option PN))(d:Nat)(q p:PN)(es:List (Bs×Nat))(e:Bs):List (Option PN):=
 (M++[some {p with ek:=p.ek+1}]).set (d-1) (some {q with kids:=some (es++[(e,M.length+1)]),ek:=q.ek+(if kindB p.en=16384 then 1 else 0)})
def AHb {L:List (Option Nd)}{d mb:Nat}{dn n:Nd}{es:List (Bs×Nat)}{e:Bs}:pnL (AEe L d dn n mb es e)=Dd (pnL L) d dn.pn n.pn es e:=by
 unfold AEe Dd pnL;rw[E7,H2,Z0];rfl
structure PS where
 M:List (Option PN)
 B:Bs
 pos:Nat
 cur:Option Nat
 dw:Nat
 dm:Nat
 inl:Bool
 max:Nat
 gd:Nat
 db:Nat
structure mz (wb:Nat) (S:PS) (s:WS) (ad:Nat->Nat) (L:List (Option Nd)) (tr:Res):Prop where
 ok:FOK s ad L tr
 wb:s.wb=wb
 ini:s.ini=true
 M:pnL L=S.M
 B:s.B=S.B
 pos:s.pos=S.pos
 d9:s.d9=S.pos
 dw:s.dw=S.dw
 dm:s.dm=S.dm
 cur:s.cur=ptrC ad S.cur
 inl:s.inl=S.inl
 max:s.max=S.max
 gd:s.gd=S.gd
 db:s.db=S.db
def CD (wb:Nat)(ad:Nat->Nat)(S:PS)(x:Res)(h:H):Prop:=∃ s L tr,mz wb S s ad L tr/\AN (FR s ad L tr+x) h
def CD.mono {wb:Nat}{S:PS}(p:CD wb ad S (x+y) h):CD wb ad S x h:=by
 obtain⟨s,L,tr,a,w⟩:=p;exact⟨s,L,tr,a,AN.left (y:=y) (w.cast (by ac_rfl))⟩
def CD.cast {wb:Nat}{S:PS}(p:CD wb ad S x h)(e:x=y):CD wb ad S y h:=e▸p
def PS.idle (S:PS):PS:={S with cur:=none,dw:=0,dm:=0}
def PN.ext (n:PN)(pos dw:Nat):PN:={n with ck:=extRoot ((upB pos-(pos-dw))/4096) ((pos-dw)/4096),ed:=n.ed ||| 524288,bu:=n.bu+(upB pos-(pos-dw))/4096}
def PS.shut (S:PS)(c:Nat)(n:PN):PS:={S with M:=S.M.set (c-1) (some (n.ext S.pos S.dw)),B:=padB S.B S.pos,pos:=upB S.pos,cur:=none,dw:=0,dm:=0}
inductive Fin:PS->PS->Prop
 | none {S:PS}:S.cur=none->Fin S S
 | small {S:PS} {c:Nat} {n:PN}:S.cur=some c->1<=c->S.M[c-1]? = some (some n)->S.dw=S.dm->(S.dm=0\/n.ed=268697600)->Fin S S.idle
 | big {S:PS} {c:Nat} {n:PN}:S.cur=some c->1<=c->S.M[c-1]? = some (some n)->S.dw=S.dm->1<=S.dm->n.ed=262144->S.dw<=S.pos->(S.pos-S.dw)%4096=0->S.B.length<=S.pos->S.dw<=134000000->S.pos+4096<=S.max->n.bu<1000000->Fin S (S.shut c n)
def Nh {wb:Nat}{S S':PS}(p:CD wb ad S x h)(f:Fin S S')(K:∀ h,CD wb ad S' x h->Q .nilIface h):YU (Pt wb) h Q:=by
 obtain⟨s,L,tr,a,w⟩:=p;rw[<-a.wb];cases f with
 | none hc=>exact ATH (x:=tr+sumR ad L+x) (w.cast (by unfold FR;ac_rfl)) a.ini (by rw[a.cur,hc];rfl) (K _ ⟨s,L,tr,a,w⟩)
 | small hc h1 hn hdw hfl=>
  rename_i c n;obtain⟨m,b,rfl⟩:=Cw (a.M▸hn);refine ATG a.ok w a.ini (by rw[a.cur,hc];rfl) h1 b (by rw[a.dw,a.dm,hdw]) (by rw[a.dm];exact hfl) fun h ok w=>K h ⟨s.idle,L,tr,?_,w⟩;exact⟨ok,a.wb,a.ini,a.M,a.B,a.pos,a.d9,rfl,rfl,rfl,a.inl,a.max,a.gd,a.db⟩
 | big hc h1 hn hdw hd1 hfl hle hal hB h2 b hbc=>
  rename_i c n;obtain⟨m,d,rfl⟩:=Cw (a.M▸hn);refine ATF a.ok w a.ini (by rw[a.cur,hc];rfl) h1 d (by rw[a.dw,a.dm,hdw]) (by rw[a.dm];exact hd1) hfl (by rw[a.dw,a.pos];exact hle) (by rw[a.pos,a.dw];exact hal) (by rw[a.d9,a.pos]) (by rw[a.B,a.pos];exact hB) (by rw[a.dw];exact h2) (by rw[a.pos,a.max];exact b) hbc
   fun dv r ev e h ok w=>K h ⟨s.shut dv r,L.set (c-1) (some (m.ext s ev e)),tr,?_,w⟩
  refine⟨ok,a.wb,a.ini,?_,?_,?_,?_,rfl,rfl,rfl,a.inl,a.max,a.gd,a.db⟩
  ·unfold pnL PS.shut;rw[E7,<-a.M,<-a.pos,<-a.dw];rfl
  ·show padB s.B s.pos=padB S.B S.pos;rw[a.B,a.pos]
  ·show upB s.pos=upB S.pos;rw[a.pos]
  ·show upB s.pos=upB S.pos;rw[a.pos]
def PS.ez (S:PS)(bs:Bs):PS:={S with B:=putL S.B S.pos bs,pos:=S.pos+bs.length,dw:=S.dw+bs.length}
def PS.inned (S:PS)(c:Nat)(n:PN)(bs:Bs):PS:={S with M:=S.M.set (c-1) (some {n with ck:=setL n.ck S.dw bs}),dw:=S.dw+bs.length}
inductive Wrt (bs:Bs):PS->PS->Prop
 | none {S:PS}:bs=[]->Wrt bs S S
 | disk {S:PS} {c:Nat} {n:PN}:S.cur=some c->1<=c->S.M[c-1]? = some (some n)->0<bs.length->n.ed=262144->S.dw+bs.length<=S.dm->S.dm<9223372036854775808->S.pos+bs.length<=S.max->Wrt bs S (S.ez bs)
 | inode {S:PS} {c:Nat} {n:PN}:S.cur=some c->1<=c->S.M[c-1]? = some (some n)->0<bs.length->n.ed=268697600->S.dw+bs.length<=S.dm->S.dm=n.ck.length->n.ck.length<=1000000->Wrt bs S (S.inned c n bs)
def KE {wb:Nat}{S S':PS}{v:Vz}{bs:Bs}(p:CD wb ad S x h)(d:RdX x v bs)(f:Wrt bs S S')(K:∀ h,CD wb ad S' x h->Q (.tuple #[AB (bs.length:Nat),.nilIface]) h):f57 (Pt wb) v h Q:=by
 obtain⟨s,L,tr,a,w⟩:=p;cases f with
 | none hb=>
  subst hb;obtain⟨t,u,q⟩:=d.len;exact AQX q (K h ⟨s,L,tr,a,w⟩)
 | disk hc h1 hn hp hfl hfit hdm hm=>
  rename_i c n;obtain⟨m,e,rfl⟩:=Cw (a.M▸hn);obtain⟨l,b⟩:=Cs a.ok h1 e w;rw[<-a.wb];refine AQW (nb:=ad c) (n:=m) (x:=m.dr+(m.xr+m.kr ad)+(tr+sumR ad (L.set (c-1) none))+x) a.ok.ws (l.cast (by unfold Nd.res;rw[b];ac_rfl)) d.bf (by rw[a.cur,hc];rfl) hfl hp (by rw[a.dw,a.dm];exact hfit) (by rw[a.dm];exact hdm) (by rw[a.pos,a.max];exact hm) (by rw[a.d9,a.pos]) fun dv r h j w=>?_;refine K h ⟨_,L,tr,⟨a.ok.ws' (s':={s with dv:=dv,dr:=r,B:=putL s.B s.pos bs,d9:=s.pos+bs.length,pos:=s.pos+bs.length,dw:=s.dw+bs.length}) j rfl,a.wb,a.ini,a.M,?_,?_,?_,?_,a.dm,a.cur,a.inl,a.max,a.gd,a.db⟩,w.cast ?_⟩
  ·show putL s.B s.pos bs=putL S.B S.pos bs;rw[a.B,a.pos]
  ·show s.pos+bs.length=S.pos+bs.length;rw[a.pos]
  ·show s.pos+bs.length=S.pos+bs.length;rw[a.pos]
  ·show s.dw+bs.length=S.dw+bs.length;rw[a.dw]
  ·unfold FR;rw[Gc e];unfold Nd.res;rw[b];ac_rfl
 | inode hc h1 hn hp hfl hfit hdm hbig=>
  rename_i c n;obtain⟨m,e,rfl⟩:=Cw (a.M▸hn);obtain⟨l,b⟩:=Cs a.ok h1 e w;have g:=a.ok.ndOK e;rw[<-a.wb];refine AS8 (nb:=ad c) (n:=m) (ck:=m.ck) (r:=m.dr) (x:=m.xr+m.kr ad+(tr+sumR ad (L.set (c-1) none))+x) a.ok.ws (l.cast (by unfold Nd.res;rw[b];ac_rfl)) d.bf (by rw[a.cur,hc];rfl) hfl g.1.1 hp (by rw[a.dw,a.dm];exact hfit) (by rw[a.dm];exact hdm) hbig fun dv dr h bd w i=>?_;have o:=(G0.1 e).1;refine K h ⟨{s with dw:=s.dw+bs.length},L.set (c-1) (some {m with ck:=setL m.ck s.dw bs,dr:=dr}),tr,⟨Gs a.ok ⟨a.ok.ws.buf,a.ok.ws.len,a.ok.ws.max⟩ rfl e rfl ⟨⟨by rw[<-i];exact bd,g.1.2.1,g.1.2.2.1,g.1.2.2.2.1,g.1.2.2.2.2⟩,g.2⟩,a.wb,a.ini,?_,a.B,a.pos,a.d9,?_,a.dm,a.cur,a.inl,a.max,a.gd,a.db⟩,w.cast ?_⟩
  ·unfold pnL PS.inned;rw[E7,<-a.M,<-a.dw];rfl
  ·show s.dw+bs.length=S.dw+bs.length;rw[a.dw]
  ·unfold FR;rw[Hz o];unfold Nd.res Nd.kr;dsimp only;rw[show ad m.num=ad c by rw[b]];ac_rfl
def PS.ej (S:PS)(f:FL):PS:=if lnkB f=true then {S with B:=padB (putL S.B S.pos f.link) (S.pos+f.link.length),pos:=upB (S.pos+f.link.length),dw:=0,dm:=0} else S
def PS.openF (S:PS)(f:FL)(c:Nat):PS:=if kindB (modeK f.en)=32768 then {S with cur:=some c,dw:=0,dm:=f.size} else S
def PS.made (S:PS)(d:Nat)(q:PN)(es:List (Bs×Nat))(e:Bs)(f:FL)(al:AL):PS:=
 {S.ej f with M:=Dd S.M d q (newP f (S.M.length+1) S.inl al S.pos) es e}.openF f (S.M.length+1)
def reP (p:PN)(f:FL):PN:={p with en:=modeK f.en,uid:=f.uid,gid:=f.gid,ed:=262144,at_:=f.at_.laid,ct:=f.ct.laid,mt:=f.mt.laid,cr:=f.cr.laid,d7:=f.d7,d8:=f.d8}
def PS.anew (S:PS)(c:Nat)(p:PN)(f:FL)(al:AL):PS:=
 {S.ej f with M:=S.M.set (c-1) (some (mkP (reP p f) f S.inl al S.pos))}.openF f c
def LnkS (S:PS)(f:FL):Prop:=lnkB f=true->S.pos%4096=0/\S.B.length<=S.pos/\S.pos+f.link.length+4096<=S.max
section
variable {wb fb:Nat} {S:PS} {nm e:Bs} {st:List Bs} {d:Nat} {q p:PN} {es:List (Bs×Nat)} {f:FL} {xs:XM} {lo al:AL} {xm:Vz} {rm:Res}
def mz.lnk {s:WS}{L:List (Option Nd)}{tr:Res}(a:mz wb S s ad L tr)(l:LnkS S f)(g:S.cur=none):Td s f:=fun e=>by
 obtain⟨b,c,d⟩:=l e;exact⟨a.ini,by rw[a.cur,g];rfl,by rw[a.d9,a.pos],by rw[a.pos];exact b,by rw[a.B,a.pos];exact c,by rw[a.pos,a.max];exact d⟩
def VL {s s':WS}{L L':List (Option Nd)}{tr tr':Res}{inv:Vz}{c nb:Nat}{b:Nat->Nat}{M:List (Option PN)}(a:mz wb S s ad L tr)(n:S.cur=none)(lw:Te s s' f)(o:pnL L'=M)(u:nb=b c)
  (ok:FOK (WS.ep {s' with inv:=inv} (kindB (modeK f.en)) (Pt nb) nm f.size) b L' tr'):mz wb ({S.ej f with M:=M}.openF f c) (WS.ep {s' with inv:=inv} (kindB (modeK f.en)) (Pt nb) nm f.size) b L' tr':=by
 have e:s.cur=.pointer none:=by rw[a.cur,n];rfl
 have key:s'.wb=wb/\s'.ini=true/\s'.B=(S.ej f).B/\s'.pos=(S.ej f).pos/\s'.d9=(S.ej f).pos/\s'.dw=(S.ej f).dw/\s'.dm=(S.ej f).dm/\s'.cur=.pointer none/\(S.ej f).cur=none/\s'.inl=(S.ej f).inl/\s'.max=(S.ej f).max/\s'.gd=(S.ej f).gd/\s'.db=(S.ej f).db:=by
  have:=lw.eq;unfold PS.ej;split at this
  ·rename_i m;obtain⟨_,_,_,rfl⟩:=this;rw[D0 m];exact⟨a.wb,a.ini,by show padB (putL s.B s.pos f.link) _=padB (putL S.B S.pos f.link) _;rw[a.B,a.pos],by show upB _=upB _;rw[a.pos],by show upB _=upB _;rw[a.pos],rfl,rfl,e,n,a.inl,a.max,a.gd,a.db⟩
  ·rename_i m;rw[this,F0 m];exact⟨a.wb,a.ini,a.B,a.pos,a.d9,a.dw,a.dm,e,n,a.inl,a.max,a.gd,a.db⟩
 obtain⟨k1,k2,p,q,t,v,w,k8,k9,g,i,j,l⟩:=key;unfold WS.ep PS.openF at *;by_cases d:kindB (modeK f.en)=32768
 ·rw[D0 d] at ok;rw[D0 d,D0 d];exact⟨ok,k1,k2,o,p,q,t,rfl,rfl,J3 Pt u,g,i,j,l⟩
 ·rw[F0 d] at ok;rw[F0 d,F0 d];exact⟨ok,k1,k2,o,p,q,t,v,w,by show s'.cur=ptrC b (S.ej f).cur;rw[k8,k9];rfl,g,i,j,l⟩
structure NamOK (S:PS) (nm:Bs) (st:List Bs) (e:Bs) (d:Nat) (q:PN):Prop where
 root:∃ n,S.M[1]? = some (some n)
 nml:nm.length<=100000
 way:cleanR nm=st++[e]
 el:e.length<=255
 walk:walkP S.M 2 st=some d
 d1:1<=d
 dn:S.M[d-1]? = some (some q)
 dir:kindB q.en=16384
theorem OJ (hfin:∀ Q:Kt,(∀ ad h,CD wb ad S (pts fb (.cells ⟨f.cells xm⟩ 191 (0,0))+(rm+x)) h->Q .nilIface h)->YU (Pt wb) h Q)(g:HU x)
  (hcur:S.cur=none) (hlen:S.M.length<9999) (nk:NamOK S nm st e d q) (hdd:q.kids=some es) (hf:lookE es e=none) (hlk:q.ek<65000) (fo:FilOK f S.inl al) (lk:LnkS S f) (mv:MvR xm xs rm) (hv:EX x xs) (hel:xs.length<=400) (hP:al.Perm (GI xs))
  (K:∀ ad y h,CD wb ad (S.made d q es e f al) (y+x) h->Q .nilIface h):f55 (Pt wb) (str nm) (Pt fb) h Q:=by
 obtain⟨hroot,hl,hst,he,hwalk,hd1,hdn,hdir⟩:=nk;unfold f55 AW;refine MM (hfin _ fun ad h p=>?_);obtain⟨s,L,tr,a,w⟩:=p;obtain⟨dn,hdn',hq⟩:=Cw (a.M▸hdn);obtain⟨q0,hq0⟩:=hroot;rw[<-a.M] at hq0;obtain⟨nr,hnr,_⟩:=Cw hq0;subst hq;obtain⟨mb,hmb⟩:∃ mb,dn.dir=some (mb,es):=by
  have:dn.dir.map (·.2)=some es:=hdd;rw[K4] at this;obtain⟨⟨a,b⟩,h1,h2⟩:=this;cases h2;exact⟨a,h1⟩
 have hlenM:L.length=S.M.length:=by rw[<-a.M];simp[pnL]
 have hcurs:s.cur=.pointer none:=by rw[a.cur,hcur];rfl
 have hmode:=fo.en;have hki:∀ (al:AL) (n:Nd),n.pn=newP f (L.length+1) s.inl al s.pos->kindB n.en=kindB (modeK f.en):=fun al n hpn=>by
  have:n.en=CC f.en:=J3 PN.en hpn;rw[this];exact (Dj hmode).2.2
 rw[<-a.wb];simp (disch:=omega) only[go_sem];refine AC8 (s92 (must:=false) a.ok w ⟨by omega,nr,hnr⟩ hl hst he (by rw[<-Pn,a.M];exact hwalk) hdn' hd1 hdir (by simp) fun h w=>?_);have hch:EZ L d e=none:=by unfold EZ;rw[hdn'];simp only;rw[hmb];exact hf
 rw[hch];simp (disch:=omega) only[go_sem,ptrC,AC w];obtain⟨w',hnum⟩:=Cs a.ok hd1 hdn' w;have hlk':dn.ek<65000:=hlk;have fin:OX Q (Pt s.wb) (str nm) (Pt fb) (Pt (ad d))  Au (str e) Au h:=AQV a.ok g (a.inl▸fo) (a.lnk lk hcur) mv hv hel hP w hcurs (by omega) hd1 hdn' hmb hf hlk fun n nb s' inv tr' y h hpn lw ok w=>by
  rw[hki al n hpn] at ok w;refine K _ y h ⟨_,_,_,VL (c:=S.M.length+1) a hcur lw ?_ (by show nb=Pq ad (L.length+1) nb (S.M.length+1);rw[hlenM];unfold Pq;rw[D0 rfl]) ok,w⟩;rw[AHb,hpn,a.M,hlenM,a.inl,a.pos]
 have hand:(f.en &&& 61440)=kindB f.en:=rfl;refine Ct (fun hkd=>?_) (fun hkd=>fin);rw[<-hnum] at fin ⊢;simp (disch:=omega) only[go_sem,AC w',J0];exact fin
def Ui {m:Nat}(h:m<65536):kindB m=16384↔kindB (modeK m)=16384:=by
 unfold modeK;split
 ·rename_i a;rw[(Uj h a).1,a];omega
 ·exact Iff.rfl
theorem m7 {c:Nat}(ai:∀ Q:Kt,(∀ ad h,CD wb ad S (pts fb (.cells ⟨f.cells xm⟩ 191 (0,0))+(rm+x)) h->Q .nilIface h)->YU (Pt wb) h Q)(g:HU x)
  (j:S.cur=none) (nk:NamOK S nm st e d q) (bm:q.kids=some es) (hf:lookE es e=some c) (hc:1<=c) (bj:S.M[c-1]? = some (some p)) (aj:kindB p.en=16384↔kindB (modeK f.en)=16384) (bt:kindB p.en≠16384->p.ek<2) (fo:FilOK f S.inl al) (lk:LnkS S f) (mv:MvR xm xs rm) (hv:EX x xs) (bp:xs.length<=400)
  (hP:al.Perm (GI xs++notA (GI xs) lo)) (cu:p.fe=xinA lo) (ce:needs (lo.map toX)<=96) (bz:lo.length<=400) (o:∀ a∈lo,(compL a.1 PX).2≠[]) (ar:(lo.map (·.1)).Nodup) (bq:p.ed &&& 524288=0) (cw:p.xblk=0) (bh:p.bu<1000000)
  (K:∀ ad y h,CD wb ad (S.anew c p f al) (y+x) h->Q .nilIface h):f55 (Pt wb) (str nm) (Pt fb) h Q:=by
 obtain⟨v,hl,cq,he,ae,bk,bn,ah⟩:=nk;unfold f55 AW;refine MM (ai _ fun ad h pp=>?_);obtain⟨s,L,tr,a,w⟩:=pp;obtain⟨dn,m,hq⟩:=Cw (a.M▸bn);obtain⟨n,hn,az⟩:=Cw (a.M▸bj);obtain⟨q0,bg⟩:=v;rw[<-a.M] at bg;obtain⟨nr,cp,_⟩:=Cw bg;subst hq az;obtain⟨mb,ch⟩:∃ mb,dn.dir=some (mb,es):=by
  have:dn.dir.map (·.2)=some es:=bm;rw[K4] at this;obtain⟨⟨a,b⟩,h1,h2⟩:=this;cases h2;exact⟨a,h1⟩
 have t:s.cur=.pointer none:=by rw[a.cur,j];rfl
 have i:=fo.en;have ao:=Ui i;rw[<-a.wb];simp (disch:=omega) only[go_sem];refine AC8 (s92 (must:=false) a.ok w ⟨by omega,nr,cp⟩ hl cq he (by rw[<-Pn,a.M];exact ae) m bk ah (by simp) fun h w=>?_);have bi:EZ L d e=some c:=by unfold EZ;rw[m];simp only;rw[ch];exact hf
 rw[bi];have ci:∀ k:Vz->Prop,HF .ptr true true h (Pt (ad c))  Au  k=k  AI :=fun k=>by simp[HF,HS]
 rw[BF,BO,GE,oq,Ij,AJ];show HF .ptr true true h (Pt (ad c)) Au _;rw[ci,Ab];obtain⟨w',aw⟩:=Cs a.ok hc hn w;have au:=a.ok.ndOK hn;have cm:=au.1.2.2.1;have cy:=au.1.2.2.2.1;have fin:OX Q (Pt s.wb) (str nm) (Pt fb) (Pt (ad d)) (Pt (ad c)) (str e) (Pt (ad c)) h:=AOE a.ok g (a.inl▸fo) (a.lnk lk j) mv hv bp hP hc hn cu ce bz o ar bq cw bh t w fun n' s' y h ay lw ok w=>by
  have hk:kindB n'.en=kindB (modeK f.en):=by
   have:n'.en=CC f.en:=J3 PN.en ay;rw[this];exact (Dj i).2.2
  rw[hk] at ok w;have hr:=VL (inv:=s'.inv) (c:=c) (nb:=ad c) (nm:=nm) (L':=L.set (c-1) (some n')) (M:=S.M.set (c-1) (some (mkP (reP n.pn f) f S.inl al S.pos))) a j lw ?_ rfl ok
  ·exact K _ y h ⟨_,_,_,hr,w⟩
  ·unfold pnL;rw[E7,<-a.M,<-a.inl,<-a.pos];show _=(pnL L).set (c-1) _;rw[N5,ay];rfl
 have l:(f.en &&& 61440)=kindB f.en:=rfl;rw[<-aw] at fin ⊢;refine SR (s93 w' cm ?_);refine AS (fun hd=>?_) (fun hd=>?_)
 ·have:kindB f.en=16384:=ao.2 (aj.1 hd);refine Af w (u:=cU16 (f.en:Nat)) rfl ?_;rw[Jh i (by decide),l,this,Ay,J0 (by omega),AJ];exact fin
 ·have h2:kindB f.en≠16384:=fun hh=>hd (aj.2 (ao.1 hh));have h3:=bt hd;refine Af w (u:=cU16 (f.en:Nat)) rfl ?_;rw[Jh i (by decide),l,AT,J0 (by omega),AJ];show BS (Pt (ad n.num)) _;rw[Gw,AG];refine Af w' (u:=AM (n.ek:Nat)) rfl ?_;have h4:n.ek<2:=h3;rw[AR,H0 (by omega),Ab];exact fin
end
def QF {zv:Vz}(a:zv.cells=#[zv])(n:Nat):Builtin.zeroCells zv.cells n=⟨List.replicate n zv⟩:=by
 unfold Builtin.zeroCells;rw[a];apply P4;apply O4;intro i;simp;by_cases h:i<n<;>simp[h,Nat.mod_one]
def Tn {T:Tj}{a n m:Nat}{z:Option Vz}{zv v:Vz}{vs:List Vz}{kk:Iq}(d:Vec T 1 v n vs r)(w:AN (r+x) h)(f:z=some zv)(b:zv.cells=#[zv])(j:Value.oneCell' zv=true)
  (g:(n+m)*a<=140737488355328) (c:n+m<=140737488355328) (i:m*a<=140737488355328) (K:∀ v r h,Vec T 1 v (n+m) (vs++List.replicate m zv) r->AN (r+x) h->kt v h):HY T z 1 a v (.int kk (m:Int)) h kt:=by
 refine⟨kk,m,zv,rfl,by omega,by rw[<-Int.natCast_mul];omega,by omega,f,?_⟩;rw[J5,M5];have e:(if m=0 then (#[]:Array Vz) else Builtin.zeroCells zv.cells m)=⟨List.replicate m zv⟩:=by
  rw[QF b];split
  ·rename_i h;subst h;rfl
  ·rfl
 rw[e];exact LV d w f (by rw[b];rfl) g c (by rw[List.all_replicate];simp[j]) (by simp) K
def t0:Tm:=⟨false,0,0⟩
def dirF (m:Nat):FL:=⟨[],0,m,0,0,t0,t0,t0,t0,0,0⟩
def lostN:Bs:=[108,111,115,116,43,102,111,117,110,100]
def Ir (max:Nat):Nat:=(((max-1)/4096+1-1)/32768+1-1)/128+1
def rootP (inl:Bool):PN:={newP (dirF 16877) 2 inl [] 0 with ek:=2}
def M1 (inl:Bool):List (Option PN):=[none,some (rootP inl)]++List.replicate 8 none
def S1 (B:Bs)(inl:Bool)(max db:Nat):PS:=⟨M1 inl,B,(1+Ir max)*4096,none,0,0,inl,max,Ir max,db⟩
def S2 (B:Bs)(inl:Bool)(max db:Nat):PS:=(S1 B inl max db).made 2 (rootP inl) [] lostN (dirF 16832) []
def LI {inl:Bool}{m:Nat}(h:m=16832\/m=16877):FilOK (dirF m) inl []:=by
 have a:t0.ok:=fun h=>by cases h
 have b:kindB (modeK (dirF m).en)=16384:=by rcases h with rfl|rfl<;>decide
 refine⟨by rcases h with rfl|rfl<;>decide,by rw[b];unfold kindOk;omega,a,a,a,a,by show (0:Nat)<=_;omega,by show (0:Nat)<=_;omega,?_,by simp,.nil⟩;rw[b];unfold sdA inlK;simp[needs]
def GQ {m:Nat}(h:m=16832\/m=16877):lnkB (dirF m)=false:=by rcases h with rfl|rfl<;>decide
def Uy {f:FL}{n p:Nat}{inl:Bool}{al:AL}(h:lnkB f=false):newP f n inl al p=newP f n inl al 0:=by
 unfold newP mkP;simp only[h,K3,if_false]
def IY (inl:Bool):kindB (rootP inl).en=16384:=by
 show kindB (CC 16877)=16384;decide
def Yw (inl:Bool):(rootP inl).kids=some []:=by
 show (if kindB (modeK 16877)=16384 then some [] else none)=some [];rw[D0 (by decide)]
def TQ:Am TP 191=some (.agg ⟨(FL.cells (dirF 0) cst__map_none )⟩):=by kernel_rfl
def ADV {s s':WS}{ad:Nat->Nat}{L:List (Option Nd)}{tr tr':Res}{m:Nat}(ok:FOK s ad L tr)(o:s'.OK)(p:Vec 182 1 s'.inv (L.length+m) (L.map (ptrO ad)++List.replicate m (.pointer none)) tr')(d:L.length+m<=10000):FOK s' ad (L++List.replicate m none) tr':=by
 have a:∀ (i:Nat) (n:Nd),(L++List.replicate m none)[i]? = some (some n)->L[i]? = some (some n):=by
  intro i n hi;rcases P5 i L.length with h|h
  ·rwa [Z1 h] at hi
  ·rw[X1 h,S6] at hi;split at hi<;>cases hi
 have b:∀ (i:Nat) (n:Nd),L[i]? = some (some n)->(L++List.replicate m none)[i]? = some (some n):=fun (i:Nat) (n:Nd) hi=>by
  rw[Z1 (G0.1 hi).1];exact hi
 refine⟨o,?_,fun i n hi=>ok.num i n (a i n hi),fun i n hi=>ok.nd i n (a i n hi),fun i n mb es hi j e l=>?_,by simp;omega⟩
 ·rw[H2,W6,C0,M0];exact p
 ·obtain⟨f,c,g⟩:=ok.kid i n mb es (a i n hi) j e l;exact⟨f,c,b _ _ g⟩
theorem RK {ad:Nat->Nat}{L:List (Option Nd)}:∀ m,sumR ad (L++List.replicate m none)=sumR ad L
 | 0=>by simp
 | m+1=>by
  have:L++List.replicate (m+1) none=(L++List.replicate m none)++[none]:=by rw[P0,List.replicate_succ']
  rw[this,Fe,RK m];rfl
theorem ASL {s:WS}(ok:s.OK)(g:HU x)(w:AN (s.res+x) h)(hcur:s.cur=.pointer none)(hdw:s.dw=0)(hdm:s.dm=0)(hmax:4096<=s.max)(hi:∃ a n c,s.inv=.slice a n c)(K:∀ ad h,CD s.wb ad (S2 s.B s.inl s.max s.db) x h->Q .nilIface h):ALs (Pt s.wb) h Q:=by
 have hmx:=ok.max;unfold ALs AW;refine Di (n:=1) (m:=32) (zv:=.pointer none) w MB rfl (by omega) (by omega) (by omega) fun tb h w=>?_;simp (disch:=omega) only[go_sem,AC w];refine AD w (WS.cells {s with inv:=.slice (some ⟨tb,0,none⟩) 1 32}) rfl rfl (by simp) rfl fun h w=>?_;refine BA TQ rfl (rs:=FL.cells (dirF 16877)  cst__map_none) rfl (BG w fun fb h w=>?_);have ok0:FOK {s with inv:=.slice (some ⟨tb,0,none⟩) 1 32} (fun _=>0) [none] (pts tb (.cells ⟨List.replicate 32 Au ⟩ 182 (0,0))):=by
  refine⟨⟨ok.buf,ok.len,ok.max⟩,?_,?_,?_,?_,by simp⟩
  ·exact Vec.own' (by omega) (by simp) (by simp[ptrO])
  ·intro i n hi;rcases i with _|i<;>simp at hi
  ·intro i n hi;rcases i with _|i<;>simp at hi
  ·intro i n mb es hi;rcases i with _|i<;>simp at hi
 refine YV (ARC (s:={s with inv:=.slice (some ⟨tb,0,none⟩) 1 32}) (f:=dirF 16877) (es:=[]) (al:=[]) (x:=x) ok0 g (LI (.inr rfl)) (fun hb=>by rw[GQ (.inr rfl)] at hb;cases hb) .no (fun e he=>by cases he) (by simp) (.refl _) (by simp) (w.cast ?_) fun n nb s' inv tr' fm yy h hpn0 hdir lw ok1 w=>?_)
 ·unfold FR;simp only[sumR,ndR,Res.add_zero,Res.zero_add];unfold WS.res;ac_rfl
 have hs':=lw.eq;rw[GQ (.inr rfl),F0 (by decide)] at hs';subst hs';simp (disch:=omega) only[go_sem];have hn1:([none]++[some n]:List (Option Nd))[2-1]? = some (some n):=rfl;have hlk:n.ek=1:=(J3 PN.ek hpn0).trans (show (if kindB (modeK 16877)=16384 then 1 else 0)=1 by decide);have hinv:=ok1.vec;obtain⟨⟨ia,ic,hiv⟩,_⟩:=hinv.len;have hiv:inv=.slice ia 2 ic:=hiv;obtain⟨w',hnum⟩:=Cs (c:=2) ok1 (by omega) hn1 w;have had:(fun k=>if k=([none]:List (Option Nd)).length+1 then nb else (fun _=>0) k) n.num=nb:=by rw[hnum];rfl
 unfold Nd.res at w';rw[had] at w';simp (disch:=omega) only[go_sem,AC w',hlk];refine AD w' (Nd.cells {n with ek:=2}) rfl rfl (by simp) rfl fun h w=>?_;have e8:(AQ .sub (AB 11) (AB ((2:Nat):Int)))=fun k=>k (AB 9):=funext fun k=>by rw[Ci];rfl
 have e7:(AQ .sub (AB 9)  AX)=fun k=>k (AB ((8:Nat):Int)):=funext fun k=>by rw[Ci];rfl
 simp (disch:=omega) only[go_sem,AC w,hiv,e8,e7];rw[hiv] at hinv;refine Tn (r:=tr') (x:=WS.res {s with inv:=.slice ia 2 ic}+(pts nb (.cells (Nd.cells {n with ek:=2}) 197 (0,0))+(n.dr+(n.xr+n.kr (fun k=>if k=([none]:List (Option Nd)).length+1 then nb else (fun _=>0) k)))+x)) hinv (AN.left (y:=sumR (fun k=>if k=([none]:List (Option Nd)).length+1 then nb else (fun _=>0) k) (([none]++[some n]:List (Option Nd)).set (2-1) none)+pts fb (.cells ⟨(dirF 16877).cells (.map (some fm))⟩ 191 (0,0))+yy) (w.cast (by rw[hiv];ac_rfl))) MB rfl rfl (by simp) (by simp) (by simp) fun v tr2 h dv w=>?_;obtain⟨⟨va,vc,hv⟩,_⟩:=dv.len;subst hv;refine AD w (WS.cells {s with inv:=.slice va (([none]++[some n]:List (Option Nd)).length+8) vc}) rfl rfl (by simp) rfl fun h w=>?_;simp (disch:=omega) only[go_sem,AC w];have hgd:Ir s.max<2000:=by unfold Ir;omega
 refine AD w (WS.cells {s with inv:=.slice va (([none]++[some n]:List (Option Nd)).length+8) vc,gd:=Ir s.max}) rfl rfl (by simp) rfl fun h w=>?_;have eg:(AQ .add BW  (AM (Ir s.max:Nat)))=fun k=>k (AM ((1+Ir s.max:Nat):Int)):=funext fun k=>by rw[BT,<-Lz (m:=1+Ir s.max) (by omega)];rfl
 simp (disch:=omega) only[go_sem,AC w,eg];refine Na (AHN (s:={s with inv:=.slice va (([none]++[some n]:List (Option Nd)).length+8) vc,gd:=Ir s.max}) (w.cast (y:=WS.res {s with inv:=.slice va (([none]++[some n]:List (Option Nd)).length+8) vc,gd:=Ir s.max}+(tr2+(pts nb (.cells (Nd.cells {n with ek:=2}) 197 (0,0))+(n.dr+(n.xr+n.kr (fun k=>if k=([none]:List (Option Nd)).length+1 then nb else (fun _=>0) k)))+x))) (by unfold WS.res;ac_rfl)) (by omega) fun h w=>?_);refine AD w (WS.cells {s with inv:=.slice va (([none]++[some n]:List (Option Nd)).length+8) vc,gd:=Ir s.max,d9:=(1+Ir s.max)*4096,pos:=(1+Ir s.max)*4096,ini:=true}) rfl rfl (by simp) rfl fun h w=>?_;refine BA TQ rfl (rs:=FL.cells (dirF 16832)  cst__map_none) rfl (BG w fun fb2 h w=>?_);have hname:(Value.string ⟨#[108,111,115,116,43,102,111,117,110,100]⟩)=str lostN:=rfl;rw[hname];have hnd:=ok1.ndOK hn1;have hpn:Nd.pn {n with ek:=2}=rootP s.inl:=by
  show {n.pn with ek:=2}=_;rw[hpn0,Uy (GQ (.inr rfl))];rfl
 have p:CD s.wb (fun k=>if k=([none]:List (Option Nd)).length+1 then nb else (fun _=>0) k) (S1 s.B s.inl s.max s.db) (pts fb2 (.cells ⟨(dirF 16832).cells  cst__map_none ⟩ 191 (0,0))+(0+x)) h:=by
  refine⟨{s with inv:=.slice va (([none]++[some n]:List (Option Nd)).length+8) vc,gd:=Ir s.max,d9:=(1+Ir s.max)*4096,pos:=(1+Ir s.max)*4096,ini:=true},[none,some {n with ek:=2}]++List.replicate 8 none,tr2,⟨?_,rfl,rfl,?_,rfl,rfl,rfl,hdw,hdm,hcur,rfl,rfl,rfl,rfl⟩,w.cast ?_⟩
  ·have:=Gs (s':={s with inv:=inv}) ok1 ok1.ws rfl hn1 (n':={n with ek:=2}) rfl ⟨⟨hnd.1.1,hnd.1.2.1,hnd.1.2.2.1,by show 2<100000;omega,hnd.1.2.2.2.2⟩,hnd.2⟩;exact ADV this ⟨ok.buf,ok.len,ok.max⟩ dv (by simp)
  ·show pnL _=M1 s.inl;unfold pnL M1;rw[H2,W6];simp only[Q1,P8,Option.map_none,N5,hpn]
  ·unfold FR;rw[RK];simp only[sumR,ndR,Res.add_zero,Res.zero_add];unfold Nd.res;dsimp only;have hnum':n.num=([none]:List (Option Nd)).length+1:=hnum;rw[D0 hnum'];unfold WS.res Nd.kr;ac_rfl
 refine ABv (OJ (f:=dirF 16832) (e:=lostN) (st:=[]) (d:=2) (q:=rootP s.inl) (es:=[]) (al:=[]) (xs:=[]) (fun Q kk=>Nh p (.none rfl) (kk _)) g rfl (by show (M1 s.inl).length<9999;unfold M1;simp) ⟨⟨_,rfl⟩,by decide,by decide,by decide,rfl,by omega,rfl,IY _⟩ (Yw _) rfl (by show 2<65000;omega) (LI (.inl rfl)) (fun hb=>by rw[GQ (.inl rfl)] at hb;cases hb) .no (fun e he=>by cases he) (by simp) (.refl _) fun ad3 y3 h p=>?_);have p':CD s.wb ad3 (S2 s.B s.inl s.max s.db) x h:=(p.cast (Res.comm _ _)).mono;obtain⟨s3,L3,tr3,a3,w3⟩:=p;rw[<-a3.wb];simp (disch:=omega) only[go_sem,AC w3];exact K ad3 h p'
variable {wb:Nat}{S S':PS}
def CD.ep (p:CD wb ad S x h):∃ r,AN (r+x) h/\∀ x' b,AN (r+x') b->CD wb ad S x' b:=by
 obtain⟨s,L,tr,a,w⟩:=p;exact⟨FR s ad L tr,w,fun x' b c=>⟨s,L,tr,a,c⟩⟩
def Bf (p:CD wb ad S x h){b o:Nat}{c:Array Vz}{T:Tj}{fz:Nat×Nat}[Be b x (.cells c T fz)]:Ae false 1 (.pointer (some ⟨b,o,none⟩)) h k=qm c[o]? k:=by
 obtain⟨r,w,_⟩:=p.ep;exact AC w
def Lj (p:CD wb ad S x h){b o:Nat}{c:Array Vz}{T:Tj}{fz:Nat×Nat}{v:Vz}[Be b x (.cells c T fz)](a:c[o]? = some v):Ae false 1 (.pointer (some ⟨b,o,none⟩)) h fun u=>u=v:=by
 rw[Bf p,a];rfl
def EU (p:CD wb ad S x h){x':Res}{b o n:Nat}{v:Vz}{c:Array Vz}(a:Array Vz){T:Tj}{e:H->Prop}[Be b x (.cells c T (0,0))][ZQ b x (.cells c T (0,0)) (.cells a T (0,0)) x']
  (f:Av c o v.cells.toList=a) (i:v.cells.size=n) (d:o+n<=c.size) (g:v.cells.toList.all Value.oneCell'=true) (K:∀ h,CD wb ad S x' h->e h):BV n (.pointer (some ⟨b,o,none⟩)) v h e:=by
 obtain⟨r,w,cl⟩:=p.ep;exact AD w a f i d g fun h w=>K h (cl _ _ w)
def Sv (p:CD wb ad S x h){T:Tj}{cs:Array Vz}(K:∀ b h,CD wb ad S (pts b (.cells cs T (0,0))+x) h->kt (Pt b) h):Bc T cs h kt:=by
 obtain⟨r,w,cl⟩:=p.ep;exact BG w fun b h w=>K b h (cl _ _ (w.cast (by ac_rfl)))
def ET (p:CD wb ad S x h){z:Option Vz}{zv:Vz}{l:List Vz}{T:Tj}(c:z=some zv)(a:zv.cells=⟨l⟩)(K:∀ b h,CD wb ad S (pts b (.cells ⟨l⟩ T (0,0))+x) h->kt (Pt b) h):Ak z T h kt:=by
 obtain⟨r,w,cl⟩:=p.ep;exact AV w c a fun b h w=>K b h (cl _ _ (w.cast (by ac_rfl)))
def ANg (p:CD wb ad S x h){kl c:Iq}{n:Nat}(a:n<=140737488355328)(K:∀ b h,CD wb ad S (buf b (List.replicate n 0)+x) h->kt (.slice (some ⟨b,0,none⟩) n n) h):Aa (Am TP 5) 1 1 5 (.int kl (n:Int)) (.int c (n:Int)) h kt:=by
 obtain⟨r,w,cl⟩:=p.ep;exact Ei w a fun b h w=>K b h (cl _ _ (w.cast (by ac_rfl)))
def Ip (ino rl nl ft:Nat):Bs:=Ag ino++BR rl++[UInt8.ofNat nl,UInt8.ofNat ft]
theorem LH (a b c d:Nat):(Ip a b c d).length=8:=rfl
def OC {v:Vz}{bs:Bs}{n:Nat}{y:Res}(b:BufV v bs r)(w:AN (r+y) h)(c:n<256)(a:bs.length+1<=140737488355328)(K:∀ v r h,BufV v (bs++[UInt8.ofNat n]) r->AN (r+y) h->kt v h) :
  AK (.arr 1) 5 (Am TP 5) 1 1 [(0,.int .u8 (n:Int))] h fun s h=>Ac 5 (Am TP 5) 1 1 v s h kt:=by
 refine Dh (l:=[UInt8.ofNat n]) w (by decide) ?_ rfl fun b1 h w=>?_
 ·have:(.int .u8 (n:Int):Vz)=bc (UInt8.ofNat n):=by
   rw[<-QK,C2 c]
  rw[this];rfl
 ·rw[Res.left_comm] at w;exact Bu b w (Yv w rfl) (by simpa using a) fun v r h b w=>K v r h b (by rw[Res.left_comm] at w;exact w.right)
def ASo {a b c d:Nat}(w:AN x h)(e:c<256)(f:d<256)(K:∀ v r h,BufV v (Ip a b c d) r->AN (r+x) h->Q v h):AGQ (.agg ⟨[AM a,cU16 b,.int .u8 c,.int .u8 d]⟩) h Q:=by
 unfold AGQ AW;refine BG w fun pb h w=>?_;simp only[go_sem,AC w];refine Gp (VY (bs:=[]) .nil (w.cast (Res.zero_add _).symm) (by simp) fun v r h bv w=>?_);rw[AC w];simp only[go_sem];refine Gq (VZ bv w (by simp[BK]) fun v r h bv w=>?_);rw[AC w];simp only[go_sem];refine OC bv w e (by simp[Ba,BK]) fun v r h bv w=>?_;rw[AC w];simp only[go_sem];refine OC bv w f (by simp[Ba,BK]) fun v r h bv w=>?_;refine K v r h ?_ (AN.right (x:=pts pb _) (w.cast (Res.left_comm _ _ _)));simpa[Ip] using bv
def j8 (p:CD wb ad S x h){a b c d:Nat}(e:c<256)(f:d<256)(K:∀ v r h,BufV v (Ip a b c d) r->CD wb ad S (r+x) h->Q v h):AGQ (.agg ⟨[AM a,cU16 b,.int .u8 c,.int .u8 d]⟩) h Q:=by
 obtain⟨r0,w,cl⟩:=p.ep;exact ASo w e f fun v r h b w=>K v r h b (cl _ _ (w.cast (by ac_rfl)))
def Nw:Am TP 347=some (.agg ⟨[Al,Ex,Ax,Ax]⟩):=by kernel_rfl
def GF (m:Nat):Nat:=if kindB m=32768 then 1 else if kindB m=16384 then 2 else if kindB m=8192 then 3 else if kindB m=24576 then 4 else if kindB m=4096 then 5 else if kindB m=49152 then 6 else if kindB m=40960 then 7 else 0
def SW (m:Nat):GF m<256:=by unfold GF;(repeat' split)<;>omega
theorem ASp {m:Nat}(c:m<65536)(K:Q (.int .u8 (GF m:Nat)) h):AMg (cU16 (m:Int)) h Q:=by
 unfold AMg AW;simp (disch:=omega) only[go_sem];have b:(m &&& 61440)=kindB m:=rfl;rw[b];unfold GF at K;refine AS (fun a=>?_) fun a=>?_
 ·rw[D0 (by omega)] at K;exact K
 rw[F0 (by omega)] at K;refine AS (fun a=>?_) fun a=>?_
 ·rw[D0 (by omega)] at K;exact K
 rw[F0 (by omega)] at K;refine AS (fun a=>?_) fun a=>?_
 ·rw[D0 (by omega)] at K;exact K
 rw[F0 (by omega)] at K;refine AS (fun a=>?_) fun a=>?_
 ·rw[D0 (by omega)] at K;exact K
 rw[F0 (by omega)] at K;refine AS (fun a=>?_) fun a=>?_
 ·rw[D0 (by omega)] at K;exact K
 rw[F0 (by omega)] at K;refine AS (fun a=>?_) fun a=>?_
 ·rw[D0 (by omega)] at K;exact K
 rw[F0 (by omega)] at K;refine AS (fun a=>?_) fun a=>?_
 ·rw[D0 (by omega)] at K;exact K
 rw[F0 (by omega)] at K;exact K
def KN (left:Nat):Bs:=Ip 0 left 0 0++List.replicate (left-8) 0
def FU (nm:Bs):Nat:=(8+nm.length+3)/4*4
def Gg (c ft:Nat)(nm:Bs):Bs:=Ip c (FU nm) nm.length ft++nm++List.replicate (FU nm-(8+nm.length)) 0
structure HT (S:PS) (c:Nat) (n:PN) (room:Nat):Prop where
 cur:S.cur=some c
 pos:1<=c
 nd:S.M[c-1]? = some (some n)
 fl:n.ed=262144
 dm:S.dm=9223372036854775807
 dw:S.dw+room<=100000000
 max:S.pos+room<=S.max
def HT.ez {c room:Nat}{n:PN}{bs:Bs}(a:HT S c n room)(b:bs.length<=room):HT (S.ez bs) c n (room-bs.length):=by
 refine⟨a.cur,a.pos,a.nd,a.fl,a.dm,?_,?_⟩
 ·show S.dw+bs.length+(room-bs.length)<=100000000;have:=a.dw;omega
 ·show S.pos+bs.length+(room-bs.length)<=S.max;have:=a.max;omega
def HT.wrt {c room:Nat}{n:PN}{bs:Bs}(a:HT S c n room)(g:bs.length<=room)(b:0<bs.length):Wrt bs S (S.ez bs):=by
 have d:=a.dw;have e:=a.dm;have f:=a.max;exact .disk a.cur a.pos a.nd b a.fl (by omega) (by omega) (by omega)
def AD8 {B a b:Bs}{p:Nat}(h:B.length<=p):putL (putL B p a) (p+a.length) b=putL B p (a++b):=by
 have e:∀ (B m:Bs) (p:Nat),B.length<=p->putL B p m=B++List.replicate (p-B.length) 0++m:=by
  intro B m p h;unfold putL setL;have c:(B++List.replicate (p+m.length-B.length) 0).take p=B++List.replicate (p-B.length) 0:=by
   rw[List.take_append,X2 (by omega),S8];congr 2;omega
  have d:(B++List.replicate (p+m.length-B.length) 0).drop (p+m.length)=[]:=List.drop_eq_nil_iff.2 (by simp;omega);rw[c,d,X0]
 rw[e _ b _ (by rw[Fa];omega),e B a p h,e B (a++b) p h];have:p+a.length-(B++List.replicate (p-B.length) 0++a).length=0:=by simp;omega
 rw[this];simp
def GK {a b:Bs}(h:S.B.length<=S.pos):(S.ez a).ez b=S.ez (a++b):=by
 unfold PS.ez;simp only[C0,AD8 h,H8]
def TK {a:Bs}(h:S.B.length<=S.pos):(S.ez a).B.length<=(S.ez a).pos:=by
 show (putL S.B S.pos a).length<=S.pos+a.length;rw[Fa];omega
def ALE {a:Nat}(b:a<9223372036854775808):AQ .and (AB (a:Int)) (AB (-4)) k=k (AB ((a/4*4:Nat):Int)):=by
 rw[<-rb (k:=k) b];have e:(BitVec.ofInt 64 (-4)) = ~~~ BitVec.ofInt 64 3:=by decide
 have:DO .and (AB (a:Int)) (AB (-4))=DO .andNot (AB (a:Int)) (AB 3):=by
  show some (Value.int .i64 (IntKind.i64.wrap ((BitVec.ofInt 64 (a:Int) &&& BitVec.ofInt 64 (-4)).toNat:Int)))=some (Value.int .i64 (IntKind.i64.wrap ((BitVec.ofInt 64 (a:Int) &&& ~~~ BitVec.ofInt 64 3).toNat:Int)));rw[e]
 unfold AQ;rw[this]
def AHJ (p:CD wb ad S x h){T:Tj}{l:Bs}(K:∀ v r h,RdX r v l->CD wb ad S (r+x) h->kt v h):AEU T (str l) h kt:=by
 obtain⟨r,w,cl⟩:=p.ep;exact km w fun v r' h d w=>K v r' h d (cl _ _ (w.cast (by ac_rfl)))
def j9 (p:CD wb ad S x h){c:Nat}{n:PN}(e:1<=c)(g:S.M[c-1]? = some (some n)) :
  ∃ (nd:Nd) (r:Res),nd.pn=n/\AN (pts (ad c) (.cells nd.cells 197 (0,0))+(r+x)) h/\(∀ Q:Kt,Q (Pt (ad c)) h->vp (Pt wb) (AM (c:Int)) h Q)/\nd.en<65536:=by
 obtain⟨s,L,tr,a,w⟩:=p;obtain⟨nd,b,j⟩:=Cw (a.M▸g);obtain⟨m,d⟩:=Cs a.ok e b w;have o:=(G0.1 b).1;have f:=a.ok.len;refine⟨nd,nd.dr+(nd.xr+nd.kr ad)+(s.res+(tr+sumR ad (L.set (c-1) none))),j,m.cast (by unfold Nd.res;rw[d];ac_rfl),fun Q l=>?_,(a.ok.nd _ _ b).2.2.1⟩;rw[<-a.wb];refine ANi (i:=c) a.ok w e (by omega) ?_;unfold KV;rw[b];simp only[ptrO];rw[d];exact l
abbrev lbR (lb left:Nat):Res:=pts lb (.cells ⟨[AB left]⟩ 3 (0,0))
abbrev wvR (wv wb:Nat):Res:=pts wv (.cells ⟨[Pt wb]⟩ 126 (0,0))
def AQJ {e wv left c room:Nat}{n:PN}(p:CD wb ad S (lbR e left+(wvR wv wb+x)) h)(a:HT S c n room)(l:12<=left)(j:left<=4096)(m:left<=room)(g:S.B.length<=S.pos)
  (K:∀ h,CD wb ad (S.ez (KN left)) (lbR e 4096+(wvR wv wb+x)) h->Q .nilIface h):AMe (Pt e) (Pt wv) h Q:=by
 unfold AMe AW;simp (disch:=omega) only[go_sem,Bf p,H0];refine BA Nw rfl (rs:=[AM ((0:Nat):Int),cU16 left,.int .u8 ((0:Nat):Int),.int .u8 ((0:Nat):Int)]) rfl ?_;refine ET p Nw rfl fun eb h p=>?_;refine EU p ⟨[AM ((0:Nat):Int),cU16 left,.int .u8 ((0:Nat):Int),.int .u8 ((0:Nat):Int)]⟩ ((AY _ _ _).trans rfl) rfl (by simp) rfl fun h p=>?_;simp only[go_sem,Bf p];obtain⟨r0,w0,cl⟩:=p.ep;rw[BC (w0.find (b:=eb)) (by simp)];refine gc (j8 (a:=0) (b:=left) (c:=0) (d:=0) p (by omega) (by omega) fun v r h bv p=>⟨Lj p rfl,?_⟩);have i:=LH 0 left 0 0;refine Kc (KE p bv.rdX.an (a.wrt (by omega) (by omega)) fun h p=>?_);simp (disch:=omega) only[go_sem,Bf p];refine EU p ⟨[AB ((left-8:Nat):Int)]⟩ rfl rfl (by simp) rfl fun h p=>?_;simp (disch:=omega) only[go_sem,Bf p,J0];refine ANg p (n:=left-8) (by omega) fun mb h p=>⟨Lj p rfl,?_⟩;have a2:=a.ez (bs:=Ip 0 left 0 0) (by omega);have f:RdX (buf mb (List.replicate (left-8) 0)) (.slice (some ⟨mb,0,none⟩) (left-8) (left-8)) (List.replicate (left-8) 0):=.inr ⟨mb,0,left-8,(List.replicate (left-8) 0).map bc,5,(0,0),0,by simp,(Res.add_zero _).symm,by simp,by simp,by simp⟩;refine Kc (KE p f.an (a2.wrt (by simp;omega) (by simp;omega)) fun h p=>?_);simp (disch:=omega) only[go_sem];rw[GK g] at p;refine EU p ⟨[AB ((4096:Nat):Int)]⟩ rfl rfl (by simp) rfl fun h p=>?_;exact K h (CD.mono (y:=r+pts eb (.cells ⟨[AM ((0:Nat):Int),cU16 left,.int .u8 ((0:Nat):Int),.int .u8 ((0:Nat):Int)]⟩ 347 (0,0))+buf mb (List.replicate (left-8) 0)) (p.cast (by ac_rfl)))
abbrev fvR (fv lb wv:Nat):Res:=pts fv (.cells ⟨[.func (.func 200) #[] #[Pt lb,Pt wv]]⟩ 141 (0,0))
def AET {o wv left c e room:Nat}{n n':PN}{nm:Bs}(p:CD wb ad S (lbR o left+(wvR wv wb+x)) h)(a:HT S c n room)(u:1<=e)(hn:S.M[e-1]? = some (some n'))(hm:n'.en<65536)(ah:1<=nm.length)(m:nm.length<256)(hc:e<4294967296)
  (hl:FU nm<=left) (ae:left<=4096) (hr:FU nm<=room) (g:S.B.length<=S.pos)
  (K:∀ h,CD wb ad (S.ez (Gg e (GF n'.en) nm)) (lbR o (left-FU nm)+(wvR wv wb+x)) h->Q .nilIface h):YE Q (AM (e:Int)) (str nm) (Pt o) (Pt wv) (AB ((8+nm.length:Nat):Int)) (AB (FU nm:Nat)) h:=by
 have ai:8+nm.length<=FU nm/\FU nm<8+nm.length+4:=by unfold FU;omega
 unfold YE AW;simp (disch:=omega) only[go_sem,Bf p];obtain⟨nd,nr,l,nw,nq,j⟩:=j9 p u hn;have i:nd.en=n'.en:=by rw[<-l];rfl
 refine Rm (nq _ ?_);simp (disch:=omega) only[go_sem,AC nw,i];refine AGR (ASp hm ?_);refine BA Nw rfl (rs:=[AM e,cU16 (FU nm:Nat),.int .u8 (nm.length:Nat),.int .u8 (GF n'.en:Nat)]) rfl ?_;refine ET p Nw rfl fun eb h p=>?_;refine EU p ⟨[AM e,cU16 (FU nm:Nat),.int .u8 (nm.length:Nat),.int .u8 (GF n'.en:Nat)]⟩ ((AY _ _ _).trans rfl) rfl (by simp) rfl fun h p=>?_;simp only[go_sem,Bf p];obtain⟨r0,w0,cl⟩:=p.ep;rw[BC (w0.find (b:=eb)) (by simp)];refine gc (j8 (a:=e) (b:=FU nm) (c:=nm.length) (d:=GF n'.en) p m (SW _) fun v r h bv p=>⟨Lj p rfl,?_⟩);have w:=LH e (FU nm) nm.length (GF n'.en);refine Kc (KE p bv.rdX.an (a.wrt (by omega) (by omega)) fun h p=>?_);simp (disch:=omega) only[go_sem,Bf p];have a2:=a.ez (bs:=Ip e (FU nm) nm.length (GF n'.en)) (by omega);refine AHJ p fun v2 r2 h q p=>?_;refine Kc (KE p q.an (a2.wrt (by omega) (by omega)) fun h p=>?_);rw[GK g] at p;have a3:=a2.ez (bs:=nm) (by omega);rw[GK g] at a3;simp (disch:=omega) only[go_sem];refine ET p mf rfl fun f h p=>?_;simp (disch:=omega) only[go_sem,Bf p];rw[NG (by omega) (by omega)];have s:RdX (pts f (.cells ⟨[Ax,Ax,Ax,Ax]⟩ 238 (0,0))) (.slice (some ⟨f,0,none⟩) (FU nm-(8+nm.length)) 4) (List.replicate (FU nm-(8+nm.length)) 0):=
  .inr ⟨f,0,4,(List.replicate 4 0).map bc,238,(0,0),0,by simp,(Res.add_zero _).symm,by simp;omega,by rw[M0,I5,<-J7,S8,V2 (by omega)],by simp;omega⟩
 have wr:Wrt (List.replicate (FU nm-(8+nm.length)) 0) (S.ez (Ip e (FU nm) nm.length (GF n'.en)++nm)) (S.ez (Gg e (GF n'.en) nm)):=by
  by_cases t:FU nm-(8+nm.length)=0
  ·unfold Gg;rw[t];simp only[T8,X0];exact .none rfl
  ·unfold Gg;have a4:=a3.wrt (bs:=List.replicate (FU nm-(8+nm.length)) 0) (by rw[M0];omega) (by rw[M0];omega);rw[GK g] at a4;exact a4
 refine Kc (KE p s.an wr fun h p=>?_);simp (disch:=omega) only[go_sem,Bf p];refine EU p ⟨[AB ((left-FU nm:Nat):Int)]⟩ rfl rfl (by simp) rfl fun h p=>?_;exact K h (CD.mono (y:=r2+r+pts eb (.cells ⟨[AM e,cU16 (FU nm:Nat),.int .u8 (nm.length:Nat),.int .u8 (GF n'.en:Nat)]⟩ 347 (0,0))+pts f (.cells ⟨[Ax,Ax,Ax,Ax]⟩ 238 (0,0))) (p.cast (by ac_rfl)))
def FK (left c ft:Nat)(nm:Bs):Nat×Bs:=if left<FU nm+12 then (4096-FU nm,KN left++Gg c ft nm) else (left-FU nm,Gg c ft nm)
def JG {left:Nat}(h:8<=left):(KN left).length=left:=by unfold KN;rw[C0,LH,M0];omega
def LL (c ft:Nat)(nm:Bs):(Gg c ft nm).length=FU nm:=by
 unfold Gg;rw[C0,C0,LH,M0];unfold FU;omega
theorem AN9 {b wv fv left c d room:Nat}{n n':PN}{nm:Bs}(p:CD wb ad S (lbR b left+(wvR wv wb+(fvR fv b wv+x))) h)(a:HT S c n room)(q:1<=d)(u:S.M[d-1]? = some (some n'))(t:n'.en<65536)(f:1<=nm.length)(e:nm.length<256)(s:d<4294967296)
  (v:12<=left) (j:left<=4096) (hr:4500<=room) (g:S.B.length<=S.pos)
  (K:∀ h,CD wb ad (S.ez (FK left d (GF n'.en) nm).2) (lbR b (FK left d (GF n'.en) nm).1+(wvR wv wb+(fvR fv b wv+x))) h->Q .nilIface h):AMf (AM (d:Int)) (str nm) (Pt b) (Pt fv) (Pt wv) h Q:=by
 have w:8+nm.length<=FU nm/\FU nm<8+nm.length+4:=by unfold FU;omega
 have o:(8+nm.length+3)/4*4=FU nm:=rfl;unfold AMf AW;have e8:(AQ .add (AB 8) (AB (nm.length:Nat)))=fun k=>k (AB ((8+nm.length:Nat):Int)):=funext fun k=>by rw[BT,<-Bq (m:=8+nm.length) (by omega)];rfl
 simp (disch:=omega) only[go_sem,e8,ALE,o,Bf p];refine AS (fun i=>?_) (fun i=>?_)
 ·refine callV (l:=[Pt b,Pt wv]) rfl (by kernel_rfl) (f9 (AQJ p a v j (by omega) g fun h p=>?_));simp only[go_sem];have hf:=JG (left:=left) (by omega);refine AET (x:=fvR fv b wv+x) (left:=4096) p (a.ez (bs:=KN left) (by omega)) q u t f e s (by omega) (by omega) (by omega) (TK g) fun h p=>K h ?_;rw[GK g] at p;unfold FK;rw[D0 (by omega)];exact p
 ·refine AET (x:=fvR fv b wv+x) p a q u t f e s (by omega) (by omega) (by omega) g fun h p=>K h ?_;unfold FK;rw[F0 (by omega)];exact p
def Ek (p:CD wb ad S x h){c:Nat}{n:PN}(f:1<=c)(g:S.M[c-1]? = some (some n)):∃ (nd:Nd) (r:Res),nd.pn=n/\nd.num=c/\AN (nd.res ad+(r+x)) h/\∀ x' e,AN (nd.res ad+(r+x')) e->CD wb ad S x' e:=by
 obtain⟨s,L,tr,a,w⟩:=p;obtain⟨nd,b,i⟩:=Cw (a.M▸g);obtain⟨j,d⟩:=Cs a.ok f b w;refine⟨nd,s.res+(tr+sumR ad (L.set (c-1) none)),i,d,j.cast (by ac_rfl),fun x' e w=>⟨s,L,tr,a,w.cast ?_⟩⟩;unfold FR;rw[Gc b];ac_rfl
def Fb (p:CD wb ad S (r+x) h){T:Tj}{v u:Vz}{n i:Nat}{kk:Iq}{vs:List Vz}(d:Vec T 1 v n vs r)(b:vs[i]? = some u)(K:k u):Ap (.slice 1) v (.int kk (i:Int)) fun a=>Ae false 1 a h k:=by
 obtain⟨r0,w,_⟩:=p.ep;exact CF d (w.cast (Res.left_comm _ _ _)) b K
def VM (p:CD wb ad S (r+x) h){T:Tj}{v u:Vz}{n i:Nat}{kk:Iq}{vs:List Vz}{b:H->Prop}(d:Vec T 1 v n vs r)(hi:i<n)(e:u.cells=#[u])(c:Value.oneCell' u=true)
  (K:∀ r h,Vec T 1 v n (vs.set i u) r->CD wb ad S (r+x) h->b h):Ap (.slice 1) v (.int kk (i:Int)) fun a=>BV 1 a u h b:=by
 obtain⟨r0,w,cl⟩:=p.ep;exact DV d (w.cast (Res.left_comm _ _ _)) hi e c fun r h d w=>K r h d (cl _ _ (w.cast (Res.left_comm _ _ _)))
def lessE (es:List (Bs×Nat))(a b:Bs):Bool:=match lookE es a,lookE es b with
 | some i,some j=>if i=j then Op.bytesLess a b else decide (i<j)
 | _,_=>false
abbrev dvR (dv p:Nat):Res:=pts dv (.cells ⟨[Pt p]⟩ 182 (0,0))
abbrev cvR (cv:Nat)(v:Vz):Res:=pts cv (.cells ⟨[v]⟩ 49 (0,0))
def KidsIn (S:PS)(es:List (Bs×Nat)):Prop:=∀ e∈es,1<=e.2/\∃ n,S.M[e.2-1]? = some (some n)
def AKz {dv cv c i j m:Nat}{n:PN}{es:List (Bs×Nat)}{l:List Bs}{v:Vz}{a b:Bs}(p:CD wb ad S (r+(dvR dv (ad c)+(cvR cv v+x))) h)(d:Vec 9 1 v m (strs l) r)(h1:1<=c)(hn:S.M[c-1]? = some (some n))(hk:n.kids=some es)
  (hki:KidsIn S es) (hi:l[i]? = some a) (hj:l[j]? = some b) (ha:∃ x,lookE es a=some x) (hb:∃ x,lookE es b=some x) (K:Q (.bool (lessE es a b)) h) {x0 x1:Vz} (e0:x0=AB i) (e1:x1=AB j) :
  Ae false 1 (Pt dv) h fun x9=>BS x9 fun x10=>Aw 17 x10 fun x11=>Ae false 1 x11 h fun x12=>Ae false 1 (Pt cv) h fun x13=>Ap (.slice 1) x13 x0 fun x15=>Ae false 1 x15 h fun x16=>IV (some .string) (Am TP 182) false x12 x16 h fun x17=>BS x17 fun x18=>Aw 5 x18 fun x19=>Ae false 1 x19 h fun x20=>Ae false 1 (Pt dv) h fun x21=>BS x21 fun x22=>Aw 17 x22 fun x23=>Ae false 1 x23 h fun x24=>Ae false 1 (Pt cv) h fun x25=>Ap (.slice 1) x25 x1 fun x27=>Ae false 1 x27 h fun x28=>IV (some .string) (Am TP 182) false x24 x28 h fun x29=>BS x29 fun x30=>Aw 5 x30 fun x31=>Ae false 1 x31 h fun x32=>AQ .eql x20 x32 fun x35=>BJ x35
 (Ae false 1 (Pt cv) h fun x36=>Ap (.slice 1) x36 x0 fun x38=>Ae false 1 x38 h fun x39=>Ae false 1 (Pt cv) h fun x40=>Ap (.slice 1) x40 x1 fun x42=>Ae false 1 x42 h fun x43=>AQ .lss x39 x43 fun x44=>Q x44 h)
 (AQ .lss x20 x32 fun x47=>Q x47 h):=by
 subst e0 e1;obtain⟨ki,hai⟩:=ha;obtain⟨kj,hbj⟩:=hb;obtain⟨nd,rr,hnd,hnum,w,_⟩:=Ek p h1 hn;obtain⟨mb,hd⟩:∃ mb,nd.dir=some (mb,es):=by
  have:nd.dir.map (·.2)=some es:=by rw[<-hk,<-hnd];rfl
  rw[K4] at this;obtain⟨⟨mb,es'⟩,e1,e2⟩:=this;cases e2;exact⟨mb,e1⟩
 obtain⟨hi1,ni,hni⟩:=hki _ (Jt hai);obtain⟨hj1,nj,hnj⟩:=hki _ (Jt hbj);obtain⟨ndi,ri,hpi,hnumi,wi,_⟩:=Ek p hi1 hni;obtain⟨ndj,rj,hpj,hnumj,wj,_⟩:=Ek p hj1 hnj;have gi:(strs l)[i]? = some (str a):=by unfold strs;rw[Y0,hi];rfl
 have gj:(strs l)[j]? = some (str b):=by unfold strs;rw[Y0,hj];rfl
 have wl:AN (pts (ad c) (.cells nd.cells 197 (0,0))+(nd.dr+(nd.xr+nd.kr ad))+(rr+(r+(dvR dv (ad c)+(cvR cv v+x))))) h:=w.cast (by unfold Nd.res;rw[hnum]);have wi':AN (pts (ad ki) (.cells ndi.cells 197 (0,0))+(ndi.dr+(ndi.xr+ndi.kr ad))+(ri+(r+(dvR dv (ad c)+(cvR cv v+x))))) h:=wi.cast (by unfold Nd.res;rw[hnumi]);have wj':AN (pts (ad kj) (.cells ndj.cells 197 (0,0))+(ndj.dr+(ndj.xr+ndj.kr ad))+(rj+(r+(dvR dv (ad c)+(cvR cv v+x))))) h:=wj.cast (by unfold Nd.res;rw[hnumj]);simp only[go_sem,Bf p];rw[AC wl];simp only[go_sem];refine Fb p d gi ?_;refine GG w ?_;simp only[hd,hai,go_sem];rw[AC wi'];simp only[go_sem];rw[AC wl];simp only[go_sem];refine Fb p d gj ?_;refine GG w ?_;simp only[hd,hbj,go_sem];rw[AC wj'];simp only[go_sem];have hle:lessE es a b=if ki=kj then Op.bytesLess a b else decide (ki<kj):=by unfold lessE;rw[hai,hbj]
 rw[hle] at K;have hn1:ndi.num=ki:=hnumi;have hn2:ndj.num=kj:=hnumj;refine AS (fun he=>?_) (fun he=>?_)
 ·refine Fb p d gi ?_;refine Fb p d gj ?_;rw[Nk];rw[D0 (by omega)] at K;exact K
 ·rw[F0 (by omega)] at K;have:decide ((ndi.num:Int)<(ndj.num:Int))=decide (ki<kj):=decide_eq_decide.2 (by omega);rw[this];exact K
def ASq {dv cv c i j m:Nat}{n:PN}{es:List (Bs×Nat)}{l:List Bs}{v:Vz}{a b:Bs}(p:CD wb ad S (r+(dvR dv (ad c)+(cvR cv v+x))) h)(d:Vec 9 1 v m (strs l) r)(h1:1<=c)(hn:S.M[c-1]? = some (some n))(hk:n.kids=some es)
  (hki:KidsIn S es) (hi:l[i]? = some a) (hj:l[j]? = some b) (ha:∃ x,lookE es a=some x) (hb:∃ x,lookE es b=some x) (K:Q (.bool (lessE es a b)) h):AMh (AB i) (AB j) (Pt dv) (Pt cv) h Q:=by
 unfold AMh AW;exact AKz p d h1 hn hk hki hi hj ha hb K rfl rfl
def ASX {dv cv c i j m:Nat}{n:PN}{es:List (Bs×Nat)}{l:List Bs}{v:Vz}{a b:Bs}(p:CD wb ad S (r+(dvR dv (ad c)+(cvR cv v+x))) h)(d:Vec 9 1 v m (strs l) r)(h1:1<=c)(hn:S.M[c-1]? = some (some n))(hk:n.kids=some es)
  (hki:KidsIn S es) (hi:l[i]? = some a) (hj:l[j]? = some b) (ha:∃ x,lookE es a=some x) (hb:∃ x,lookE es b=some x) (K:Q (.bool (lessE es a b)) h):AMD (AB i) (AB j) (Pt dv) (Pt cv) h Q:=by
 unfold AMD AW;exact AKz p d h1 hn hk hki hi hj ha hb K rfl rfl
def ADY {E:H->Prop}{mb ib cv:Nat}{es:List (Bs×Nat)}(hel:es.length<=100000)(w:AN (pts mb (De ad es)+(pts ib (.mapIter (some mb) es.length #[] es.length)+(cvR cv  cst__slice_none_0_0 +x))) h)
  (K:∀ l v r h,List.Perm l (es.map (·.1))->Vec 9 1 v es.length (strs l) r->AN (pts mb (De ad es)+(r+(cvR cv v+x))) h->E h) :
  Nz (fun rec4 h=>PH (Pt ib) h fun x56 h=>Ck x56 0 fun x57=>BJ x57
   (OO (Pt ib) h fun x58=>Ck x58 0 fun x59=>Ae false 1 (Pt cv) h fun x60=>AK (.arr 1) 9 (Am TP 9) 1 1 [(0,x59)] h fun x62 h=>Ac 9 (Am TP 9) 1 16 x60 x62 h fun x63 h=>BV 1 (Pt cv) x63 h fun h=>rec4 h)
   (E h)) h:=by
 have hbx:∀ (I:List Nat),I.Nodup->(∀ i∈I,i<es.length)->I.length<=es.length:=fun I h1 h2=>by
  have:=List.Nodup.length_le_of_subset (l₂:=List.range es.length) h1 fun i hi=>H6.2 (h2 i hi);simpa using this
 refine AKq (fun m h'=>∃ (I:List Nat) (v:Vz) (r:Res),m=es.length-I.length/\I.Nodup/\(∀ i∈I,i<es.length)/\Vec 9 1 v I.length (strs ((I.filterMap fun i=>es[i]?).map (·.1))) r/\AN (pts mb (De ad es)+(pts ib (.mapIter (some mb) es.length I.toArray es.length)+(r+(cvR cv v+x)))) h') es.length
  ⟨[],.slice none 0 0,0,by simp,List.nodup_nil,by simp,.nil,by rw[Res.zero_add];exact w⟩ ?_
 rintro rec m h' ⟨I,v,r,rfl,hnd,hlt,d,w⟩ hrec;have hIl:=hbx I hnd hlt;have hfl:(I.filterMap fun i=>es[i]?).length=I.length:=by
  have:∀ (I:List Nat),(∀ i∈I,i<es.length)->(I.filterMap fun i=>es[i]?).length=I.length:=by
   intro I
   induction I with
   | nil=>intro _;rfl
   | cons a I ih=>
    intro hh;rw[List.filterMap_cons,B0 (hh a (by simp))];simp[ih fun i hi=>hh i (by simp[hi])]
  exact this I hlt
 refine⟨ib,rfl,.inr ⟨mb,es.length,I.toArray,DK (fun c=>Pt (ad c)) es,?_,w.left.one,?_,fun hall=>?_,fun e he hns=>?_⟩⟩
 ·exact w.find
 ·intro e he;obtain⟨i,a,h1,rfl⟩:=Hg he;exact (G0.1 h1).1
 ·simp only[go_sem];have hI:∀ i,i<es.length->i∈I:=fun i hi=>by
   have:=hall ⟨str es[i].1,Pt (ad es[i].2),i⟩ (by
    refine P7 (i:=i) ?_;rw[Jl,B0 hi];rfl)
   simpa using this
  have hpm:=Mx es I hnd hlt hI;have hln:I.length=es.length:=by rw[<-hfl];exact hpm.length_eq
  rw[hln] at d;exact K _ v r _ (hpm.map _) d (AN.right (x:=pts ib (.mapIter (some mb) es.length I.toArray es.length)) (w.cast (by ac_rfl)))
 ·obtain⟨i,a,h1,rfl⟩:=Hg he;have hil:=(G0.1 h1).1;have hni:i∉I:=by simpa using hns
  simp only[go_sem];have w2:AN (pts ib (.mapIter (some mb) es.length (I++[i]).toArray es.length)+(pts mb (De ad es)+(r+(cvR cv v+x)))) (h'.setIfInBounds ib (.mapIter (some mb) es.length (I.toArray.push i) es.length)):=by
   have e:I.toArray.push i=(I++[i]).toArray:=by simp
   rw[e];exact (w.cast (y:=pts ib (.mapIter (some mb) es.length I.toArray es.length)+(pts mb (De ad es)+(r+(cvR cv v+x)))) (by ac_rfl)).set
  refine⟨ib,mb,es.length,(I++[i]).toArray,DK (fun c=>Pt (ad c)) es,es.length,i,⟨str a.1,Pt (ad a.2),i⟩,rfl,w2.find,by simp,?_,OP _ h1,?_⟩
  ·exact w2.right.left.one
  ·simp only[go_sem,AC w2];refine DC (x:=pts ib (.mapIter (some mb) es.length (I++[i]).toArray es.length)+(pts mb (De ad es)+(cvR cv v+x))) d (w2.cast (by ac_rfl)) HD rfl rfl rfl (by omega) (by omega) fun v' r' h d w=>?_;refine AD w ⟨[v']⟩ (by obtain⟨⟨a,c,rfl⟩,_⟩:=d.len;rfl) (by obtain⟨⟨a,c,rfl⟩,_⟩:=d.len;rfl) (by simp) (by obtain⟨⟨a,c,rfl⟩,_⟩:=d.len;rfl) fun h w=>?_;have hnd':(I++[i]).Nodup:=by
    rw[S4];exact⟨hnd,by simp,by intro a ha b hb;simp at hb;subst hb;intro e;subst e;exact hni ha⟩
   have hlt':∀ j∈I++[i],j<es.length:=by
    intro j hj;rcases N4.1 hj with hj|hj
    ·exact hlt j hj
    ·simp at hj;subst hj;exact hil
   have hle:=hbx _ hnd' hlt';rw[C0,U3] at hle;refine hrec (es.length-(I++[i]).length) h ⟨I++[i],v',r',rfl,hnd',hlt',?_,w.cast (by unfold cvR;ac_rfl)⟩ (by rw[C0,U3];omega);have:(I++[i]).filterMap (fun i=>es[i]?)=(I.filterMap fun i=>es[i]?)++[a]:=by
    rw[List.filterMap_append];simp[h1]
   rw[this];unfold strs at d ⊢;simpa using d
def RG {E:H->Prop}{F dv cv c:Nat}{es:List (Bs×Nat)}{l0:List Bs}{v:Vz}(p:CD wb ad S (r+(dvR dv (ad c)+(cvR cv v+x))) h)(d:Vec 9 1 v l0.length (strs l0) r)(hl0:l0.length<=100000)(hall:∀ a∈l0,∃ k,lookE es a=some k)(hFb:Ii TP F=true)
  (hF:∀ (i j:Nat) (l:List Bs) (r:Res) (Q:Kt) (h:H) (a b:Bs),CD wb ad S (r+(dvR dv (ad c)+(cvR cv v+x))) h->Vec 9 1 v l0.length (strs l) r->l[i]? = some a->l[j]? = some b->(∃ k,lookE es a=some k)->(∃ k,lookE es b=some k)->Q (.bool (lessE es a b)) h ->
   Call TP F [AB i,AB j,Pt dv,Pt cv] h Q)
  (K:∀ r h,Vec 9 1 v l0.length (strs (sortL (lessE es) (l0.length-1) 1 l0)) r->CD wb ad S (r+(dvR dv (ad c)+(cvR cv v+x))) h->E h) :
  BQ (fun rec2 x16 h=>Ae false 1 (Pt cv) h fun x66=>DM x66 fun x67=>AQ .lss x16 x67 fun x68=>BJ x68
   (BQ (fun rec3 x17 h=>AQ .gtr x17  AF fun x73=>CR x73 true (AQ .sub x17 AX  fun x78=>OH TP (.func (.func F) #[] #[Pt dv,Pt cv]) [x17,x78] h fun x79 h=>BJ x79
    (Ae false 1 (Pt cv) h fun x83=>Ae false 1 (Pt cv) h fun x85=>AQ .sub x17  AX  fun x87=>Ae false 1 (Pt cv) h fun x88=>AQ .sub x17  AX  fun x90=>Ap (.slice 1) x88 x90 fun x91=>Ae false 1 x91 h fun x92=>Ae false 1 (Pt cv) h fun x93=>Ap (.slice 1) x93 x17 fun x95=>Ae false 1 x95 h fun x96=>Ap (.slice 1) x83 x17 fun x97=>BV 1 x97 x92 h fun h=>((Ae false 1 (Pt cv) h fun v=>v=x85)/\Ap (.slice 1) x85 x87 fun x98=>BV 1 x98 x96 h fun h=>AQ .sub x17  AX  fun x82=>rec3 x82 h))
    (AQ .add x16  AX  fun x70=>rec2 x70 h)) (AQ .add x16 AX  fun x70=>rec2 x70 h)) x16 h)
   (E h))  AX h:=by
 have hgd:∀ (l:List Bs) (i:Nat),i<l.length->l[i]? = some (l.getD i []):=fun l i hi=>by rw[W0,B0 hi];rfl
 have hknown:∀ (l:List Bs) (i:Nat),l.Perm l0->i<l.length->∃ k,lookE es (l.getD i [])=some k:=fun l i hp hi=>hall _ (hp.mem_iff.1 (D1 (hgd l i hi)));have hv:∃ a m,v=.slice a l0.length m:=by obtain⟨⟨a,m,e⟩,_⟩:=d.len;exact⟨a,m,e⟩
 obtain⟨va,vm,hv⟩:=hv;refine Bj (fun m u h'=>∃ (i:Nat) (l:List Bs) (r:Res),m=l0.length+1-i/\1<=i/\u=AB (i:Nat)/\l.Perm l0/\sortL (lessE es) (l0.length-i) i l=sortL (lessE es) (l0.length-1) 1 l0/\Vec 9 1 v l0.length (strs l) r/\CD wb ad S (r+(dvR dv (ad c)+(cvR cv v+x))) h') l0.length
  ⟨1,l0,r,rfl,I0 _,rfl,N8 _,rfl,d,p⟩ ?_
 rintro rec2 m u h' ⟨i,l,r,rfl,hi1,rfl,hpm,hs,d,p⟩ hrec2;have hll:=hpm.length_eq;simp only[go_sem,Bf p];rw[hv];simp only[go_sem];refine AS (fun hlt=>?_) (fun hge=>?_)
 ·have hlt':i<l0.length:=by omega
  have hm:l0.length-i=(l0.length-(i+1))+1:=by omega
  rw[hm,sortL] at hs;have next:∀ (l':List Bs) (r:Res) (h:H),l'=FC (lessE es) i l->Vec 9 1 v l0.length (strs l') r->CD wb ad S (r+(dvR dv (ad c)+(cvR cv v+x))) h->rec2 (AB ((i+1:Nat):Int)) h:=fun l' r h e d p=>by
   subst e;exact hrec2 _ _ _ ⟨i+1,FC (lessE es) i l,r,rfl,by omega,rfl,(Ic _ _ _ (by omega)).trans hpm,hs,d,p⟩ (by omega)
  refine Bj (fun m u h'=>∃ (j:Nat) (l':List Bs) (r:Res),m=j/\j<=i/\u=AB (j:Nat)/\l'.Perm l0/\FC (lessE es) j l'=FC (lessE es) i l/\Vec 9 1 v l0.length (strs l') r/\CD wb ad S (r+(dvR dv (ad c)+(cvR cv v+x))) h') i ⟨i,l,r,rfl,I0 _,rfl,hpm,rfl,d,p⟩ ?_;rintro rec3 m u h' ⟨j,l',r,hmj,hji,rfl,hpm',hs',d,p⟩ hrec3;have hll':=hpm'.length_eq;simp (disch:=omega) only[go_sem];refine Ct (fun hj=>?_) (fun hj=>?_)
  ·obtain⟨j',rfl⟩:∃ j',j=j'+1:=⟨j-1,by omega⟩;have ga:=hgd l' (j'+1) (by omega);have gb:=hgd l' j' (by omega);simp (disch:=omega) only[go_sem,S5];refine callV (l:=[AB ((j'+1:Nat):Int),AB (j':Int),Pt dv,Pt cv]) rfl hFb (hF (j'+1) j' l' r _ h' _ _ p d ga gb (hknown l' _ hpm' (by omega)) (hknown l' _ hpm' (by omega)) ?_);rw[FC] at hs';cases hle:lessE es (l'.getD (j'+1) []) (l'.getD j' []) with
   | false=>
    rw[hle,F0 (by simp)] at hs';simp (disch:=omega) only[go_sem];exact next l' r _ hs' d p
   | true=>
    rw[hle,D0 rfl] at hs';simp (disch:=omega) only[go_sem,Bf p];refine Fb p d (Fd gb) ?_;refine Fb p d (Fd ga) ?_;refine VM p d (by omega) rfl rfl fun r h d p=>?_;refine⟨Lj p rfl,?_⟩;refine VM p d (by omega) rfl rfl fun r h d p=>?_;rw[Lv,Lv] at d;exact hrec3 j' _ _ ⟨j',Lx l' (j'+1),r,rfl,by omega,rfl,(Kq (by omega) (by omega)).trans hpm',hs',d,p⟩ (by omega)
  ·have hj0:j=0:=by omega
   subst hj0;exact next l' r _ hs' d p
 ·have h0:l0.length-i=0:=by omega
  rw[h0,sortL] at hs;subst hs;exact K r _ d p
def qd {c n:Nat}{nm:ByteArray}(p:CD wb ad S x h)(b:S.cur=none)(K:∀ h,CD wb ad {S with cur:=some c,dw:=0,dm:=n} x h->Q (.tuple #[]) h):f96 (Pt wb) (.string nm) (Pt (ad c)) (AB (n:Int)) h Q:=by
 obtain⟨s,L,tr,a,w⟩:=p;rw[<-a.wb];refine s96 (x:=tr+sumR ad L+x) (w.cast (by unfold FR;ac_rfl)) (by rw[a.cur,b];rfl) ⟨_,rfl⟩ fun h w=>K h ⟨{s with nm:=.string nm,cur:=Pt (ad c),dw:=0,dm:=n},L,tr,⟨a.ok.ws' ⟨a.ok.ws.buf,a.ok.ws.len,a.ok.ws.max⟩ rfl,a.wb,a.ini,a.M,a.B,a.pos,a.d9,rfl,rfl,rfl,a.inl,a.max,a.gd,a.db⟩,w.cast (by unfold FR;ac_rfl)⟩
def CX:Nat->List (Nat×Nat×Bs)->Nat×Bs
 | left,[]=>(left,[])
 | left,e::r=>((CX (FK left e.1 e.2.1 e.2.2).1 r).1,(FK left e.1 e.2.1 e.2.2).2++(CX (FK left e.1 e.2.1 e.2.2).1 r).2)
def Cc (l:List (Nat×Nat×Bs)):Bs:=(CX 4096 l).2++KN (CX 4096 l).1
def modeAt (M:List (Option PN))(k:Nat):Nat:=match M[k-1]? with|some (some n)=>n.en|_=>0
def Hf (M:List (Option PN))(es:List (Bs×Nat))(nm:Bs):Nat×Nat×Bs:=((lookE es nm).getD 0,GF (modeAt M ((lookE es nm).getD 0)),nm)
def Dp (M:List (Option PN))(c pp:Nat)(es:List (Bs×Nat))(l:List Bs):List (Nat×Nat×Bs):=(c,GF (modeAt M c),[46])::(pp,GF (modeAt M pp),[46,46])::l.map (Hf M es)
def Sr {left c ft:Nat}{nm:Bs}(b:12<=left)(d:left<=4096)(e:nm.length<256):12<=(FK left c ft nm).1/\(FK left c ft nm).1<=4096/\(FK left c ft nm).2.length<=552:=by
 have a:8+nm.length<=FU nm/\FU nm<8+nm.length+4:=by unfold FU;omega
 unfold FK;split
 ·simp only[C0,JG (show 8<=left by omega),LL];omega
 ·simp only[LL];omega
def PS.dz (S:PS)(c:Nat)(bs:Bs):PS:=PS.ez {S with cur:=some c,dw:=0,dm:=9223372036854775807} bs
def PS.dl (S:PS)(c:Nat)(n:PN)(bs:Bs):PS:={S.dz c bs with M:=S.M.set (c-1) (some {n with size:=bs.length}),dm:=bs.length}
def JD {c:Nat}{a b:Bs}(h:S.B.length<=S.pos):(S.dz c a).ez b=S.dz c (a++b):=GK h
def OM {c room:Nat}{n:PN}{bs:Bs}(b:1<=c)(d:S.M[c-1]? = some (some n))(a:n.ed=262144)(e:bs.length+room<=100000000)(f:S.pos+bs.length+room<=S.max):HT (S.dz c bs) c n room:=
 ⟨rfl,b,d,a,rfl,by show 0+bs.length+room<=100000000;omega,by show S.pos+bs.length+room<=S.max;omega⟩
def Lk (p:CD wb ad S x h){c:Nat}{n:PN}(f:1<=c)(e:S.M[c-1]? = some (some n)):n.en<65536/\c<4294967296/\n.num=c:=by
 obtain⟨s,L,tr,a,w⟩:=p;obtain⟨nd,b,rfl⟩:=Cw (a.M▸e);have g:=(G0.1 b).1;have d:=a.ok.len;have:=a.ok.num _ _ b;exact⟨(a.ok.nd _ _ b).2.2.1,by omega,by show nd.num=c;omega⟩
def AP6 {wv c:Nat}{n:PN}{bs:Bs}(p:CD wb ad (S.dz c bs) (wvR wv wb+x) h)(h1:1<=c)(hn:S.M[c-1]? = some (some n))(K:∀ h,CD wb ad (S.dl c n bs) (wvR wv wb+x) h->Q .nilIface h) :
  Ae false 1 (Pt wv) h fun i=>BS i fun j=>Aw 3 j fun l=>Ae false 1 l h fun m=>Ae false 1 (Pt wv) h fun o=>BS o fun q=>Aw 5 q fun t=>Ae false 1 t h fun u=>BS m fun v=>Aw 0 v fun ae=>BV 1 ae u h fun h=>Ae false 1 (Pt wv) h fun ah=>Ae false 1 (Pt wv) h fun ai=>BS ai fun aj=>Aw 5 aj fun ao=>Ae false 1 ao h fun ar=>BS ah fun au=>Aw 6 au fun aw=>BV 1 aw ar h fun h=>Q .nilIface h:=by
 obtain⟨s,L,tr,a,w⟩:=p;obtain⟨nd,b,hp⟩:=Cw (a.M▸(show (S.dz c bs).M[c-1]? = some (some n) from hn));obtain⟨w',d⟩:=Cs a.ok h1 b w;have e:s.cur=Pt (ad c):=a.cur;have f:s.dw=bs.length:=by rw[a.dw];show 0+bs.length=_;omega
 have hl:=(G0.1 b).1;have wl:AN (s.res+(pts (ad c) (.cells nd.cells 197 (0,0))+(wvR wv wb+(nd.dr+(nd.xr+nd.kr ad)+(tr+sumR ad (L.set (c-1) none))+x)))) h:=w'.cast (by unfold Nd.res;rw[show ad nd.num=ad c by rw[d]];ac_rfl);rw[<-a.wb] at wl;simp only[go_sem,AC wl,e,f];refine AD wl (Nd.cells {nd with size:=bs.length}) rfl rfl (by simp) rfl fun h w=>?_;simp only[go_sem,AC w,f];refine AD w (WS.cells {s with dm:=bs.length}) rfl rfl (by simp) rfl fun h w=>?_;have g:=a.ok.ndOK b;refine K h ⟨{s with dm:=bs.length},L.set (c-1) (some {nd with size:=bs.length}),tr,⟨Gs a.ok ⟨a.ok.ws.buf,a.ok.ws.len,a.ok.ws.max⟩ rfl b rfl g,a.wb,a.ini,?_,a.B,a.pos,a.d9,a.dw,rfl,a.cur,a.inl,a.max,a.gd,a.db⟩,?_⟩
 ·unfold pnL;rw[E7];have hM:pnL L=S.M:=a.M;show (pnL L).set (c-1) (some {nd.pn with size:=bs.length})=S.M.set (c-1) (some {n with size:=bs.length});rw[hM,hp]
 ·rw[a.wb] at w;refine w.cast ?_;unfold FR;rw[Hz hl];unfold Nd.res WS.res Nd.kr;dsimp only;rw[show ad nd.num=ad c by rw[d],a.wb];ac_rfl
end
end Go.Proofs.YtollddkkdgoonaaGreatDoor
