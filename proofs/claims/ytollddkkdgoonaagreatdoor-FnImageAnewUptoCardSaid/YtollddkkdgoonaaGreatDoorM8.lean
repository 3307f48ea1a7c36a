/- A step. No condition. -/
import Derived.Test.YtollddkkdgoonaaGreatDoorM7
namespace Go.Proofs.YtollddkkdgoonaaGreatDoor
open Go
set_option linter.unusedVariables false
set_option linter.unusedSimpArgs false
set_option linter.defProp false
set_option maxRecDepth 100000
variable {h:H} {k:Value->Prop} {kt Q:Kt} {x y z r:Res}
section
variable {wb:Nat}{S S':PS}{ad:Nat->Nat}
attribute [local irreducible] BJ CR
def ANf {v:Vz}{bs:Bs}(p:CD wb ad S x h)(d:RdX x v bs)(b:0<bs.length)(a:S.pos+bs.length<=S.max)(K:∀ h,CD wb ad (S.put bs) x h->Q (.tuple #[AB (bs.length:Nat),.nilIface]) h):f98 (Pt wb) v h Q:=by
 obtain⟨iv,p⟩:=p.repI;exact j6 p d b a fun h p=>K h p.rep
def AHH {n:Nat}(p:CD wb ad S x h)(b:n=0->S.pos<=S.B.length)(a:S.pos+n<=S.max)(K:∀ h,CD wb ad (S.put (List.replicate n 0)) x h->Q (.tuple #[AB (n:Nat),.nilIface]) h):vu (Pt wb) (AB (n:Int)) h Q:=by
 obtain⟨iv,p⟩:=p.repI;exact VJ p b a fun h p=>K h p.rep
def AHE {n:Nat}(p:CD wb ad S x h)(b:n<4294967296)(K:∀ h,CD wb ad {S with pos:=n*4096} x h->Q (.tuple #[]) h):AFZ (Pt wb) (AM (n:Int)) h Q:=by
 obtain⟨s,L,tr,a,w⟩:=p;rw[<-a.wb];exact AHN (x:=tr+sumR ad L+x) (w.cast (by unfold FR;ac_rfl)) b fun h w=>K h ⟨{s with d9:=n*4096,pos:=n*4096},L,tr,⟨a.ok.ws' ⟨a.ok.ws.buf,a.ok.ws.len,a.ok.ws.max⟩ rfl,a.wb,a.ini,a.M,a.B,rfl,rfl,a.dw,a.dm,a.cur,a.inl,a.max,a.gd,a.db⟩,w.cast (by unfold FR;ac_rfl)⟩
def Vw (bo ito fi dirs:Nat):Nat->Nat
 | 0=>bo
 | 1=>bo+1
 | 2=>ito
 | 4=>fi
 | 5=>dirs
 | _=>0
def KO (f:Nat->Nat):List (Nat->Nat):=f::List.replicate 127 fun _=>0
abbrev gdR (gb:Nat)(f:Nat->Nat):Res:=pts gb (.cells ⟨(KO f).flatMap HH⟩ 226 (0,0))
section grp
variable {b gb ito bo eh vd:Nat} {rec2:Vz->Vz->Vz->H->Prop}
def o6 {f g:Nat->Nat}:Av ⟨(KO f).flatMap HH⟩ 0 (HH g)=(⟨(KO g).flatMap HH⟩:Array Vz):=by
 unfold KO;rw[M3,M3];generalize (List.replicate 127 fun _=>0:List (Nat->Nat)).flatMap HH=rest;exact (AY _ _ _).trans rfl
def ANN {f:Nat->Nat}:0+0*12+12<=(⟨(KO f).flatMap HH⟩:Array Vz).size:=by
 rw[O2];unfold KO;rw[M3,C0];exact Nat.le_add_right 12 _
def AQf (p:CD wb ad S (bmR b (fun i=>decide (i<32768))+(gdR gb (fun _=>0)+x)) h)(q:S.B.length=S.pos)(hi:eh<=32768)(hm:S.pos+8192<=S.max)(u:vd=bo+2)(n:vd<32768)(l:ito<32768)
  (K:∀ h,CD wb ad (S.app (Ew (HR S.M eh) 8192)) (gdR gb (Vw bo ito (eh-Ez (Bl S.M) eh) (Ez (Dg S.M) eh))+x) h->rec2 (AM ((32768:Nat):Int)) (AM (Ez (Bl S.M) eh:Nat)) (AM ((1:Nat):Int)) h) :
  UL Q rec2 (Pt wb) (AM (ito:Int)) (AM ((1:Nat):Int)) (AM (eh:Int)) (AM (bo:Int)) (AM ((2:Nat):Int)) (AM (vd:Int)) (AM (vd:Int)) (AM ((1:Nat):Int)) (.slice (some ⟨gb,0,none⟩) 128 128) (AM (eh*256/4096:Nat)) (AM ((0:Nat):Int)) (AM ((0:Nat):Int)) (AM ((0:Nat):Int)) (Pt b) (cU16 ((32768:Nat):Int)) (cU16 0) (cU16 0) BP  h:=by
 unfold UL;have v:CD wb ad S (bmR b (HR S.M 0)+(gdR gb (fun _=>0)+x)) h:=by
  have e:Ew (HR S.M 0) 8192=Ew (fun i=>decide (i<32768)) 8192:=GD fun i _=>by
   unfold HR;rw[Z4];by_cases hi:i<32768<;>simp[hi]
  unfold bmR;rw[e];exact p
 refine Ms (fun m u4 u5 o g=>∃ j,m=eh-j/\j<=eh/\u4=cU16 (Ez (Dg S.M) j:Nat)/\u5=cU16 (Ez (Bl S.M) j:Nat)/\o=AM (j:Nat)/\CD wb ad S (bmR b (HR S.M j)+(gdR gb (fun _=>0)+x)) g) eh ⟨0,rfl,Q2 _,rfl,rfl,rfl,v⟩ ?_;rintro rec m u4 u5 o g ⟨j,rfl,w,rfl,rfl,rfl,p⟩ a;by_cases f:j<eh
 ·exact AQa p f hi fun h p=>a (eh-(j+1)) _ _ _ _ ⟨j+1,rfl,by omega,rfl,rfl,rfl,p⟩ (by omega)
 ·have d:j=eh:=by omega
  subst d;have s:=KZ (Dg S.M) j;have t:=KZ (Bl S.M) j;have c:=Gk (HR S.M j) 8192;unfold UK BL;simp (disch:=omega) only[go_sem,J0,EB (show 0<8192 by decide)];refine ST (ANf (bs:=Ew (HR S.M j) 8192) p (RdX.an (.inr ⟨b,0,8192,(Ew (HR S.M j) 8192).map bc,222,(0,0),0,by rw[c],(Res.add_zero _).symm,by rw[Z0];omega,by rw[I5,<-J7,L1],by omega⟩)) (by omega) (by omega) fun h p=>?_);have e0:(AQ .mul (AM 2) (AM ((0:Nat):Int)))=fun k=>k (AM ((0:Nat):Int)):=funext fun k=>by rw[CZ];rfl
  have e1:(AQ .sub (cU16 32768) (cU16 ((32768:Nat):Int)))=fun k=>k (cU16 ((0:Nat):Int)):=funext fun k=>by rw[Ci];rfl
  rw[Nr q] at p;simp (disch:=omega) only[go_sem,e0,e1,G6,Z4,U1];refine BA TT rfl (rs:=HH (Vw bo ito (j-Ez (Bl S.M) j) (Ez (Dg S.M) j))) (by kernel_rfl) ?_;rw[Yc (by omega)];refine EU p ⟨(KO (Vw bo ito (j-Ez (Bl S.M) j) (Ez (Dg S.M) j))).flatMap HH⟩ ?_ rfl ANN rfl fun h p=>?_
  ·rw[G6,U1];exact o6
  ·exact K h (CD.mono (y:=bmR b (HR S.M j)) (p.cast (Res.comm _ _)))
end grp
section grp
variable {b gb ito bo eh vd:Nat} {rec2:Vz->Vz->Vz->H->Prop}
def PS.maps (S:PS)(eh:Nat):PS:={S.app (Ew (HR S.M eh) 8192) with pos:=4096}
theorem AQZ (p:CD wb ad S (gdR gb (fun _=>0)+x) h)(hB:S.B.length=S.pos)(hi:eh<=32768)(hm:S.pos+8192<=S.max)(g:vd=bo+2)(c:vd<32768)(d:ito<32768)(e:S.gd=1)
  (K:∀ h,CD wb ad (S.app (Ew (HR S.M eh) 8192)) (gdR gb (Vw bo ito (eh-Ez (Bl S.M) eh) (Ez (Dg S.M) eh))+x) h->rec2 (AM ((32768:Nat):Int)) (AM (Ez (Bl S.M) eh:Nat)) (AM ((1:Nat):Int)) h) :
  UJ Q rec2 (Pt wb) (AM (ito:Int)) (AM ((1:Nat):Int)) (AM (eh:Int)) (AM (bo:Int)) (AM ((2:Nat):Int)) (AM (vd:Int)) (AM (vd:Int)) (AM ((1:Nat):Int)) (.slice (some ⟨gb,0,none⟩) 128 128) (AM (eh*256/4096:Nat)) (AM ((0:Nat):Int)) (AM ((0:Nat):Int)) (AM ((0:Nat):Int)) h:=by
 unfold UJ BL;have e1:decide (((0:Nat):Int)<((1:Nat):Int))=true:=rfl;rw[AR,e1,Ab];refine ET p AHu rfl fun b h p=>?_;rw[AFK] at p;have f1:(AQ .add (AM ((0:Nat):Int))  BW)=fun k=>k (AM ((1:Nat):Int)):=funext fun k=>by rw[BT];rfl
 have f2:(AQ .mul (AM ((1:Nat):Int)) (AM 32768))=fun k=>k (AM ((32768:Nat):Int)):=funext fun k=>by rw[CZ];rfl
 have f3:(AQ .mul (AM ((0:Nat):Int)) (AM 32768))=fun k=>k (AM ((0:Nat):Int)):=funext fun k=>by rw[CZ];rfl
 have e2:decide (((32768:Nat):Int)<=((vd:Nat):Int))=false:=J0 (by omega);have t:decide (((0:Nat):Int)<((vd:Nat):Int))=true:=H0 (by omega);simp only[f1,f2,f3,BY,AR];rw[e2,AJ,t,Ab];obtain⟨r0,w,cl⟩:=p.ep;refine AQh (b:=b) (x:=r0+(gdR gb (fun _=>0)+x)) (w.cast (Res.left_comm _ _ _)) c fun h w=>?_;unfold AB7 AW;have e4:decide (((0:Nat):Int)=0)=true:=rfl;have j:(AQ .add BW  (AM ((1:Nat):Int)))=fun k=>k (AM ((2:Nat):Int)):=funext fun k=>by rw[BT];rfl
 simp only[go_sem,e4,j];have p:CD wb ad S (bmR b (fun i=>decide (i<vd))+(gdR gb (fun _=>0)+x)) h:=cl _ _ (w.cast (Res.left_comm _ _ _));unfold AJT;refine DF (fun m u v n=>m=0/\u=cU16 (vd:Nat)/\v=AM ((2:Nat):Int)/\CD wb ad S (bmR b (fun i=>decide (i<vd))+(gdR gb (fun _=>0)+x)) n) 0 ⟨rfl,rfl,rfl,p⟩ ?_;rintro q m u v n ⟨rfl,rfl,rfl,p⟩ _;unfold AB4 BL;obtain⟨s,L,tr,a,w⟩:=id p;have f:s.gd=1:=by rw[a.gd,e]
 have o:s.wb=wb:=a.wb;have e6:decide (((2:Nat):Int)<((2:Nat):Int))=false:=rfl;rw[<-o];simp only[go_sem,AC w,f,j,e6];rw[o];unfold AJS AW;have e7:(AQ .sub (AM ((1:Nat):Int))  BW)=fun k=>k (AM ((0:Nat):Int)):=funext fun k=>by rw[Ci];rfl
 have l:vd%32768=vd:=C2 c;have e10:decide (((vd:Nat):Int)≠0)=true:=H0 (by omega);simp (disch:=omega) only[go_sem,e7,l,decide_true];rw[e10];unfold AJR AW;simp (disch:=omega) only[go_sem,l];obtain⟨r0,w,cl⟩:=p.ep;refine AQg (b:=b) (x:=r0+(gdR gb (fun _=>0)+x)) (w.cast (Res.left_comm _ _ _)) c rfl fun h w=>?_;have p:CD wb ad S (bmR b (fun i=>decide (i<32768))+(gdR gb (fun _=>0)+x)) h:=cl _ _ (w.cast (Res.left_comm _ _ _));exact AQf p hB hi hm g c d K
theorem AQe (p:CD wb ad S (gdR gb (fun _=>0)+x) h)(j:S.B.length=S.pos)(hi:eh<=32768)(q:S.pos+8192<=S.max)(i:vd=bo+2)(d:vd<32768)(b:ito<32768)(g:S.gd=1)
  (K:∀ h,CD wb ad (S.maps eh) (gdR gb (Vw bo ito (eh-Ez (Bl S.M) eh) (Ez (Dg S.M) eh))+x) h->gn Q (Pt wb) (AM ((1:Nat):Int)) (AM (eh:Int)) (AM (vd:Int)) (AM ((32768:Nat):Int)) (AM (Ez (Bl S.M) eh:Nat)) (.slice (some ⟨gb,0,none⟩) 128 128) (AB ((128:Nat):Int))  AF h) :
  AB9 Q (Pt wb) (AM (ito:Int)) (AM ((1:Nat):Int)) (AM (eh:Int)) (AM (bo:Int)) (AM ((2:Nat):Int)) (AM (vd:Int)) (AM (vd:Int)) (AM ((1:Nat):Int)) (.slice (some ⟨gb,0,none⟩) 128 128) (AM (eh*256/4096:Nat))  BP   BP   BP  h:=by
 unfold AB9;refine Ms (fun m u v t e=>(m=1/\u=AM ((0:Nat):Int)/\v=AM ((0:Nat):Int)/\t=AM ((0:Nat):Int)/\CD wb ad S (gdR gb (fun _=>0)+x) e)\/
   (m=0/\u=AM ((32768:Nat):Int)/\v=AM (Ez (Bl S.M) eh:Nat)/\t=AM ((1:Nat):Int)/\CD wb ad (S.app (Ew (HR S.M eh) 8192)) (gdR gb (Vw bo ito (eh-Ez (Bl S.M) eh) (Ez (Dg S.M) eh))+x) e)) 1 (.inl ⟨rfl,rfl,rfl,rfl,p⟩) ?_
 rintro rec m u v t e (⟨rfl,rfl,rfl,rfl,p⟩|⟨rfl,rfl,rfl,rfl,p⟩) c
 ·exact AQZ p j hi q i d b g fun h p=>c 0 _ _ _ _ (.inr ⟨rfl,rfl,rfl,rfl,p⟩) (by omega)
 ·unfold UJ BL;have e1:decide (((1:Nat):Int)<((1:Nat):Int))=false:=rfl;have hz:(vd-bo-2)*4096=0:=by omega
  have o:=Gk (HR S.M eh) 8192;simp (disch:=omega) only[go_sem,e1,hz];have f:(S.app (Ew (HR S.M eh) 8192)).B.length=(S.app (Ew (HR S.M eh) 8192)).pos:=by
   show (S.B++Ew (HR S.M eh) 8192).length=S.pos+(Ew (HR S.M eh) 8192).length;rw[C0,j]
  refine Rn (AHH (n:=0) p (fun _=>by omega) (by show S.pos+(Ew (HR S.M eh) 8192).length+0<=S.max;omega) fun h p=>?_);rw[Nr f] at p;have hs:(S.app (Ew (HR S.M eh) 8192)).app (List.replicate 0 0)=S.app (Ew (HR S.M eh) 8192):=by
   unfold PS.app;simp
  rw[hs] at p;simp only[go_sem];refine Na (AHE (n:=1) p (by decide) fun h p=>?_);have p:CD wb ad (S.maps eh) (gdR gb (Vw bo ito (eh-Ez (Bl S.M) eh) (Ez (Dg S.M) eh))+x) h:=p;obtain⟨s,L,tr,a,w⟩:=id p;have l:s.wb=wb:=a.wb;rw[<-l];simp only[go_sem,AC w];rw[l];exact K h p
end grp
theorem SV {α:Type}{g:α->List Vz}{n:Nat}(d:∀ a,(g a).length=n):∀ (l:List α) (i:Nat) (a:α),l[i]? = some a->(⟨l.flatMap g⟩:Array Vz).extract (i*n) (i*n+n)=⟨g a⟩
 | [],i,a,h=>by simp at h
 | b::l,0,a,h=>by
  simp only[L4,M2] at h;subst h;apply P4;simp only[M3,L8,I3,G6,U1,C8,I5];rw[<-d b,L2 (I0 _),L1]
 | b::l,i+1,a,h=>by
  have f:=SV d l i a (by simpa using h);apply P4;have c:=J3 Array.toList f;simp only[M3,L8,I3,M4] at c ⊢;have e:(i+1)*n=(g b).length+i*n:=by rw[d b,V5,P6,O8]
  rw[e,List.drop_append,show (g b).length+i*n-(g b).length=i*n by omega,C5 (show (g b).length<=(g b).length+i*n by omega),U2];exact c
theorem Od {α β:Type}{g:α->List β}{n:Nat}(b:∀ a,(g a).length=n):∀ l:List α,(l.flatMap g).length=l.length*n
 | []=>by simp
 | a::l=>by rw[M3,C0,Od b l,b,J1,V5,P6,O8]
theorem Ol (f:Nat->Nat):(HH f).length=12:=rfl
theorem IS (f:Nat->Nat):(Vv f).length=32:=rfl
def Ok (f:Nat->Nat):(KO f).length=128:=by simp[KO]
def Cy (f:Nat->Nat)(i:Nat):Bs:=((KO f).take i).flatMap Vv
def FF (f:Nat->Nat)(i:Nat)(hi:i<=128):(Cy f i).length=32*i:=by
 unfold Cy;rw[Od IS,W1,Ok];omega
def j2 {B m:Bs}{p:Nat}(h:p+m.length<=B.length):putL B p m=setL B p m:=by
 unfold putL;rw[show p+m.length-B.length=0 by omega];simp
theorem AQd {s:WS}{gb:Nat}{f:Nat->Nat}{x8 x9 x14 x19 x20:Vz}{B:Bs}(ok:s.OK)(w:AN (s.res+(gdR gb f+x)) h)(o:s.B=B)(ai:s.d9=4096)(hl:8192<=B.length)
  (K:∀ (rec1:Vz->H->Prop) dv r h,WS.OK {s with dv:=dv,dr:=r,B:=setL B 4096 (Cy f 128),d9:=8192}->AN (WS.res {s with dv:=dv,dr:=r,B:=setL B 4096 (Cy f 128),d9:=8192}+(gdR gb f+x)) h ->
   QX Q rec1 (Pt s.wb) x8 x9 x14 x19 x20 (.slice (some ⟨gb,0,none⟩) 128 128) (AB ((128:Nat):Int)) (AB ((128:Nat):Int)) h) :
  gn Q (Pt s.wb) x8 x9 x14 x19 x20 (.slice (some ⟨gb,0,none⟩) 128 128) (AB ((128:Nat):Int)) AF  h:=by
 have d:=ok.max;have a:=ok.len;have ar:(setL B 4096 ([]:Bs)).length=B.length:=by rw[Pd]
 unfold gn;refine Bj (fun m u t=>∃ (i:Nat) (dv:Vz) (r:Res),m=128-i/\i<=128/\u=AB (i:Nat)/\WS.OK {s with dv:=dv,dr:=r,B:=setL B 4096 (Cy f i),d9:=4096+32*i} /\
   AN (WS.res {s with dv:=dv,dr:=r,B:=setL B 4096 (Cy f i),d9:=4096+32*i}+(gdR gb f+x)) t) 128 ⟨0,s.dv,s.dr,rfl,by omega,rfl,?_,?_⟩ ?_
 ·have e:Cy f 0=[]:=rfl;rw[e,Pd];exact⟨by rw[<-o];exact ok.buf,by rw[<-o];exact ok.len,ok.max⟩
 ·refine w.cast ?_;unfold WS.res;rw[ai]
 ·rintro rec m u t ⟨i,dv,r,rfl,hi,rfl,n,w⟩ j;by_cases c:i<128
  ·obtain⟨g,hg⟩:∃ g,(KO f)[i]? = some g:=⟨_,B0 (by rw[Ok];exact c)⟩;have ah:=FF f i (by omega);have l:(setL B 4096 (Cy f i)).length=B.length:=Ad (by omega);unfold QX BL;have e1:decide ((i:Int)<((128:Nat):Int))=true:=H0 (by omega);rw[AR,e1,Ab,Yc c,U1,BC (w.find (b:=gb)) (by rw[O2,Od Ol,Ok];omega),SV Ol _ _ _ hg];refine AV w TT rfl fun tb h w=>?_;refine AD w ⟨HH g⟩ ((AY _ _ _).trans rfl) rfl (by exact I0 12) rfl fun h w=>?_;simp only[go_sem,AC w];have aj:(⟨HH g⟩:Array Vz).extract 0 (0+12)=⟨HH g⟩:=rfl;rw[BC (w.find (b:=tb)) (by exact I0 12),aj];refine AFj (ASB w fun v r2 h bv w=>⟨Aj w rfl,?_⟩);have k1:∀ A T W D R G X:Res,A+(T+(W+(D+R)+(G+X)))=D+(R+(W+(A+(T+(G+X))))):=by intros;ac_rfl
   refine Ro (ANj (news:=Vv g) (T:=121) n.buf (w.cast (k1 _ _ _ _ _ _ _)) (bv.rdX.an.bf) (by rw[IS];show 4096+32*i+32<=140737488355328;omega) (by show (setL B 4096 (Cy f i)).length<=140737488355328;rw[l,<-o];omega) (by rw[IS];omega) fun dv' r' h p w=>?_);simp (disch:=omega) only[go_sem];have ae:putL (setL B 4096 (Cy f i)) (4096+32*i) (Vv g)=setL B 4096 (Cy f (i+1)):=by
    rw[j2 (by rw[l,IS];omega),FM (by omega) (by rw[ah,IS];omega)];congr 1;unfold Cy;rw[O3,hg];simp
   have q:BufV dv' (setL B 4096 (Cy f (i+1))) r':=by rw[<-ae];exact p
   have k2:∀ A T W D R G X:Res,D+(R+(W+(A+(T+(G+X)))))=(W+(D+R)+(G+X))+(A+T):=by intros;ac_rfl
   refine j (128-(i+1)) _ _ ⟨i+1,dv',r',rfl,by omega,rfl,⟨q,?_,d⟩,?_⟩ (by omega)
   ·show (setL B 4096 (Cy f (i+1))).length<=s.max;rw[Ad (by rw[FF f (i+1) (by omega)];omega),<-o];exact a
   ·have hp:4096+32*i+(Vv g).length=4096+32*(i+1):=by rw[IS];omega
    have w2:=w.cast (k2 _ _ _ _ _ _ _);rw[show ({s with dv:=dv,dr:=r,B:=setL B 4096 (Cy f i),d9:=4096+32*i}:WS).d9=4096+32*i from rfl,hp] at w2;exact w2.left
  ·have ao:i=128:=by omega
   subst ao;exact K rec dv r t n w
def NS (eh vd fi inc:Nat):Nat->Nat
 | 0=>eh
 | 1=>vd
 | 4=>fi
 | 6=>2
 | 7=>2
 | 8=>32768
 | 9=>32768
 | 10=>eh
 | 15=>61267
 | 16=>1
 | 17=>1
 | 22=>1
 | 25=>11
 | 26=>256
 | 28=>520
 | 29=>inc
 | 30=>4170
 | 180=>24
 | 181=>24
 | 187=>31
 | 357=>11
 | _=>0
def mg:Am TP 242=some (.agg ⟨KS fun _=>0⟩):=by kernel_rfl
def AEY {eh vd fi inc:Nat}(b:eh<4294967296)(c:vd<4294967296)(d:fi<4294967296)(e:inc<4294967296):WD (NS eh vd fi inc):=by
 have a:∀ i,NS eh vd fi inc i<18446744073709551616:=fun i=>by unfold NS;split<;>omega
 refine⟨fun i hi=>?_,a⟩;simp only[I1,V7,or_false] at hi;rcases hi with rfl|rfl|rfl|rfl|rfl|rfl|rfl|rfl|rfl|rfl|rfl|rfl<;>(first|exact Nat.zero_lt_succ _|(show 31<256;decide))
def AHR (f:Nat->Nat):(KS f).length=465:=by
 have:=CJ (f:=f)
 rwa [O2] at this
def Jz (f:Nat->Nat):(KR f).length=1024:=by
 unfold KR;simp only[C0,Ba,BK,C4,M0,U3,show ∀ n,(IU n).length=8 from fun _=>rfl]
def IE:Bs:=List.replicate 4096 0
def KH:IE.length=4096:=M0 ..
def DP (F:Nat->Nat):Bs:=setL IE 1024 (KR F)
def HZ (F:Nat->Nat):(DP F).length=4096:=by
 unfold DP;rw[Ad (by rw[Jz,KH];decide),KH]
theorem AFH (F:Nat->Nat):setL IE (0+1024*1) (KR F)=DP F:=rfl
attribute [local irreducible] KS KR DP IE
theorem AK1 {s:WS}{F:Nat->Nat}{bb sb vd:Nat}(ok:s.OK)(w:AN (s.res+(pts bb (.cells (bcs IE) 205 (0,0))+(pts sb (.cells ⟨KS F⟩ 242 (0,0))+x))) h)(q:WD F)(u:4096<=s.B.length)(i:vd<4294967296)
  (K:∀ dv r d p h,WS.OK {s with dv:=dv,dr:=r,B:=setL s.B 0 (DP F),d9:=d,pos:=p}->AN (WS.res {s with dv:=dv,dr:=r,B:=setL s.B 0 (DP F),d9:=d,pos:=p}+x) h->Q .nilIface h) :
  AB6 Q (Pt s.wb) (AM (vd:Int)) (Pt bb) (Pt sb) h:=by
 have l:=ok.max;have j:=ok.len;have o:(Value.int .i64 1024)=AB ((1024:Nat):Int):=rfl;have m:=CJ (f:=F);have g:(⟨KS F⟩:Array Vz).extract 0 (0+465)=⟨KS F⟩:=by rw[<-m,U1,Array.extract_size]
 unfold AB6 AW;rw[o,Lt (by omega),BC (w.find (b:=sb)) (by rw[m];exact I0 _),g];refine AFk (ASC q w fun v r h bv w=>?_);have k1:∀ R S B C X:Res,R+(S+(B+(C+X)))=B+(R+(S+(C+X))):=by intros;ac_rfl
 refine Hc (off:=0+1024*1) (all:=IE) (w.cast (k1 _ _ _ _ _)) bv.rdX.an (by rw[Jz,KH];decide) (by rw[Jz];decide) fun h w=>?_;have k2:∀ R S B C X:Res,B+(R+(S+(C+X)))=S+(B+(C+(R+X))):=by intros;ac_rfl
 refine Na (AHN (n:=0) (s:=s) (w.cast (k2 _ _ _ _ _)) (by decide) fun h w=>?_);rw[EB (show 0<4096 by decide)];have c:=HZ F;rw[AFH] at w;have w:AN (WS.res {s with d9:=0,pos:=0}+(pts bb (.cells (bcs (DP F)) 205 (0,0))+(pts sb (.cells ⟨KS F⟩ 242 (0,0))+(r+x)))) h:=w;have d:RdX (pts bb (.cells (bcs (DP F)) 205 (0,0))+(pts sb (.cells ⟨KS F⟩ 242 (0,0))+(r+x))) (.slice (some ⟨bb,0,none⟩) 4096 4096) (DP F):=
  RdX.an (.inr ⟨bb,0,4096,(DP F).map bc,205,(0,0),0,by rw[c],(Res.add_zero _).symm,by rw[Z0];omega,by rw[I5,<-J7,L1],by omega⟩)
 have e:putL s.B 0 (DP F)=setL s.B 0 (DP F):=j2 (by omega);refine ST (s98 (s:={s with d9:=0,pos:=0}) (news:=DP F) ⟨ok.buf,ok.len,ok.max⟩ w d (by omega) (by rw[c];show 0+4096<=s.max;omega) rfl fun dv r2 h a w=>?_);have a:WS.OK {s with dv:=dv,dr:=r2,B:=putL s.B 0 (DP F),d9:=0+(DP F).length,pos:=0+(DP F).length}:=a;have w:AN (WS.res {s with dv:=dv,dr:=r2,B:=putL s.B 0 (DP F),d9:=0+(DP F).length,pos:=0+(DP F).length}+(pts bb (.cells (bcs (DP F)) 205 (0,0))+(pts sb (.cells ⟨KS F⟩ 242 (0,0))+(r+x)))) h:=w;rw[e] at a w;simp only[go_sem];refine Na (AHN (s:={s with dv:=dv,dr:=r2,B:=setL s.B 0 (DP F),d9:=0+(DP F).length,pos:=0+(DP F).length}) w i fun h w=>?_);simp only[go_sem,AC w];have t:∀ R S B C X:Res,S+(B+(C+(R+X)))=S+X+(B+(C+R)):=by intros;ac_rfl
 exact K dv r2 (vd*4096) (vd*4096) h ⟨a.buf,a.len,a.max⟩ (w.cast (t _ _ _ _ _)).left
end
section
variable {wb:Nat}{S S':PS}{ad:Nat->Nat}
attribute [local irreducible] BJ CR
def Vs {b:Nat}:pts b (.cells ⟨List.replicate 4096  BE ⟩ 205 (0,0))=pts b (.cells (bcs IE) 205 (0,0)):=by
 unfold IE;rw[FP];congr 2
def MN (inl:Bool):Nat:=if inl=true then 33346 else 578
def AOL (F:Nat->Nat):(KS F).all Value.oneCell'=true:=by kernel_rfl
def AOJ {a b c:Nat}:Av ⟨KS (NS a b c 578)⟩ 29 [AM ((33346:Nat):Int)]=(⟨KS (NS a b c 33346)⟩:Array Vz):=by kernel_rfl
def ARD {a b c d:Nat}:(⟨KS (NS a b c d)⟩:Array Vz)[29]? = some (AM (d:Nat)):=RD rfl
def AHS {a b c:Nat}:Du (DB (.struct [(0,1),(1,1),(2,1),(3,1),(4,1),(5,1),(6,1),(7,1),(8,1),(9,1),(10,1),(11,1),(12,1),(13,1),(14,1),(15,1),(16,1),(17,1),(18,1),(19,1),(20,1),(21,1),(22,1),(23,1),(24,1),(25,1),(26,1),(27,1),(28,1),(29,1),(30,1),(31,16),(47,16),(63,64),(127,1),(128,1),(129,1),(130,1),(131,16),(147,1),(148,1),(149,1),(150,4),(154,1),(155,1),(156,1),(157,1),(158,1),(159,1),(160,17),(177,1),(178,1),(179,1),(180,1),(181,1),(182,1),(183,1),(184,1),(185,1),(186,1),(187,1),(188,1),(189,1),(190,1),(191,1),(192,1),(193,1),(194,1),(195,1),(196,1),(197,1),(198,1),(199,32),(231,1),(232,1),(233,1),(234,1),(235,1),(236,32),(268,64),(332,1),(333,1),(334,1),(335,2),(337,4),(341,16),(357,1),(358,1),(359,1),(360,1),(361,1),(362,1),(363,1),(364,1),(365,1),(366,2),(368,96),(464,1)])) (KS fun _=>0)
  [(0,AM (a:Int)),(1,AM (b:Int)),(3,AM ((0:Nat):Int)),(4,AM (c:Int)),(5,AM 0),(6,AM 2),(7,AM 2),(8,AM 32768),(9,AM 32768),(10,AM (a:Int)),(15,cU16 61267),(16,cU16 1),(17,cU16 1),(21,AM 0),(22,AM 1),(25,AM 11),(86,AM 11),(26,cU16 256),(28,AM 520),(29,AM 578),(30,AM 4170),(53,cU16 24),(54,cU16 24),(60,.int .u8 31)]=some (KS (NS a b c 578)):=by kernel_rfl
attribute [local irreducible] KS KR DP IE
theorem AQY {s:WS}{rec1:Vz->H->Prop}{gb eh vd u:Nat}{m:Vz}{f:Nat->Nat}(ok:s.OK)(w:AN (s.res+(gdR gb f+x)) h)(i:4096<=s.B.length)(hi:eh<=32768)(o:vd<32768)(n:u<=eh)
  (K:∀ dv r d p h,WS.OK {s with dv:=dv,dr:=r,B:=setL s.B 0 (DP (NS eh vd (eh-u) (MN s.inl))),d9:=d,pos:=p}->AN (WS.res {s with dv:=dv,dr:=r,B:=setL s.B 0 (DP (NS eh vd (eh-u) (MN s.inl))),d9:=d,pos:=p}+x) h->Q .nilIface h) :
  QX Q rec1 (Pt s.wb) (AM ((1:Nat):Int)) (AM (eh:Int)) (AM (vd:Int)) (AM ((32768:Nat):Int)) (AM (u:Int)) m (AB ((128:Nat):Int)) (AB ((128:Nat):Int)) h:=by
 unfold QX BL;have e1:decide (((128:Nat):Int)<((128:Nat):Int))=false:=rfl;rw[AR,e1,AJ];refine AV w AHt rfl fun bb h w=>?_;rw[Vs] at w;have f1:(AQ .mul (AM (eh:Int)) (AM ((1:Nat):Int)))=fun k=>k (AM (eh:Int)):=funext fun k=>by rw[Yp,M5,Lz (by omega)]
 have f2:(AQ .mul (AM 32768) (AM ((1:Nat):Int)))=fun k=>k (AM ((32768:Nat):Int)):=funext fun k=>by rw[CZ];rfl
 have f3:(AQ .sub (AM ((32768:Nat):Int)) (AM ((32768:Nat):Int)))=fun k=>k (AM ((0:Nat):Int)):=funext fun k=>by rw[Ci];rfl
 have j:(AQ .sub (AM (eh:Int)) (AM (u:Int)))=fun k=>k (AM ((eh-u:Nat):Int)):=funext fun k=>by rw[TF n,Lz (by omega)]
 simp only[f1,f2,f3,j];refine BA mg rfl AHS ?_;refine AV w mg rfl fun sb h w=>?_;refine AD w ⟨KS (NS eh vd (eh-u) 578)⟩ (AU ((AHR _).trans CJ.symm)) CJ (by rw[CJ];exact I0 _) (AOL _) fun h w=>?_;have k1:∀ A B S G X:Res,A+(B+(S+(G+X)))=S+(B+(A+(G+X))):=by intros;ac_rfl
 have k2:∀ S G X:Res,S+(G+X)=S+X+G:=by intros;ac_rfl
 simp only[go_sem,AC w];cases g:s.inl with
 | true=>
  rw[Ab];simp only[ARD,Hn];have l:(AQ .or (AM ((578:Nat):Int)) (AM 32768))=fun k=>k (AM ((33346:Nat):Int)):=funext fun k=>by
   have:=APd (a:=578) (b:=32768) (k:=k) (by decide) (by decide);exact this
  simp only[l];refine AD w ⟨KS (NS eh vd (eh-u) 33346)⟩ AOJ rfl (by rw[CJ];decide) rfl fun h w=>?_;refine AK1 ok (w.cast (k1 _ _ _ _ _)) (AEY (by omega) (by omega) (by omega) (by decide)) i (by omega) fun dv r d p h e w=>?_;have c:MN s.inl=33346:=by unfold MN;rw[g];rfl
  rw[c] at K;exact K dv r d p h e (w.cast (k2 _ _ _)).left
 | false=>
  rw[AJ];refine AK1 ok (w.cast (k1 _ _ _ _ _)) (AEY (by omega) (by omega) (by omega) (by decide)) i (by omega) fun dv r d p h e w=>?_;have c:MN s.inl=578:=by unfold MN;rw[g];rfl
  rw[c] at K;exact K dv r d p h e (w.cast (k2 _ _ _)).left
end
section
variable {wb:Nat}{S S':PS}{ad:Nat->Nat}
attribute [local irreducible] BJ CR
def AHF (p:CD wb ad S x h){n:PN}(c:S.M[1]? = some (some n))(K:Q (Pt (ad 2)) h):AFe (Pt wb) h Q:=by
 obtain⟨s,L,tr,a,w⟩:=p;obtain⟨nd,b,_⟩:=Cw (a.M▸c);rw[<-a.wb];refine APf a.ok w ?_;unfold KV;rw[b];simp only[ptrO];rw[a.ok.num _ _ b];exact K
def j7 (p:CD wb ad S x h)(b:S.pos<=S.max)(K:Q (AM (S.pos/4096:Nat)) h):AFY (Pt wb) h Q:=by
 obtain⟨s,L,tr,a,w⟩:=p;rw[<-a.wb];refine s100 (x:=tr+sumR ad L+x) a.ok.ws (by rw[a.pos,a.max];exact b) (w.cast (by unfold FR;ac_rfl)) ?_;rw[a.pos];exact K
theorem UV {l:List Vz}{k:Nat}(b:l.length=k)(c:0<k):∀ (n i:Nat),((List.replicate n l).flatten)[i]? = if i<n*k then l[i%k]? else none
 | 0,i=>by simp
 | n+1,i=>by
  rw[List.replicate_succ,List.flatten_cons];by_cases h:i<k
  ·rw[Z1 (by omega),D0 (by rw[V5,P6];omega),C2 h]
  ·rw[X1 (by omega),b,UV b c n (i-k),V5,P6];have d:(i-k)%k=i%k:=by
    conv=>rhs;rw[show i=i-k+k by omega]
    rw[Nat.add_mod_right]
   rw[d];by_cases a:i-k<n*k
   ·rw[D0 a,D0 (by omega)]
   ·rw[F0 a,F0 (by omega)]
def pd {l:List Vz}{k:Nat}(a:l.length=k)(b:0<k)(n:Nat):BN ⟨l⟩ (n*k)=⟨(List.replicate n l).flatten⟩:=by
 apply N6;intro i;have e:(⟨(List.replicate n l).flatten⟩:Array Vz)[i]? = ((List.replicate n l).flatten)[i]?:=by simp
 rw[e,UV a b];unfold BN;rw[Array.getElem?_map,Array.getElem?_range];by_cases h:i<n*k
 ·rw[D0 h,D0 h];have c:i%k<l.length:=by rw[a];exact Nat.mod_lt _ b
  have d:l[i%k]? = some l[i%k]:=B0 c;subst a;rw[d];simp[c]
 ·rw[F0 h,F0 h];rfl
theorem ADc:BN (Value.agg ⟨HH fun _=>0⟩).cells (128*12)=⟨(KO fun _=>0).flatMap HH⟩:=by
 have a:(Value.agg ⟨HH fun _=>0⟩).cells=⟨HH fun _=>0⟩:=rfl;rw[a,pd (Ol _) (by decide)];have b:KO (fun _=>0)=List.replicate 128 (fun _=>0):=rfl;rw[b,List.flatMap_def,W6]
def ANX (w:AN x h)(K:∀ b h,AN (gdR b (fun _=>0)+x) h->kt (.slice (some ⟨b,0,none⟩) 128 128) h):Aa (Am TP 226) 12 32 226 (AM ((128:Nat):Int)) (AM ((128:Nat):Int)) h kt:=
 ⟨.u32,.u32,128,128,_,rfl,rfl,TT,by omega,by omega,by omega,by omega,fun b a e d f=>by
  refine K b a (w.new e d (f.trans ?_));exact J3 (fun c=>some (Obj.cells c 226 (0,0))) ADc⟩
def CG (S:PS):Bs:=
 let eh:=ipgOf S.M.length
 let ito:=S.pos/4096
 let M:=S.M.map (Option.map IB)
 let B1:=S.B++(FN S.M++List.replicate (eh*256-256*S.M.length) 0)++Ew (HR M eh) 8192
 let vd:=ito+eh/16+2
 setL (setL B1 4096 (Cy (Vw (ito+eh/16) ito (eh-Ez (Bl M) eh) (Ez (Dg M) eh)) 128)) 0 (DP (NS eh vd (eh-Ez (Bl M) eh) (MN S.inl)))
structure ClOK (S:PS):Prop where
 tab:TabOK S.M
 B:S.B.length=S.pos
 al:S.pos%4096=0
 big:8192<=S.pos
 n1:1<=S.M.length
 n2:S.M.length<=10000
 vd:S.pos/4096+ipgOf S.M.length/16+2<32768
 max:S.pos+ipgOf S.M.length*256+8192<=S.max
 gd:S.gd=1
def AEF (p:CD wb ad S x h):∃ a c s,s=S.M.length/\∀ k:Vz->Prop,k (.slice a s c)->BS (Pt wb) fun b=>Aw 1 b fun d=>Ae false 1 d h k:=by
 obtain⟨s,L,tr,a,w⟩:=p;obtain⟨⟨g,i,f⟩,_⟩:=a.ok.vec.len;refine⟨g,i,L.length,by rw[<-a.M];simp[pnL],fun k e=>?_⟩;rw[<-a.wb];simp only[go_sem,AC w];rw[f];exact e
attribute [local irreducible] Cy Ew setL DP NS Vw HR FN Ez Bl Dg KO HH
theorem AQc {eh ito:Nat}(c:ClOK S)(e:ipgOf S.M.length=eh)(f:S.pos/4096=ito)(p:CD wb ad (S.ey (eh*256)) x h)
  (K:∀ h,(∃ s y,WS.OK s/\s.db=S.db/\s.B=CG S/\AN (s.res+(y+x)) h)->Q .nilIface h) :
  AB8 Q (Pt wb) (AM (ito:Int)) (AM ((1:Nat):Int)) (AM (eh:Int)) (AM (ito+eh/16:Nat)) (AM ((2:Nat):Int)) (AM (ito+eh/16+2:Nat)) (AM (ito+eh/16+2:Nat)) h:=by
 have h1:=c.n1;have h2:=c.n2;have v:=c.vd;have h4:=c.max;have h5:=c.B;have h6:=c.big;have hi:S.M.length<=ipgOf S.M.length/\ipgOf S.M.length<S.M.length+16/\ipgOf S.M.length%16=0:=by unfold ipgOf;omega
 have u:=IA c.tab;rw[e] at hi v h4;rw[f] at v;have i:(S.ey (eh*256)).B.length=(S.ey (eh*256)).pos:=by
  show (S.B++(FN S.M++List.replicate (eh*256-256*S.M.length) 0)).length=S.pos+eh*256;rw[C0,C0,u,M0];omega
 have hM:(S.ey (eh*256)).M=S.M.map (Option.map IB):=rfl;unfold AB8 AW;have f1:(AQ .sub (AM ((1:Nat):Int))  BW)=fun k=>k (AM ((0:Nat):Int)):=funext fun k=>by rw[Ci];rfl
 have f2:(AQ .quo (AM ((0:Nat):Int)) (AM 128))=fun k=>k (AM ((0:Nat):Int)):=funext fun k=>by rw[NU (by decide)];rfl
 have f3:(AQ .add (AM ((0:Nat):Int))  BW)=fun k=>k (AM ((1:Nat):Int)):=funext fun k=>by rw[BT];rfl
 have f4:(AQ .mul (AM ((1:Nat):Int)) (AM 128))=fun k=>k (AM ((128:Nat):Int)):=funext fun k=>by rw[CZ];rfl
 have e1:decide (((1:Nat):Int)>((1:Nat):Int))=false:=rfl;obtain⟨s,L,tr,a,w⟩:=id p;have t:s.gd=1:=by rw[a.gd];exact c.gd
 have n:s.wb=wb:=a.wb;rw[<-n];have l:eh*256<4294967296:=by omega
 have f5:(AQ .mul (AM (eh:Int)) (AM 256))=fun k=>k (AM ((eh*256:Nat):Int)):=funext fun k=>by rw[Sk,Lz l]
 have f6:(AQ .quo (AM ((eh*256:Nat):Int)) (AM 4096))=fun k=>k (AM ((eh*256/4096:Nat):Int)):=funext fun k=>by rw[St (by decide),Lz (U6 (A9 _ _) l)]
 simp only[f1,f2,f3,f5,f6];simp only[go_sem,AC w,t,e1,f4];rw[n];obtain⟨r0,w0,cl⟩:=p.ep;refine ANX w0 fun gb h w=>?_;have p:CD wb ad (S.ey (eh*256)) (gdR gb (fun _=>0)+x) h:=cl _ _ (w.cast (Res.left_comm _ _ _));refine AQe (S:=S.ey (eh*256)) (eh:=eh) (vd:=ito+eh/16+2) (bo:=ito+eh/16) (ito:=ito) p i (by omega) (by show S.pos+eh*256+8192<=S.max;omega) rfl (by omega) (by omega) c.gd fun h p=>?_;obtain⟨s,L,tr,a,w⟩:=p;have j:=KZ (Bl (S.ey (eh*256)).M) eh;have b:s.B=(S.ey (eh*256)).B++Ew (HR (S.ey (eh*256)).M eh) 8192:=a.B;have o:8192<=s.B.length:=by
  rw[b,C0,i];show 8192<=S.pos+eh*256+_;omega
 have n:s.wb=wb:=a.wb;rw[<-n];refine AQd (s:=s) (x:=tr+sumR ad L+x) a.ok.ws (w.cast (by unfold FR;ac_rfl)) b a.d9 (by rw[<-b];exact o) fun rec1 dv r h g w=>?_;have q:=FF (Vw (ito+eh/16) ito (eh-Ez (Bl (S.ey (eh*256)).M) eh) (Ez (Dg (S.ey (eh*256)).M) eh)) 128 (by omega);refine AQY (s:={s with dv:=dv,dr:=r,B:=setL ((S.ey (eh*256)).B++Ew (HR (S.ey (eh*256)).M eh) 8192) 4096 (Cy (Vw (ito+eh/16) ito (eh-Ez (Bl (S.ey (eh*256)).M) eh) (Ez (Dg (S.ey (eh*256)).M) eh)) 128),d9:=8192}) g w ?_ (by omega) (by omega) j fun dv r d p h g w=>K h ⟨_,tr+sumR ad L,g,?_,?_,w⟩
 ·show 4096<=(setL _ 4096 _).length;rw[Ad (by rw[<-b,q];omega),<-b];omega
 ·show s.db=S.db;exact a.db
 ·have m:s.inl=S.inl:=a.inl;show setL (setL _ 4096 _) 0 (DP (NS eh (ito+eh/16+2) _ (MN s.inl)))=CG S;unfold CG;rw[m,e,f];rfl
attribute [local irreducible] CG
def AK9 (S:PS)(x:Res)(h:H):Prop:=∃ s y,WS.OK s/\s.db=S.db/\s.B=CG S/\AN (s.res+(y+x)) h
def s63 {S1 S2:PS}{f:Nat}{n2:PN}(g:∀ Q:Kt,(∀ ad h,CD wb ad S1 x h->Q .nilIface h)->YU (Pt wb) h Q)(d:S1.M[1]? = some (some n2))(hr:RecD f S1 2 2 S2)(e:Fin S2 S)(c:ClOK S)(K:∀ h,AK9 S x h->Q .nilIface h):f63 (Pt wb) h Q:=by
 have v:=c.n1;have h2:=c.n2;have q:=c.vd;have w:=c.max;have h5:=c.B;have ae:=c.al;obtain⟨eh,a⟩:∃ eh,ipgOf S.M.length=eh:=⟨_,rfl⟩;obtain⟨ito,b⟩:∃ ito,S.pos/4096=ito:=⟨_,rfl⟩;have hi:S.M.length<=ipgOf S.M.length/\ipgOf S.M.length<S.M.length+16/\ipgOf S.M.length%16=0:=by unfold ipgOf;omega
 rw[a] at hi q w;rw[b] at q;have j:eh*256<4294967296:=by omega
 have n:S.M.length<4294967296:=by omega
 unfold f63 AW;refine MM (g _ fun ad h p=>?_);rw[Ij,AJ];refine Zh (AHF p d ?_);refine Zi (APg f S1 2 2 S2 _ _ _ hr p fun h p=>?_);rw[Ij,AJ];refine MM (Nh p e fun h p=>?_);rw[Ij,AJ];refine Rk (j7 p (by omega) ?_);rw[b];obtain⟨va,vc,vs,o,i⟩:=AEF p;refine i _ ?_;have f1:(GO .u32 (AB (vs:Int)))=fun k=>k (AM (S.M.length:Nat)):=funext fun k=>by rw[Ea,o,Lz n]
 rw[As,f1];refine AFh (AR9 v (by omega) (by rw[a];omega) ?_);rw[a,BF,BO];have f2:(AQ .mul BW  (AM (eh:Int)))=fun k=>k (AM (eh:Int)):=funext fun k=>by rw[CZ,Int.one_mul,Lz (by omega)]
 have f3:(AQ .mul (AM (eh:Int)) (AM 256))=fun k=>k (AM ((eh*256:Nat):Int)):=funext fun k=>by rw[Sk,Lz j]
 rw[f2];dsimp only;rw[f3];refine AFi (ASA (T:=eh*256) p c.tab c.B (by omega) j (by omega) fun h p=>?_);rw[Ij,AJ];have m:(S.ey (eh*256)).pos/4096=ito+eh/16:=by
  show (S.pos+eh*256)/4096=ito+eh/16;omega
 refine Rk (j7 p (by show S.pos+eh*256<=S.max;omega) ?_);rw[m];have s:(AQ .mul BW  (AM 2))=fun k=>k (AM ((2:Nat):Int)):=funext fun k=>by rw[CZ];rfl
 have l:ito+eh/16+2<4294967296:=by omega
 have t:(AQ .add (AM (ito+eh/16:Nat)) (AM ((2:Nat):Int)))=fun k=>k (AM ((ito+eh/16+2:Nat):Int)):=funext fun k=>by rw[IJ,Lz l]
 have f6:(AQ .sub BW   BW)=fun k=>k (AM ((0:Nat):Int)):=funext fun k=>by rw[Ci];rfl
 have u:(AQ .mul (AM ((0:Nat):Int)) (AM 32768))=fun k=>k (AM ((0:Nat):Int)):=funext fun k=>by rw[CZ];rfl
 have f8:(AQ .add (AM ((0:Nat):Int))  BW)=fun k=>k (AM ((1:Nat):Int)):=funext fun k=>by rw[BT];rfl
 have e1:decide (((ito+eh/16+2:Nat):Int)<((1:Nat):Int))=false:=J0 (by omega);simp only[s,t,f6,u,f8,AR];rw[e1,AJ];exact AQc c a b p K
end
section
variable {wb db:Nat}{S S':PS}{ad:Nat->Nat}{inl:Bool}
attribute [local irreducible] BJ CR
def Gi:Nat:=17179869184
abbrev ZL (wb db:Nat)(inl:Bool):WS:=⟨wb,db,.slice none 0 0,[],0,0,.slice none 0 0,str [],.pointer none,0,0,0,false,inl,Gi,0⟩
def AOZ:(ZL wb db inl).OK:=⟨.nil,Q2 _,by show Gi<=1099511627776;decide⟩
def qr (wb db:Nat)(inl:Bool)(x:Res)(h:H):Prop:=AN ((ZL wb db inl).res+x) h
theorem ox (p:qr wb db inl x h)(g:HU x)(K:∀ ad h,CD wb ad (S2 [] inl Gi db) x h->Q .nilIface h):YU (Pt wb) h Q:=by
 have w:AN ((ZL wb db inl).res+x) h:=p;have e:(ZL wb db inl).wb=wb:=rfl;rw[<-e];unfold YU AW;simp only[go_sem,AC w];have hi:(!(ZL wb db inl).ini)=true:=rfl;rw[hi,Ab];refine AFu (ASL AOZ g w rfl rfl rfl (by show 4096<=Gi;decide) ⟨_,_,_,rfl⟩ fun ad h p=>?_);rw[Ij,AJ];have p:CD wb ad (S2 [] inl Gi db) x h:=p;have b:(S2 [] inl Gi db).cur=none:=rfl;obtain⟨s,L,tr,a,w⟩:=id p;have c:s.cur=.pointer none:=by rw[a.cur,b];rfl
 have d:s.wb=wb:=a.wb;unfold UO AW;rw[<-d];simp only[go_sem,AC w,c];exact K ad h p
def AHr:Am TP 184=some (.agg ⟨[.pointer none,.slice none 0 0,str [],.pointer none,AB 0,AB 0,AB 0,.nilIface,.bool false,.bool false,AB 0,Al]⟩):=by kernel_rfl
def AHp:Am TP 121=some (.agg ⟨[.slice none 0 0,AB 0]⟩):=by kernel_rfl
def ly:Am TP 123=some .nilFunc:=by kernel_rfl
theorem s90 {mb:Nat}(w:AN ((ZL wb db inl).res+(pts mb (.cells ⟨[AB ((0:Nat):Int)]⟩ 2 (0,0))+x)) h)(K:∀ h,AN ((ZL wb db inl).res+(pts mb (.cells ⟨[AB ((0:Nat):Int)]⟩ 2 (0,0))+x)) h->Q (.tuple #[]) h):f90 (Pt wb) (Pt mb) h Q:=by
 unfold f90 AW;have e1:decide (((0:Nat):Int)<0)=false:=rfl;have e2:decide (((0:Nat):Int)>17592186044416)=false:=rfl;have a:decide (((0:Nat):Int)=0)=true:=rfl;rw[AC w,Oz,AR,e1,Bt,AC w,Oz,Ah,e2];unfold AKV AW;rw[AJ,AC w,Oz,AT,a,Ab];simp only[go_sem];exact AD w (ZL wb db inl).cells rfl rfl (by show 10+1<=12;decide) rfl fun h w=>K h w
def s53 (w:AN ((ZL wb db inl).res+x) h)(K:∀ h,AN ((ZL wb db true).res+x) h->Q (.tuple #[]) h):f53 (Pt wb) h Q:=by
 unfold f53 AW;simp only[go_sem];exact AD w (ZL wb db true).cells rfl rfl (by show 9+1<=12;decide) rfl fun h w=>K h w
def NQ (mb:Nat)(inl:Bool):List Vz:=.func (.func 90) #[] #[Pt mb]::if inl=true then [.func (.func 53) #[] #[]] else []
theorem s54 {mb:Nat}{ov:Vz}(d:Vec 123 1 ov (NQ mb inl).length (NQ mb inl) r)(w:AN (pts db (.cells ⟨[.slice none 0 0,AB ((0:Nat):Int)]⟩ 121 (0,0))+(pts mb (.cells ⟨[AB ((0:Nat):Int)]⟩ 2 (0,0))+(r+x))) h)
  (K:∀ wb h,qr wb db inl x h->Q (Pt wb) h):f54 (Pt db) ov h Q:=by
 obtain⟨⟨q,s,c⟩,_⟩:=d.len;unfold f54 AW;refine BA AHr rfl (rs:=(ZL 0 db false).cells.toList) rfl (BG w fun wb h w=>?_);have k1:∀ A B C R X:Res,A+(B+(C+(R+X)))=A+(B+0)+(C+(R+X)):=by intros;rw[Res.add_zero];ac_rfl
 have w:AN ((ZL wb db false).res+(pts mb (.cells ⟨[AB ((0:Nat):Int)]⟩ 2 (0,0))+(r+x))) h:=w.cast (k1 _ _ _ _ _);rw[c,As,<-c];unfold AJB;have p:∀ W C R X:Res,W+(C+(R+X))=W+X+(C+R):=by intros;ac_rfl
 refine Bj (fun m u f=>∃ i,m=(NQ mb inl).length-i/\i<=(NQ mb inl).length/\u=AB (i:Nat)/\AN ((ZL wb db (inl&&decide (2<=i))).res+(pts mb (.cells ⟨[AB ((0:Nat):Int)]⟩ 2 (0,0))+(r+x))) f) (NQ mb inl).length ⟨0,rfl,Q2 _,rfl,by simpa using w⟩ ?_;rintro rec m u f ⟨i,rfl,hi,rfl,w⟩ b;unfold ABu BL;rw[AR];refine AS (fun o=>?_) (fun n=>?_)
 ·have a:i<(NQ mb inl).length:=by omega
  have j:i=0\/(i=1/\inl=true):=by
   cases inl with
   | true=>have:(NQ mb true).length=2:=rfl;rw[this] at a;rcases (show i=0\/i=1 by omega) with e|e;exact .inl e;exact .inr ⟨e,rfl⟩
   | false=>have:(NQ mb false).length=1:=rfl;rw[this] at a;exact .inl (by omega)
  rcases j with rfl|⟨rfl,rfl⟩
  ·refine CF d (w.cast (Kq0 _ _ _ _)) (i:=0) rfl ?_;refine callV (l:=[Pt wb,Pt mb]) rfl (by kernel_rfl) (ANG (s90 w fun h w=>?_));simp (disch:=omega) only[go_sem];refine b _ _ _ ⟨1,rfl,a,rfl,?_⟩ (by omega);have e:(inl&&decide (2<=1))=(inl&&decide (2<=0)):=by simp
   rw[e];exact w
  ·refine CF d (w.cast (Kq0 _ _ _ _)) (i:=1) rfl ?_;refine callV (l:=[Pt wb]) rfl (by kernel_rfl) (AM4 (s53 w fun h w=>?_));simp (disch:=omega) only[go_sem];exact b _ _ _ ⟨2,rfl,a,rfl,w⟩ (by omega)
 ·have g:i=(NQ mb inl).length:=by omega
  have e:(inl&&decide (2<=i))=inl:=by
   rw[g];unfold NQ;cases inl<;>rfl
  rw[e] at w;exact K wb f (w.cast (p _ _ _ _)).left
attribute [local irreducible] Ak Bc An Aa AK Ac
def mc:Am TP 188=some (.agg ⟨[.bool false,AB 0,AB 0]⟩):=by kernel_rfl
def s97 {a:Bool}{b c:Int}(w:AN x h)(K:∀ h,AN x h->Q (.agg ⟨[.bool a,AB b,AB c]⟩) h):f97 (.agg ⟨[.bool a,AB b,AB c]⟩) h Q:=by
 unfold f97 AW;refine BG w fun b1 h w=>?_;refine AV w mc rfl fun b2 h w=>?_;simp only[go_sem,AC w];refine BA mc rfl (rs:=[.bool a,AB b,AB c]) rfl ?_;refine AD w ⟨[.bool a,AB b,AB c]⟩ ((AY _ _ _).trans rfl) rfl (by simp) rfl fun h w=>?_;rw[BC (w.find (b:=b2)) (by simp)];exact K h w.right.right
def dedA (xs:AL):AL:=xs.foldl (fun o a=>DS o a.1 a.2) []
theorem jz (nm:Bs)(v:Vz)(bs:Bs):∀ es:XM,GI (DS es nm (v,bs))=DS (GI es) nm bs
 | []=>rfl
 | e::es=>by
  unfold DS;show GI (if e.1=nm then _ else _)=if e.1=nm then _ else _
  split
  ·rfl
  ·show _::GI (DS es nm (v,bs))=_;rw[jz nm v bs es];rfl
def AG8 {α:Type}(l:List (Bs×α))(nm:Bs)(c:α):(DS l nm c).length<=l.length+1:=by
 rw[VE];split<;>omega
theorem Rg:∀ (xs o:AL),(xs.foldl (fun o a=>DS o a.1 a.2) o).length<=o.length+xs.length
 | [],o=>I0 _
 | a::xs,o=>by
  have b:=Rg xs (DS o a.1 a.2);have c:=AG8 o a.1 a.2;rw[J4,J1];omega
theorem VF {α:Type}{nm:Bs}{c:α}:∀ {l:List (Bs×α)} {e:Bs×α},e∈DS l nm c->e=(nm,c)\/e∈l
 | [],e,h=>.inl (H4.1 h)
 | a::l,e,h=>by
  unfold DS at h;split at h
  ·rcases I1.1 h with h|h
   ·exact .inl h
   ·exact .inr (U0 _ h)
  ·rcases I1.1 h with h|h
   ·exact .inr (h▸T0)
   ·rcases VF h with h|h
    ·exact .inl h
    ·exact .inr (U0 _ h)
def HQ:Am TP 56=some (.agg ⟨[str [],.slice none 0 0]⟩):=by kernel_rfl
def s56 {f:FL}{xv:Vz}{xcs:List Vz}{xs:AL}(dx:RdV 2 xv xs.length xcs x)(A:AtV x xcs xs)(hl:xs.length<=400)(hb:∀ a∈xs,a.2.length<=100000000)(w:AN x h)(K:∀ fb xm es rm y h,MvR xm es rm->GI es=dedA xs->EX y es->AN (pts fb (.cells ⟨f.cells xm⟩ 191 (0,0))+(rm+(y+x))) h->Q (Pt fb) h):f56 (.agg ⟨f.cells xv⟩) h Q:=by
 obtain⟨⟨xo,xc,hxv⟩,_⟩:=dx.len;unfold f56 AW;refine BG w fun b1 h w=>?_;have w:AN (pts b1 (.cells ⟨f.cells xv⟩ 28 (0,0))+x) h:=w;simp only[go_sem,AC w];have hs:∀ o n:Nat,o+n<=20->o+n<=(⟨f.cells xv⟩:Array Vz).size:=fun o n h=>h;rw[BC (w.find (b:=b1)) (hs 5 3 (by decide)),BC (w.find (b:=b1)) (hs 8 3 (by decide)),BC (w.find (b:=b1)) (hs 11 3 (by decide)),BC (w.find (b:=b1)) (hs 14 3 (by decide))];refine SS (s97 (a:=f.at_.set) (b:=f.at_.sec) (c:=f.at_.ns) w fun h w=>?_);refine⟨Aj w rfl,Aj w rfl,Aj w rfl,Aj w rfl,Aj w rfl,GW w (hs 8 3 (by decide)) rfl,GW w (hs 11 3 (by decide)) rfl,GW w (hs 14 3 (by decide)) rfl,Aj w rfl,Aj w rfl,?_⟩;refine SS (s97 (a:=f.ct.set) (b:=f.ct.sec) (c:=f.ct.ns) w fun h w=>?_);refine⟨Aj w rfl,Aj w rfl,Aj w rfl,Aj w rfl,Aj w rfl,GW w (hs 11 3 (by decide)) rfl,GW w (hs 14 3 (by decide)) rfl,Aj w rfl,Aj w rfl,?_⟩;refine SS (s97 (a:=f.mt.set) (b:=f.mt.sec) (c:=f.mt.ns) w fun h w=>?_);refine⟨Aj w rfl,Aj w rfl,Aj w rfl,Aj w rfl,Aj w rfl,GW w (hs 14 3 (by decide)) rfl,Aj w rfl,Aj w rfl,?_⟩;refine SS (s97 (a:=f.cr.set) (b:=f.cr.sec) (c:=f.cr.ns) w fun h w=>?_);refine⟨Aj w rfl,Aj w rfl,Aj w rfl,Aj w rfl,Aj w rfl,Aj w rfl,Aj w rfl,?_⟩;refine BA TQ rfl (rs:=f.cells cst__map_none ) (by kernel_rfl) (BG w fun fb h w=>?_);have w:AN (pts fb (.cells ⟨f.cells cst__map_none⟩ 191 (0,0))+(pts b1 (.cells ⟨f.cells xv⟩ 28 (0,0))+x)) h:=w;have ln:∀ k:Vz->Prop,DM xv k=k (.int .i64 (xs.length:Nat)):=fun k=>by rw[hxv,As]
 have lp:∀ (xm:Vz) (rm:Res) (h:H),(xm=.map none/\rm=0/\xs=[]\/∃ fm,xm=.map (some fm)/\rm=pts fm (mapO []))->AN (pts fb (.cells ⟨f.cells xm⟩ 191 (0,0))+(rm+(pts b1 (.cells ⟨f.cells xv⟩ 28 (0,0))+x))) h->ABz Q (Pt b1) (Pt fb) h:=by
  intro xm rm h hm w;unfold ABz AW;rw[AG];refine Af w (u:=xv) rfl ?_;rw[ln];unfold AJH;refine Bj (fun m u h'=>∃ (i:Nat) (es:XM) (rm:Res) (y:Res),m+i=xs.length/\u=.int .i64 (i:Nat)/\GI es=dedA (xs.take i)/\EX y es/\(xm=.map none/\rm=0/\xs=[]/\es=[]\/∃ fm,xm=.map (some fm)/\rm=pts fm (mapO es))/\AN (pts fb (.cells ⟨f.cells xm⟩ 191 (0,0))+(rm+(y+x))) h') xs.length
   ⟨0,[],rm,pts b1 (.cells ⟨f.cells xv⟩ 28 (0,0)),rfl,rfl,rfl,fun e he=>by (cases he),hm.imp (fun⟨a,b,c⟩=>⟨a,b,c,rfl⟩) id,w⟩ ?_
  rintro rec m u h' ⟨i,es,rm,y,hmi,rfl,hes,hv,hm,w⟩ hrec;unfold ABy BL;rw[AR];refine AS (fun hc=>?_) (fun hc=>?_)
  ·have hil:i<xs.length:=by omega
   obtain⟨a,ha⟩:∃ a,xs[i]? = some a:=⟨_,B0 hil⟩;obtain⟨v,hcs,dv⟩:=LC A ha;have ham:=hb a (D1 ha);rcases hm with⟨_,_,h0,_⟩|⟨fm,hxm,rfl⟩
   ·rw[h0] at hil;exact absurd hil (by simp)
   ·subst hxm;refine (dx.bf.bf.bf:RdV 2 xv xs.length xcs _).agg w hil ?_;rw[hcs];refine AV w HQ rfl fun b5 h w=>?_;obtain⟨va,vc,hva⟩:=dv.len;have h1:([str a.1,v]:List Vz).all Value.oneCell'=true:=by rw[hva];rfl
    refine AD w ⟨[str a.1,v]⟩ (AU (by rfl)) rfl (by simp) h1 fun h w=>?_;rw[Gw,AG];refine Af w (u:=.map (some fm)) rfl ?_;rw[AG];refine Af w (u:=str a.1) rfl ?_;rw[AG];refine Af w (u:=v) rfl ?_;refine Bu (bs:=[]) (r:=0) .nil (w.cast (Res.zero_add _).symm) ((dv.bf.bf.bf.bf).rd w) (by simp;omega) fun cv cr h cb w=>?_;rw[U2] at cb;refine And.intro (Af w rfl rfl) (And.intro (Af w rfl rfl) ?_);refine Si (m:=fm) (es:=es) (bs:=a.2) w fun h w=>?_;rw[Az (n:=1),Bq (by omega)];refine hrec (m-1) _ _ ⟨i+1,DS es a.1 (cv,a.2),pts fm (mapO (DS es a.1 (cv,a.2))),cr+(pts b5 (.cells ⟨[str a.1,v]⟩ 56 (0,0))+y),by omega,rfl,?_,?_,.inr ⟨fm,rfl,rfl⟩,w.cast (by ac_rfl)⟩ (by omega)
    ·rw[jz,hes,O3,ha];unfold dedA;rw[Option.toList_some,M6];rfl
    ·intro e he;rcases VF he with rfl|he
     ·exact cb.rdX.an
     ·exact (hv e he).bf.bf
  ·have:i=xs.length:=by omega
   subst this;rw[L1] at hes;rcases hm with⟨rfl,rfl,_,rfl⟩|⟨fm,rfl,rfl⟩
   ·exact K fb _ [] 0 y h' .no hes hv w
   ·exact K fb _ es _ y h' (.yes fm es) hes hv w
 refine Af w (u:=xv) rfl ?_;rw[ln,Ah];refine AS (fun hc=>?_) (fun hc=>?_)
 ·refine Nm w fun fm h w=>?_;rw[Gw,AG];refine AD w ⟨f.cells (.map (some fm))⟩ rfl rfl (by simp) rfl fun h w=>?_;exact lp _ _ h (.inr ⟨fm,rfl,rfl⟩) (w.cast (Res.left_comm _ _ _))
 ·have h0:xs=[]:=X4.1 (by omega);exact lp _ 0 h (.inl ⟨rfl,rfl,h0⟩) (w.cast (by rw[Res.zero_add]))
def s62 (K:Q AF  h):f62 .nilIface h Q:=by
 unfold f62 AW;simp only[go_sem];exact K
inductive Op1 where
 | create (nm:Bs) (f:FL) (xs:AL)
 | write (bs:Bs)
def FL0:FL:=⟨[],0,0,0,0,t0,t0,t0,t0,0,0⟩
def Op1.cells:Op1->Vz->Vz->List Vz
 | .create nm f _,xv,dv=>[.int .i64 ((0:Nat):Int),str nm,str []]++f.cells xv++[dv]
 | .write _,xv,dv=>[.int .i64 ((1:Nat):Int),str [],str []]++FL0.cells xv++[dv]
def Op1.data:Op1->Bs
 | .create _ _ _=>[]
 | .write bs=>bs
def Op1.xs:Op1->AL
 | .create _ _ xs=>xs
 | .write _=>[]
def Op1.cd (o:Op1)(xv dv:Vz):(o.cells xv dv).length=24:=by cases o<;>rfl
abbrev TW:=Op1×(Vz×Vz)
def KP (l:List TW):List Vz:=l.flatMap fun o=>o.1.cells o.2.1 o.2.2
structure ZP (x:Res) (o:TW):Prop where
 d:RdX x o.2.2 o.1.data
 xs:∃ cs,RdV 2 o.2.1 o.1.xs.length cs x/\AtV x cs o.1.xs
def ZP.bf {o:TW}(d:ZP x o):ZP (y+x) o:=by
 obtain⟨a,cs,b,c⟩:=d;exact⟨a.bf,cs,b.bf,c.mono⟩
structure OpL (o:Op1):Prop where
 d:o.data.length<=100000000
 n:o.xs.length<=400
 v:∀ a∈o.xs,a.2.length<=100000000
def ZP.one {o:TW}(d:ZP x o):Value.oneCell' o.2.1=true/\Value.oneCell' o.2.2=true:=by
 obtain⟨a,cs,b,c⟩:=d;obtain⟨a1,a2,h⟩:=a.len;rw[h];exact⟨b.one_,rfl⟩
def TU:Am TP 32=some (.agg ⟨(Op1.cells (.create [] FL0 [])  cst__slice_none_0_0   cst__slice_none_0_0)⟩):=by kernel_rfl
def Eu:List Vz:=[AB 0,AB 0]++FL0.cells cst__slice_none_0_0 
def Mg:Am TP 36=some (.agg ⟨Eu⟩):=by kernel_rfl
def At (wb db:Nat)(inl:Bool)(S:PS)(x:Res)(h:H):Prop:=(S=S2 [] inl Gi db/\qr wb db inl x h)\/(S.inl=inl/\S.db=db/\∃ ad,CD wb ad S x h)
def At.ep (p:At wb db inl S x h):∃ r,AN (r+x) h/\∀ x' a,AN (r+x') a->At wb db inl S x' a:=by
 rcases p with⟨e,w⟩|⟨e1,e2,ad,p⟩
 ·exact⟨(ZL wb db inl).res,w,fun x' a b=>.inl ⟨e,b⟩⟩
 ·obtain⟨r,w,cl⟩:=p.ep;exact⟨r,w,fun x' a b=>.inr ⟨e1,e2,ad,cl x' a b⟩⟩
def ADQ {S S':PS}(f:Fin S S')(a:S.cur=none):S'=S:=by
 cases f with
 | none _=>rfl
 | small h _ _ _ _=>rw[a] at h;cases h
 | big h _ _ _ _ _ _ _ _ _ _ _=>rw[a] at h;cases h
def WL (p:At wb db inl S x h)(f:Fin S S')(g:HU x)(K:∀ ad h,CD wb ad S' x h->Q .nilIface h):YU (Pt wb) h Q:=by
 rcases p with⟨e,w⟩|⟨_,_,ad,p⟩
 ·subst e;rw[ADQ f rfl] at K;exact ox w g K
 ·exact Nh p f (K ad)
def ALG {v:Vz}{bs:Bs}(p:At wb db inl S x h)(d:RdX x v bs)(f:Wrt bs S S')(K:∀ h,At wb db inl S' x h->Q (.tuple #[AB (bs.length:Nat),.nilIface]) h):f57 (Pt wb) v h Q:=by
 rcases p with⟨e,w⟩|⟨e1,e2,ad,p⟩
 ·subst e;cases f with
  | none hb=>
   subst hb;obtain⟨b,c,a⟩:=d.len;exact AQX a (K h (.inl ⟨rfl,w⟩))
  | disk h _ _ _ _ _ _ _=>cases h
  | inode h _ _ _ _ _ _ _=>cases h
 ·refine KE p d f fun h p=>K h (.inr ⟨?_,?_,ad,p⟩)
  ·cases f<;>exact e1
  ·cases f<;>exact e2
structure CrOK (S:PS) (nm:Bs) (f:FL) (xs al:AL) (st:List Bs) (e:Bs) (d:Nat) (q:PN) (es:List (Bs×Nat)):Prop where
 cur:S.cur=none
 len:S.M.length<9999
 nam:NamOK S nm st e d q
 kids:q.kids=some es
 new:lookE es e=none
 ek:q.ek<65000
 file:FilOK f S.inl al
 lnk:LnkS S f
 al:al.Perm (dedA xs)
structure AgOK (S:PS) (nm:Bs) (f:FL) (xs lo al:AL) (st:List Bs) (e:Bs) (d:Nat) (q:PN) (es:List (Bs×Nat)) (c:Nat) (p:PN):Prop where
 cur:S.cur=none
 nam:NamOK S nm st e d q
 kids:q.kids=some es
 here:lookE es e=some c
 c1:1<=c
 cn:S.M[c-1]? = some (some p)
 kd:kindB p.en=16384↔kindB (modeK f.en)=16384
 l1:kindB p.en≠16384->p.ek<2
 file:FilOK f S.inl al
 lnk:LnkS S f
 al:al.Perm (dedA xs++notA (dedA xs) lo)
 xb:p.fe=xinA lo
 loF:needs (lo.map toX)<=96
 ll:lo.length<=400
 bare:∀ a∈lo,(compL a.1 PX).2≠[]
 nd:(lo.map (·.1)).Nodup
 fl:p.ed &&& 524288=0
 xk:p.xblk=0
 bc:p.bu<1000000
inductive Step1:Op1->PS->PS->Prop
 | create {S S1:PS} {nm:Bs} {f:FL} {xs al:AL} {st:List Bs} {e:Bs} {d:Nat} {q:PN} {es:List (Bs×Nat)}:Fin S S1->CrOK S1 nm f xs al st e d q es->Step1 (.create nm f xs) S (S1.made d q es e f al)
 | anew {S S1:PS} {nm:Bs} {f:FL} {xs lo al:AL} {st:List Bs} {e:Bs} {d:Nat} {q:PN} {es:List (Bs×Nat)} {c:Nat} {p:PN}:Fin S S1->AgOK S1 nm f xs lo al st e d q es c p->Step1 (.create nm f xs) S (S1.anew c p f al)
 | write {S S':PS} {bs:Bs}:Wrt bs S S'->Step1 (.write bs) S S'
def PJ {S:PS}{f:FL}{M:List (Option PN)}{c:Nat}:({S.ej f with M:=M}.openF f c).inl=S.inl/\({S.ej f with M:=M}.openF f c).db=S.db:=by
 have h:(S.ej f).inl=S.inl/\(S.ej f).db=S.db:=by unfold PS.ej;split<;>exact⟨rfl,rfl⟩
 unfold PS.openF;split<;>exact h
def PC {S:PS}{d:Nat}{q:PN}{es:List (Bs×Nat)}{e:Bs}{f:FL}{al:AL}:(S.made d q es e f al).inl=S.inl/\(S.made d q es e f al).db=S.db:=PJ
def AGd {S S':PS}(f:Fin S S'):S'.inl=S.inl/\S'.db=S.db:=by cases f<;>exact⟨rfl,rfl⟩
section
variable {nm e:Bs} {f:FL} {xs lo al:AL} {st:List Bs} {d fb c:Nat} {q p:PN} {es:List (Bs×Nat)} {S1:PS} {xm:Vz} {ms:XM} {rm:Res}
def OD (p:At wb db inl S x h)(fin:Fin S S1):S1.inl=inl/\S1.db=db:=by
 have a:=AGd fin;rcases p with⟨e,_⟩|⟨e1,e2,_⟩
 ·rw[a.1,a.2,e];exact PC
 ·rw[a.1,a.2];exact⟨e1,e2⟩
def nt (pp:At wb db inl S (pts fb (.cells ⟨f.cells xm⟩ 191 (0,0))+(rm+x)) h)(g:HU x)(o:MvR xm ms rm)(n:EX x ms)(a:GI ms=dedA xs)(i:xs.length<=400)(fin:Fin S S1)(c:CrOK S1 nm f xs al st e d q es)
  (K:∀ y h,At wb db inl (S1.made d q es e f al) (y+x) h->Q .nilIface h):f55 (Pt wb) (str nm) (Pt fb) h Q:=by
 have j:=OD pp fin;have b:ms.length<=400:=by
  have l:(GI ms).length=ms.length:=by unfold GI;rw[Z0]
  have m:(dedA xs).length<=xs.length:=C6 (Rg xs []) (by rw[C4,U1];exact I0 _);rw[<-l,a];exact C6 m i
 refine OJ (S:=S1) (fun Q kk=>WL pp fin g.bf.bf fun ad h p=>kk ad h p) g c.cur c.len c.nam c.kids c.new c.ek c.file c.lnk o n b (by rw[a];exact c.al) fun ad y h p=>K y h (.inr ⟨?_,?_,ad,p⟩)
 ·rw[PC.1];exact j.1
 ·rw[PC.2];exact j.2
def AFE (pp:At wb db inl S (pts fb (.cells ⟨f.cells xm⟩ 191 (0,0))+(rm+x)) h)(g:HU x)(s:MvR xm ms rm)(o:EX x ms)(b:GI ms=dedA xs)(j:xs.length<=400)(fin:Fin S S1)(a:AgOK S1 nm f xs lo al st e d q es c p)
  (K:∀ y h,At wb db inl (S1.anew c p f al) (y+x) h->Q .nilIface h):f55 (Pt wb) (str nm) (Pt fb) h Q:=by
 have l:=OD pp fin;have i:ms.length<=400:=by
  have m:(GI ms).length=ms.length:=by unfold GI;rw[Z0]
  have n:(dedA xs).length<=xs.length:=C6 (Rg xs []) (by rw[C4,U1];exact I0 _);rw[<-m,b];exact C6 n j
 refine m7 (S:=S1) (fun Q kk=>WL pp fin g.bf.bf fun ad h p=>kk ad h p) g a.cur a.nam a.kids a.here a.c1 a.cn a.kd a.l1 a.file a.lnk s o i (by rw[b];exact a.al) a.xb a.loF a.ll a.bare a.nd a.fl a.xk a.bc fun ad y h p=>K y h (.inr ⟨?_,?_,ad,p⟩)
 ·exact PJ.1.trans l.1
 ·exact PJ.2.trans l.2
end
def AK0 {rec1:Vz->Vz->H->Prop}{x9 x11 out o x34:Vz}{tb i:Nat}{tc:List Vz}{vs:List Vz}(d:Vec 36 22 out i vs r)(hi:i<100000)(p:At wb db inl S (pts tb (.cells ⟨tc⟩ 36 (0,0))+(r+x)) h)(s:tc.length=22)(q:tc.all Value.oneCell'=true)
  (K:∀ out vs r h,Vec 36 22 out (i+1) vs r->At wb db inl S (r+x) h->rec1 out (AB ((i+1:Nat):Int)) h):ABW Q rec1 x9 x11 out (Pt tb) .nilIface o x34 (AB (i:Int)) h:=by
 unfold ABW AW;refine AM7 (s62 ?_);obtain⟨r0,w,cl⟩:=p.ep;obtain⟨v,c,rfl⟩:∃ a l,tc=a::l:=by cases tc with|nil=>simp at s|cons a l=>exact⟨a,l,rfl⟩
 have u:c.length=21:=by simpa using s
 have m:c.all Value.oneCell'=true:=by
  rw[U7,W2] at q;exact q.2
 simp only[go_sem];refine AD w ⟨AB 0::c⟩ rfl rfl (by simp) rfl fun h w=>?_;have n:0+22<=(⟨AB 0::c⟩:Array Vz).size:=by simp;omega
 rw[BC (w.find (b:=tb)) n];have j:(⟨AB 0::c⟩:Array Vz).extract 0 (0+22)=⟨AB 0::c⟩:=by
  have:(⟨AB 0::c⟩:Array Vz).size=0+22:=by simp;omega
  rw[<-this,Array.extract_size]
 rw[j];have f:(Value.int .i64 0::c).all Value.oneCell'=true:=by rw[U7,m];rfl
 have e:(Value.int .i64 0::c).length=22:=by simp;omega
 refine CN d (w.cast (Kq0 _ _ _ _)) Mg rfl e (by decide) (by decide) f fun ab h w=>?_;refine CA d w Mg rfl e f (by omega) (by omega) fun g r' h t w=>?_;simp (disch:=omega) only[go_sem];have k2:∀ A T R X:Res,R+(A+(T+X))=A+(R+X)+T:=by intros;ac_rfl
 exact K g _ r' h t (cl _ _ (w.cast (k2 _ _ _ _)).left)
attribute [local irreducible] Cy Ew setL DP NS Vw HR FN CG
def jt (l:List TW)(i:Nat)(o:TW)(a:l[i]? = some o):((KP l).drop (i*24)).take 24=o.1.cells o.2.1 o.2.2:=by
 have:=J3 Array.toList (SV (g:=fun o:TW=>o.1.cells o.2.1 o.2.2) (fun o=>Op1.cd _ _ _) l i o a);simpa[I3,KP] using this
theorem Op1.cg (o:Op1)(xv dv:Vz)(a:Value.oneCell' xv=true)(h:Value.oneCell' dv=true):(o.cells xv dv).all Value.oneCell'=true:=by
 have b:([dv]:List Vz).all Value.oneCell'=true:=by simp[h]
 have a:∀ f:FL,(f.cells xv).all Value.oneCell'=true:=fun f=>by
  have e:f.cells xv=(f.cells  cst__slice_none_0_0).take 19++[xv]:=rfl;rw[e,List.all_append,W2];exact⟨rfl,by simp[a]⟩
 cases o with
 | create nm f xs=>
  unfold Op1.cells;rw[List.all_append,List.all_append,b,a];rfl
 | write bs=>
  unfold Op1.cells;rw[List.all_append,List.all_append,b,a];rfl
def Sp (o:Op1)(xv dv:Vz):Av ⟨Op1.cells (.create [] FL0 [])  cst__slice_none_0_0 cst__slice_none_0_0 ⟩ 0 (o.cells xv dv)=⟨o.cells xv dv⟩:=AU (by rw[Op1.cd,O2,Op1.cd])
def RL:Av ⟨Eu⟩ 0 Eu=⟨Eu⟩:=AU (by rw[O2])
theorem FO:Eu.length=22:=rfl
theorem Mf:Eu.all Value.oneCell'=true:=rfl
def cr0 (nm:Bs)(f:FL)(xs:AL)(xv dv:Vz):(⟨Op1.cells (.create nm f xs) xv dv⟩:Array Vz)[0]? = some (AB ((0:Nat):Int))/\(⟨Op1.cells (.create nm f xs) xv dv⟩:Array Vz)[1]? = some (str nm)/\(⟨Op1.cells (.create nm f xs) xv dv⟩:Array Vz)[3+1]? = some (AB f.size)/\
  (⟨Op1.cells (.create nm f xs) xv dv⟩:Array Vz)[3+2]? = some (cU16 f.en)/\(⟨Op1.cells (.create nm f xs) xv dv⟩:Array Vz).extract 3 (3+20)=⟨f.cells xv⟩:=⟨by kernel_rfl,by kernel_rfl,by kernel_rfl,by kernel_rfl,by kernel_rfl⟩
def wr0 (bs:Bs)(xv dv:Vz):(⟨Op1.cells (.write bs) xv dv⟩:Array Vz)[0]? = some (AB ((1:Nat):Int))/\(⟨Op1.cells (.write bs) xv dv⟩:Array Vz)[23]? = some dv:=⟨by kernel_rfl,by kernel_rfl⟩
def AEf (n:Nat):Av ⟨Eu⟩ 1 [AB (n:Int)]=⟨Eu.set 1 (AB (n:Int))⟩:=by kernel_rfl
def TG (n:Nat):(Eu.set 1 (AB (n:Int))).all Value.oneCell'=true:=by kernel_rfl
attribute [local irreducible] Op1.cells Eu
section step
variable {rec1:Vz->Vz->H->Prop} {x9 x34 out ov:Vz} {i n:Nat} {vs:List Vz} {ro rd:Res} {l:List TW}
def AS0 {nm:Bs}{f:FL}{xs:AL}{xv dv s:Vz}{xcs:List Vz}{pb tb:Nat}(m:RdV 2 xv xs.length xcs rd)(A:AtV rd xcs xs)(v:xs.length<=400)(u:∀ a∈xs,a.2.length<=100000000)(hi:i<100000)(g:HU x)(d:Vec 36 22 out i vs r)
  (p:At wb db inl S (pts tb (.cells ⟨Eu⟩ 36 (0,0))+(pts pb (.cells ⟨Op1.cells (.create nm f xs) xv dv⟩ 32 (0,0))+(r+(ro+(rd+x))))) h)
  (t:∀ (X:Res) (fb:Nat) (xm:Vz) (ms:XM) (rm:Res) (h:H) (Q:Kt),HU X->MvR xm ms rm->EX X ms->GI ms=dedA xs->At wb db inl S (pts fb (.cells ⟨f.cells xm⟩ 191 (0,0))+(rm+X)) h->(∀ y h,At wb db inl S' (y+X) h->Q .nilIface h)->f55 (Pt wb) (str nm) (Pt fb) h Q)
  (K:∀ out vs r y h,Vec 36 22 out (i+1) vs r->At wb db inl S' (r+(ro+(rd+(y+x)))) h->rec1 out (AB ((i+1:Nat):Int)) h) :
  ABX Q rec1 x9 (Pt wb) out (Pt pb) (Pt tb) s x34 (AB (i:Int))  AE  h:=by
 have l:=Op1.cd (.create nm f xs) xv dv;obtain⟨c0,c1,c4,c5,n⟩:=cr0 nm f xs xv dv;obtain⟨r0,w,cl⟩:=p.ep;unfold ABX AW;rw[AJ];simp only[Dx,IK,AC w,c1,Hn];have q:3+20<=(⟨Op1.cells (.create nm f xs) xv dv⟩:Array Vz).size:=by rw[O2,l];decide
 rw[BC (w.find (b:=pb)) q,n];refine AM6 (s56 (xs:=xs) m.an.bf.bf.bf.bf.bf (A.an.mono.mono.mono.mono.mono) v u w fun fb xm ms rm y h mv o hv w=>⟨Aj w c1,?_⟩);have k2:∀ F M Y A T P R X:Res,F+(M+(Y+(A+(T+(P+(R+X))))))=A+(F+(M+(Y+(T+(P+(R+X)))))):=by intros;ac_rfl
 refine ABv (t _ fb xm ms rm h _ g.bf.bf.bf.bf.bf.bf mv hv.an o (cl _ _ (w.cast (k2 _ _ _ _ _ _ _ _))) fun y2 h p=>?_);obtain⟨r1,w1,e⟩:=p.ep;have k3:∀ A c Y T P R X:Res,A+(c+(Y+(T+(P+(R+X)))))=A+(T+(R+(c+(Y+(P+X))))):=by intros;ac_rfl
 refine AK0 d hi (e _ _ (w1.cast (k3 _ _ _ _ _ _ _))) FO Mf fun out vs r h d p=>?_;obtain⟨r2,w2,j⟩:=p.ep;have k4:∀ A R c Y P O D X:Res,A+(R+(c+(Y+(P+(O+(D+X))))))=A+(R+(O+(D+((c+(Y+P))+X)))):=by intros;ac_rfl
 exact K out vs r _ h d (j _ _ (w2.cast (k4 _ _ _ _ _ _ _ _)))
theorem ASz {o:TW}(ah:Vec 32 24 ov n (KP l) ro)(hn:l.length=n)(ay:n<=10000)(ho:l[i]? = some o)(hR:ZP rd o)(t:OpL o.1)(d:Vec 36 22 out i vs r)(st:Step1 o.1 S S')(g:HU x)
  (p:At wb db inl S (r+(ro+(rd+x))) h) (K:∀ out vs r y h,Vec 36 22 out (i+1) vs r->At wb db inl S' (r+(ro+(rd+(y+x)))) h->rec1 out (AB ((i+1:Nat):Int)) h) :
  QU Q rec1 x9 (Pt wb) ov (AB (n:Int)) out (AB (i:Int)) h:=by
 have hi:i<n:=by rw[<-hn];exact (G0.1 ho).1
 have b:=hR.one;obtain⟨e,xcs,aj,q⟩:=hR;obtain⟨op,xv,dv⟩:=o;obtain⟨r0,w,cl⟩:=p.ep;have ar:(∃ nm f xs,op=.create nm f xs/\f.en<65536/\f.size<=137438953472/\∀ (X:Res) (fb:Nat) (xm:Vz) (ms:XM) (rm:Res) (h:H) (Q:Kt),HU X->MvR xm ms rm->EX X ms->GI ms=dedA xs->At wb db inl S (pts fb (.cells ⟨f.cells xm⟩ 191 (0,0))+(rm+X)) h->(∀ y h,At wb db inl S' (y+X) h->Q .nilIface h)->f55 (Pt wb) (str nm) (Pt fb) h Q)\/∃ bs,op=.write bs/\Wrt bs S S':=by
  have hx:=t.n;cases st with
  | create fin c=>exact .inl ⟨_,_,_,rfl,c.file.en,c.file.size,fun X fb xm ms rm h Q g mv hv j p K=>nt p g mv hv j hx fin c K⟩
  | anew fin a=>exact .inl ⟨_,_,_,rfl,a.file.en,a.file.size,fun X fb xm ms rm h Q g mv hv j p K=>AFE p g mv hv j hx fin a K⟩
  | write wr=>exact .inr ⟨_,rfl,wr⟩
 unfold QU BL;have e1:decide ((i:Int)<(n:Int))=true:=H0 (by omega);rw[AR,e1,Ab];refine TI (i:=i) ah (w.cast (Kq0 _ _ _ _)) hi ?_;have ai:((KP l).drop (i*24)).take 24=op.cells xv dv:=jt l i _ ho;rw[ai];refine AV w TU rfl fun pb h w=>?_;have s:=Op1.cd op xv dv;rcases ar with⟨nm,f,xs,m,hm,ao,hC⟩|⟨bs,m,wr⟩
 ·subst m;refine AD w ⟨Op1.cells (.create nm f xs) xv dv⟩ (Sp _ _ _) s (by rw[O2,Op1.cd];exact I0 24) (Op1.cg _ _ _ b.1 b.2) fun h w=>?_;refine BA Mg rfl (rs:=Eu) rfl ?_;refine AV w Mg rfl fun tb h w=>?_;refine AD w ⟨Eu⟩ RL FO (by rw[O2,FO];exact I0 22) Mf fun h w=>?_;obtain⟨c0,c1,c4,c5,aw⟩:=cr0 nm f xs xv dv;have e2:decide (((0:Nat):Int)=0)=true:=rfl;have e3:decide ((f.size:Int)<0)=false:=J0 (by omega);simp (disch:=omega) only[Dx,IK,Cb,AC w,c0,c4,c5,Hn,AT,e2,Ab,Jh,AR,e3,Bt];simp only[GU,Hi,CV,Bt];exact AS0 aj q t.n t.v (by omega) g d (cl _ _ (w.cast (Kq0 _ _ _ _))) hC K
 ·subst m;refine AD w ⟨Op1.cells (.write bs) xv dv⟩ (Sp _ _ _) s (by rw[O2,Op1.cd];exact I0 24) (Op1.cg _ _ _ b.1 b.2) fun h w=>?_;refine BA Mg rfl (rs:=Eu) rfl ?_;refine AV w Mg rfl fun tb h w=>?_;refine AD w ⟨Eu⟩ RL FO (by rw[O2,FO];exact I0 22) Mf fun h w=>?_;obtain⟨c0,u⟩:=wr0 bs xv dv;have e2:decide (((1:Nat):Int)=0)=false:=rfl;have e3:decide (((1:Nat):Int)=1)=true:=rfl;simp only[Dx,IK,AC w,c0,u,Hn,AT,e2,e3,Ab,AJ];have e:RdX rd dv bs:=e;have au:bs.length<=100000000:=t.d;refine Bu (bs:=[]) (r:=0) .nil (w.cast (Res.zero_add _).symm) ((e.an.bf.bf.bf.bf.bf).rd w) (by simp;omega) fun cv cr h cb w=>?_;rw[U2] at cb;have k2:∀ C T P A X:Res,C+(T+(P+(A+X)))=A+(C+(T+(P+X))):=by intros;ac_rfl
  refine Kc (ALG (cl _ _ (w.cast (k2 _ _ _ _ _))) cb.rdX.an wr fun h p=>?_);obtain⟨r1,w1,v⟩:=p.ep;simp only[BF,BO,Dx,IK];refine AD w1 ⟨Eu.set 1 (AB (bs.length:Nat))⟩ (AEf _) rfl (by rw[O2,FO];decide) rfl fun h w1=>?_;have k3:∀ A C T P R Y:Res,A+(C+(T+(P+(R+Y))))=A+(T+(R+(C+(P+Y)))):=by intros;ac_rfl
  have p:At wb db inl S' (pts tb (.cells ⟨Eu.set 1 (AB (bs.length:Nat))⟩ 36 (0,0))+(r+(cr+(pts pb (.cells ⟨Op1.cells (.write bs) xv dv⟩ 32 (0,0))+(ro+(rd+x)))))) h:=v _ _ (w1.cast (k3 _ _ _ _ _ _));refine AK0 d (by omega) p (by rw[O5];exact FO) (TG _) fun out vs r h d p=>?_;obtain⟨r2,w2,ae⟩:=p.ep;have k4:∀ A R C P O D X:Res,A+(R+(C+(P+(O+(D+X)))))=A+(R+(O+(D+((C+P)+X)))):=by intros;ac_rfl
  exact K out vs r _ h d (ae _ _ (w2.cast (k4 _ _ _ _ _ _ _)))
end step
inductive Steps:List Op1->PS->PS->Prop
 | nil {S:PS}:Steps [] S S
 | cons {o:Op1} {l:List Op1} {S S1 S2:PS}:Step1 o S S1->Steps l S1 S2->Steps (o::l) S S2
structure IG (S0 S:PS):Prop where
 ex:∃ S1 S2 f n2,Fin S0 S1/\S1.M[1]? = some (some n2)/\RecD f S1 2 2 S2/\Fin S2 S
 ok:ClOK S
section img
variable {ov:Vz} {ro rd:Res} {l:List TW}
def AS1 {rec1:Vz->Vz->H->Prop}{out:Vz}{n:Nat}{S0:PS}(cl:IG S0 S)(a:S.db=db)(g:HU x)(p:At wb db inl S0 x h)
  (K:∀ dv dr y h,BufV dv (CG S) dr->AN (dr+(y+x)) h->Q (.tuple #[out,AB 0,dv]) h) :
  QU Q rec1 (Pt db) (Pt wb) ov (AB (n:Int)) out (AB (n:Int)) h:=by
 obtain⟨⟨S1,S2,f,n2,l,m,o,q⟩,b⟩:=cl;unfold QU BL;have e1:decide ((n:Int)<(n:Int))=false:=J0 (by omega);rw[AR,e1,AJ];refine AM8 (s63 (fun Q kk=>WL p l g kk) m o q b fun h c=>?_);obtain⟨s,y,i,e,d,w⟩:=c;rw[Ij,AJ];have j:=i.buf;rw[d] at j;rw[<-a,<-e];simp only[go_sem,AC w];have k1:∀ A D R Y X:Res,A+(D+R)+(Y+X)=R+(A+D+Y+X):=by intros;ac_rfl
 exact K s.dv s.dr (pts s.wb (.cells s.cells 184 (0,0))+pts s.db (.cells ⟨[s.dv,AB s.d9]⟩ 121 (0,0))+y) h j (w.cast (k1 _ _ _ _ _))
def AQL {n:Nat}{S0 s:PS}(t:Vec 32 24 ov n (KP l) ro)(hn:l.length=n)(aj:n<=10000)(f:∀ o∈l,ZP rd o)(ah:∀ o∈l,OpL o.1)(st:Steps (l.map (·.1)) S0 s)(cl:IG s S)(ae:S.db=db)(g:HU x)
  (p:At wb db inl S0 (ro+(rd+x)) h) (K:∀ out dv dr y h,BufV dv (CG S) dr->AN (dr+(y+(ro+(rd+x)))) h->Q (.tuple #[out,AB 0,dv]) h) :
  ABZ Q (Pt db) (Pt wb) ov (AB (n:Int)) cst__slice_none_0_0 AF h:=by
 unfold ABZ;refine DF (fun m u v h'=>∃ (i:Nat) (S:PS) (vs:List Vz) (r q:Res),m=n-i/\i<=n/\v=AB (i:Nat)/\Vec 36 22 u i vs r/\Steps ((l.drop i).map (·.1)) S s/\At wb db inl S (r+(ro+(rd+(q+x)))) h') n
  ⟨0,S0,[],0,0,rfl,Q2 _,rfl,.nil,by rw[I5];exact st,by rw[Res.zero_add,Res.zero_add];exact p⟩ ?_
 rintro rec m u v h' ⟨i,S1,vs,r,q,rfl,hi,rfl,d,st,p⟩ j;by_cases ar:i<n
 ·have e:i<l.length:=by omega
  have c:l.drop i=l[i]::l.drop (i+1):=N3 e;have a:l[i]∈l:=I7 e;rw[c,Q1] at st;cases st with
  | cons s1 ao=>
   exact ASz (x:=q+x) t hn aj (B0 e) (f _ a) (ah _ a) d s1 g.bf p fun out vs r y h d p=>j (n-(i+1)) _ _ _ ⟨i+1,_,vs,r,y+q,rfl,by omega,rfl,d,ao,by rw[Res.assoc];exact p⟩ (by omega)
 ·have ai:i=n:=by omega
  subst ai;rw[<-hn,X6,P8] at st;cases st;refine AS1 cl ae (g.bf.bf.bf.bf) p fun dv dr y h b w=>K _ dv dr (y+(r+q)) h b (w.cast ?_);have k1:∀ D Y R O E Z X:Res,D+(Y+(R+(O+(E+(Z+X)))))=D+(Y+(R+Z)+(O+(E+X))):=by intros;ac_rfl
  exact k1 _ _ _ _ _ _ _
end img
end
section
variable {v:VS}
attribute [local irreducible] BJ CR Ak Bc An Aa AK Ac VS.cells XN.cells CK
def mjL (e:Bs):Nat:=if leL e 0 4≠0 then leL e 0 4/256 &&& 255 else leL e 4 4/256 &&& 4095
def mnL (e:Bs):Nat:=if leL e 0 4≠0 then leL e 0 4 &&& 255 else leL e 4 4 &&& 255 ||| leL e 4 4/4096 &&& 1048320
inductive ContR (I:Bs) (nb:Nat):XN->Bs->Bs->Bs->XN->List Nat->Prop
 | dev {X:XN} {e rest:Bs}:kindL X.en=3\/kindL X.en=4->X.size=0->X.ed &&& 524288=0->ContR I nb X e rest [] {X with major:=mjL e,minor:=mnL e} []
 | pipe {X:XN} {e rest:Bs}:kindL X.en=5\/kindL X.en=6->X.size=0->X.ed &&& 524288=0->ContR I nb X e rest [] X []
 | inline {X:XN} {e rest:Bs}:kindL X.en=1\/kindL X.en=2\/kindL X.en=7->X.inl=true->X.size<=e.length+rest.length->X.size<=I.length->ContR I nb X e rest ((e++rest).take X.size) X []
 | ext {X:XN} {e rest:Bs} {start len:Nat}:kindL X.en=1\/kindL X.en=2\/kindL X.en=7->X.inl=false->X.ed &&& 524288≠0->Ext1 e start len->(len-1)*4096<X.size->0<len->len<=32768->start+len<=nb->X.size<=len*4096->X.blk<100000->ContR I nb X e rest ((I.drop (start*4096)).take X.size) {X with blk:=X.blk+len} ((List.range len).map (start + ·))
 | empty {X:XN} {e rest:Bs}:kindL X.en=1\/kindL X.en=2->X.inl=false->X.ed &&& 524288=0->X.size=0->ContR I nb X e rest [] X []
 | link {X:XN} {e rest:Bs}:kindL X.en=7->X.inl=false->X.ed &&& 524288=0->X.size<60->X.size<=I.length->ContR I nb X e rest (e.take X.size) X []
section
variable {X X':XN} {ev xv bv rv:Vz} {ib:Nat} {b rest o' C:Bs} {cl:List Nat}
def AER (ok:v.OK x){cv:Vz}(c:X.size=0)(b:X.ed &&& 524288=0)(a:X.ed<4294967296)(w:AN (v.res+(pts ib (.cells ⟨X.cells cv ev xv⟩ 81 (0,0))+x)) h)(K:Q (.tuple #[]) h):Xy Q (Pt v.vb) (Pt ib) h:=by
 have e1:decide ((X.size:Int)=0)=true:=H0 (by omega);have e2:decide (((X.ed &&& 524288:Nat):Int)=0)=true:=H0 (by omega);unfold Xy AW;simp (disch:=omega) only[go_sem,AC w,e1,e2];exact BH (EW K)
def AES (ok:v.OK x){x3 x18:Vz}{e:Bs}(d:RdX x bv e)(he:e.length=60)(o:X.size=0)(m:X.ed &&& 524288=0)(b:X.ed<4294967296)(w:AN (v.res+(pts ib (.cells ⟨X.cells  cst__slice_none_0_0 ev xv⟩ 81 (0,0))+x)) h)
  (K:∀ h,AN (v.res+(pts ib (.cells ⟨{X with major:=mjL e,minor:=mnL e}.cells cst__slice_none_0_0 ev xv⟩ 81 (0,0))+x)) h->Q (.tuple #[]) h):SM Q (Pt v.vb) (Pt ib) x3 bv x18  AI  h:=by
 have l:RdX (v.res+(pts ib (.cells ⟨X.cells  cst__slice_none_0_0 ev xv⟩ 81 (0,0))+x)) bv e:=d.bf.bf;have l0:leL e 0 4<4294967296:=Ar;have l4:leL e 4 4<4294967296:=Ar;unfold SM AW;rw[Ab];refine Cd (NF (p:=0) (n:=4) l w (by omega) (by omega) (by omega) ?_);refine Cd (NF (p:=4) (n:=4) l w (by omega) (by omega) (by omega) ?_);rw[Ay];have q:∀ z,leL e 0 4/256 &&& z<=leL e 0 4/256:=fun z=>O7;have g:∀ z,leL e 0 4 &&& z<=leL e 0 4:=fun z=>O7;have i:∀ z,leL e 4 4/256 &&& z<=leL e 4 4/256:=fun z=>O7;have j:∀ z,leL e 4 4 &&& z<=leL e 4 4:=fun z=>O7;have t:leL e 4 4/4096 &&& 1048320<=leL e 4 4/4096:=O7;have q1:=q 255;have q2:=g 255;have q3:=i 4095;have q4:=j 255;have q5:leL e 4 4 &&& 255 ||| leL e 4 4/4096 &&& 1048320<4294967296:=Q6 (n:=32) (by omega) (by omega)
 have c:∀ a:Nat,(AQ .shr (AH (a:Nat))  Bv )=fun k=>k (AH ((a/4096:Nat):Int)):=fun a=>funext fun k=>GC (s:=12);refine AS (fun u=>?_) (fun u=>?_)
 ·have e0:leL e 0 4≠0:=by omega
  simp (disch:=omega) only[go_sem,AC w];refine AD w _ XN.set16 rfl (by rw[XN.size_];omega) rfl fun h w=>?_;refine AD w _ XN.set17 rfl (by rw[XN.size_];omega) rfl fun h w=>?_;have em:mjL e=leL e 0 4/256 &&& 255:=D0 e0;have f:mnL e=leL e 0 4 &&& 255:=D0 e0;rw[em,f] at K;exact AER (X:={X with major:=leL e 0 4/256 &&& 255,minor:=leL e 0 4 &&& 255}) ok o m b w (K h w)
 ·have e0:¬leL e 0 4≠0:=by omega
  simp (disch:=omega) only[go_sem,AC w,c];refine AD w _ XN.set16 rfl (by rw[XN.size_];omega) rfl fun h w=>?_;refine AD w _ XN.set17 rfl (by rw[XN.size_];omega) rfl fun h w=>?_;have em:mjL e=leL e 4 4/256 &&& 4095:=F0 e0;have f:mnL e=leL e 4 4 &&& 255 ||| leL e 4 4/4096 &&& 1048320:=F0 e0
  rw[em,f] at K;exact AER (X:={X with major:=leL e 4 4/256 &&& 4095,minor:=leL e 4 4 &&& 255 ||| leL e 4 4/4096 &&& 1048320}) ok o m b w (K h w)
def AE7 {I:Bs}{start size:Nat}:CK I start size 0=List.replicate size 0:=by
 unfold CK;simp
def AE5 {I:Bs}{start size len:Nat}(h:size<=len*4096):CK I start size len=(I.drop (start*4096)).take size:=by
 unfold CK;rw[Nat.min_eq_right h,D6];simp
def Dt:Am TP 48=some  AO:=by kernel_rfl
def AQD {e:Bs}(ok:v.OK x)(d:RdX x bv e)(u:e.length=60)(dr:RdX x rv rest)(p:rest.length<100000)(g:X.inl=true)(s:X.size<=e.length+rest.length)(q:X.size<=v.I.length)(w:AN (v.res+(pts ib (.cells ⟨X.cells  cst__slice_none_0_0 ev xv⟩ 81 (0,0))+x)) h)
  (K:∀ cv y h,RdX y cv ((e++rest).take X.size)->AN (v.res+(pts ib (.cells ⟨X.cells cv ev xv⟩ 81 (0,0))+(y+x))) h->Q (.tuple #[]) h):GT Q (Pt v.vb) (Pt ib) rv bv  AE  h:=by
 obtain⟨ia,ic,hi⟩:=ok.rd.len;have hg:=ok.big;have e1:decide ((X.size:Int)<=(v.I.length:Int))=true:=H0 (by omega);have e2:decide ((X.size:Int)>(v.I.length:Int))=false:=J0 (by omega);unfold GT AW;rw[AJ];simp (disch:=omega) only[go_sem,AC w];rw[hi];simp (disch:=omega) only[go_sem,AC w];rw[e1];refine BH (EW ?_);simp (disch:=omega) only[go_sem,AC w,hi];rw[e2,AJ,g,Ab];refine Dh (l:=[]) w (by omega) rfl rfl fun eb h w=>?_;refine Bu (BufV.own' (n:=0) (all:=[]) (c:=0) (bs:=[]) (I0 _) rfl rfl) w (d.bf.bf.rd w.right) (by simp;omega) fun v1 r1 h b1 w=>?_;rw[U2] at b1;refine Bu b1 w (dr.bf.bf.rd w.right) (by omega) fun v2 r2 h b2 w=>?_;obtain⟨a2,c2,b⟩:=b2.len;have w:AN (v.res+(pts ib (.cells ⟨X.cells cst__slice_none_0_0  ev xv⟩ 81 (0,0))+(r2+x))) h:=w.cast (by ac_rfl);rw[b];refine AD w _ XN.set18 rfl (by rw[XN.size_];omega) rfl fun h w=>?_;have o:(e++rest).length=e.length+rest.length:=C0;have m:decide ((X.size:Int)<=((e++rest).length:Int))=true:=H0 (by omega);simp (disch:=omega) only[go_sem,AC w];rw[m];refine BH (EW ?_);simp (disch:=omega) only[go_sem,AC w];refine Yo ?_;rw[V2 (by omega),<-b];refine b2.rdX.slice (i:=0) (j:=X.size) rfl Bk (Q2 _) (by omega) fun cv f=>?_;obtain⟨t,cc,a⟩:=f.len;rw[I5] at f;refine AD w ⟨X.cells cv ev xv⟩ (by rw[a];exact XN.set18) (by rw[a];rfl) (by rw[XN.size_];omega) (by rw[a];rfl) fun h w=>K cv r2 h f w
def AQF {e:Bs}{start len:Nat}(ok:v.OK x)(d:RdX x bv e)(ex:Ext1 e start len)(g:X.inl=false)(hf:X.ed &&& 524288≠0)(t:X.ed<4294967296)(p:(len-1)*4096<X.size)(o:0<len)(a:len<=32768)(hs:start+len<=v.nb)(b:X.size<=len*4096)(c:Clm ((List.range len).map (start + ·)) v.ow o')(q:X.blk<100000)
  (w:AN (v.res+(pts ib (.cells ⟨X.cells  cst__slice_none_0_0 ev xv⟩ 81 (0,0))+x)) h)
  (K:∀ cv y h,RdX y cv ((v.I.drop (start*4096)).take X.size)->(v.own o').OK x->AN ((v.own o').res+(pts ib (.cells ⟨{X with blk:=X.blk+len}.cells cv ev xv⟩ 81 (0,0))+(y+x))) h->Q (.tuple #[]) h):GT Q (Pt v.vb) (Pt ib) rv bv AE  h:=by
 obtain⟨ia,ic,hi⟩:=ok.rd.len;have hg:=ok.big;have u:=ok.len;have ae:X.size<=v.I.length:=by omega
 have s:start*4096+X.size<=v.I.length:=by omega
 have e1:decide ((X.size:Int)<=(v.I.length:Int))=true:=H0 (by omega);have e2:decide ((X.size:Int)>(v.I.length:Int))=false:=J0 (by omega);have m:decide (((X.ed &&& 524288:Nat):Int)≠0)=true:=H0 (by omega);unfold GT AW;rw[AJ];simp (disch:=omega) only[go_sem,AC w];rw[hi];simp (disch:=omega) only[go_sem];rw[e1];refine BH (EW ?_);simp (disch:=omega) only[go_sem,AC w,hi];rw[e2,AJ,g,AJ,m,Ab];refine Ei w (by omega) fun cb h w=>?_;have w:AN (v.res+(pts ib (.cells ⟨X.cells cst__slice_none_0_0  ev xv⟩ 81 (0,0))+(buf cb (List.replicate X.size 0)+x))) h:=w.cast (by ac_rfl);refine AD w _ XN.set18 rfl (by rw[XN.size_];omega) rfl fun h w=>?_;refine AV w Dt rfl fun nx h w=>?_;refine AD w ⟨[AH 0]⟩ rfl rfl (by simp) rfl fun h w=>?_;have i:List.replicate X.size (0:UInt8)=CK v.I start X.size 0:=AE7.symm;rw[i] at w;have k1:∀ N V P C X:Res,N+(V+(P+(C+X)))=V+(P+(C+N)+X):=by intros;ac_rfl
 refine AGW (ASu (nx:=nx) (cb:=cb) ok ex rfl p o a hs b c q d (w.cast (k1 _ _ _ _ _)) fun h j w=>?_);rw[AE5 b] at w;have f:((v.I.drop (start*4096)).take X.size).length=X.size:=by simp;omega
 have wx:∀ k,Ae false 1 (Pt nx) h k=k (AH (len:Nat)):=fun k=>by
  rw[AC w];rfl
 have n:decide ((len:Int)<=(((X.size+4096-1)/4096:Nat):Int))=true:=H0 (by omega);rw[wx];have w:AN ((v.own o').res+(xR ib cb nx {X with blk:=X.blk+len} (.slice (some ⟨cb,0,none⟩) X.size X.size) ev xv ((v.I.drop (start*4096)).take X.size) (AH (len:Nat))+x)) h:=w;simp (disch:=omega) only[go_sem,AC w];rw[n];refine BH (EW ?_);have l:RdX (buf cb ((v.I.drop (start*4096)).take X.size)+pts nx (.cells ⟨[AH (len:Nat)]⟩ 48 (0,0))) (.slice (some ⟨cb,0,none⟩) X.size X.size) ((v.I.drop (start*4096)).take X.size):=by
  exact .ofBuf f
 exact K _ _ h l j (w.cast (by unfold xR;ac_rfl))
def AQC {e:Bs}(ok:v.OK x)(m:kindL X.en≠7)(g:X.en<65536)(a:X.inl=false)(j:X.ed &&& 524288=0)(f:X.ed<4294967296)(i:X.size=0)
  (w:AN (v.res+(pts ib (.cells ⟨X.cells  cst__slice_none_0_0 ev xv⟩ 81 (0,0))+x)) h) (K:Q (.tuple #[]) h):GT Q (Pt v.vb) (Pt ib) rv bv  AE  h:=by
 obtain⟨n,ic,hi⟩:=ok.rd.len;have l:=ok.big;have e1:decide ((X.size:Int)<=(v.I.length:Int))=true:=H0 (by omega);have e2:decide ((X.size:Int)>(v.I.length:Int))=false:=J0 (by omega);have b:decide (((X.ed &&& 524288:Nat):Int)≠0)=false:=J0 (by omega);have c:decide ((X.size:Int)=0)=true:=H0 (by omega);have d:decide ((kindL X.en:Int)=7)=false:=J0 (by omega);unfold GT AW;rw[AJ];simp (disch:=omega) only[go_sem,AC w];rw[hi];simp (disch:=omega) only[go_sem];rw[e1];refine BH (EW ?_);simp (disch:=omega) only[go_sem,AC w,hi];rw[e2,AJ,a,AJ,b,AJ];refine Fk (qn g ?_);simp (disch:=omega) only[go_sem,AC w];rw[d,AJ,c];exact BH (EW K)
def AQE {e:Bs}(ok:v.OK x)(d:RdX x bv e)(u:e.length=60)(hk:kindL X.en=7)(q:X.en<65536)(b:X.inl=false)(hf:X.ed &&& 524288=0)(p:X.ed<4294967296)(t:X.size<60)(s:X.size<=v.I.length)
  (w:AN (v.res+(pts ib (.cells ⟨X.cells  cst__slice_none_0_0 ev xv⟩ 81 (0,0))+x)) h)
  (K:∀ cv y h,RdX y cv (e.take X.size)->AN (v.res+(pts ib (.cells ⟨X.cells cv ev xv⟩ 81 (0,0))+(y+x))) h->Q (.tuple #[]) h):GT Q (Pt v.vb) (Pt ib) rv bv  AE  h:=by
 obtain⟨ia,ic,hi⟩:=ok.rd.len;have hg:=ok.big;have e1:decide ((X.size:Int)<=(v.I.length:Int))=true:=H0 (by omega);have e2:decide ((X.size:Int)>(v.I.length:Int))=false:=J0 (by omega);have g:decide (((X.ed &&& 524288:Nat):Int)≠0)=false:=J0 (by omega);have m:decide ((X.size:Int)<60)=true:=H0 (by omega);have o:decide ((kindL X.en:Int)=7)=true:=H0 (by omega);unfold GT AW;rw[AJ];simp (disch:=omega) only[go_sem,AC w];rw[hi];simp (disch:=omega) only[go_sem];rw[e1];refine BH (EW ?_);simp (disch:=omega) only[go_sem,AC w,hi];rw[e2,AJ,b,AJ,g,AJ];refine Fk (qn q ?_);simp (disch:=omega) only[go_sem,AC w];rw[o,Ab,m];refine BH (EW ?_);refine Dh (l:=[]) w (by omega) rfl rfl fun eb h w=>?_;simp (disch:=omega) only[go_sem,AC w];refine Yo (c:=60) ?_;rw[V2 (by omega)];refine d.slice (i:=0) (j:=X.size) rfl Bk (Q2 _) (by omega) fun cv f=>?_;rw[I5] at f;refine Bu (BufV.own' (n:=0) (all:=[]) (c:=0) (bs:=[]) (I0 _) rfl rfl) w (f.bf.bf.rd w.right) (by simp;omega) fun v1 r1 h b1 w=>?_;rw[U2] at b1;obtain⟨a1,c1,a⟩:=b1.len;have w:AN (v.res+(pts ib (.cells ⟨X.cells cst__slice_none_0_0  ev xv⟩ 81 (0,0))+(r1+x))) h:=w.cast (by ac_rfl);refine AD w ⟨X.cells v1 ev xv⟩ (by rw[a];exact XN.set18) (by rw[a];rfl) (by rw[XN.size_];omega) (by rw[a];rfl) fun h w=>K v1 r1 h b1.rdX w
def AKy (c:X.size=0)(b:X.ed &&& 524288=0)(a:X.ed<4294967296)(w:AN (v.res+(pts ib (.cells ⟨X.cells  cst__slice_none_0_0  ev xv⟩ 81 (0,0))+x)) h)(K:Q (.tuple #[]) h):GT Q (Pt v.vb) (Pt ib) rv bv AI h:=by
 have e1:decide ((X.size:Int)=0)=true:=H0 (by omega);have e2:decide (((X.ed &&& 524288:Nat):Int)=0)=true:=H0 (by omega);unfold GT AW;rw[Ab];simp (disch:=omega) only[go_sem,AC w,e1,e2];exact BH (EW K)
def ASe (ok:v.OK x)(db:RdX x bv b)(hb:b.length=256)(dr:RdX x rv rest)(p:rest.length<100000)(cr:ContR v.I v.nb X ((b.drop 40).take 60) rest C X' cl)(c:Clm cl v.ow o')(o:X.en<65536)(f:X.ed<4294967296)
  (w:AN (v.res+(pts ib (.cells ⟨X.cells  cst__slice_none_0_0 ev xv⟩ 81 (0,0))+x)) h)
  (K:∀ cv y h,RdX y cv C->(v.own o').OK x->AN ((v.own o').res+(pts ib (.cells ⟨X'.cells cv ev xv⟩ 81 (0,0))+(y+x))) h->Q (.tuple #[]) h):AMN (Pt v.vb) (Pt ib) bv rv h Q:=by
 have g:((b.drop 40).take 60).length=60:=by simp;omega
 have a:∀ {X':XN} {h:H},o'=v.ow->(∀ cv y h,RdX y cv []->(v.own o').OK x->AN ((v.own o').res+(pts ib (.cells ⟨X'.cells cv ev xv⟩ 81 (0,0))+(y+x))) h->Q (.tuple #[]) h)->AN (v.res+(pts ib (.cells ⟨X'.cells cst__slice_none_0_0  ev xv⟩ 81 (0,0))+x)) h->Q (.tuple #[]) h:=by
  intro X' h u K w;subst u;exact K  cst__slice_none_0_0  0 h (.inl ⟨none,0,rfl,rfl⟩) ok (by rw[Res.zero_add];exact w)
 unfold AMN AW;refine db.slice (i:=40) (j:=100) GM GM (by omega) (by omega) fun q l=>?_;rw[V3] at l;simp (disch:=omega) only[go_sem,AC w];refine Fk (qn o ?_);rw[AT];refine AS (fun s=>?_) (fun s=>?_)
 ·have hk:kindL X.en=3:=by omega
  cases cr with
  | dev _ hs hf=>
   cases c;exact AES ok l g hs hf f w fun h w=>a rfl K w
  | pipe hk2 _ _=>omega
  | inline hk2 _ _ _=>omega
  | ext hk2 _ _ _ _ _ _ _ _ _=>omega
  | empty hk2 _ _ _=>omega
  | link hk2 _ _ _ _=>omega
 ·rw[AT];by_cases h4:kindL X.en=4
  ·have m:decide ((kindL X.en:Int)=4)=true:=H0 (by omega);rw[m];cases cr with
   | dev _ hs hf=>
    cases c;exact AES ok l g hs hf f w fun h w=>a rfl K w
   | pipe hk2 _ _=>omega
   | inline hk2 _ _ _=>omega
   | ext hk2 _ _ _ _ _ _ _ _ _=>omega
   | empty hk2 _ _ _=>omega
   | link hk2 _ _ _ _=>omega
  ·have m:decide ((kindL X.en:Int)=4)=false:=J0 (by omega);rw[m];unfold SM AW;rw[AJ,AT];refine AS (fun t=>?_) (fun t=>?_)
   ·cases cr with
    | dev hk2 _ _=>omega
    | pipe _ hs hf=>
     cases c;exact AKy hs hf f w (a rfl K w)
    | inline hk2 _ _ _=>omega
    | ext hk2 _ _ _ _ _ _ _ _ _=>omega
    | empty hk2 _ _ _=>omega
    | link hk2 _ _ _ _=>omega
   ·rw[AT];by_cases h6:kindL X.en=6
    ·have n:decide ((kindL X.en:Int)=6)=true:=H0 (by omega);rw[n];cases cr with
     | dev hk2 _ _=>omega
     | pipe _ hs hf=>
      cases c;exact AKy hs hf f w (a rfl K w)
     | inline hk2 _ _ _=>omega
     | ext hk2 _ _ _ _ _ _ _ _ _=>omega
     | empty hk2 _ _ _=>omega
     | link hk2 _ _ _ _=>omega
    ·have n:decide ((kindL X.en:Int)=6)=false:=J0 (by omega);rw[n];cases cr with
     | dev hk2 _ _=>omega
     | pipe hk2 _ _=>omega
     | inline hk2 hin hsz hsi=>
      cases c;exact AQD ok l g dr p hin hsz hsi w fun cv y h d w=>K cv y h d ok w
     | ext hk2 hin hf ex g1 g2 g3 g4 g5 g6=>exact AQF ok l ex hin hf f g1 g2 g3 g4 g5 c g6 w K
     | empty hk2 hin hf hs=>
      cases c;exact AQC (e:=[]) ok (by omega) o hin hf f hs w (a rfl K w)
     | link hk2 hin hf hs hsi=>
      cases c;exact AQE ok l g hk2 o hin hf f hs hsi w fun cv y h d w=>K cv y h d ok w
end
end
section
variable {v:VS}
attribute [local irreducible] BJ CR Ak Bc An Aa AK Ac VS.cells
def Ev:Am TP 81=some (.agg ⟨(XN.mk 0 0 0 0 0 0 0 0 (0,0) (0,0) (0,0) (0,0) 0 0 false 0).cells  cst__slice_none_0_0   cst__slice_none_0_0   cst__slice_none_0_0 ⟩):=by kernel_rfl
def qw:XN:=⟨0,0,0,0,0,0,0,0,(0,0),(0,0),(0,0),(0,0),0,0,false,0⟩
def MO (b:Bs)(n:Nat):XN:=
 ⟨n,leL b 0 2,leL b 2 2+leL b 120 2*65536,leL b 24 2+leL b 122 2*65536,leL b 4 4+leL b 108 4*4294967296,leL b 26 2,leL b 28 4+leL b 116 2*4294967296,leL b 32 4,
  (leL b 8 4,leL b 140 4),(leL b 12 4,leL b 132 4),(leL b 16 4,leL b 136 4),(leL b 144 4,leL b 148 4),0,0,false,0⟩
section
variable {bv:Vz} {b:Bs} {p n m a c x4 x5 x6:Nat}
abbrev zR (x4 x5 x6:Nat)(bv:Vz)(v:VS):Res:=pts x6 (.cells ⟨[AH ((24:Nat):Int)]⟩ 48 (0,0))+(pts x5 (.cells ⟨[bv]⟩ 30 (0,0))+(pts x4 (.cells ⟨qw.cells  cst__slice_none_0_0   cst__slice_none_0_0   cst__slice_none_0_0⟩ 81 (0,0))+v.res))
def ES (d:RdX x bv b)(w:AN x h)(a:n<=7)(e:p<1000)(c:b.length<1000000)(K:Q (AH (leL b p n:Nat)) h):Call TP 66 [bv,AH (OfNat.ofNat p),AH (OfNat.ofNat n)] h Q:=
 Cd (NF d w a (by omega) (by omega) K)
def MP (w:AN (z+(y+x)) h)(b:a<4294967296)(d:c<4294967296)(K:∀ y h,AN (z+(y+x)) h->Q (Hs a c) h):Call TP 177 [AH (a:Nat),AH (c:Nat)] h Q:=
 AGC (ASc b d w fun e h w=>K (e+y) h (w.cast (by ac_rfl)))
def Fr (w:AN (z+(y+x)) h)(K:∀ b h,AN ((pts b (.cells ⟨qw.cells  cst__slice_none_0_0   cst__slice_none_0_0 cst__slice_none_0_0 ⟩ 81 (0,0))+z)+(y+x)) h->kt (Pt b) h):Ak (Am TP 81) 81 h kt:=
 AV w Ev rfl fun b h w=>K b h (w.cast (Res.assoc _ _ _).symm)
def ALI (a:m<65536)(K:k (cU16 (m:Nat))):GO .u16 (AH (m:Nat)) k:=by rw[Ea,AE0 a];exact K
def AFO (a:m<4294967296)(K:k (AM (m:Nat))):GO .u32 (AH (m:Nat)) k:=by rw[Ea,Lz a];exact K
def AHV (a:m<65536)(K:k (AH (m*65536:Nat))):AQ .shl (AH (m:Nat)) (AH 16) k:=by rw[AEZ,C2 (by omega)];exact K
def AHW (a:m<4294967296)(K:k (AH (m*4294967296:Nat))):AQ .shl (AH (m:Nat))  Bw  k:=by rw[Lr,C2 (by omega)];exact K
def ju (d:a<65536)(e:c<65536)(K:k (AH (a+c*65536:Nat))):AQ .or (AH (a:Nat)) (AH (c*65536:Nat)) k:=by
 rw[AD1 (by omega) (by omega)];have:=orp (a:=a) (b:=c) (i:=16) d;simp only[Nat.reducePow] at this;rw[this];exact K
def jx (d:a<4294967296)(e:c<4294967296)(K:k (AH (a+c*4294967296:Nat))):AQ .or (AH (a:Nat)) (AH (c*4294967296:Nat)) k:=by
 rw[AD1 (by omega) (by omega)];have:=orp (a:=a) (b:=c) (i:=32) d;simp only[Nat.reducePow] at this;rw[this];exact K
theorem ASb {kk:Kt}{x5 x6:Nat}(d:RdX x bv b)(w:AN x h)[Be x6 x (.cells ⟨[AH ((24:Nat):Int)]⟩ 48 (0,0))][Be x5 x (.cells ⟨[bv]⟩ 30 (0,0))](c:p<=148)(a:b.length<1000000)(K:kk (AH (leL b p 4:Nat)) h) :
  AMK (AH (OfNat.ofNat p)) (Pt x6) (Pt x5) h kk:=by
 unfold AMK AW;have e:(AH (OfNat.ofNat p):Vz)=AH (p:Nat):=rfl;rw[e];have f1:(AQ .add (AH 128) (AH ((24:Nat):Int)))=fun k=>k (AH ((152:Nat):Int)):=funext fun k=>by rw[BT];rfl
 have e2:decide (((p+4:Nat):Int)>((152:Nat):Int))=false:=J0 (by omega);simp (disch:=omega) only[go_sem,AC w,f1];rw[e2,AJ];exact Cd (NF (n:=4) d w (by omega) (by omega) (by omega) K)
def APQ:Ii TP 176=true:=by kernel_rfl
def NN {kk:Kt}{x5 x6:Nat}(d:RdX x bv b)(w:AN x h)[Be x6 x (.cells ⟨[AH ((24:Nat):Int)]⟩ 48 (0,0))][Be x5 x (.cells ⟨[bv]⟩ 30 (0,0))](c:p<=148)(a:b.length<1000000)(K:kk (AH (leL b p 4:Nat)) h) :
  OH TP (.func (.func 176) #[] #[Pt x6,Pt x5]) [AH (OfNat.ofNat p)] h kk:=
 callV (l:=[AH (OfNat.ofNat p),Pt x6,Pt x5]) rfl APQ (AGB (ASb d w c a K))
def AFB (Q:Kt)(v:VS)(n:Nat)(b:Bs)(bv:Vz)(x4 x5 x6:Nat)(x:Res):Prop:=∀ (x8:Nat) (y:Res) (h:H),AN ((pts x8 (.cells ⟨(MO b n).cells cst__slice_none_0_0   cst__slice_none_0_0   cst__slice_none_0_0⟩ 81 (0,0))+zR x4 x5 x6 bv v)+(y+x)) h->MK Q (Pt v.vb) (AH (n:Nat)) (Pt x4) (Pt x5) (Pt x6) (Pt x8) h
abbrev bld (b:Bs)(n:Nat)(k:Vz->Prop):Prop:=
 An (.struct [(0,1),(1,1),(2,1),(3,1),(4,1),(5,1),(6,1),(7,1),(8,2),(10,2),(12,2),(14,2),(16,1),(17,1),(18,1),(19,1),(20,1),(21,1),(22,1)]) (Am TP 81)
  [(0,AH (n:Nat)),(1,cU16 (leL b 0 2:Nat)),(2,AM (leL b 2 2+leL b 120 2*65536:Nat)),(3,AM (leL b 24 2+leL b 122 2*65536:Nat)),(4,AH (leL b 4 4+leL b 108 4*4294967296:Nat)),(5,AH (leL b 26 2:Nat)),(6,AH (leL b 28 4+leL b 116 2*4294967296:Nat)),(7,AH (leL b 32 4:Nat)),
   (8,Hs (leL b 8 4) (leL b 140 4)),(9,Hs (leL b 12 4) (leL b 132 4)),(10,Hs (leL b 16 4) (leL b 136 4)),(11,Hs (leL b 144 4) (leL b 148 4))] k
theorem XN.len {X:XN}{cv ev xv:Vz}:(X.cells cv ev xv).length=23:=rfl
def AGb {c d e f g i j l:Int}{a a1 a2 a3 b b1 b2 b3:Nat} :
  Du (DB (.struct [(0,1),(1,1),(2,1),(3,1),(4,1),(5,1),(6,1),(7,1),(8,2),(10,2),(12,2),(14,2),(16,1),(17,1),(18,1),(19,1),(20,1),(21,1),(22,1)])) (qw.cells cst__slice_none_0_0   cst__slice_none_0_0   cst__slice_none_0_0 )
   [(0,AH c),(1,cU16 d),(2,AM e),(3,AM f),(4,AH g),(5,AH i),(6,AH j),(7,AH l),(8,Hs a b),(9,Hs a1 b1),(10,Hs a2 b2),(11,Hs a3 b3)]=some ([AH c,cU16 d,AM e,AM f,AH g,AH i,AH j,AH l]++(CW (a,b)++CW (a1,b1)++CW (a2,b2)++CW (a3,b3))++[Al,Al,.slice none 0 0,.slice none 0 0,.slice none 0 0,.bool false,AH 0]):=by kernel_rfl
def sj {k:Vz->Prop}(K:k (.agg ⟨(MO b n).cells  cst__slice_none_0_0   cst__slice_none_0_0   cst__slice_none_0_0 ⟩)):bld b n k:=
 BA Ev rfl (rs:=(MO b n).cells cst__slice_none_0_0 cst__slice_none_0_0  cst__slice_none_0_0) AGb K
def ANH {x8:Nat}(K:AFB Q v n b bv x4 x5 x6 x)(w:AN ((pts x8 (.cells ⟨qw.cells  cst__slice_none_0_0   cst__slice_none_0_0   cst__slice_none_0_0 ⟩ 81 (0,0))+zR x4 x5 x6 bv v)+(y+x)) h) :
  bld b n fun a=>BV 23 (Pt x8) a h fun h=>MK Q (Pt v.vb) (AH (n:Nat)) (Pt x4) (Pt x5) (Pt x6) (Pt x8) h:=
 sj (AD w ⟨(MO b n).cells cst__slice_none_0_0   cst__slice_none_0_0   cst__slice_none_0_0 ⟩ (AU (by rw[XN.size_];exact XN.len)) XN.size_ (by rw[XN.size_];omega) rfl fun h w=>K x8 y h w)
def AGc (K:AFB Q v n b bv x4 x5 x6 x)(w:AN (zR x4 x5 x6 bv v+(y+x)) h) :
  bld b n fun a=>Ak (Am TP 81) 81 h fun x8 h=>BV 23 x8 a h fun h=>MK Q (Pt v.vb) (AH (n:Nat)) (Pt x4) (Pt x5) (Pt x6) x8 h:=
 sj (Fr w fun x8 h w=>AD w ⟨(MO b n).cells cst__slice_none_0_0   cst__slice_none_0_0   cst__slice_none_0_0 ⟩ (AU (by rw[XN.size_];exact XN.len)) XN.size_ (by rw[XN.size_];omega) rfl fun h w=>K x8 y h w)
end
variable {bv:Vz}{b:Bs}{n x4 x5 x6:Nat}
attribute [local irreducible] XN.cells Ae GO AQ Call leL
def AGg {a c:Nat}(b:a<65536)(d:c<65536):a+c*65536<4294967296:=by omega
abbrev Et (Q:Kt)(v:VS)(n:Nat)(b:Bs)(bv:Vz)(x4 x5 x6:Nat)(x y:Res)(h:H)(x8:Nat)(F:Prop):Prop:=RdX x bv b->b.length<1000000->AFB Q v n b bv x4 x5 x6 x->AN ((pts x8 (.cells ⟨qw.cells  cst__slice_none_0_0   cst__slice_none_0_0   cst__slice_none_0_0 ⟩ 81 (0,0))+zR x4 x5 x6 bv v)+(y+x)) h->F
def et1 {x8:Nat}:Et Q v n b bv x4 x5 x6 x y h x8 (Wv Q (Pt v.vb) (AH (n:Nat)) (Pt x4) (Pt x5) (Pt x6) (Pt x8) (cU16 (leL b 0 2:Nat)) (AM (leL b 2 2+leL b 120 2*65536:Nat)) (AM (leL b 24 2+leL b 122 2*65536:Nat)) (AH (leL b 4 4+leL b 108 4*4294967296:Nat)) (AH (leL b 26 2:Nat)) (AH (leL b 28 4+leL b 116 2*4294967296:Nat)) (AH (leL b 32 4:Nat)) (Hs (leL b 8 4) (leL b 140 4)) (Hs (leL b 12 4) (leL b 132 4)) (Hs (leL b 16 4) (leL b 136 4)) (Hs (leL b 144 4) (leL b 148 4)) h):=by
 intro d a K w;unfold Wv DW;exact ANH K w
def et2 {x8:Nat}:Et Q v n b bv x4 x5 x6 x y h x8 (Ww Q (Pt v.vb) (AH (n:Nat)) (Pt x4) (Pt x5) (Pt x6) (Pt x8) (cU16 (leL b 0 2:Nat)) (AM (leL b 2 2+leL b 120 2*65536:Nat)) (AM (leL b 24 2+leL b 122 2*65536:Nat)) (AH (leL b 4 4+leL b 108 4*4294967296:Nat)) (AH (leL b 26 2:Nat)) (AH (leL b 28 4+leL b 116 2*4294967296:Nat)) (AH (leL b 32 4:Nat)) (Hs (leL b 8 4) (leL b 140 4)) (Hs (leL b 12 4) (leL b 132 4)) (Hs (leL b 16 4) (leL b 136 4)) h):=by
 intro d a K w;unfold Ww DW;refine NN (p:=144) d.bf.bf w (by decide) a ?_;refine NN (p:=148) d.bf.bf w (by decide) a ?_;refine MP w Ar Ar fun y h w=>?_;exact et1 d a K w
def et3 {x8:Nat}:Et Q v n b bv x4 x5 x6 x y h x8 (Wx Q (Pt v.vb) (AH (n:Nat)) (Pt x4) (Pt x5) (Pt x6) (Pt x8) (cU16 (leL b 0 2:Nat)) (AM (leL b 2 2+leL b 120 2*65536:Nat)) (AM (leL b 24 2+leL b 122 2*65536:Nat)) (AH (leL b 4 4+leL b 108 4*4294967296:Nat)) (AH (leL b 26 2:Nat)) (AH (leL b 28 4+leL b 116 2*4294967296:Nat)) (AH (leL b 32 4:Nat)) (Hs (leL b 8 4) (leL b 140 4)) (Hs (leL b 12 4) (leL b 132 4)) bv h):=by
 intro d a K w;unfold Wx DW;refine ES (p:=16) (n:=4) d.bf.bf w (by decide) (by decide) a ?_;refine NN (p:=136) d.bf.bf w (by decide) a ?_;refine MP w Ar Ar fun y h w=>?_;exact et2 d a K w
def et4 {x8:Nat}:Et Q v n b bv x4 x5 x6 x y h x8 (Wy Q (Pt v.vb) (AH (n:Nat)) (Pt x4) (Pt x5) (Pt x6) (Pt x8) (cU16 (leL b 0 2:Nat)) (AM (leL b 2 2+leL b 120 2*65536:Nat)) (AM (leL b 24 2+leL b 122 2*65536:Nat)) (AH (leL b 4 4+leL b 108 4*4294967296:Nat)) (AH (leL b 26 2:Nat)) (AH (leL b 28 4+leL b 116 2*4294967296:Nat)) (AH (leL b 32 4:Nat)) (Hs (leL b 8 4) (leL b 140 4)) (AH (leL b 12 4:Nat)) bv h):=by
 intro d a K w;unfold Wy DW;refine NN (p:=132) d.bf.bf w (by decide) a ?_;refine Is w (by rfl) ?_;refine MP w Ar Ar fun y h w=>?_;refine Is w (by rfl) ?_;exact et3 d a K w
def et5 {x8:Nat}:Et Q v n b bv x4 x5 x6 x y h x8 (Wz Q (Pt v.vb) (AH (n:Nat)) (Pt x4) (Pt x5) (Pt x6) (Pt x8) (cU16 (leL b 0 2:Nat)) (AM (leL b 2 2+leL b 120 2*65536:Nat)) (AM (leL b 24 2+leL b 122 2*65536:Nat)) (AH (leL b 4 4+leL b 108 4*4294967296:Nat)) (AH (leL b 26 2:Nat)) (AH (leL b 28 4+leL b 116 2*4294967296:Nat)) (AH (leL b 32 4:Nat)) (AH (leL b 8 4:Nat)) (AH (leL b 140 4:Nat)) bv bv h):=by
 intro d a K w;unfold Wz DW;refine MP w Ar Ar fun y h w=>?_
 repeat refine And.intro (Af w (by rfl) rfl) ?_
 refine ES (p:=12) (n:=4) d.bf.bf w (by decide) (by decide) a ?_;refine Is w (by rfl) ?_;exact et4 d a K w
def et6 {x8:Nat}:Et Q v n b bv x4 x5 x6 x y h x8 (XB Q (Pt v.vb) (AH (n:Nat)) (Pt x4) (Pt x5) (Pt x6) (Pt x8) (cU16 (leL b 0 2:Nat)) (AM (leL b 2 2+leL b 120 2*65536:Nat)) (AM (leL b 24 2+leL b 122 2*65536:Nat)) (AH (leL b 4 4+leL b 108 4*4294967296:Nat)) (AH (leL b 26 2:Nat)) (AH (leL b 28 4+leL b 116 2*4294967296:Nat)) (AH (leL b 32 4:Nat)) (AH (leL b 8 4:Nat)) bv bv h):=by
 intro d a K w;unfold XB DW;refine NN (p:=140) d.bf.bf w (by decide) a ?_
 repeat refine And.intro (Af w (by rfl) rfl) ?_
 exact et5 d a K w
def et7 {x8:Nat}:Et Q v n b bv x4 x5 x6 x y h x8 (XC Q (Pt v.vb) (AH (n:Nat)) (Pt x4) (Pt x5) (Pt x6) (Pt x8) (cU16 (leL b 0 2:Nat)) (AM (leL b 2 2+leL b 120 2*65536:Nat)) (AM (leL b 24 2+leL b 122 2*65536:Nat)) (AH (leL b 4 4+leL b 108 4*4294967296:Nat)) (AH (leL b 26 2:Nat)) (AH (leL b 28 4+leL b 116 2*4294967296:Nat)) (AH (leL b 32 4:Nat)) bv bv bv h):=by
 intro d a K w;unfold XC DW;refine ES (p:=8) (n:=4) d.bf.bf w (by decide) (by decide) a ?_
 repeat refine And.intro (Af w (by rfl) rfl) ?_
 exact et6 d a K w
def et8 {x8:Nat}:Et Q v n b bv x4 x5 x6 x y h x8 (XD Q (Pt v.vb) (AH (n:Nat)) (Pt x4) (Pt x5) (Pt x6) (Pt x8) (cU16 (leL b 0 2:Nat)) (AM (leL b 2 2+leL b 120 2*65536:Nat)) (AM (leL b 24 2+leL b 122 2*65536:Nat)) (AH (leL b 4 4+leL b 108 4*4294967296:Nat)) (AH (leL b 26 2:Nat)) (AH (leL b 28 4+leL b 116 2*4294967296:Nat)) bv bv bv bv h):=by
 intro d a K w;unfold XD DW;refine ES (p:=32) (n:=4) d.bf.bf w (by decide) (by decide) a ?_
 repeat refine And.intro (Af w (by rfl) rfl) ?_
 exact et7 d a K w
def et9 {x8:Nat}:Et Q v n b bv x4 x5 x6 x y h x8 (XE Q (Pt v.vb) (AH (n:Nat)) (Pt x4) (Pt x5) (Pt x6) (Pt x8) (cU16 (leL b 0 2:Nat)) (AM (leL b 2 2+leL b 120 2*65536:Nat)) (AM (leL b 24 2+leL b 122 2*65536:Nat)) (AH (leL b 4 4+leL b 108 4*4294967296:Nat)) (AH (leL b 26 2:Nat)) (AH (leL b 28 4:Nat)) bv bv bv bv bv h):=by
 intro d a K w;unfold XE DW;refine ES (p:=116) (n:=2) d.bf.bf w (by decide) (by decide) a ?_
 repeat refine And.intro (Af w (by rfl) rfl) ?_
 refine AHW (O6 Ar (by decide)) ?_;refine jx Ar (O6 Ar (by decide)) ?_;exact et8 d a K w
def AOw {x8:Nat}:Et Q v n b bv x4 x5 x6 x y h x8 (Rq Q (Pt v.vb) (AH (n:Nat)) (Pt x4) (Pt x5) (Pt x6) (Pt x8) (cU16 (leL b 0 2:Nat)) (AM (leL b 2 2+leL b 120 2*65536:Nat)) (AM (leL b 24 2+leL b 122 2*65536:Nat)) (AH (leL b 4 4+leL b 108 4*4294967296:Nat)) (AH (leL b 26 2:Nat)) bv bv bv bv bv bv h):=by
 intro d a K w;unfold Rq DW;refine ES (p:=28) (n:=4) d.bf.bf w (by decide) (by decide) a ?_
 repeat refine And.intro (Af w (by rfl) rfl) ?_
 exact et9 d a K w
def AOx {x8:Nat}:Et Q v n b bv x4 x5 x6 x y h x8 (Rr Q (Pt v.vb) (AH (n:Nat)) (Pt x4) (Pt x5) (Pt x6) (Pt x8) (cU16 (leL b 0 2:Nat)) (AM (leL b 2 2+leL b 120 2*65536:Nat)) (AM (leL b 24 2+leL b 122 2*65536:Nat)) (AH (leL b 4 4+leL b 108 4*4294967296:Nat)) bv bv bv bv bv bv bv h):=by
 intro d a K w;unfold Rr DW;refine ES (p:=26) (n:=2) d.bf.bf w (by decide) (by decide) a ?_
 repeat refine And.intro (Af w (by rfl) rfl) ?_
 exact AOw d a K w
def AOy {x8:Nat}:Et Q v n b bv x4 x5 x6 x y h x8 (Rs Q (Pt v.vb) (AH (n:Nat)) (Pt x4) (Pt x5) (Pt x6) (Pt x8) (cU16 (leL b 0 2:Nat)) (AM (leL b 2 2+leL b 120 2*65536:Nat)) (AM (leL b 24 2+leL b 122 2*65536:Nat)) (AH (leL b 4 4:Nat)) bv bv bv bv bv bv bv bv h):=by
 intro d a K w;unfold Rs DW;refine ES (p:=108) (n:=4) d.bf.bf w (by decide) (by decide) a ?_
 repeat refine And.intro (Af w (by rfl) rfl) ?_
 refine AHW (O6 Ar (by decide)) ?_;refine jx Ar (O6 Ar (by decide)) ?_;exact AOx d a K w
def AOz {x8:Nat}:Et Q v n b bv x4 x5 x6 x y h x8 (Rt Q (Pt v.vb) (AH (n:Nat)) (Pt x4) (Pt x5) (Pt x6) (Pt x8) (cU16 (leL b 0 2:Nat)) (AM (leL b 2 2+leL b 120 2*65536:Nat)) (AM (leL b 24 2+leL b 122 2*65536:Nat)) bv bv bv bv bv bv bv bv bv h):=by
 intro d a K w;unfold Rt DW;refine ES (p:=4) (n:=4) d.bf.bf w (by decide) (by decide) a ?_
 repeat refine And.intro (Af w (by rfl) rfl) ?_
 exact AOy d a K w
def AO0 {x8:Nat}:Et Q v n b bv x4 x5 x6 x y h x8 (Ru Q (Pt v.vb) (AH (n:Nat)) (Pt x4) (Pt x5) (Pt x6) (Pt x8) (cU16 (leL b 0 2:Nat)) (AM (leL b 2 2+leL b 120 2*65536:Nat)) (AH (leL b 24 2:Nat)) bv bv bv bv bv bv bv bv bv bv h):=by
 intro d a K w;unfold Ru DW;refine ES (p:=122) (n:=2) d.bf.bf w (by decide) (by decide) a ?_
 repeat refine And.intro (Af w (by rfl) rfl) ?_
 refine AHV Ar ?_;refine ju Ar Ar ?_;refine AFO (AGg Ar Ar) ?_;exact AOz d a K w
def AO1 {x8:Nat}:Et Q v n b bv x4 x5 x6 x y h x8 (Rv Q (Pt v.vb) (AH (n:Nat)) (Pt x4) (Pt x5) (Pt x6) (Pt x8) (cU16 (leL b 0 2:Nat)) (AM (leL b 2 2+leL b 120 2*65536:Nat)) bv bv bv bv bv bv bv bv bv bv bv h):=by
 intro d a K w;unfold Rv DW;refine ES (p:=24) (n:=2) d.bf.bf w (by decide) (by decide) a ?_
 repeat refine And.intro (Af w (by rfl) rfl) ?_
 exact AO0 d a K w
def AO2 {x8:Nat}:Et Q v n b bv x4 x5 x6 x y h x8 (Rw Q (Pt v.vb) (AH (n:Nat)) (Pt x4) (Pt x5) (Pt x6) (Pt x8) (cU16 (leL b 0 2:Nat)) (AH (leL b 2 2:Nat)) bv bv bv bv bv bv bv bv bv bv bv bv h):=by
 intro d a K w;unfold Rw DW;refine ES (p:=120) (n:=2) d.bf.bf w (by decide) (by decide) a ?_
 repeat refine And.intro (Af w (by rfl) rfl) ?_
 refine AHV Ar ?_;refine ju Ar Ar ?_;refine AFO (AGg Ar Ar) ?_;exact AO1 d a K w
def AO3 {x8:Nat}:Et Q v n b bv x4 x5 x6 x y h x8 (Rx Q (Pt v.vb) (AH (n:Nat)) (Pt x4) (Pt x5) (Pt x6) (Pt x8) (cU16 (leL b 0 2:Nat)) bv bv bv bv bv bv bv bv bv bv bv bv bv h):=by
 intro d a K w;unfold Rx DW;refine ES (p:=2) (n:=2) d.bf.bf w (by decide) (by decide) a ?_
 repeat refine And.intro (Af w (by rfl) rfl) ?_
 exact AO2 d a K w
def ANp (d:RdX x bv b)(a:b.length<1000000)(K:AFB Q v n b bv x4 x5 x6 x)(w:AN (zR x4 x5 x6 bv v+(y+x)) h):Wt Q (Pt v.vb) (AH (n:Nat)) (Pt x4) (Pt x5) (Pt x6) h:=by
 unfold Wt AW;refine Af w (by rfl) ?_;refine Af w (by rfl) ?_;refine Af w (by rfl) ?_;refine Af w (by rfl) ?_;refine Af w (by rfl) ?_;refine Af w (by rfl) ?_;refine Af w (by rfl) ?_;refine Af w (by rfl) ?_;refine Af w (by rfl) ?_;refine Af w (by rfl) ?_;refine Af w (by rfl) ?_;refine Af w (by rfl) ?_;refine Af w (by rfl) ?_;refine Af w (by rfl) ?_;refine And.intro ?_ ?_
 ·skip
  refine ES (p:=0) (n:=2) d.bf.bf w (by decide) (by decide) a ?_
  repeat refine And.intro (Af w (by rfl) rfl) ?_
  refine ALI Ar ?_;refine And.intro ?_ ?_
  ·skip
   refine ES (p:=2) (n:=2) d.bf.bf w (by decide) (by decide) a ?_
   repeat refine And.intro (Af w (by rfl) rfl) ?_
   refine And.intro ?_ ?_
   ·skip
    refine ES (p:=120) (n:=2) d.bf.bf w (by decide) (by decide) a ?_
    repeat refine And.intro (Af w (by rfl) rfl) ?_
    refine AHV Ar ?_;refine ju Ar Ar ?_;refine AFO (AGg Ar Ar) ?_;refine And.intro ?_ ?_
    ·skip
     refine ES (p:=24) (n:=2) d.bf.bf w (by decide) (by decide) a ?_
     repeat refine And.intro (Af w (by rfl) rfl) ?_
     refine And.intro ?_ ?_
     ·skip
      refine ES (p:=122) (n:=2) d.bf.bf w (by decide) (by decide) a ?_
      repeat refine And.intro (Af w (by rfl) rfl) ?_
      refine AHV Ar ?_;refine ju Ar Ar ?_;refine AFO (AGg Ar Ar) ?_;refine And.intro ?_ ?_
      ·skip
       refine ES (p:=4) (n:=4) d.bf.bf w (by decide) (by decide) a ?_
       repeat refine And.intro (Af w (by rfl) rfl) ?_
       refine And.intro ?_ ?_
       ·skip
        refine ES (p:=108) (n:=4) d.bf.bf w (by decide) (by decide) a ?_
        repeat refine And.intro (Af w (by rfl) rfl) ?_
        refine AHW (O6 Ar (by decide)) ?_;refine jx Ar (O6 Ar (by decide)) ?_;refine And.intro ?_ ?_
        ·skip
         refine ES (p:=26) (n:=2) d.bf.bf w (by decide) (by decide) a ?_
         repeat refine And.intro (Af w (by rfl) rfl) ?_
         refine And.intro ?_ ?_
         ·skip
          refine ES (p:=28) (n:=4) d.bf.bf w (by decide) (by decide) a ?_
          repeat refine And.intro (Af w (by rfl) rfl) ?_
          refine And.intro ?_ ?_
          ·skip
           refine ES (p:=116) (n:=2) d.bf.bf w (by decide) (by decide) a ?_
           repeat refine And.intro (Af w (by rfl) rfl) ?_
           refine AHW (O6 Ar (by decide)) ?_;refine jx Ar (O6 Ar (by decide)) ?_;refine And.intro ?_ ?_
           ·skip
            refine ES (p:=32) (n:=4) d.bf.bf w (by decide) (by decide) a ?_
            repeat refine And.intro (Af w (by rfl) rfl) ?_
            refine And.intro ?_ ?_
            ·skip
             refine ES (p:=8) (n:=4) d.bf.bf w (by decide) (by decide) a ?_
             repeat refine And.intro (Af w (by rfl) rfl) ?_
             refine And.intro ?_ ?_
             ·skip
              refine NN (p:=140) d.bf.bf w (by decide) a ?_
              repeat refine And.intro (Af w (by rfl) rfl) ?_
              refine And.intro ?_ ?_
              ·skip
               refine MP w Ar Ar fun y h w=>?_
               repeat refine And.intro (Af w (by rfl) rfl) ?_
               refine And.intro ?_ ?_
               ·skip
                refine ES (p:=12) (n:=4) d.bf.bf w (by decide) (by decide) a ?_;refine Is w (by rfl) ?_;refine And.intro ?_ ?_
                ·skip
                 refine NN (p:=132) d.bf.bf w (by decide) a ?_;refine Is w (by rfl) ?_;refine And.intro ?_ ?_
                 ·skip
                  refine MP w Ar Ar fun y h w=>?_;refine Is w (by rfl) ?_;refine And.intro ?_ ?_
                  ·skip
                   refine ES (p:=16) (n:=4) d.bf.bf w (by decide) (by decide) a ?_;refine And.intro ?_ ?_
                   ·skip
                    refine NN (p:=136) d.bf.bf w (by decide) a ?_;refine And.intro ?_ ?_
                    ·skip
                     refine MP w Ar Ar fun y h w=>?_;refine And.intro ?_ ?_
                     ·skip
                      refine NN (p:=144) d.bf.bf w (by decide) a ?_;refine And.intro ?_ ?_
                      ·skip
                       refine NN (p:=148) d.bf.bf w (by decide) a ?_;refine And.intro ?_ ?_
                       ·skip
                        refine MP w Ar Ar fun y h w=>?_;exact AGc K w
                       refine Fr w fun x8 h w=>?_;refine MP w Ar Ar fun y h w=>?_;exact et1 d a K w
                      refine Fr w fun x8 h w=>?_;refine NN (p:=148) d.bf.bf w (by decide) a ?_;refine MP w Ar Ar fun y h w=>?_;exact et1 d a K w
                     refine Fr w fun x8 h w=>?_;exact et2 d a K w
                    refine Fr w fun x8 h w=>?_;refine MP w Ar Ar fun y h w=>?_;exact et2 d a K w
                   refine Fr w fun x8 h w=>?_;refine NN (p:=136) d.bf.bf w (by decide) a ?_;refine MP w Ar Ar fun y h w=>?_;exact et2 d a K w
                  refine Fr w fun x8 h w=>?_;refine Is w (by rfl) ?_;exact et3 d a K w
                 refine Fr w fun x8 h w=>?_;refine Is w (by rfl) ?_;refine MP w Ar Ar fun y h w=>?_;refine Is w (by rfl) ?_;exact et3 d a K w
                refine Fr w fun x8 h w=>?_;refine Is w (by rfl) ?_;exact et4 d a K w
               refine Fr w fun x8 h w=>?_
               repeat refine And.intro (Af w (by rfl) rfl) ?_
               refine ES (p:=12) (n:=4) d.bf.bf w (by decide) (by decide) a ?_;refine Is w (by rfl) ?_;exact et4 d a K w
              refine Fr w fun x8 h w=>?_
              repeat refine And.intro (Af w (by rfl) rfl) ?_
              exact et5 d a K w
             refine Fr w fun x8 h w=>?_
             repeat refine And.intro (Af w (by rfl) rfl) ?_
             exact et6 d a K w
            refine Fr w fun x8 h w=>?_
            repeat refine And.intro (Af w (by rfl) rfl) ?_
            exact et7 d a K w
           refine Fr w fun x8 h w=>?_
           repeat refine And.intro (Af w (by rfl) rfl) ?_
           exact et8 d a K w
          refine Fr w fun x8 h w=>?_
          repeat refine And.intro (Af w (by rfl) rfl) ?_
          exact et9 d a K w
         refine Fr w fun x8 h w=>?_
         repeat refine And.intro (Af w (by rfl) rfl) ?_
         exact AOw d a K w
        refine Fr w fun x8 h w=>?_
        repeat refine And.intro (Af w (by rfl) rfl) ?_
        exact AOx d a K w
       refine Fr w fun x8 h w=>?_
       repeat refine And.intro (Af w (by rfl) rfl) ?_
       exact AOy d a K w
      refine Fr w fun x8 h w=>?_
      repeat refine And.intro (Af w (by rfl) rfl) ?_
      exact AOz d a K w
     refine Fr w fun x8 h w=>?_
     repeat refine And.intro (Af w (by rfl) rfl) ?_
     exact AO0 d a K w
    refine Fr w fun x8 h w=>?_
    repeat refine And.intro (Af w (by rfl) rfl) ?_
    exact AO1 d a K w
   refine Fr w fun x8 h w=>?_
   repeat refine And.intro (Af w (by rfl) rfl) ?_
   exact AO2 d a K w
  refine Fr w fun x8 h w=>?_
  repeat refine And.intro (Af w (by rfl) rfl) ?_
  exact AO3 d a K w
 refine Fr w fun x8 h w=>?_
 repeat refine And.intro (Af w (by rfl) rfl) ?_
 refine ES (p:=0) (n:=2) d.bf.bf w (by decide) (by decide) a ?_
 repeat refine And.intro (Af w (by rfl) rfl) ?_
 refine ALI Ar ?_;exact AO3 d a K w
end
end Go.Proofs.YtollddkkdgoonaaGreatDoor
