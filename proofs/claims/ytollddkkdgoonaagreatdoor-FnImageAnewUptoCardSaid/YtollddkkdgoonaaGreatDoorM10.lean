/- A step. No condition. -/
import Derived.Test.YtollddkkdgoonaaGreatDoorM9
import Derived.Test.YtollddkkdgoonaaGreatDoorCards
import Derived.Test.YtollddkkdgoonaaGreatDoorTie
import Derived.WalkKit
import Derived.ProofKit
import Derived.OpenShut
import Derived.WideKeyArgs
import Derived.Deep.DeepHandedRow
import Derived.Lib.LaidTab
namespace Go.Proofs.YtollddkkdgoonaaGreatDoor
open Go
set_option linter.unusedVariables false
set_option linter.unusedSimpArgs false
set_option linter.defProp false
set_option maxRecDepth 100000
variable {h:H} {k:Value->Prop} {kt Q:Kt} {x y z r:Res}
section
variable {A:Res}{v:VS}
def vC (img:Vz)(nb gs pg eh ib db:Nat)(ov:Vz)(wd:Bool):List Vz:=[.slice none 0 0,AH (nb:Nat),.slice none 0 0,img,AH (gs:Nat),AH (pg:Nat),AH (eh:Nat),AH (ib:Nat),AH (db:Nat),ov,.bool wd]
theorem VS.cells_v {b ob nb eh:Nat}{iv:Vz}{I ow:Bs}:(VS.mk b ob  cst__slice_none_0_0  iv I nb eh ow).cells=⟨vC iv nb 1 32768 eh 256 32 (.slice (some ⟨ob,0,none⟩) nb nb) false⟩:=rfl
attribute [local irreducible] BJ CR Ak Bc An Aa AK Ac VS.cells XN.cells
def AHz:Am TP 51=some (.agg ⟨vC  cst__slice_none_0_0  0 0 0 0 0 0  cst__slice_none_0_0  false⟩):=by kernel_rfl
def AE3:Am TP 5=some  BE:=by kernel_rfl
structure SbOK (sb:Bs) (nb eh:Nat):Prop where
 len:sb.length=1024
 s0:leL sb 0 4=eh
 s4:leL sb 4 4=nb
 s20:leL sb 20 4=0
 s24:leL sb 24 4=2
 s32:leL sb 32 4=32768
 s40:leL sb 40 4=eh
 s56:leL sb 56 2=61267
 s58:leL sb 58 2=1
 s76:leL sb 76 4=1
 s84:leL sb 84 4=11
 s88:leL sb 88 2=256
 s92:leL sb 92 4=520
 s96:leL sb 96 4=578\/leL sb 96 4=33346
 s100:leL sb 100 4=4170
 s336:leL sb 336 4=0
structure Tc (I:Bs) (nb eh:Nat) (o0 o':Bs) (S:TS) (os:List AA) (kk:Nat):Prop where
 len:I.length=nb*4096
 nb0:nb<=32768
 nb1:2<=nb
 ipg0:eh<=32768
 ipg1:16<=eh
 ipg16:eh%16=0
 sb:SbOK ((I.drop 1024).take 1024) nb eh
 grp:Clm (grpL I eh) (List.replicate nb 0) o0
 walk:WalkOK I nb eh o0 o' S os kk
 num:∀ o∈os,1<=o.X.num/\o.X.num<=eh/\o.X.en<65536
 mark:MarkOK I nb eh o' (mkU (usd 10 (List.replicate (eh+1) false)) os) (cntD os) ((I.drop 1024).take 1024)
section
variable {I o0 o':Bs} {S:TS} {os:List AA} {kk nb eh b:Nat} {iv sv:Vz}
def AQM {ev:Vz}(g:Tc I nb eh o0 o' S os kk)(d:RdX x iv I)(f:RdX x sv ((I.drop 1024).take 1024))(w:AN (pts b (.cells ⟨vC iv nb 0 32768 eh 256 32 ev false⟩ 51 (0,0))+x) h)(m:ev=.slice none 0 0)
  (K:∀ (v:VS) z y h cs,VecX 81 23 v.iv os.length cs z->OutV z cs os->v.OK (z+x)->v.vb=b->v.I=I->v.eh=eh->AN (v.res+(y+(z+x))) h->Q (Pt b) h) :
  ABb Q (Pt b) sv h:=by
 have q:=g.ipg0;have s:=g.nb0;have j:=g.nb1;have o:=g.ipg1;have e:((I.drop 1024).take 1024).length<1000000:=by rw[g.sb.len];decide
 subst m;have c:∀ (i:Nat) (ov:Vz),(⟨vC iv nb i 32768 eh 256 32 ov false⟩:Array Vz)[1]? = some (AH (nb:Nat))/\(⟨vC iv nb i 32768 eh 256 32 ov false⟩:Array Vz)[2]? = some cst__slice_none_0_0 /\(⟨vC iv nb i 32768 eh 256 32 ov false⟩:Array Vz)[4]? = some (AH (i:Nat))/\(⟨vC iv nb i 32768 eh 256 32 ov false⟩:Array Vz)[5]? = some (AH ((32768:Nat):Int))/\(⟨vC iv nb i 32768 eh 256 32 ov false⟩:Array Vz)[6]? = some (AH (eh:Nat)):=fun i ov=>⟨rfl,rfl,rfl,rfl,rfl⟩;have t:∀ k:Vz->Prop,AQ .gtr (AB ((0:Nat):Int))  AF  k=k AE :=fun k=>by rw[Ah];rfl
 have u:∀ k:Vz->Prop,AQ .quo (AH ((nb+32768-1:Nat):Int)) (AH ((32768:Nat):Int)) k=k (AH ((1:Nat):Int)):=fun k=>by
  rw[Yt (by omega),show (nb+32768-1)/32768=1 by omega,Dn (by omega)]
 have q3:∀ k:Vz->Prop,AQ .mul (AH ((1:Nat):Int)) (AH (eh:Nat)) k=k (AH (eh:Nat)):=fun k=>by rw[Yp,P6,Dn (by omega)]
 have q4:∀ k:Vz->Prop,AQ .and (AH ((1:Nat):Int))  Aq  k=k (AH ((1:Nat):Int)):=fun k=>by
  have:=WG (k:=k) (a:=1) (b:=1) (by omega) (by decide);exact this
 have q5:∀ k:Vz->Prop,AQ .eql (AH ((1:Nat):Int))  Aq  k=k AI :=fun k=>by rw[AT];rfl
 unfold ABb AW;rw[Br];refine Af w (c 0 _).2.1 ?_;rw[As,t,AJ,Br];refine Af w (c 0 _).1 ?_;rw[Br];refine Af w (c 0 _).2.2.2.1 ?_;rw[IJ,Dn (by omega),ZD (n:=1) (by show (1:Int)<=_;omega),Dn (by omega),Br];refine Af w (c 0 _).2.2.2.1 ?_;rw[u,Br];refine AD w ⟨vC iv nb 1 32768 eh 256 32 cst__slice_none_0_0  false⟩ rfl rfl (by show _<=11;omega) rfl fun h w=>?_;rw[Br];refine Af w (c 1 _).2.2.1 ?_;rw[Br];refine Af w (c 1 _).2.2.2.2 ?_;rw[q3];refine ES (p:=0) (n:=4) f.bf w (by decide) (by decide) e ⟨Af w (c 1 _).2.2.1 rfl,Af w (c 1 _).2.2.2.2 rfl,?_⟩;rw[g.sb.s0,AT,H0 rfl];refine ES (p:=0) (n:=4) f.bf w (by decide) (by decide) e ⟨Af w (c 1 _).2.2.1 rfl,Af w (c 1 _).2.2.2.2 rfl,?_⟩;refine BH (EW ?_);refine ES (p:=58) (n:=2) f.bf w (by decide) (by decide) e ?_;rw[g.sb.s58,q4,q5];refine ES (p:=58) (n:=2) f.bf w (by decide) (by decide) e ?_;refine BH (EW ?_);rw[Br];refine Af w (c 1 _).2.1 ?_;rw[As,t,AJ,Br];refine Af w (c 1 _).1 ?_;refine Di w AE3 rfl (I0 _) (by omega) (by omega) fun ob h w=>?_;rw[Br];refine AD (w.cast (Kq2 _ _ _)) ⟨vC iv nb 1 32768 eh 256 32 (.slice (some ⟨ob,0,none⟩) nb nb) false⟩ rfl rfl (by show _<=11;omega) rfl fun h w=>?_
 let v:VS:=⟨b,ob,.slice none 0 0,iv,I,nb,eh,List.replicate nb 0⟩
 have l:pts b (.cells ⟨vC iv nb 1 32768 eh 256 32 (.slice (some ⟨ob,0,none⟩) nb nb) false⟩ 51 (0,0))+(pts ob (.cells ⟨List.replicate nb  BE⟩ 5 (0,0))+x)=v.res+x:=by
  have:pts ob (.cells ⟨List.replicate nb  BE ⟩ 5 (0,0))=buf ob (List.replicate nb 0):=by
   unfold buf bcs;rw[W6];rfl
  rw[this,<-Res.assoc];show _=pts b (.cells (VS.cells ⟨b,ob,.slice none 0 0,iv,I,nb,eh,List.replicate nb 0⟩) 51 (0,0))+buf ob (List.replicate nb 0)+x;rw[VS.cells_v]
 have w:=w.cast l;have ok:v.OK x:=⟨d,by show nb*4096<=I.length;rw[g.len];exact I0 _,by show I.length<1099511627776;rw[g.len];omega,s,j,M0 ..,q,o,g.ipg16⟩;refine ANA (s67 (v:=v) ok f g.sb.len g.sb.s92 g.grp w fun h ok w=>?_);refine ES (p:=84) (n:=4) f.bf w (by decide) (by decide) e ?_;rw[g.sb.s84];refine ANB (s68 (v:=v.own o0) ok rfl g.walk w fun iv2 cs z h dv ov ok w=>?_);refine ANC (s69 (x:=z+x) (v:=((v.own o0).ino iv2).own o') ok.mono f.bf g.sb.len g.walk.hit g.num dv.an ov (by rw[g.walk.len];exact g.walk.nlt) g.mark w fun y h w=>?_);exact K _ z y h cs dv ov ok.mono rfl rfl rfl w
def Tu {inc:Nat}(hi:inc=578\/inc=33346):(∀ k:Vz->Prop,AQ .and (AH (inc:Nat)) (AH 128) k=k (AH ((0:Nat):Int)))/\(∀ k:Vz->Prop,AQ .andNot (AH (inc:Nat)) (AH 33474) k=k (AH ((0:Nat):Int)))/\(∀ k:Vz->Prop,AQ .and (AH (inc:Nat)) (AH 2) k=k (AH ((2:Nat):Int))):=by
 have c:∀ a b:Nat,a<18446744073709551616->b<18446744073709551616->∀ k:Vz->Prop,AQ .and (AH (a:Nat)) (AH (b:Nat)) k=k (AH (a &&& b:Nat)):=fun a b e f k=>RX rfl e f;have d:∀ k:Vz->Prop,∀ a b:Nat,AQ .andNot (AH (a:Nat)) (AH (b:Nat)) k=k (AH (IntKind.u64.wrap ((a%18446744073709551616 &&& (18446744073709551615-b%18446744073709551616):Nat):Int))):=fun k a b=>by
  unfold AQ DO;simp;exact Iff.rfl
 rcases hi with rfl|rfl
 ·exact⟨fun k=>c 578 128 (by decide) (by decide) k,fun k=>d k 578 33474,fun k=>c 578 2 (by decide) (by decide) k⟩
 ·exact⟨fun k=>c 33346 128 (by decide) (by decide) k,fun k=>d k 33346 33474,fun k=>c 33346 2 (by decide) (by decide) k⟩
theorem AQN {inc:Nat}(g:Tc I nb eh o0 o' S os kk)(d:RdX x iv I)(f:RdX x sv ((I.drop 1024).take 1024))(i:inc=578\/inc=33346)(w:AN (pts b (.cells ⟨vC iv nb 0 32768 eh 256 32  cst__slice_none_0_0 false⟩ 51 (0,0))+x) h)
  (K:∀ (v:VS) z y h cs,VecX 81 23 v.iv os.length cs z->OutV z cs os->v.OK (z+x)->v.vb=b->v.I=I->v.eh=eh->AN (v.res+(y+(z+x))) h->Q (Pt b) h) :
  ABc Q iv (Pt b) sv (AH (inc:Nat)) (AH ((4170:Nat):Int)) h:=by
 have q:=g.ipg0;have s:=g.nb0;have m:=g.nb1;have o:=g.ipg1;have l:=g.len;have e:((I.drop 1024).take 1024).length<1000000:=by rw[g.sb.len];decide
 obtain⟨_,b2,b3⟩:=Tu i;have u:∀ k:Vz->Prop,AQ .neq (AH ((2:Nat):Int))  AO  k=k AI :=fun k=>by rw[Ay];rfl
 have q2:∀ k:Vz->Prop,AQ .and (AH ((4170:Nat):Int)) (AH 1040) k=k (AH ((0:Nat):Int)):=fun k=>WG (a:=4170) (b:=1040) (by decide) (by decide);have q3:∀ k:Vz->Prop,AQ .and (AH ((256:Nat):Int)) (AH ((255:Nat):Int)) k=k (AH ((0:Nat):Int)):=fun k=>RX (a:=256) (b:=255) rfl (by decide) (by decide);have q4:∀ k:Vz->Prop,AQ .sub (AH ((256:Nat):Int))  Aq  k=k (AH ((255:Nat):Int)):=fun k=>by rw[Ci];rfl
 have c1:(⟨vC iv nb 0 32768 eh 256 32 cst__slice_none_0_0 false⟩:Array Vz)[1]? = some (AH (nb:Nat)):=rfl;have c5:(⟨vC iv nb 0 32768 eh 256 32 cst__slice_none_0_0 false⟩:Array Vz)[5]? = some (AH ((32768:Nat):Int)):=rfl;have c6:(⟨vC iv nb 0 32768 eh 256 32 cst__slice_none_0_0 false⟩:Array Vz)[6]? = some (AH (eh:Nat)):=rfl;have c7:(⟨vC iv nb 0 32768 eh 256 32 cst__slice_none_0_0 false⟩:Array Vz)[7]? = some (AH ((256:Nat):Int)):=rfl;have j:(⟨vC iv nb 0 32768 eh 256 32 cst__slice_none_0_0 false⟩:Array Vz)[8]? = some (AH ((32:Nat):Int)):=rfl;unfold ABc AW;refine ES (p:=76) (n:=4) f.bf w (by decide) (by decide) e ?_;rw[g.sb.s76,AT,H0 (by decide)];refine ES (p:=76) (n:=4) f.bf w (by decide) (by decide) e ?_;refine BH (EW ?_);refine ES (p:=24) (n:=4) f.bf w (by decide) (by decide) e ?_;rw[g.sb.s24,AT,H0 (by decide)];refine ES (p:=24) (n:=4) f.bf w (by decide) (by decide) e ?_;refine BH (EW ?_);refine ES (p:=20) (n:=4) f.bf w (by decide) (by decide) e ?_;rw[g.sb.s20,AT,H0 (by decide)];refine ES (p:=20) (n:=4) f.bf w (by decide) (by decide) e ?_;refine BH (EW ?_);rw[b2,AT,H0 (by decide),CV,b3,u];refine BH (EW ?_);unfold AIi AW;rw[q2,AT,H0 (by decide)];refine BH (EW ?_);rw[Br];refine Af w c5 ?_;rw[Bd,H0 (by omega),CV,Br];refine Af w c5 ?_;rw[BY,H0 (by omega),Br];refine Af w c5 ?_;refine BH (EW ?_);unfold AIh AW;rw[Br];refine Af w c6 ?_;rw[Bd,H0 (by omega),CV,Br];refine Af w c6 ?_;rw[BY,H0 (by omega),Br];refine Af w c6 ?_;refine BH (EW ?_);unfold AIg AW;rw[Br];refine Af w c7 ?_;rw[Bd,H0 (by omega),CV,Br];refine Af w c7 ?_;rw[BY,H0 (by omega),CV,Br];refine Af w c7 ?_;rw[Br];refine Af w c7 ?_;rw[q4,q3,AT,H0 (by decide),Br];refine Af w c7 ?_;refine BH (EW ?_);unfold AIf AW;rw[Br];refine Af w j ?_;rw[Bd,H0 (by omega),CV,Br];refine Af w j ?_;rw[BY,H0 (by omega),Br];refine Af w j ?_;refine BH (EW ?_);unfold AIe AW;rw[Br];refine Af w c1 ?_;rw[Bd,H0 (by omega),CV,Br];refine Af w c1 ?_;obtain⟨a,c,t⟩:=d.len;rw[t,As,Ea,Dn (by omega),St (n:=4096) (by decide),Dn (by omega),BY,H0 (by omega),Br];refine Af w c1 ?_;refine BH (EW ?_);exact AQM g d f w rfl K
def s25 (g:Tc I nb eh o0 o' S os kk)(d:RdX x iv I)(w:AN x h)
  (K:∀ (v:VS) z y h cs,VecX 81 23 v.iv os.length cs z->OutV z cs os->v.OK (z+x)->v.I=I->v.eh=eh->AN (v.res+(y+(z+x))) h->Q (Pt v.vb) h):f25 iv h Q:=by
 have t:=g.nb1;have ae:=g.nb0;have s:=g.len;have f:((I.drop 1024).take 1024).length<1000000:=by rw[g.sb.len];decide
 unfold f25 AW;obtain⟨a,c,o⟩:=d.len;refine BA AHz rfl (rs:=vC iv 0 0 0 0 0 0  cst__slice_none_0_0 false) (by rw[o];rfl) (BG w fun b h w=>?_);have w:AN (pts b (.cells ⟨vC iv 0 0 0 0 0 0  cst__slice_none_0_0 false⟩ 51 (0,0))+x) h:=w;unfold AK;refine⟨_,#[],AE3,by decide,rfl,fun b2 h' e q ho=>?_⟩;have w:=w.ext e;show DM iv _;rw[o,As,<-o,Bd,H0 (by omega),Ab];refine d.slice (i:=1024) (j:=2048) GM GM (by omega) (by omega) fun sv l=>?_;have e1:(I.take 2048).drop 1024=(I.drop 1024).take 1024:=by rw[V3]
 rw[e1] at l;have c7:∀ k:Vz->Prop,AQ .shl (AH ((0:Nat):Int))  Bw k=k (AH ((0:Nat):Int)):=fun k=>by rw[Lr]
 have q1:∀ k:Vz->Prop,AQ .neq (AH ((0:Nat):Int))  AO  k=k AE :=fun k=>by rw[Ay];rfl
 unfold AIj AW;refine ES (p:=56) (n:=2) l.bf w (by decide) (by decide) f ?_;rw[g.sb.s56,AT,H0 (by decide)];refine ES (p:=56) (n:=2) l.bf w (by decide) (by decide) f ?_;refine BH (EW ?_);refine ES (p:=4) (n:=4) l.bf w (by decide) (by decide) f ?_;refine ES (p:=336) (n:=4) l.bf w (by decide) (by decide) f ?_;rw[g.sb.s4,g.sb.s336,c7,AD1 (by omega) (by omega),Nat.or_zero,Br];refine AD w ⟨vC iv nb 0 0 0 0 0 cst__slice_none_0_0 false⟩ rfl rfl (by show _<=11;omega) rfl fun h w=>?_;refine ES (p:=32) (n:=4) l.bf w (by decide) (by decide) f ?_;refine ES (p:=40) (n:=4) l.bf w (by decide) (by decide) f ?_;rw[g.sb.s32,g.sb.s40,Br];refine AD w ⟨vC iv nb 0 32768 0 0 0  cst__slice_none_0_0  false⟩ rfl rfl (by show _<=11;omega) rfl fun h w=>?_;rw[Br];refine AD w ⟨vC iv nb 0 32768 eh 0 0  cst__slice_none_0_0 false⟩ rfl rfl (by show _<=11;omega) rfl fun h w=>?_;refine ES (p:=88) (n:=2) l.bf w (by decide) (by decide) f ?_;rw[g.sb.s88,Br];refine AD w ⟨vC iv nb 0 32768 eh 256 0 cst__slice_none_0_0 false⟩ rfl rfl (by show _<=11;omega) rfl fun h w=>?_;rw[Br];refine AD w ⟨vC iv nb 0 32768 eh 256 32 cst__slice_none_0_0  false⟩ rfl rfl (by show _<=11;omega) rfl fun h w=>?_;refine ES (p:=96) (n:=4) l.bf w (by decide) (by decide) f ?_;refine ES (p:=100) (n:=4) l.bf w (by decide) (by decide) f ?_;rw[(Tu g.sb.s96).1,q1,Br,g.sb.s100];refine AD w ⟨vC iv nb 0 32768 eh 256 32 cst__slice_none_0_0  false⟩ rfl rfl (by show _<=11;omega) rfl fun h w=>?_;rw[Br];refine Af w (show (⟨vC iv nb 0 32768 eh 256 32  cst__slice_none_0_0  false⟩:Array Vz)[10]? = some  AE  from rfl) ?_;rw[AJ];refine AQN g d l g.sb.s96 w fun v z y h cs dv ov ok q u m w=>?_;exact q▸K v z y h cs dv ov ok u m w
end
end
section
attribute [local irreducible] BJ CR Ak Bc An Aa AK Ac
def CO:List Bs->Bs->Nat
 | [],_=>0
 | a::l,nm=>if Op.bytesLess a nm=true then CO l nm+1 else 0
theorem GH:∀ (l:List Bs) (nm:Bs),CO l nm<=l.length
 | [],_=>I0 _
 | a::l,nm=>by
  have:=GH l nm;rw[CO,J1];split<;>omega
def KC {l:List Bs}{i:Nat}{a:Bs}(h:l[i]? = some a):(strs l)[i]? = some (str a):=Fd h
def VC {l:List Bs}{nm a:Bs}{i:Nat}(h:l[i]? = some a):CO (l.drop i) nm=if Op.bytesLess a nm=true then CO (l.drop (i+1)) nm+1 else 0:=by
 obtain⟨hi,e⟩:=G0.1 h;rw[N3 hi,CO,e]
section
variable {cs:List Vz} {nv kv:Vz} {names:List Bs} {nm:Bs} {b2:Nat}
def s50 (j:cs[16]? = some nv)(d:RdV 1 nv names.length (strs names) x)(s:names.length<1000000000)(w:AN x h)
  (K:∀ y h,AN (y+x) h->Q (.tuple #[AB (CO names nm:Nat),.bool (decide (names[CO names nm]? = some nm))]) h):f50 (.agg ⟨cs⟩) (str nm) h Q:=by
 obtain⟨⟨t,v,p⟩,_⟩:=d.len;unfold f50 AW;refine BG w fun b2 h w=>?_;have w:AN (pts b2 (.cells ⟨cs⟩ 63 (0,0))+x) h:=w;have g16:(⟨cs⟩:Array Vz)[16]? = some nv:=by simpa using j
 have q:∀ i,i<=names.length->CO names nm=i->ABt Q (str nm) (Pt b2) (AB (i:Nat)) h:=by
  intro i hi a;unfold ABt AW;rw[Ai];refine Af w g16 ?_;rw[p,As,AR];refine Ct (fun g=>?_) (fun g=>?_)
  ·have b:i<names.length:=by omega
   have c:names[i]? = some names[i]:=B0 b;rw[Ai];refine Af w g16 ?_;refine (d.bf:RdV 1 nv names.length (strs names) (_+x)).get w (KC c) ?_;rw[Fs];have:=K (pts b2 (.cells ⟨cs⟩ 63 (0,0))) h w;rw[a,c] at this;have e:decide (some names[i]=some nm)=decide (names[i]=nm):=decide_eq_decide.2 (by simp);rw[e] at this;exact this
  ·have:=K (pts b2 (.cells ⟨cs⟩ 63 (0,0))) h w;rw[a,D3 (by omega)] at this;exact this
 unfold AI9;refine Bj (fun m u l=>∃ i,m+i=names.length/\u=AB (i:Nat)/\l=h/\CO names nm=i+CO (names.drop i) nm) names.length ⟨0,rfl,rfl,rfl,by rw[I5,U1]⟩ ?_;rintro rec m u l ⟨i,hi,rfl,rfl,a⟩ f;unfold ABs BL;rw[Ai];refine Af w g16 ?_;rw[p,As,AR];refine Ct (fun g=>?_) (fun g=>?_)
 ·have b:i<names.length:=by omega
  have c:names[i]? = some names[i]:=B0 b;rw[Ai];refine Af w g16 ?_;refine (d.bf:RdV 1 nv names.length (strs names) (_+x)).get w (KC c) ?_;rw[Nk];rw[VC c] at a;cases o:Op.bytesLess names[i] nm with
  | true=>
   rw[o,D0 rfl] at a;rw[Ab,Az (n:=1),Bq (by omega)];exact f (m-1) _ _ ⟨i+1,by omega,rfl,rfl,by omega⟩ (by omega)
  | false=>
   rw[o,F0 (by decide),Z4] at a;rw[AJ];exact q i (by omega) a
 ·have:i=names.length:=by omega
  subst this;rw[X6] at a;exact q _ (I0 _) a
def ints (l:List Nat):List Vz:=l.map fun n=>AB (n:Nat)
def jk {l:List Nat}{i n:Nat}(h:l[i]? = some n):(ints l)[i]? = some (AB (n:Nat)):=by unfold ints;rw[Y0,h];rfl
def kidL (ks:List (Bs×Nat))(nm:Bs):Option Nat:=match ks[CO (ks.map (·.1)) nm]? with|some e=>if e.1=nm then some e.2 else none|none=>none
variable {ks:List (Bs×Nat)}
theorem s20 (j:cs[16]? = some nv)(b:cs[17]? = some kv)(i:cs.length=18)(d:RdV 1 nv ks.length (strs (ks.map (·.1))) x)(l:RdV 1 kv ks.length (ints (ks.map (·.2))) x)(m:ks.length<1000000000)(w:AN x h)
  (K:∀ y h,AN (y+x) h->Q (match kidL ks nm with|some n=>.tuple #[AB (n:Nat),.bool true]|none=>.tuple #[AB 0,.bool false]) h):f20 (.agg ⟨cs⟩) (str nm) h Q:=by
 unfold f20 AW;refine BG w fun b2 h w=>?_;have w:AN (pts b2 (.cells ⟨cs⟩ 63 (0,0))+x) h:=w;refine BD w i ?_;refine ABr (s50 (names:=ks.map (·.1)) (nm:=nm) (x:=pts b2 (.cells ⟨cs⟩ 63 (0,0))+x) j (by rw[Z0];exact d.bf) (by rw[Z0];exact m) w fun y h w=>?_);rw[BF,BO,CI];have o:=GH (ks.map (·.1)) nm;rw[Y0];cases f:ks[CO (ks.map (·.1)) nm]? with
 | none=>
  have c:kidL ks nm=none:=by unfold kidL;rw[f]
  rw[c] at K;have e:decide ((none:Option (Bs×Nat)).map (·.1)=some nm)=false:=rfl;rw[e,T5,Ab];exact K (y+pts b2 (.cells ⟨cs⟩ 63 (0,0))) h (w.cast (by ac_rfl))
 | some e=>
  have e1:decide ((some e).map (·.1)=some nm)=decide (e.1=nm):=decide_eq_decide.2 (by simp);rw[e1];by_cases g:e.1=nm
  ·rw[H0 g,P3,AJ,Ai];have c:kidL ks nm=some e.2:=by unfold kidL;rw[f];exact D0 g
   have a:=K;rw[c] at a;have g17:(⟨cs⟩:Array Vz)[17]? = some kv:=by simpa using b
   refine Af w g17 ?_;refine (l.bf.bf:RdV 1 kv ks.length (ints (ks.map (·.2))) (y+(_+x))).get w (jk (by rw[Y0,f];rfl)) ?_;exact a (y+pts b2 (.cells ⟨cs⟩ 63 (0,0))) h (w.cast (by ac_rfl))
  ·rw[J0 g,T5,Ab];have c:kidL ks nm=none:=by unfold kidL;rw[f];exact F0 g
   have a:=K;rw[c] at a;exact a (y+pts b2 (.cells ⟨cs⟩ 63 (0,0))) h (w.cast (by ac_rfl))
def ko {m:Nat}{cs:List Vz}(a:cs[0]? = some (cU16 (m:Nat)))(b:m<65536)(w:AN x h)(K:∀ y h,AN (y+x) h->Q (cU16 (kindB m:Nat)) h):f31 (.agg ⟨cs⟩) h Q:=by
 unfold f31 AW;refine BG w fun b2 h w=>?_;have w:AN (pts b2 (.cells ⟨cs⟩ 63 (0,0))+x) h:=w;have g0:(⟨cs⟩:Array Vz)[0]? = some (cU16 (m:Nat)):=by simpa using a
 rw[Ai];refine Af w g0 ?_;rw[Jh b (by decide)];exact K _ h w
def EV (ks:List (Bs×Nat))(nm:Bs)(n:Nat):List (Bs×Nat):=
 ks.take (CO (ks.map (·.1)) nm)++[(nm,n)]++ks.drop (CO (ks.map (·.1)) nm+if (ks.map (·.1))[CO (ks.map (·.1)) nm]? = some nm then 1 else 0)
end
def Md {α:Type}{f:α->Vz}{l:List α}{v:Vz}{n i:Nat}{kk:Iq}(d:RdV 1 v n (l.map f) x)(hi:i<=n)(K:∀ a,RdV 1 a i ((l.take i).map f) x->k a):Cf (.slice 1) v none (some (.int kk (i:Int))) k:=by
 refine d.slice (i:=0) (j:=i) rfl Bk (Q2 _) hi fun a b=>K a ?_;simp only[C8,M5,G6,I5] at b;rw[J7];exact b
def RF {α:Type}{f:α->Vz}{l:List α}{v:Vz}{n i:Nat}{kk:Iq}(d:RdV 1 v n (l.map f) x)(hi:i<=n)(K:∀ a,RdV 1 a (n-i) ((l.drop i).map f) x->k a):Cf (.slice 1) v (some (.int kk (i:Int))) none k:=by
 have c:=d.len.2;refine d.slice (i:=i) (j:=n) Bk rfl hi (I0 _) fun a b=>K a ?_;rw[M5,M5,X2 (by omega)] at b;rw[X8];exact b
def CT:Am TP 63=some (.agg ⟨[Ex,Al,Al,AB 0,AB 0,AB 0,AB 0,AB 0,AB 0,AB 0,AB 0,Al,Al,.slice none 0 0,str [],.slice none 0 0,.slice none 0 0,.slice none 0 0]⟩):=by kernel_rfl
def Ud (l:List Nat):(ints l).all Value.oneCell'=true:=by
 unfold ints;rw[List.all_map,K5];intro a _;rfl
def Uc (ks:List (Bs×Nat))(nm:Bs)(n:Nat):(EV ks nm n).length<=ks.length+1:=by
 have:=GH (ks.map (·.1)) nm;rw[Z0] at this;unfold EV;simp only[C0,W1,J2,U3];omega
section
variable {cs z18:List Vz} {nv kv:Vz} {ks:List (Bs×Nat)} {nm:Bs} {b3 b6 i j n:Nat}
def AQP {x9 x10:Vz}{r9 ah:Res}{ns:List Bs}{is:List Nat}(ar:cs.length=18)(aj:cs[16]? = some nv)(ao:cs[17]? = some kv)(p:cs.all Value.oneCell'=true)(hz:z18.length=18)(d:RdV 1 nv ks.length (strs (ks.map (·.1))) x)(d2:RdV 1 kv ks.length (ints (ks.map (·.2))) x)(hl:ks.length<1000000000)
  (hj:j<=ks.length) (hi:i<=ks.length+1) (v:Vec 9 1 x9 i (strs ns) r9) (e:Vec 3 1 x10 i (ints is) ah)
  (w:AN (r9+(ah+(pts b3 (.cells ⟨cs⟩ 63 (0,0))+(pts b6 (.cells ⟨z18⟩ 63 (0,0))+x)))) h)
  (K:∀ nv' kv' y h,RdV 1 nv' (i+(ks.length-j)) (strs (ns++(ks.drop j).map (·.1))) y->RdV 1 kv' (i+(ks.length-j)) (ints (is++(ks.drop j).map (·.2))) y->AN (y+x) h->Q (.agg ⟨(cs.set 16 nv').set 17 kv'⟩) h) :
  gf Q (Pt b3) (Pt b6) (AB (j:Nat)) x9 x10 h:=by
 have g16:(⟨cs⟩:Array Vz)[16]? = some nv:=by simpa using aj
 have g17:(⟨cs⟩:Array Vz)[17]? = some kv:=by simpa using ao
 unfold gf AW;rw[Ai];refine Af w g16 ?_;refine RF (f:=str) d hj fun s9 e9=>?_;rw[Ai];refine Af w g17 ?_;refine RF (f:=fun n:Nat=>Value.int .i64 (n:Nat)) d2 hj fun s10 e10=>?_;have ai:RdV 1 s9 (ks.length-j) (strs ((ks.drop j).map (·.1))) x:=by rw[X8];exact e9
 have ae:RdV 1 s10 (ks.length-j) (ints ((ks.drop j).map (·.2))) x:=by rw[X8];exact e10
 refine Cq v ai.bf.bf.bf w HD rfl (by omega) (by omega) (Vk _) fun g q9 h v w=>?_;refine Is w g17 ?_;rw[Ai];refine Cq e ae.bf.bf.bf (w.cast (qs _ _ _ _ _)) KY rfl (by omega) (by omega) (Ud _) fun b aw h e w=>?_;obtain⟨⟨va,vc,m⟩,_⟩:=v.len;obtain⟨⟨vb,vd,c⟩,_⟩:=e.len;have ss:∀ (l:List Vz) (o:Nat) (u:Vz),Av ⟨l⟩ o [u]=⟨l.set o u⟩:=fun l o u=>by rw[AY];rfl
 refine AD w ⟨cs.set 16 g⟩ (by rw[m];exact ss _ _ _) (by rw[m];rfl) (by simp;omega) (by rw[m];rfl) fun h w=>?_;rw[Ai];refine AD w ⟨(cs.set 16 g).set 17 b⟩ (by rw[c];exact ss _ _ _) (by rw[c];rfl) (by simp;omega) (by rw[c];rfl) fun h w=>?_;have s:((cs.set 16 g).set 17 b).length=18:=by simp;exact ar
 refine BD w s ?_;have t:((cs.set 16 g).set 17 b).all Value.oneCell'=true:=by
  rw[K5] at p ⊢;intro a ha;rcases List.mem_or_eq_of_mem_set ha with h1|h1
  ·rcases List.mem_or_eq_of_mem_set h1 with h2|h2
   ·exact p a h2
   ·rw[h2,m];rfl
  ·rw[h1,c];rfl
 have q:Av (⟨z18⟩:Array Vz) 0 (Value.agg ⟨(cs.set 16 g).set 17 b⟩).cells.toList=⟨(cs.set 16 g).set 17 b⟩:=AU (by show ((cs.set 16 g).set 17 b).length=z18.toArray.size;rw[O2];omega);refine AD w ⟨(cs.set 16 g).set 17 b⟩ q (by show ((cs.set 16 g).set 17 b).toArray.size=18;rw[O2];exact s) (by show 0+18<=z18.toArray.size;rw[O2];omega) t fun h w=>?_;refine BD w s ?_;have hs:strs ns++strs ((ks.drop j).map (·.1))=strs (ns++(ks.drop j).map (·.1)):=by unfold strs;rw[H2]
 have au:ints is++ints ((ks.drop j).map (·.2))=ints (is++(ks.drop j).map (·.2)):=by unfold ints;rw[H2]
 rw[hs] at v;rw[au] at e;have k2:∀ A B C D X:Res,A+(B+(C+(D+X)))=((A+B)+(C+D))+X:=by intros;ac_rfl
 exact K g b _ h v.rdv.bf.an e.rdv.an.an (w.cast (k2 _ _ _ _ _))
def AQQ {x9 x10:Vz}{r9 t:Res}{b:Bool}(ah:cs.length=18)(v:cs[16]? = some nv)(ae:cs[17]? = some kv)(q:cs.all Value.oneCell'=true)(hz:z18.length=18)(d:RdV 1 nv ks.length (strs (ks.map (·.1))) x)(d2:RdV 1 kv ks.length (ints (ks.map (·.2))) x)(hl:ks.length<1000000000)
  (hi:i<=ks.length) (hh:b=true->i<ks.length) (o:Vec 9 1 x9 i (strs ((ks.take i).map (·.1))) r9) (a:Vec 3 1 x10 i (ints ((ks.take i).map (·.2))) t)
  (w:AN (r9+(t+(pts b3 (.cells ⟨cs⟩ 63 (0,0))+(pts b6 (.cells ⟨z18⟩ 63 (0,0))+x)))) h)
  (K:∀ nv' kv' c y h,c=ks.take i++[(nm,n)]++ks.drop (i+if b=true then 1 else 0)->RdV 1 nv' c.length (strs (c.map (·.1))) y->RdV 1 kv' c.length (ints (c.map (·.2))) y->AN (y+x) h->Q (.agg ⟨(cs.set 16 nv').set 17 kv'⟩) h) :
  gg Q (str nm) (AB (n:Nat)) (Pt b3) (Pt b6) (AB (i:Nat)) (.bool b) x9 x10 h:=by
 have m:∀ (j:Nat) (u f:Vz) (s e:Res) (h:H),j=i+(if b=true then 1 else 0)->Vec 9 1 u (i+1) (strs ((ks.take i).map (·.1)++[nm])) s->Vec 3 1 f (i+1) (ints ((ks.take i).map (·.2)++[n])) e->AN (s+(e+(pts b3 (.cells ⟨cs⟩ 63 (0,0))+(pts b6 (.cells ⟨z18⟩ 63 (0,0))+x)))) h->gf Q (Pt b3) (Pt b6) (AB (j:Nat)) u f h:=by
  intro j u f s e h hj o a w;have ai:j<=ks.length:=by
   rw[hj];split
   ·rename_i hb;have:=hh hb;omega
   ·omega
  have l:(ks.take i++[(nm,n)]++ks.drop j).length=i+1+(ks.length-j):=by simp;omega
  have e1:(ks.take i++[(nm,n)]++ks.drop j).map (·.1)=(ks.take i).map (·.1)++[nm]++(ks.drop j).map (·.1):=by rw[H2,H2];rfl
  have e2:(ks.take i++[(nm,n)]++ks.drop j).map (·.2)=(ks.take i).map (·.2)++[n]++(ks.drop j).map (·.2):=by rw[H2,H2];rfl
  refine AQP ah v ae q hz d d2 hl ai (by omega) o a w fun nv' kv' y h c1 c2 w=>?_;exact K nv' kv' (ks.take i++[(nm,n)]++ks.drop j) y h (by rw[hj]) (by rw[l,e1];exact c1) (by rw[l,e2];exact c2) w
 unfold gg AW;refine DC o w HD rfl rfl rfl (by omega) (by omega) fun u s h o w=>?_;refine DC a (w.cast (qs _ _ _ _ _)) KY rfl rfl rfl (by omega) (by omega) fun f e h a w=>?_;have p:Vec 9 1 u (i+1) (strs ((ks.take i).map (·.1)++[nm])) s:=by unfold strs at o ⊢;rw[H2];exact o
 have g:Vec 3 1 f (i+1) (ints ((ks.take i).map (·.2)++[n])) e:=by unfold ints at a ⊢;rw[H2];exact a
 cases b with
 | true=>
  rw[Ab,Az (n:=1),Bq (by omega)];exact m (i+1) _ _ _ _ h rfl p g (w.cast (qs _ _ _ _ _))
 | false=>
  rw[AJ];exact m i _ _ _ _ h rfl p g (w.cast (qs _ _ _ _ _))
theorem s46 (aj:cs.length=18)(ae:cs[16]? = some nv)(ai:cs[17]? = some kv)(ar:cs.all Value.oneCell'=true)(d:RdV 1 nv ks.length (strs (ks.map (·.1))) x)(d2:RdV 1 kv ks.length (ints (ks.map (·.2))) x)(hl:ks.length<1000000000)(w:AN x h)
  (K:∀ nv' kv' y h,RdV 1 nv' (EV ks nm n).length (strs ((EV ks nm n).map (·.1))) y->RdV 1 kv' (EV ks nm n).length (ints ((EV ks nm n).map (·.2))) y->AN (y+x) h->Q (.agg ⟨(cs.set 16 nv').set 17 kv'⟩) h) :
  f46 (.agg ⟨cs⟩) (str nm) (AB (n:Nat)) h Q:=by
 unfold f46 AW;refine BG w fun b3 h w=>?_;have w:AN (pts b3 (.cells ⟨cs⟩ 63 (0,0))+x) h:=w;refine AV w CT rfl fun b6 h w=>?_;obtain⟨z18,p⟩:∃ l:List Vz,l=[Ex,Al,Al,AB 0,AB 0,AB 0,AB 0,AB 0,AB 0,AB 0,AB 0,Al,Al,.slice none 0 0,str [],.slice none 0 0,.slice none 0 0,.slice none 0 0]:=⟨_,rfl⟩;rw[<-p] at w;have hz:z18.length=18:=by rw[p];rfl
 clear p;have g16:(⟨cs⟩:Array Vz)[16]? = some nv:=by simpa using ae
 have g17:(⟨cs⟩:Array Vz)[17]? = some kv:=by simpa using ai
 refine BD w aj ?_;refine ABr (s50 (names:=ks.map (·.1)) (nm:=nm) ae (by rw[Z0];exact d.bf.bf) (by rw[Z0];exact hl) w fun y h w=>?_);rw[BF,BO];obtain⟨i,hi⟩:∃ i,CO (ks.map (·.1)) nm=i:=⟨_,rfl⟩;obtain⟨j,b⟩:∃ j:Bool,decide ((ks.map (·.1))[CO (ks.map (·.1)) nm]? = some nm)=j:=⟨_,rfl⟩;have ah:i<=ks.length:=by
  have:=GH (ks.map (·.1)) nm;rw[Z0] at this;omega
 have hh:j=true->i<ks.length:=fun hb=>by
  rw[hb] at b;have h1:=of_decide_eq_true b;have:=(G0.1 h1).1;rw[Z0] at this;omega
 have ao:EV ks nm n=ks.take i++[(nm,n)]++ks.drop (i+if j=true then 1 else 0):=by
  unfold EV;rw[hi] at b ⊢;congr 3;by_cases hc:(ks.map (·.1))[i]? = some nm
  ·rw[D0 hc,<-b,D0 (H0 hc)]
  ·rw[F0 hc,<-b,F0 (by simpa using hc)]
 rw[b,hi];have K2:∀ nv' kv' m y' h,m=ks.take i++[(nm,n)]++ks.drop (i+if j=true then 1 else 0)->RdV 1 nv' m.length (strs (m.map (·.1))) y'->RdV 1 kv' m.length (ints (m.map (·.2))) y'->AN (y'+(y+x)) h->Q (.agg ⟨(cs.set 16 nv').set 17 kv'⟩) h:=fun nv' kv' m y' h he c1 c2 w=>by
  rw[<-ao] at he;subst he;exact K nv' kv' (y'+y) h c1.an c2.an (w.cast (Res.assoc _ _ _).symm)
 have w:=w.cast (Kq9 _ _ _ _);rw[Ai];refine Af w g16 ?_;refine Md (f:=str) (x:=y+x) (d.bf:RdV 1 nv ks.length (strs (ks.map (·.1))) (y+x)) ah fun s9 e9=>?_;rw[Ai];refine Af w g17 ?_;refine Md (f:=fun n:Nat=>Value.int .i64 (n:Nat)) (x:=y+x) (d2.bf:RdV 1 kv ks.length (ints (ks.map (·.2))) (y+x)) ah fun s10 e10=>?_;have v:RdV 1 s9 i (strs ((ks.take i).map (·.1))) (y+x):=by rw[J7];exact e9
 have o:RdV 1 s10 i (ints ((ks.take i).map (·.2))) (y+x):=by rw[J7];exact e10
 have fin:∀ (u e:Vz) (t c:Res) (h:H),Vec 9 1 u i (strs ((ks.take i).map (·.1))) t->Vec 3 1 e i (ints ((ks.take i).map (·.2))) c->AN (t+(c+(pts b3 (.cells ⟨cs⟩ 63 (0,0))+(pts b6 (.cells ⟨z18⟩ 63 (0,0))+(y+x))))) h->gg Q (str nm) (AB (n:Nat)) (Pt b3) (Pt b6) (AB (i:Nat)) (.bool j) u e h:=fun u e t c h g a w=>AQQ aj ae ai ar hz d.bf d2.bf hl ah hh g a w K2;have s:=Vk ((ks.take i).map (·.1));have q:=Ud ((ks.take i).map (·.2));have aw:∀ l,strs []++strs l=strs l:=fun l=>rfl;have au:∀ l,ints []++ints l=ints l:=fun l=>rfl;have z0:0+i=i:=U1 i;refine And.intro ?_ ?_
 ·refine DQ w HD fun u t h g w=>?_;refine⟨Af w g16 rfl,Af w g17 rfl,?_,?_⟩
  ·refine Cq g v.bf.bf w HD rfl (by omega) (by omega) s fun u t h g w=>?_;rw[z0] at g;refine⟨Af w g17 rfl,?_⟩;refine DQ w KY fun e c h a w=>?_;refine⟨Af w g17 rfl,?_⟩;refine Cq a o.bf.bf.bf w KY rfl (by omega) (by omega) q fun e c h a w=>?_;rw[z0] at a;exact fin _ _ _ _ h g a (w.cast (qs _ _ _ _ _))
  ·refine DQ w KY fun e c h a w=>?_;refine⟨Af w g16 rfl,Af w g17 rfl,?_⟩;refine Cq g v.bf.bf.bf (w.cast (qs _ _ _ _ _)) HD rfl (by omega) (by omega) s fun u t h g w=>?_;rw[z0] at g;refine⟨Af w g17 rfl,?_⟩;refine Cq a o.bf.bf.bf (w.cast (qs _ _ _ _ _)) KY rfl (by omega) (by omega) q fun e c h a w=>?_;rw[z0] at a;exact fin _ _ _ _ h g a (w.cast (qs _ _ _ _ _))
 ·refine DQ w KY fun e c h a w=>?_;refine⟨Af w g16 rfl,Af w g17 rfl,?_⟩;refine DQ w HD fun u t h g w=>?_;refine⟨Af w g16 rfl,Af w g17 rfl,?_⟩;refine Cq g v.bf.bf.bf w HD rfl (by omega) (by omega) s fun u t h g w=>?_;rw[z0] at g;refine⟨Af w g17 rfl,?_⟩;refine Cq a o.bf.bf.bf (w.cast (qs _ _ _ _ _)) KY rfl (by omega) (by omega) q fun e c h a w=>?_;rw[z0] at a;exact fin _ _ _ _ h g a (w.cast (qs _ _ _ _ _))
end
def Ks (l:AL)(nm v:Bs):AL:=l.filter (fun a=>Op.bytesLess a.1 nm)++(nm,v)::l.filter (fun a=>!(Op.bytesLess a.1 nm||a.1 == nm))
theorem i4 {α:Type}(p q:α->Bool)(b:∀ a,p a=true->q a=false):∀ l:List α,(l.filter p).length+(l.filter q).length<=l.length
 | []=>I0 _
 | a::l=>by
  have e:=i4 p q b l;rw[List.filter_cons,List.filter_cons,J1];cases c:p a with
  | true=>rw[b a c];simp;omega
  | false=>cases d:q a<;>simp<;>omega
def TL (l:AL)(nm v:Bs):(Ks l nm v).length<=l.length+1:=by
 unfold Ks;rw[C0,J1];have:=i4 (fun a:Bs×Bs=>Op.bytesLess a.1 nm) (fun a=>!(Op.bytesLess a.1 nm||a.1 == nm)) (fun a h=>by simp[h]) l;omega
def AGf {a b:Bs}:AQ .gtr (str a) (str b) k=k (.bool (!(Op.bytesLess a b||a == b))):=by
 have c:DO .gtr (str a) (str b)=some (.bool (!(Op.bytesLess a b||a == b))):=by simp only[DO,ByteArray.toList_eq]
 exact propext ⟨fun⟨v,a,b⟩=>by rw[c] at a;cases a;exact b,fun a=>⟨_,c,a⟩⟩
section
variable {lv vv:Vz} {cs:List Vz} {l:AL} {nm v:Bs} {T:Tj}
def Fm (d:RdX x vv v):([str nm,vv]:List Vz).all Value.oneCell'=true:=by
 obtain⟨a,c,rfl⟩:=d.len;rfl
def AtV.at {i:Nat}{a:Bs×Bs}(A:AtV x cs l)(h:l[i]? = some a):∃ u,(cs.drop (i*2)).take 2=[str a.1,u]/\RdX x u a.2:=LC A h
theorem AtV.app {c:List Vz}{l':AL}:∀ {cs:List Vz} {l:AL},AtV x cs l->AtV x c l'->AtV x (cs++c) (l++l')
 | _,_,.nil,b=>b
 | _,_,.cons d a,b=>by rw[P0,Y5];exact .cons d (a.app b)
def AQA {l0:AL}{e:List Vz}{u0:Vz}{r0:Res}(d:RdV 2 lv l.length cs x)(A:AtV z cs l)(hl:l.length<=1000)(v:l0.length<=2000)(a0:Vec 86 2 u0 l0.length e r0)(A0:AtV z e l0)(w:AN (r0+x) h)
  (K:∀ u b r y h,Vec 86 2 u (l0++l.filter fun a=>!(Op.bytesLess a.1 nm||a.1 == nm)).length b r->AtV z b (l0++l.filter fun a=>!(Op.bytesLess a.1 nm||a.1 == nm))->AN (r+(y+x)) h->Q u h):AAb Q (str nm) lv (AB (l.length:Nat)) u0 AF  h:=by
 unfold AAb;refine DF (fun q u0 u1 t=>∃ i o b r y,q+i=l.length/\u1=AB (i:Nat)/\o=l0++(l.take i).filter (fun a=>!(Op.bytesLess a.1 nm||a.1 == nm))/\o.length<=2000+i/\Vec 86 2 u0 o.length b r/\AtV z b o/\AN (r+(y+x)) t) l.length ⟨0,l0,e,r0,0,rfl,rfl,by simp,v,a0,A0,w.cast (by rw[Res.zero_add])⟩ ?_;rintro rec q u0 u1 t ⟨i,o,b,r,y,hi,rfl,m,ai,a,s,w⟩ c;unfold AAZ BL;rw[AR];refine AS (fun hc=>?_) (fun hc=>?_)
 ·have f:i<l.length:=by omega
  obtain⟨p,hp⟩:∃ p,l[i]? = some p:=⟨_,B0 f⟩;obtain⟨u,hu,j⟩:=A.at hp;have g:l.take (i+1)=l.take i++[p]:=by rw[O3,hp];rfl
  refine (d.bf.bf:RdV 2 lv l.length cs _).agg w f ?_;rw[hu];refine AV w CU rfl fun ae h w=>?_;refine AD w ⟨[str p.1,u]⟩ (AU (by rfl)) rfl (by simp) (Fm j) fun h w=>?_;rw[Ai];refine Af w (show (⟨[str p.1,u]⟩:Array Vz)[0]? = some (str p.1) from rfl) ?_;rw[AGf];cases hb : !(Op.bytesLess p.1 nm||p.1 == nm) with
  | true=>
   rw[Ab];refine BD w rfl ?_;refine CN a (w.cast (Kq1 _ _ _ _)) CU rfl rfl (by omega) (by omega) (Fm j) fun ah h w=>?_;refine CA a w CU rfl rfl (Fm j) (by omega) (by omega) fun u0 r h a w=>?_;rw[Az (n:=1),Bq (by omega)];refine c (q-1) _ _ _ ⟨i+1,o++[p],_,r,_,by omega,rfl,?_,by rw[C0];simp;omega,by rw[C0];exact a,s.eu j,w⟩ (by omega);rw[g,L5,m,P0];congr 2;rw[List.filter_cons,D0 hb];rfl
  | false=>
   rw[AJ,Az (n:=1),Bq (by omega)];refine c (q-1) _ _ _ ⟨i+1,o,_,r,_,by omega,rfl,?_,by omega,a,s,w.cast (Kq1 _ _ _ _)⟩ (by omega);rw[g,L5,m];congr 1;rw[List.filter_cons,F0 (by rw[hb];decide),List.filter_nil,X0]
 ·have:i=l.length:=by omega
  rw[this,L1] at m;subst m;exact K u0 b r y t a s w
theorem s16 (d:RdV 2 lv l.length cs x)(A:AtV z cs l)(hl:l.length<=1000)(dv:RdX z vv v)(w:AN x h)
  (K:∀ u b r y h,Vec 86 2 u (Ks l nm v).length b r->AtV z b (Ks l nm v)->AN (r+(y+x)) h->Q u h):f16 lv (str nm) vv h Q:=by
 obtain⟨⟨la,lc,f⟩,_⟩:=d.len;have t:∀ k:Vz->Prop,k (.agg ⟨[str nm,vv]⟩)->An (.struct [(0,1),(1,1)]) (Am TP 86) [(0,str nm),(1,vv)] k:=fun k hk=>by
  obtain⟨a,c,rfl⟩:=dv.len;exact BA CU rfl (rs:=[str nm,.slice a v.length c]) rfl hk
 unfold f16 AW;refine DQ w CU fun u0 r0 h a w=>?_;rw[f,As,<-f];unfold AIL;refine DF (fun mm u0 u1 h'=>∃ i o b r y,mm+i=l.length/\u1=AB (i:Nat)/\o=(l.take i).filter (fun a=>Op.bytesLess a.1 nm)/\o.length<=i/\Vec 86 2 u0 o.length b r/\AtV z b o/\AN (r+(y+x)) h') l.length ⟨0,[],[],r0,0,rfl,rfl,rfl,I0 _,a,.nil,w.cast (by rw[Res.zero_add])⟩ ?_;rintro rec mm u0 u1 h' ⟨i,o,b,r,y,hi,rfl,ho,ah,a,j,w⟩ g;unfold AAa BL;rw[AR];refine AS (fun hc=>?_) (fun hc=>?_)
 ·have m:i<l.length:=by omega
  obtain⟨p,hp⟩:∃ p,l[i]? = some p:=⟨_,B0 m⟩;obtain⟨u,hu,s⟩:=A.at hp;have q:l.take (i+1)=l.take i++[p]:=by rw[O3,hp];rfl
  refine (d.bf.bf:RdV 2 lv l.length cs _).agg w m ?_;rw[hu];refine AV w CU rfl fun aj h w=>?_;refine AD w ⟨[str p.1,u]⟩ (AU (by rfl)) rfl (by simp) (Fm s) fun h w=>?_;rw[Ai];refine Af w (show (⟨[str p.1,u]⟩:Array Vz)[0]? = some (str p.1) from rfl) ?_;rw[Nk];cases t:Op.bytesLess p.1 nm with
  | true=>
   rw[Ab];refine BD w rfl ?_;refine CN a (w.cast (Kq1 _ _ _ _)) CU rfl rfl (by omega) (by omega) (Fm s) fun ae h w=>?_;refine CA a w CU rfl rfl (Fm s) (by omega) (by omega) fun u0 r h a w=>?_;rw[Az (n:=1),Bq (by omega)];refine g (mm-1) _ _ _ ⟨i+1,o++[p],_,r,_,by omega,rfl,?_,by rw[C0];simp;omega,by rw[C0];exact a,j.eu s,w⟩ (by omega);rw[q,L5,ho];congr 1;rw[List.filter_cons,D0 t];rfl
  | false=>
   rw[AJ,Az (n:=1),Bq (by omega)];refine g (mm-1) _ _ _ ⟨i+1,o,_,r,_,by omega,rfl,?_,by omega,a,j,w.cast (Kq1 _ _ _ _)⟩ (by omega);rw[q,L5,ho,List.filter_cons,F0 (by rw[t];decide),List.filter_nil,X0]
 ·have:i=l.length:=by omega
  rw[this,L1] at ho;refine t _ ?_;refine CN a w CU rfl rfl (by omega) (by omega) (Fm dv) fun ae h w=>?_;refine CA a w CU rfl rfl (Fm dv) (by omega) (by omega) fun u0 r h a w=>?_;rw[f,As,<-f];have k2:∀ R Y X:Res,R+(Y+X)=R+(Y+X):=fun _ _ _=>rfl;have ai:=ah;refine AQA (l0:=o++[(nm,v)]) (x:=y+x) d.bf A hl (by rw[C0];simp;omega) (by rw[C0];exact a) (j.eu dv) w fun u b r y2 h a j w=>?_;have e:o++[(nm,v)]++l.filter (fun a=>!(Op.bytesLess a.1 nm||a.1 == nm))=Ks l nm v:=by
   rw[ho,P0];rfl
  rw[e] at a j;exact K u b r (y2+y) h a j (w.cast (by rw[Res.assoc]))
end
def srtA (l:AL):AL:=l.foldl (fun o a=>Ks o a.1 a.2) []
theorem Lu:∀ (l o:AL),(l.foldl (fun o a=>Ks o a.1 a.2) o).length<=o.length+l.length
 | [],o=>I0 _
 | a::l,o=>by
  have b:=Lu l (Ks o a.1 a.2);have c:=TL o a.1 a.2;rw[J4,J1];omega
def AtL (x:Res)(xv:Vz)(l:AL):Prop:=∃ cs,RdV 2 xv l.length cs x/\AtV x cs l
def AtL.bf {xv:Vz}{l:AL}(d:AtL x xv l):AtL (y+x) xv l:=by
 obtain⟨cs,a,b⟩:=d;exact⟨cs,a.bf,b.mono⟩
end
section
variable {v:VS}
structure TN where
 X:XN
 data:Bs
 link:Bs
 xs:AL
 ks:List (Bs×Nat)
def TN.cells (t:TN)(dv xv nv kv:Vz):List Vz:=
 [cU16 (t.X.en:Nat),AM (t.X.uid:Nat),AM (t.X.gid:Nat)]++(CW t.X.at_++CW t.X.ct++CW t.X.mt++CW t.X.cr)++[AM (t.X.major:Nat),AM (t.X.minor:Nat),dv,str t.link,xv,nv,kv]
section
variable {t:TN} {dv xv nv kv u:Vz}
theorem TN.len:(t.cells dv xv nv kv).length=18:=rfl
theorem TN.g0:(t.cells dv xv nv kv)[0]? = some (cU16 (t.X.en:Nat)):=rfl
theorem TN.g1:(t.cells dv xv nv kv)[1]? = some (AM (t.X.uid:Nat)):=rfl
theorem TN.g13:(t.cells dv xv nv kv)[13]? = some dv:=rfl
theorem TN.g14:(t.cells dv xv nv kv)[14]? = some (str t.link):=rfl
theorem TN.g15:(t.cells dv xv nv kv)[15]? = some xv:=rfl
theorem TN.g16:(t.cells dv xv nv kv)[16]? = some nv:=rfl
theorem TN.g17:(t.cells dv xv nv kv)[17]? = some kv:=rfl
theorem TN.set_ {r':Vz}{l':List (Bs×Nat)}:((t.cells dv xv nv kv).set 16 u).set 17 r' = {t with ks:=l' }.cells dv xv u r':=rfl
theorem TN.s13 {l':Bs}:(t.cells dv xv nv kv).set 13 u = {t with data:=l' }.cells u xv nv kv:=rfl
theorem TN.s15 {l':AL}:(t.cells dv xv nv kv).set 15 u = {t with xs:=l' }.cells dv u nv kv:=rfl
theorem TN.s14 {bs:Bs}:(t.cells dv xv nv kv).set 14 (str bs) = {t with link:=bs}.cells dv xv nv kv:=rfl
theorem TN.one {a b c d:Option Addr}{n1 n2 f g c1 c2 e c4:Nat}:(t.cells (.slice a n1 c1) (.slice b n2 c2) (.slice c f e) (.slice d g c4)).all Value.oneCell'=true:=rfl
theorem XN.e8 {X:XN}{cv ev xv:Vz}:(⟨X.cells cv ev xv⟩:Array Vz).extract 8 (8+2)=⟨CW X.at_⟩:=rfl
theorem XN.e10 {X:XN}{cv ev xv:Vz}:(⟨X.cells cv ev xv⟩:Array Vz).extract 10 (10+2)=⟨CW X.ct⟩:=rfl
theorem XN.e12 {X:XN}{cv ev xv:Vz}:(⟨X.cells cv ev xv⟩:Array Vz).extract 12 (12+2)=⟨CW X.mt⟩:=rfl
theorem XN.e14 {X:XN}{cv ev xv:Vz}:(⟨X.cells cv ev xv⟩:Array Vz).extract 14 (14+2)=⟨CW X.cr⟩:=rfl
theorem XN.g2 {X:XN}{cv ev xv:Vz}:(⟨X.cells cv ev xv⟩:Array Vz)[2]? = some (AM (X.uid:Nat)):=rfl
theorem XN.g3 {X:XN}{cv ev xv:Vz}:(⟨X.cells cv ev xv⟩:Array Vz)[3]? = some (AM (X.gid:Nat)):=rfl
theorem XN.g16 {X:XN}{cv ev xv:Vz}:(⟨X.cells cv ev xv⟩:Array Vz)[16]? = some (AM (X.major:Nat)):=rfl
theorem XN.g17 {X:XN}{cv ev xv:Vz}:(⟨X.cells cv ev xv⟩:Array Vz)[17]? = some (AM (X.minor:Nat)):=rfl
theorem pi {X:XN}:Du (DB (.struct [(0,1),(1,1),(2,1),(3,2),(5,2),(7,2),(9,2),(11,1),(12,1),(13,1),(14,1),(15,1),(16,1),(17,1)])) [Ex,Al,Al,AB 0,AB 0,AB 0,AB 0,AB 0,AB 0,AB 0,AB 0,Al,Al,.slice none 0 0,str [],.slice none 0 0,.slice none 0 0,.slice none 0 0]
  [(0,cU16 (X.en:Nat)),(1,AM (X.uid:Nat)),(2,AM (X.gid:Nat)),(3,.agg ⟨CW X.at_⟩),(4,.agg ⟨CW X.ct⟩),(5,.agg ⟨CW X.mt⟩),(6,.agg ⟨CW X.cr⟩),(7,AM (X.major:Nat)),(8,AM (X.minor:Nat))]=some ((TN.mk X [] [] [] []).cells (.slice none 0 0) cst__slice_none_0_0 cst__slice_none_0_0 cst__slice_none_0_0 ):=rfl
end
attribute [local irreducible] TN.cells
attribute [local irreducible] BJ CR Ak Bc An Aa AK Ac VS.cells XN.cells
inductive TreeV (x:Res):List Vz->List TN->Prop
 | nil:TreeV x [] []
 | eu {cs:List Vz} {ts:List TN} {t:TN} {dv xv nv kv:Vz}:TreeV x cs ts->RdX x dv t.data->AtL x xv t.xs->RdV 1 nv t.ks.length (strs (t.ks.map (·.1))) x->RdV 1 kv t.ks.length (ints (t.ks.map (·.2))) x->TreeV x (cs++t.cells dv xv nv kv) (ts++[t])
theorem TreeV.mono:∀ {cs:List Vz} {ts:List TN},TreeV x cs ts->TreeV (y+x) cs ts
 | _,_,.nil=>.nil
 | _,_,.eu a b e c d=>.eu a.mono b.bf e.bf c.bf d.bf
def TreeV.an {cs:List Vz}{ts:List TN}(a:TreeV x cs ts):TreeV (x+y) cs ts:=by rw[Res.comm];exact a.mono
theorem TreeV.len:∀ {cs:List Vz} {ts:List TN},TreeV x cs ts->cs.length=ts.length*18
 | _,_,.nil=>rfl
 | _,_,.eu a _ _ _ _=>by
  have:=a.len;rw[C0,C0,this,TN.len,U3];omega
theorem TreeV.get:∀ {cs:List Vz} {ts:List TN} {i:Nat} {t:TN},TreeV x cs ts->ts[i]? = some t ->
  ∃ dv xv nv kv,(cs.drop (i*18)).take 18=t.cells dv xv nv kv/\RdX x dv t.data/\AtL x xv t.xs/\RdV 1 nv t.ks.length (strs (t.ks.map (·.1))) x/\RdV 1 kv t.ks.length (ints (t.ks.map (·.2))) x
 | _,_,_,_,.nil,e=>by simp at e
 | _,_,i,t,.eu (cs:=cs) (ts:=ts) (t:=t') (dv:=dv) (xv:=xv) (nv:=nv) (kv:=kv) a b g c d,e=>by
  have m:=a.len;rcases P5 i ts.length with f|f
  ·rw[Z1 f] at e;obtain⟨dv,xv,nv,kv,e1,e2⟩:=a.get e;refine⟨dv,xv,nv,kv,?_,e2⟩;rw[I4 (by omega),L2 (by rw[J2];omega)];exact e1
  ·rw[X1 f] at e;have l:i-ts.length=0:=by
    rcases X7 (i-ts.length) with j|j
    ·exact j
    ·rw[D3 (by simp;omega)] at e;cases e
   rw[l,L4,M2] at e;subst e;refine⟨dv,xv,nv,kv,?_,b,g,c,d⟩;have:i*18=cs.length:=by omega
   rw[this,U5,X2 (by rw[TN.len];exact I0 _)]
def Il (os:List AA)(L:List Nat):List Nat:=(os.zipIdx).foldl (fun l p=>l.set p.1.X.num p.2) L
def Cg (N:Nat)(P:List Nat)(ks:List (Bs×Nat))(e:EN):List (Bs×Nat):=if e.1=[46]\/e.1=[46,46]\/N<=e.2.1 then ks else EV ks e.1 (P.getD e.2.1 0)
def RJ (N:Nat)(P:List Nat)(ks:List (Bs×Nat))(e:EN):(Cg N P ks e).length<=ks.length+1:=by
 unfold Cg;split
 ·omega
 ·exact Uc _ _ _
def Gx (N:Nat)(P:List Nat)(o:AA):TN:=⟨o.X,if kindL o.X.en=1 then o.C else [],if kindL o.X.en=7 then o.C else [],srtA o.l,o.E.foldl (Cg N P) []⟩
section
variable {N b9 b3 b13:Nat} {P:List Nat} {t:TN} {dv xv nv kv x4:Vz} {e:EN} {E:List EN} {rP rA:Res}
def APx {x2 x3 ae ah ai m o:Vz}{rec1 rec2:Vz->H->Prop}{i:Nat}(a4:Vec 3 1 x4 N (ints P) rP)(aj:P.length=N)(hN:N<1000000)(hi:i<100000000)(he:e.2.1<4294967296)(ao:t.ks.length<100000000)
  (d:∃ a n c,dv=.slice a n c) (f:∃ a n c,xv=.slice a n c) (cn:RdV 1 nv t.ks.length (strs (t.ks.map (·.1))) (y+x)) (q:RdV 1 kv t.ks.length (ints (t.ks.map (·.2))) (y+x))
  (w:AN (pts b13 (.cells ⟨e.cells⟩ 114 (0,0))+(pts b9 (.cells ⟨t.cells dv xv nv kv⟩ 63 (0,0))+(rP+(rA+(y+x))))) h)
  (K:∀ nv kv y h,RdV 1 nv (Cg N P t.ks e).length (strs ((Cg N P t.ks e).map (·.1))) (y+x)->RdV 1 kv (Cg N P t.ks e).length (ints ((Cg N P t.ks e).map (·.2))) (y+x)->AN (pts b9 (.cells ⟨{t with ks:=Cg N P t.ks e}.cells dv xv nv kv⟩ 63 (0,0))+(rP+(rA+(y+x)))) h->rec2 (AB (i+1:Nat)) h) :
  fj Q rec1 rec2 x2 x3 x4 (Pt b9) (Pt b13) ae ah ai m o (AB (i:Nat)) (.bool (decide (¬(e.1=[46]\/e.1=[46,46]\/N<=e.2.1)))) h:=by
 have f1:∀ k:Vz->Prop,AQ .add (AB (i:Nat))  AX k=k (AB (i+1:Nat)):=fun k=>by
  rw[Az (n:=1),Bq (by omega)]
 unfold fj AW;refine AS (fun p=>?_) (fun p=>?_)
 ·have g:Cg N P t.ks e=EV t.ks e.1 (P.getD e.2.1 0):=F0 p;rw[g] at K;have u:e.2.1<P.length:=by
   rcases P5 e.2.1 P.length with h1|h1
   ·exact h1
   ·exact absurd (.inr (.inr (by omega))) p
  refine BD (b:=b9) w TN.len ?_;rw[Ai];refine Af w (show (⟨e.cells⟩:Array Vz)[0]? = some (str e.1) from rfl) ?_;rw[Ai];refine Af w (show (⟨e.cells⟩:Array Vz)[1]? = some (AH (e.2.1:Nat)) from rfl) ?_;have hg:P[e.2.1]? = some (P.getD e.2.1 0):=by rw[W0,B0 u];rfl
  refine CF a4 (w.cast (Kq0 _ _ _ _)) (jk hg) ?_;obtain⟨da,dn,dc,d⟩:=d;obtain⟨xa,xn,xc,f⟩:=f;obtain⟨⟨na,nc,v⟩,_⟩:=cn.len;obtain⟨⟨ka,kc,s⟩,_⟩:=q.len;have k2:∀ A B C D Y X:Res,A+(B+(C+(D+(Y+X))))=(A+(B+(C+D)))+(Y+X):=by intros;ac_rfl
  have k3:∀ Y2 A B C D Y X:Res,Y2+((A+(B+(C+D)))+(Y+X))=B+(C+(D+((Y2+(A+Y))+X))):=by intros;ac_rfl
  refine ABk (s46 (ks:=t.ks) (nm:=e.1) (n:=P.getD e.2.1 0) TN.len TN.g16 TN.g17 (by rw[d,f,v,s];exact TN.one) cn.bf q.bf (by omega) (w.cast (k2 _ _ _ _ _ _)) fun nv' kv' y' h c1 c2 w=>?_);rw[TN.set_ (l':=EV t.ks e.1 (P.getD e.2.1 0))];obtain⟨⟨aw,ay,l⟩,_⟩:=c1.len;obtain⟨⟨ar,au,j⟩,_⟩:=c2.len;have w:=w.cast (k3 _ _ _ _ _ _ _);refine AD w ⟨({t with ks:=EV t.ks e.1 (P.getD e.2.1 0)}:TN).cells dv xv nv' kv'⟩ (AU (by rw[O2,TN.len];exact TN.len)) (by show (List.toArray _).size=18;rw[O2];exact TN.len) (by rw[O2,TN.len];omega) (by rw[d,f,l,j];exact TN.one) fun h w=>?_;rw[f1];exact K nv' kv' _ h c1.an.an c2.an.an w
 ·have g:Cg N P t.ks e=t.ks:=D0 (Decidable.not_not.1 p);rw[g] at K;rw[f1];exact K nv kv _ h (by rw[Res.assoc];exact cn.bf) (by rw[Res.assoc];exact q.bf) (w.cast (Kq7 _ _ _ _ _ _))
end
def Mh:Am TP 40=some (.agg ⟨[.slice none 0 0]⟩):=by kernel_rfl
theorem UW (N:Nat)(P:List Nat):∀ (E:List EN) (ks:List (Bs×Nat)),(E.foldl (Cg N P) ks).length<=ks.length+E.length
 | [],ks=>I0 _
 | e::E,ks=>by
  have a:=RJ N P ks e;have b:=UW N P E (Cg N P ks e);rw[J4,J1];omega
section
variable {N b9 b3 m:Nat} {P:List Nat} {t:TN} {dv xv nv kv x4 ev nsv:Vz} {E:List EN} {rP rN rB:Res} {csN:List Vz} {ts:List TN}
theorem APz {x2 aj ao:Vz}{rec1:Vz->H->Prop}{I:Nat}(a4:Vec 3 1 x4 N (ints P) rP)(ar:P.length=N)(hN:N<1000000)(de:VecX 114 3 ev E.length (entC E) x)(hE:∀ e∈E,e.2.1<4294967296)(az:E.length<10000000)(ht:t.ks=[])(hI:I<100000000)
  (aN:Vec 63 18 nsv m csN rN) (hm:m<1000000) (tv:TreeV x csN ts) (dd:RdX x dv t.data) (dx:AtL x xv t.xs) (p:nv=.slice none 0 0) (o:kv=.slice none 0 0)
  (w:AN (pts b9 (.cells ⟨t.cells dv xv nv kv⟩ 63 (0,0))+(rP+(((pts b3 (.cells ⟨[nsv]⟩ 40 (0,0))+rN)+rB)+x))) h)
  (K:∀ nsv rN cs y h,Vec 63 18 nsv (m+1) cs rN->TreeV (y+x) cs (ts++[{t with ks:=E.foldl (Cg N P) []}])->AN (rP+(((pts b3 (.cells ⟨[nsv]⟩ 40 (0,0))+rN)+rB)+(y+x))) h->rec1 (AB (I+1:Nat)) h) :
  zr Q rec1 x2 (Pt b3) x4 (Pt b9) aj ao (AB (I:Nat)) ev (AB (E.length:Nat)) (AB ((0:Nat):Int)) h:=by
 obtain⟨⟨pa,pc,ai⟩,_⟩:=a4.len;have f:∃ a n c,dv=.slice a n c:=by
  obtain⟨a,c,h⟩:=dd.len;exact⟨a,_,c,h⟩
 have g:∃ a n c,xv=.slice a n c:=by
  obtain⟨cs,d,_⟩:=dx;obtain⟨⟨a,c,h⟩,_⟩:=d.len;exact⟨a,_,c,h⟩
 unfold zr;refine Bj (fun mm u h'=>∃ i y nv kv,mm+i=E.length/\u=AB (i:Nat)/\RdV 1 nv ((E.take i).foldl (Cg N P) []).length (strs (((E.take i).foldl (Cg N P) []).map (·.1))) (y+x)/\RdV 1 kv ((E.take i).foldl (Cg N P) []).length (ints (((E.take i).foldl (Cg N P) []).map (·.2))) (y+x)/\AN (pts b9 (.cells ⟨({t with ks:=(E.take i).foldl (Cg N P) []}:TN).cells dv xv nv kv⟩ 63 (0,0))+(rP+(((pts b3 (.cells ⟨[nsv]⟩ 40 (0,0))+rN)+rB)+(y+x)))) h') E.length ⟨0,0,nv,kv,rfl,rfl,.inl ⟨none,0,p,rfl,rfl⟩,.inl ⟨none,0,o,rfl,rfl⟩,by
  have e:({t with ks:=(E.take 0).foldl (Cg N P) []}:TN)=t:=by rw[<-ht];rfl
  rw[e,Res.zero_add];exact w⟩ ?_
 rintro rec mm u h' ⟨i,y,nv,kv,hi,rfl,c1,c2,w⟩ ah;have aw:=UW N P (E.take i) [];rw[W1,C4] at aw;unfold zm BL;rw[AR];refine AS (fun hc=>?_) (fun hc=>?_)
 ·have ae:i<E.length:=by omega
  obtain⟨e,he⟩:∃ e,E[i]? = some e:=⟨_,B0 ae⟩;refine (de.bf.bf.bf.bf:VecX 114 3 ev E.length (entC E) _).agg w ae ?_;rw[(GR he).2.2.2];refine AV w Ie rfl fun b13 h w=>?_;refine AD w ⟨e.cells⟩ rfl rfl (by simp) rfl fun h w=>?_;have g0:(⟨e.cells⟩:Array Vz)[0]? = some (str e.1):=rfl;have g1:(⟨e.cells⟩:Array Vz)[1]? = some (AH (e.2.1:Nat)):=rfl;have au:=hE e (D1 he);have s:(E.take (i+1)).foldl (Cg N P) []=Cg N P ((E.take i).foldl (Cg N P) []) e:=by
   rw[O3,he,M6];rfl
  have j1:fj Q rec1 rec x2 (Pt b3) x4 (Pt b9) (Pt b13) aj ao (AB (I:Nat)) ev (AB (E.length:Nat)) (AB (i:Nat)) (.bool (decide (¬(e.1=[46]\/e.1=[46,46]\/N<=e.2.1)))) h:=by
   refine APx (t:={t with ks:=(E.take i).foldl (Cg N P) []}) (e:=e) a4 ar hN (by omega) au (by show ((E.take i).foldl (Cg N P) []).length<_;omega) f g c1 c2 w fun nv kv y h c1 c2 w=>?_;exact ah (mm-1) _ _ ⟨i+1,y,nv,kv,by omega,rfl,by rw[s];exact c1,by rw[s];exact c2,by rw[s];exact w⟩ (by omega)
  rw[Ai];refine Af w g0 ?_;rw[show (.string ⟨#[46]⟩:Vz)=str [46] from rfl,EF];refine Ct (fun h1=>?_) (fun h1=>?_)
  ·rw[Ai];refine Af w g0 ?_;rw[show (.string ⟨#[46,46]⟩:Vz)=str [46,46] from rfl,EF];refine Ct (fun h2=>?_) (fun h2=>?_)
   ·rw[Ai];refine Af w g1 ?_;rw[ai,As,<-ai,Ea,Dn (by omega),AR];have e1:decide ((e.2.1:Int)<(N:Int))=decide (¬(e.1=[46]\/e.1=[46,46]\/N<=e.2.1)):=decide_eq_decide.2 (by
     constructor
     ·rintro h3 (l|l|l)
      ·exact h1 l
      ·exact h2 l
      ·omega
     ·intro h3;rcases P5 e.2.1 N with l|l
      ·omega
      ·exact absurd (.inr (.inr l)) h3)
    rw[e1];exact j1
   ·rw[J0 (Decidable.not_not.2 (.inr (.inl (Decidable.not_not.1 h2))))] at j1;exact j1
  ·rw[J0 (Decidable.not_not.2 (.inl (Decidable.not_not.1 h1)))] at j1;exact j1
 ·have:i=E.length:=by omega
  subst this;rw[L1] at c1 c2 w;obtain⟨da,dn,dc,f⟩:=f;obtain⟨xa,xn,xc,g⟩:=g;obtain⟨⟨na,nc,p⟩,_⟩:=c1.len;obtain⟨⟨ka,kc,o⟩,_⟩:=c2.len;have j:(({t with ks:=E.foldl (Cg N P) []}:TN).cells dv xv nv kv).all Value.oneCell'=true:=by rw[f,g,p,o];exact TN.one
  rw[Ai];refine Af w (show (⟨[nsv]⟩:Array Vz)[0]? = some nsv from rfl) ?_;refine BD (b:=b9) w TN.len ?_;have k1:∀ A B C D E X:Res,A+(B+(((C+D)+E)+X))=D+(A+(B+(C+(E+X)))):=by intros;ac_rfl
  refine CN aN (w.cast (k1 _ _ _ _ _ _)) CT rfl TN.len (by omega) (by omega) j fun b h w=>?_;refine CA aN w CT rfl TN.len j (by omega) (by omega) fun nsv' ay h v w=>?_;obtain⟨⟨sa,sc,q⟩,_⟩:=v.len;rw[Ai];refine AD w ⟨[nsv']⟩ (by rw[q];rfl) (by rw[q];rfl) (by simp) (by rw[q];rfl) fun h w=>?_;rw[Az (n:=1),Bq (by omega)];have k2:∀ A B C D E Y X:Res,D+(A+(B+(C+(E+(Y+X)))))=B+(((C+D)+E)+((A+Y)+X)):=by intros;ac_rfl
  refine K nsv' ay _ _ h v (.eu tv.mono dd.bf dx.bf ?_ ?_) (w.cast (k2 _ _ _ _ _ _ _))
  ·rw[Res.assoc];exact c1.bf
  ·rw[Res.assoc];exact c2.bf
end
section
variable {N b3 b2:Nat} {P:List Nat} {x4 iv:Vz} {os:List AA} {rP rN:Res} {cs:List Vz}
def APy (a4:Vec 3 1 x4 N (ints P) rP)(hPN:P.length=N)(hN:N<1000000)(d:VecX 81 23 iv os.length cs x)(ov:OutV x cs os)(hn:os.length<1000000)(hos:∀ o∈os,o.X.en<65536/\o.l.length<=900/\o.E.length<10000000/\∀ e∈o.E,e.2.1<4294967296)
  (w:AN (rP+((pts b3 (.cells ⟨[.slice none 0 0]⟩ 40 (0,0))+0)+(pts b2 (.cells ⟨[.slice none 0 0]⟩ 40 (0,0))+(y+x)))) h)
  (K:∀ nsv ns rN y h,Vec 63 18 nsv os.length ns rN->TreeV (y+x) ns (os.map (Gx N P))->AN (rN+(y+x)) h->Q (.agg ⟨[nsv]⟩) h) :
  zq Q (Pt b2) (Pt b3) x4 iv (AB (os.length:Nat)) (AB ((0:Nat):Int)) h:=by
 unfold zq;refine Bj (fun mm u h'=>∃ i nsv ns rN y,mm+i=os.length/\u=AB (i:Nat)/\Vec 63 18 nsv i ns rN/\TreeV (y+x) ns ((os.take i).map (Gx N P))/\AN (rP+((pts b3 (.cells ⟨[nsv]⟩ 40 (0,0))+rN)+(pts b2 (.cells ⟨[.slice none 0 0]⟩ 40 (0,0))+(y+x)))) h') os.length ⟨0,.slice none 0 0,[],0,y,rfl,rfl,.nil,.nil,w⟩ ?_;rintro rec mm u h' ⟨i0,nsv,ns,rN,y,hi,rfl,aN,tv,w⟩ hrec;unfold zl BL;rw[AR];refine AS (fun hc=>?_) (fun hc=>?_)
 ·have hil:i0<os.length:=by omega
  obtain⟨o,ho⟩:∃ o,os[i0]? = some o:=⟨_,B0 hil⟩;obtain⟨cv,ev,xv,xas,hcs,b,c,dd,f⟩:=ov.get ho;obtain⟨g1,g2,g3,g4⟩:=hos o (D1 ho);obtain⟨ca,cc,hcv⟩:=b.len;obtain⟨⟨ea,ec,hev⟩,_⟩:=c.len;obtain⟨⟨xa,xc,hxv⟩,_⟩:=dd.len;have hone:(o.X.cells cv ev xv).all Value.oneCell'=true:=by rw[hcv,hev,hxv];exact XN.one
  have htk:os.take (i0+1)=os.take i0++[o]:=by rw[O3,ho];rfl
  refine (d.bf.bf.bf.bf:VecX 81 23 iv os.length cs _).agg w hil ?_;rw[hcs];refine AV w Ev rfl fun b8 h w=>?_;refine AD w ⟨o.X.cells cv ev xv⟩ (AU (by rw[XN.size_];exact XN.len)) XN.size_ (by rw[XN.size_];omega) hone fun h w=>?_;rw[Ai];refine Af w XN.g1 ?_;rw[Ai];refine Af w XN.g2 ?_;rw[Ai];refine Af w XN.g3 ?_;rw[Ai];refine Nj w (by rw[XN.size_];omega) XN.e8 ?_;rw[Ai];refine Nj w (by rw[XN.size_];omega) XN.e10 ?_;rw[Ai];refine Nj w (by rw[XN.size_];omega) XN.e12 ?_;rw[Ai];refine Nj w (by rw[XN.size_];omega) XN.e14 ?_;rw[Ai];refine Af w XN.g16 ?_;rw[Ai];refine Af w XN.g17 ?_;refine BA CT rfl pi ?_;refine AV w CT rfl fun b9 h w=>?_;refine AD w ⟨(TN.mk o.X [] [] [] []).cells cst__slice_none_0_0 cst__slice_none_0_0   cst__slice_none_0_0   cst__slice_none_0_0 ⟩ (AU (by rw[O2];exact TN.len)) (by show (List.toArray _).size=18;rw[O2];exact TN.len) (by rw[O2];decide) TN.one fun h w=>?_;have ss:∀ (l:List Vz) (o:Nat) (u:Vz),Av ⟨l⟩ o [u]=⟨l.set o u⟩:=fun l o u=>by rw[AY];rfl
  have rest:∀ (t:TN) (dv:Vz) (h:H),t=⟨o.X,t.data,t.link,[],[]⟩->RdX (y+x) dv t.data->t.data=(if kindL o.X.en=1 then o.C else [])->t.link=(if kindL o.X.en=7 then o.C else [])->
    AN (pts b9 (.cells ⟨t.cells dv  cst__slice_none_0_0   cst__slice_none_0_0   cst__slice_none_0_0 ⟩ 63 (0,0))+(pts b8 (.cells ⟨o.X.cells cv ev xv⟩ 81 (0,0))+(rP+((pts b3 (.cells ⟨[nsv]⟩ 40 (0,0))+rN)+(pts b2 (.cells ⟨[.slice none 0 0]⟩ 40 (0,0))+(y+x)))))) h ->
    zp Q rec (Pt b2) (Pt b3) x4 (Pt b8) (Pt b9) iv (AB (os.length:Nat)) (AB (i0:Nat)) h:=by
   intro t dv h ht ddv hda hli w;unfold zp AW;rw[Ai];refine Af w XN.g20 ?_;have ln:∀ k:Vz->Prop,DM xv k=k (AB (o.l.length:Nat)):=fun k=>by rw[hxv,As]
   rw[ln];unfold AIG;refine Bj (fun mm u h'=>∃ i xv' xcs yy,mm+i=o.l.length/\u=AB (i:Nat)/\RdV 2 xv' (srtA (o.l.take i)).length xcs (yy+x)/\AtV (yy+x) xcs (srtA (o.l.take i))/\TreeV (yy+x) ns ((os.take i0).map (Gx N P))/\RdX (yy+x) dv t.data /\
    AN (pts b9 (.cells ⟨({t with xs:=srtA (o.l.take i)}:TN).cells dv xv'  cst__slice_none_0_0   cst__slice_none_0_0 ⟩ 63 (0,0))+(pts b8 (.cells ⟨o.X.cells cv ev xv⟩ 81 (0,0))+(rP+((pts b3 (.cells ⟨[nsv]⟩ 40 (0,0))+rN)+(pts b2 (.cells ⟨[.slice none 0 0]⟩ 40 (0,0))+(yy+x)))))) h') o.l.length
    ⟨0,.slice none 0 0,[],y,rfl,rfl,.inl ⟨none,0,rfl,rfl,rfl⟩,.nil,tv,ddv,by
     have e:({t with xs:=srtA (o.l.take 0)}:TN)=t:=by rw[ht];rfl
     rw[e];exact w⟩ ?_
   rintro rec3 mm3 u3 h3 ⟨q,xv',xcs,yy,hq,rfl,e1,e2,tv,ddv,w⟩ hrec3;unfold zn BL;rw[AR];refine AS (fun hc3=>?_) (fun hc3=>?_)
   ·have hql:q<o.l.length:=by omega
    obtain⟨a,ha⟩:∃ a,o.l[q]? = some a:=⟨_,B0 hql⟩;obtain⟨u,hu,du⟩:=f.at ha;have hsl:=Lu (o.l.take q) [];rw[W1,C4] at hsl;have hsl2:(srtA (o.l.take q)).length<=1000:=by unfold srtA;omega
    obtain⟨⟨va,vc,hv1⟩,_⟩:=e1.len;refine (dd.bf.bf.bf.bf.bf.bf:VecX 86 2 xv o.l.length xas _).agg w hql ?_;rw[hu];refine AV w CU rfl fun b11 h w=>?_;refine AD w ⟨[str a.1,u]⟩ (AU (by rfl)) rfl (by simp) (Fm du) fun h w=>?_;rw[Ai];refine Af w (u:=xv') (by rw[Y7];exact TN.g15) ?_;rw[Ai];refine Af w (show (⟨[str a.1,u]⟩:Array Vz)[0]? = some (str a.1) from rfl) ?_;rw[Ai];refine Af w (show (⟨[str a.1,u]⟩:Array Vz)[1]? = some u from rfl) ?_;refine SK (s16 (z:=yy+x) e1.bf.bf.bf.bf.bf.bf e2 hsl2 du.bf w fun u2 cs2 r2 y2 h v2 a2 w=>?_);obtain⟨⟨ua,uc,hu2⟩,_⟩:=v2.len;rw[Ai];have ss2:Av (⟨({t with xs:=srtA (o.l.take q)}:TN).cells dv xv'  cst__slice_none_0_0   cst__slice_none_0_0 ⟩:Array Vz) 15 [u2]=⟨({t with xs:=Ks (srtA (o.l.take q)) a.1 a.2}:TN).cells dv u2  cst__slice_none_0_0   cst__slice_none_0_0⟩:=(ss _ _ _).trans (J3 (fun l=>(⟨l⟩:Array Vz)) TN.s15);refine AD w ⟨({t with xs:=Ks (srtA (o.l.take q)) a.1 a.2}:TN).cells dv u2  cst__slice_none_0_0   cst__slice_none_0_0 ⟩ (by rw[hu2] at ss2 ⊢;exact ss2) (by rw[hu2];rfl) (by rw[O2,TN.len];omega) (by rw[hu2];rfl) fun h w=>?_;have hst:srtA (o.l.take (q+1))=Ks (srtA (o.l.take q)) a.1 a.2:=by
     unfold srtA;rw[O3,ha,Option.toList_some,M6];rfl
    rw[Az (n:=1),Bq (by omega)];have k7:∀ Y X R Y2 B:Res,(R+(Y2+(B+Y)))+X=R+(Y2+(B+(Y+X))):=by intros;ac_rfl
    have k8:∀ R Y2 B11 B9 B8 RP A B2 Y X:Res,R+(Y2+(B11+(B9+(B8+(RP+(A+(B2+(Y+X))))))))=B9+(B8+(RP+(A+(B2+((R+(Y2+(B11+Y)))+X))))):=by intros;ac_rfl
    refine hrec3 (mm3-1) _ _ ⟨q+1,u2,cs2,r2+(y2+(pts b11 (.cells ⟨[str a.1,u]⟩ 86 (0,0))+yy)),by omega,rfl,?_,?_,?_,?_,?_⟩ (by omega)
    ·rw[hst,k7];exact v2.rdv.an
    ·rw[hst,k7];exact a2.mono.mono.mono
    ·rw[k7];exact tv.mono.mono.mono
    ·rw[k7];exact ddv.bf.bf.bf
    ·rw[hst];exact w.cast (k8 _ _ _ _ _ _ _ _ _ _)
   ·have:q=o.l.length:=by omega
    subst this;rw[L1] at e1 e2 w;rw[Ai];refine Af w XN.g19 ?_;rw[hev,As,<-hev];have k1:∀ B9 B8 RP A B2 Y X:Res,B9+(B8+(RP+(A+(B2+(Y+X)))))=B9+(RP+((A+B2)+(B8+(Y+X)))):=by intros;ac_rfl
    have k2:∀ RP A B2 Y2 B8 Y X:Res,RP+((A+B2)+(Y2+(B8+(Y+X))))=RP+(A+(B2+((Y2+(B8+Y))+X))):=by intros;ac_rfl
    refine APz (t:={t with xs:=srtA o.l}) (nv:=.slice none 0 0) (kv:=.slice none 0 0) a4 hPN hN c.bf.bf g4 g3 (by rw[ht]) (by omega) aN (by omega) (tv.mono:TreeV (pts b8 (.cells ⟨o.X.cells cv ev xv⟩ 81 (0,0))+(yy+x)) ns _) ddv.bf ⟨_,e1.bf,e2.mono⟩ rfl rfl (w.cast (k1 _ _ _ _ _ _ _)) fun nsv' rN' cs' y' h aN' tv' w=>?_;have hnode:({t with xs:=srtA o.l,ks:=o.E.foldl (Cg N P) []}:TN)=Gx N P o:=by
     rw[ht];unfold Gx;rw[<-hda,<-hli]
    have tv':TreeV (y'+(pts b8 (.cells ⟨o.X.cells cv ev xv⟩ 81 (0,0))+(yy+x))) cs' ((os.take i0).map (Gx N P)++[Gx N P o]):=hnode▸tv';rw[Kq5] at tv';refine hrec (mm-1) _ _ ⟨i0+1,nsv',cs',rN',y'+(pts b8 (.cells ⟨o.X.cells cv ev xv⟩ 81 (0,0))+yy),by omega,rfl,aN',?_,w.cast (k2 _ _ _ _ _ _ _)⟩ (by omega);rw[htk,H2];exact tv'
  rw[Ai];refine Af w XN.g1 ?_;refine Fk (qn g1 ?_);rw[AT];refine AS (fun hk=>?_) (fun hk=>?_)
  ·have hk1:kindL o.X.en=1:=by omega
   rw[Ai];refine Af w XN.g18 ?_;rw[Ai];refine AD w ⟨(TN.mk o.X o.C [] [] []).cells cv  cst__slice_none_0_0   cst__slice_none_0_0   cst__slice_none_0_0 ⟩ (by rw[hcv];exact (ss _ _ _).trans (J3 (fun l=>(⟨l⟩:Array Vz)) TN.s13)) (by rw[hcv];rfl) (by rw[O2,TN.len];omega) (by rw[hcv];rfl) fun h w=>?_;exact rest ⟨o.X,o.C,[],[],[]⟩ cv h rfl b.bf (by rw[D0 hk1]) (by rw[F0 (by omega)]) w
  ·have hk1:¬kindL o.X.en=1:=by omega
   rw[AT];refine AS (fun hk7=>?_) (fun hk7=>?_)
   ·have hk7:kindL o.X.en=7:=by omega
    rw[Ai];refine Af w XN.g18 ?_;refine (b.bf.bf.bf.bf.bf.bf:RdX _ cv o.C).str w ?_;rw[Ai];refine AD w ⟨(TN.mk o.X [] o.C [] []).cells  cst__slice_none_0_0   cst__slice_none_0_0   cst__slice_none_0_0 cst__slice_none_0_0 ⟩ ((ss _ _ _).trans (J3 (fun l=>(⟨l⟩:Array Vz)) TN.s14)) rfl (by rw[O2,TN.len];omega) rfl fun h w=>?_;exact rest ⟨o.X,[],o.C,[],[]⟩ _ h rfl (.inl ⟨none,0,rfl,rfl⟩) (by rw[F0 hk1]) (by rw[D0 hk7]) w
   ·have hk7:¬kindL o.X.en=7:=by omega
    exact rest ⟨o.X,[],[],[],[]⟩ _ h rfl (.inl ⟨none,0,rfl,rfl⟩) (by rw[F0 hk1]) (by rw[F0 hk7]) w
 ·have:i0=os.length:=by omega
  subst this;rw[L1] at tv;obtain⟨⟨sa,sc,hsv⟩,_⟩:=aN.len;refine BD (b:=b3) w rfl ?_;refine AD w ⟨[nsv]⟩ (by rw[hsv];rfl) (by rw[hsv];rfl) (by simp) (by rw[hsv];rfl) fun h w=>?_;refine BD (b:=b2) w rfl ?_;have k5:∀ RP B3 RN B2 Y X:Res,RP+((B3+RN)+(B2+(Y+X)))=RN+((RP+(B3+(B2+Y)))+X):=by intros;ac_rfl
  have k6:∀ RP B3 B2 Y X:Res,(RP+(B3+(B2+Y)))+X=(RP+(B3+B2))+(Y+X):=by intros;ac_rfl
  refine K nsv ns rN _ h aN ?_ (w.cast (k5 _ _ _ _ _ _));rw[k6];exact tv.mono
end
theorem MX:∀ (l:List (AA×Nat)) (L:List Nat),(l.foldl (fun l p=>l.set p.1.X.num p.2) L).length=L.length
 | [],_=>rfl
 | p::l,L=>by rw[J4,MX l,O5]
def PL {os:List AA}{L:List Nat}{i:Nat}{o:AA}(h:os[i]? = some o):Il (os.take (i+1)) L=(Il (os.take i) L).set o.X.num i:=by
 have hi:=(G0.1 h).1;unfold Il;rw[O3,h];show ((os.take i++[o]).zipIdx).foldl _ L=_;rw[List.zipIdx_append,M6,W1,V2 (by omega),U1];rfl
def FJ (eh:Nat)(os:List AA):List Nat:=Il os (List.replicate (eh+1) 0)
def AD6 (eh:Nat)(os:List AA):(FJ eh os).length=eh+1:=by
 unfold FJ Il;rw[MX,M0]
def s14 {os:List AA}{cs:List Vz}(ok:v.OK x)(d:VecX 81 23 v.iv os.length cs x)(ov:OutV x cs os)(hn:os.length<1000000)(aj:∀ o∈os,o.X.en<65536/\o.l.length<=900/\o.E.length<10000000/\∀ e∈o.E,e.2.1<4294967296)(p:∀ o∈os,o.X.num<=v.eh)(w:AN (v.res+x) h)
  (K:∀ nsv ns rN y h,Vec 63 18 nsv os.length ns rN->TreeV (y+(v.res+x)) ns (os.map (Gx (v.eh+1) (FJ v.eh os)))->AN (rN+(y+(v.res+x))) h->Q (.agg ⟨[nsv]⟩) h):f14 (Pt v.vb) h Q:=by
 have ar:=ok.eh;have f1:∀ k:Vz->Prop,AQ .mul  Aq (AH (v.eh:Nat)) k=k (AH (v.eh:Nat)):=fun k=>by
  rw[CZ,Int.one_mul,Dn (by omega)]
 obtain⟨⟨ia,ic,a⟩,_⟩:=d.len;unfold f14 AW;refine AV w Mh rfl fun b2 h w=>?_;refine AV w Mh rfl fun b3 h w=>?_;rw[Br];refine Af w VS.g4 ?_;rw[Br];refine Af w VS.g6 ?_;rw[f1,Az (n:=1),Dn (by omega)];refine Di w KY rfl (I0 _) (by omega) (by omega) fun b4 h w=>?_;rw[Br];refine Af w VS.g0 ?_;rw[a,As,<-a];have a4:Vec 3 1 (.slice (some ⟨b4,0,none⟩) (v.eh+1) (v.eh+1)) (v.eh+1) (ints (Il (os.take 0) (List.replicate (v.eh+1) 0))) (pts b4 (.cells ⟨List.replicate (v.eh+1)  AF⟩ 3 (0,0))):=by
  have:ints (Il (os.take 0) (List.replicate (v.eh+1) 0))=List.replicate (v.eh+1) AF :=by
   show ints (List.replicate (v.eh+1) 0)=_;unfold ints;rw[W6];rfl
  rw[this];exact .own' (I0 _) (by simp) (by simp)
 unfold AIH;have k0:∀ B4 j g V X:Res,B4+(j+(g+(V+X)))=B4+(j+(g+(0+(V+X)))):=by intros;rw[Res.zero_add]
 refine Bj (fun mm u h'=>∃ i rP y,mm+i=os.length/\u=AB (i:Nat)/\Vec 3 1 (.slice (some ⟨b4,0,none⟩) (v.eh+1) (v.eh+1)) (v.eh+1) (ints (Il (os.take i) (List.replicate (v.eh+1) 0))) rP/\AN (rP+(pts b3 (.cells ⟨[.slice none 0 0]⟩ 40 (0,0))+(pts b2 (.cells ⟨[.slice none 0 0]⟩ 40 (0,0))+(y+(v.res+x))))) h') os.length ⟨0,_,0,rfl,rfl,a4,w.cast (k0 _ _ _ _ _)⟩ ?_;rintro rec mm u h' ⟨i,rP,y,hi,rfl,a4,w⟩ s;unfold zo BL;rw[AR];refine AS (fun hc=>?_) (fun hc=>?_)
 ·have m:i<os.length:=by omega
  obtain⟨o,ho⟩:∃ o,os[i]? = some o:=⟨_,B0 m⟩;obtain⟨cv,ev,xv,xas,ae,b,c,dd,f⟩:=ov.get ho;have au:=p o (D1 ho);obtain⟨ca,cc,ah⟩:=b.len;obtain⟨⟨ea,ec,ai⟩,_⟩:=c.len;obtain⟨⟨xa,xc,ao⟩,_⟩:=dd.len;have q:(o.X.cells cv ev xv).all Value.oneCell'=true:=by rw[ah,ai,ao];exact XN.one
  refine (d.bf.bf.bf.bf.bf:VecX 81 23 v.iv os.length cs _).agg w m ?_;rw[ae];refine AV w Ev rfl fun b8 h w=>?_;refine AD w ⟨o.X.cells cv ev xv⟩ (AU (by rw[XN.size_];exact XN.len)) XN.size_ (by rw[XN.size_];omega) q fun h w=>?_;rw[Ai];refine Af w XN.g0 ?_;refine DV (u:=AB (i:Nat)) a4 (w.cast (Kq2 _ _ _)) (by omega) rfl rfl fun rP h a4 w=>?_;rw[Az (n:=1),Bq (by omega)];have t:(ints (Il (os.take i) (List.replicate (v.eh+1) 0))).set o.X.num (AB (i:Nat))=ints (Il (os.take (i+1)) (List.replicate (v.eh+1) 0)):=by
   rw[PL ho];unfold ints;rw[E7]
  rw[t] at a4;have k2:∀ l B8 j g Y X:Res,l+(B8+(j+(g+(Y+X))))=l+(j+(g+((B8+Y)+X))):=by intros;ac_rfl
  exact s (mm-1) _ _ ⟨i+1,rP,_,by omega,rfl,a4,w.cast (k2 _ _ _ _ _ _)⟩ (by omega)
 ·have:i=os.length:=by omega
  subst this;rw[L1] at a4;rw[Br];refine Af w VS.g0 ?_;rw[a,As,<-a];have k3:∀ l j g Y X:Res,l+(j+(g+(Y+X)))=l+((j+0)+(g+(Y+X))):=by intros;rw[Res.add_zero]
  exact APy a4 (AD6 _ _) (by omega) d.bf ov.mono hn aj (w.cast (k3 _ _ _ _ _)) K
end
section
attribute [local irreducible] TN.cells
attribute [local irreducible] BJ CR Ak Bc An Aa AK Ac
inductive FindP (ts:List TN):Nat->List Bs->Nat->Prop
 | nil {a:Nat}:FindP ts a [] a
 | cons {a b c:Nat} {t:TN} {nm:Bs} {l:List Bs}:ts[a]? = some t->kidL t.ks nm=some b->kindB t.X.en=16384->FindP ts b l c->FindP ts a (nm::l) c
section
variable {ts:List TN} {ns:List Vz} {nsv nmv:Vz} {names:List Bs} {c:Nat}
def s15 (d:RdV 18 nsv ts.length ns x)(tv:TreeV x ns ts)(o:∀ t∈ts,t.X.en<65536/\t.ks.length<1000000000)(dn:RdV 1 nmv names.length (strs names) x)(hl:names.length<1000000000)(e:FindP ts 0 names c)(w:AN x h)
  (K:∀ y h,AN (y+x) h->Q (.tuple #[AB (c:Nat),.bool true]) h):f15 (.agg ⟨[nsv]⟩) nmv h Q:=by
 obtain⟨⟨na,nc,j⟩,_⟩:=dn.len;unfold f15 AW;refine BG w fun b2 h w=>?_;have w:AN (pts b2 (.cells ⟨[nsv]⟩ 40 (0,0))+x) h:=w;rw[j,As,<-j];unfold AAM;refine DF (fun p u0 u1 m=>∃ i a y,p+i=names.length/\u0=AB (a:Nat)/\u1=AB (i:Nat)/\FindP ts a (names.drop i) c/\AN (pts b2 (.cells ⟨[nsv]⟩ 40 (0,0))+(y+x)) m) names.length ⟨0,0,0,rfl,rfl,rfl,e,w.cast (by rw[Res.zero_add])⟩ ?_;rintro rec p u0 u1 m ⟨i,a,y,hi,rfl,rfl,e,w⟩ l;unfold fp BL;rw[AR];refine AS (fun u=>?_) (fun u=>?_)
 ·have g:i<names.length:=by omega
  have v:names[i]? = some names[i]:=B0 g;rw[N3 g] at e;cases e with
  | cons e1 e2 s e=>
   rename_i b t;obtain⟨dv,xv,nv,kv,q,q2,qx,q3,q4⟩:=tv.get e1;obtain⟨g1,g2⟩:=o t (D1 e1);have f:a<ts.length:=(G0.1 e1).1;refine (dn.bf.bf:RdV 1 nmv names.length (strs names) _).get w (KC v) ?_;rw[Ai];refine Af w (show (⟨[nsv]⟩:Array Vz)[0]? = some nsv from rfl) ?_;refine (d.bf.bf:RdV 18 nsv ts.length ns _).agg w f ?_;rw[q];refine YP (s20 (x:=pts b2 (.cells ⟨[nsv]⟩ 40 (0,0))+(y+x)) TN.g16 TN.g17 TN.len q3.bf.bf q4.bf.bf g2 w fun y2 h w=>?_);rw[e2];show Ck (.tuple #[AB (b:Nat),.bool true]) 0 _;rw[BF,BO];have w:=w.cast (Kq1 _ _ _ _);rw[Ai];refine Af w (show (⟨[nsv]⟩:Array Vz)[0]? = some nsv from rfl) ?_;refine (d.bf.bf:RdV 18 nsv ts.length ns _).agg w f ?_;rw[q];refine Ed (ko TN.g0 g1 w fun y3 h w=>?_);have c1:∀ k:Vz->Prop,AQ .neq (cU16 (kindB t.X.en:Nat))  Bz  k=k  AE :=fun k=>by
    rw[s,Ay];rfl
   rw[c1,Bt,CI,P3,AJ,Az (n:=1),Bq (by omega)];exact l (p-1) _ _ _ ⟨i+1,b,y3+(y2+y),by omega,rfl,rfl,e,w.cast (by
    exact Kq1 _ _ _ _)⟩ (by omega)
 ·have:i=names.length:=by omega
  subst this;rw[X6] at e;cases e;exact K (pts b2 (.cells ⟨[nsv]⟩ 40 (0,0))+y) m (w.cast (Res.assoc _ _ _).symm)
end
def RdX.one_ {v:Vz}{bs:Bs}(d:RdX x v bs):Value.oneCell' v=true:=by
 obtain⟨a,c,h⟩:=d.len;rw[h];rfl
def s38 {v:Vz}{bs:Bs}(d:RdX x v bs)(c:bs.length<=100000000)(w:AN x h)(K:∀ v r h,BufV v bs r->AN (r+x) h->Q v h):f38 v h Q:=by
 unfold f38 AW;refine Dh (n:=0) (parts:=[]) (l:=[]) w (by omega) rfl rfl fun b h w=>?_;have a:BufV (.slice (some ⟨b,0,none⟩) 0 0) [] (buf b []):=.own' (all:=[]) (I0 _) rfl rfl;exact Bu a w (d.bf.rd w) (by simp;omega) fun v r h b w=>K v r h b w
def s64 {xv:Vz}{cs:List Vz}{xs:AL}(d:RdV 2 xv xs.length cs x)(A:AtV x cs xs)(hl:xs.length<=400)(hb:∀ a∈xs,a.2.length<=100000000)(w:AN x h)(K:∀ u c r y h,Vec 56 2 u xs.length c r->AtV y c xs->AN (r+(y+x)) h->Q u h):f64 xv h Q:=by
 obtain⟨⟨xa,xc,hx⟩,_⟩:=d.len;unfold f64 AW;rw[hx,As,<-hx];unfold AJV;refine DF (fun s u0 u1 l=>∃ i c r y,s+i=xs.length/\u1=AB (i:Nat)/\Vec 56 2 u0 i c r/\AtV y c (xs.take i)/\AN (r+(y+x)) l) xs.length ⟨0,[],0,0,rfl,rfl,.nil,.nil,w.cast (by rw[Res.zero_add,Res.zero_add])⟩ ?_;rintro rec s u0 u1 l ⟨i,c,r,y,hi,rfl,a,j,w⟩ g;unfold ACC BL;rw[AR];refine AS (fun hc=>?_) (fun hc=>?_)
 ·have f:i<xs.length:=by omega
  obtain⟨p,o⟩:∃ p,xs[i]? = some p:=⟨_,B0 f⟩;obtain⟨v,m,dv⟩:=A.at o;refine (d.bf.bf:RdV 2 xv xs.length cs _).agg w f ?_;rw[m];refine AV w HQ rfl fun b5 h w=>?_;refine AD w ⟨[str p.1,v]⟩ (AU (by rfl)) rfl (by simp) (Fm dv) fun h w=>?_;rw[AG];refine Af w (u:=str p.1) rfl ?_;rw[AG];refine Af w (u:=v) rfl ?_;refine ABf (s38 (dv.bf.bf.bf) (hb p (D1 o)) w fun t r' h b w=>?_);refine Is w rfl ?_;obtain⟨va,vc,q⟩:=b.rdX.len;refine BA HQ rfl (rs:=[str p.1,t]) (by rw[q];rfl) ?_;have h1:([str p.1,t]:List Vz).all Value.oneCell'=true:=Fm b.rdX;have k1:∀ e B R Y X:Res,e+(B+(R+(Y+X)))=R+(B+(e+(Y+X))):=by intros;ac_rfl
  refine CN a (w.cast (k1 _ _ _ _ _)) HQ rfl rfl (by omega) (by omega) h1 fun b9 h w=>?_;refine CA a w HQ rfl rfl h1 (by omega) (by omega) fun out r h a w=>?_;rw[Az (n:=1),Bq (by omega)];have k2:∀ R B e Y X:Res,R+(B+(e+(Y+X)))=R+((e+(B+Y))+X):=by intros;ac_rfl
  refine g (s-1) _ _ _ ⟨i+1,c++[str p.1,t],r,_,by omega,rfl,a,?_,w.cast (k2 _ _ _ _ _)⟩ (by omega);rw[O3,o];exact j.mono.mono.eu b.rdX.an
 ·have:i=xs.length:=by omega
  subst this;rw[L1] at j;exact K _ c r y l a j w
def ADz (o:Op1)(xv dv:Vz):(⟨o.cells xv dv⟩:Array Vz)[22]? = some xv/\(⟨o.cells xv dv⟩:Array Vz)[23]? = some dv:=by cases o<;>exact⟨rfl,rfl⟩
def AD0 (o:Op1)(xv dv xv' dv':Vz):Av (⟨o.cells xv dv⟩:Array Vz) 23 [dv']=⟨o.cells xv dv'⟩/\Av (⟨o.cells xv dv⟩:Array Vz) 22 [xv']=⟨o.cells xv' dv⟩:=by cases o<;>exact⟨rfl,rfl⟩
def pj (l:List TW)(o:TW):KP (l++[o])=KP l++o.1.cells o.2.1 o.2.2:=by
 unfold KP;rw[W5,Y6]
attribute [local irreducible] Op1.cells
section
variable {l:List TW} {ov:Vz}
def s24 (d:RdV 24 ov l.length (KP l) x)(hn:l.length<=10000)(u:∀ o∈l,ZP x o)(au:∀ o∈l,OpL o.1)(w:AN x h)
  (K:∀ out l' r y h,Vec 32 24 out l'.length (KP l') r->l'.map (·.1)=l.map (·.1)->(∀ o∈l',ZP y o)->AN (r+(y+x)) h->Q out h):f24 ov h Q:=by
 have t:∀ (b o p:Nat) (k:Vz->Prop),Aw p (.pointer (some ⟨b,o,none⟩)) k=k (.pointer (some ⟨b,o+p,none⟩)):=fun b o p k=>by rw[Dx,Cb]
 obtain⟨⟨va,vc,hv⟩,_⟩:=d.len;unfold f24 AW;rw[hv,As,<-hv];unfold AIV;refine DF (fun mm u0 u1 h'=>∃ i l' r y,mm+i=l.length/\u1=AB (i:Nat)/\l'.length=i/\Vec 32 24 u0 i (KP l') r/\l'.map (·.1)=(l.take i).map (·.1)/\(∀ o∈l',ZP y o)/\AN (r+(y+x)) h') l.length ⟨0,[],0,0,rfl,rfl,rfl,.nil,rfl,by simp,w.cast (by rw[Res.zero_add,Res.zero_add])⟩ ?_;rintro rec mm u0 u1 h' ⟨i,l',r,y,hi,rfl,ae,a,hm,hd,w⟩ ai;unfold ABa BL;rw[AR];refine AS (fun hc=>?_) (fun hc=>?_)
 ·have v:i<l.length:=by omega
  obtain⟨o,ho⟩:∃ o,l[i]? = some o:=⟨_,B0 v⟩;have j:=D1 ho;have dd:=u o j;have hL:=au o j;refine (d.bf.bf:RdV 24 ov l.length (KP l) _).agg w v ?_;rw[jt l i o ho];refine AV w TU rfl fun b5 h w=>?_;have ah:=Op1.cg o.1 o.2.1 o.2.2 dd.one.1 dd.one.2;refine AD w ⟨o.1.cells o.2.1 o.2.2⟩ (Sp o.1 o.2.1 o.2.2) (by show (List.toArray _).size=24;rw[O2,Op1.cd]) (by rw[O2,Op1.cd];omega) ah fun h w=>?_;rw[Ai];refine Af w (ADz o.1 o.2.1 o.2.2).2 ?_;rw[Ai,t];refine Af w (ADz o.1 o.2.1 o.2.2).1 ?_;obtain⟨aj,xcs,ao,ar⟩:=dd;refine ABf (s38 (aj.bf.bf.bf) hL.d w fun dv' rd h b w=>?_);refine And.intro (Af w (ADz o.1 o.2.1 o.2.2).1 rfl) ?_;rw[Ai];refine AM9 (s64 ao.bf.bf.bf.bf ar.mono.mono.mono.mono hL.n hL.v w fun xv' cs2 rx yx h ax A2 w=>?_);have e:Value.oneCell' dv'=true:=b.rdX.one_;have f:Value.oneCell' xv'=true:=ax.rdv.one_;obtain⟨ba,aw,c⟩:=b.rdX.len;obtain⟨⟨ay,az,g⟩,_⟩:=ax.len;refine AD w ⟨o.1.cells o.2.1 dv'⟩ (by rw[c];exact (AD0 o.1 o.2.1 o.2.2 o.2.1 _).1) (by rw[c];rfl) (by rw[O2,Op1.cd];omega) (by rw[c];rfl) fun h w=>?_;rw[Ai,t];refine AD w ⟨o.1.cells xv' dv'⟩ (by rw[g];exact (AD0 o.1 o.2.1 dv' _ dv').2) (by rw[g];rfl) (by rw[O2,Op1.cd];omega) (by rw[g];rfl) fun h w=>?_;refine BD w (Op1.cd _ _ _) ?_;have k1:∀ q s m B R Y X:Res,q+(s+(m+(B+(R+(Y+X)))))=R+(B+(q+(s+(m+(Y+X))))):=by intros;ac_rfl
  refine CN a (w.cast (k1 _ _ _ _ _ _ _)) TU (by show (List.toArray _).size=24;rw[O2,Op1.cd]) (Op1.cd _ _ _) (by omega) (by omega) (Op1.cg o.1 xv' dv' f e) fun b9 h w=>?_;refine CA a w TU (by show (List.toArray _).size=24;rw[O2,Op1.cd]) (Op1.cd _ _ _) (Op1.cg o.1 xv' dv' f e) (by omega) (by omega) fun out r h a w=>?_;rw[Az (n:=1),Bq (by omega)];have k2:∀ R B q s m Y X:Res,R+(B+(q+(s+(m+(Y+X)))))=R+((q+(s+(m+(B+Y))))+X):=by intros;ac_rfl
  refine ai (mm-1) _ _ _ ⟨i+1,l'++[(o.1,(xv',dv'))],r,_,by omega,rfl,by rw[C0,ae];rfl,by rw[pj];exact a,?_,?_,w.cast (k2 _ _ _ _ _ _ _)⟩ (by omega)
  ·rw[H2,hm,O3,ho,H2];rfl
  ·intro p hp;rcases N4.1 hp with h1|h1
   ·exact (hd p h1).bf.bf.bf.bf
   ·rw[H4] at h1;subst h1;exact⟨b.rdX.an.bf.bf,cs2,ax.rdv.an,A2.an.mono⟩
 ·have:i=l.length:=by omega
  subst this;rw[L1] at hm;exact K _ l' r y h' (by rw[ae];exact a) hm hd w
end
attribute [local irreducible] Cy Ew setL DP NS Vw HR FN CG Eu
section
variable {wb db:Nat} {inl:Bool} {l:List TW} {ov:Vz} {ro rd:Res}
def AS2 {n:Nat}{G:Bs->Prop}(c:Vec 32 24 ov n (KP l) ro)(v:l.length=n)(p:n<=10000)(f:∀ o∈l,ZP rd o)(m:∀ o∈l,OpL o.1)
  (st:∀ db,∃ j S,Steps (l.map (·.1)) (S2 [] inl Gi db) j/\IG j S/\S.db=db/\G (CG S)) (g:HU x) (w:AN (ro+(rd+x)) h)
  (K:∀ B out dv dr y h,G B->BufV dv B dr->AN (dr+(y+(ro+(rd+x)))) h->Q (.tuple #[out,AB 0,dv]) h):f23 (.bool inl) (AB ((0:Nat):Int)) ov h Q:=by
 obtain⟨⟨oa,oc,i⟩,_⟩:=c.len;unfold f23 AW;refine BA AHp rfl (rs:=[.slice none 0 0,AB ((0:Nat):Int)]) rfl (BG w fun db h w=>?_);have w:AN (pts db (.cells ⟨[.slice none 0 0,AB ((0:Nat):Int)]⟩ 121 (0,0))+(ro+(rd+x))) h:=w;refine AM3 ?_;unfold f52 AW;refine BG w fun mb h w=>?_;have w:AN (pts mb (.cells ⟨[AB ((0:Nat):Int)]⟩ 2 (0,0))+(pts db (.cells ⟨[.slice none 0 0,AB ((0:Nat):Int)]⟩ 121 (0,0))+(ro+(rd+x)))) h:=w;have rest:∀ (a:Vz) (r:Res) (h:H),Vec 123 1 a (NQ mb inl).length (NQ mb inl) r->AN (r+(pts mb (.cells ⟨[AB ((0:Nat):Int)]⟩ 2 (0,0))+(pts db (.cells ⟨[.slice none 0 0,AB ((0:Nat):Int)]⟩ 121 (0,0))+(ro+(rd+x))))) h->ABY Q ov (Pt db) a h:=by
  intro a r h e w;unfold ABY AW;refine AM5 (s54 e (w.cast (Kq9 _ _ _ _)) fun wb h fr=>?_);obtain⟨j,S,q,s,t,u⟩:=st db;rw[i,As,<-i];exact AQL c v p f m q s t g (.inl ⟨rfl,fr⟩) fun out dv dr y h b w=>K (CG S) out dv dr y h u b w
 show AK (.arr 1) 123 (Am TP 123) 1 1 [(0,.func (.func 90) #[] #[Pt mb])] h _;refine Hb w ly rfl rfl rfl fun fb h w=>?_;have d1:Vec 123 1 (.slice (some ⟨fb,0,none⟩) 1 1) 1 [.func (.func 90) #[] #[Pt mb]] (pts fb (.cells ⟨[.func (.func 90) #[] #[Pt mb]]⟩ 123 (0,0))):=.own' (I0 _) rfl rfl;cases inl with
 | false=>
  rw[AJ];exact rest _ _ h d1 w
 | true=>
  rw[Ab];exact DC d1 w ly rfl rfl rfl (by decide) (by decide) fun a r h d w=>rest a r h d w
def Tb (P:List AA->Nat->Prop)(B:Bs):Prop:=∃ nb eh o0 o' T os kk,Tc B nb eh o0 o' T os kk/\P os eh
attribute [local irreducible] VS.cells XN.cells
def s13 {P:List AA->Nat->Prop}(d:RdV 24 ov l.length (KP l) x)(hn:l.length<=10000)(i:∀ o∈l,ZP x o)(j:∀ o∈l,OpL o.1)
  (st:∀ db,∃ SE S,Steps (l.map (·.1)) (S2 [] inl Gi db) SE/\IG SE S/\S.db=db/\Tb P (CG S)) (g:HU x) (w:AN x h)
  (K:∀ (v:VS) os cs z h,VecX 81 23 v.iv os.length cs z->OutV z cs os->v.OK (z+x)->P os v.eh->(∀ o∈os,1<=o.X.num/\o.X.num<=v.eh/\o.X.en<65536)->os.length<1000000->AN (v.res+(z+x)) h->Q (.tuple #[Pt v.vb,.bool true]) h) :
  f13 (.bool inl) AF ov h Q:=by
 unfold f13 AW;refine AMs (s24 d hn i j w fun out l' r y h a t hd w=>?_);have ah:l'.length=l.length:=by have:=J3 List.length t;simpa using this
 have m:∀ o∈l',OpL o.1:=fun o u=>by
  have:o.1∈l.map (·.1):=by rw[<-t];exact V1.2 ⟨o,u,rfl⟩
  obtain⟨p,hp,he⟩:=V1.1 this;rw[<-he];exact j p hp
 refine AMr (AS2 (rd:=y) a rfl (by omega) hd m (by rw[t];exact st) g w fun B ae dv dr y2 h hG b w=>?_);rw[BF,BO,GE];have c0:∀ k:Vz->Prop,AQ .neq  AF AF k=k  AE :=fun k=>by rw[Ay];rfl
 rw[c0,AJ];obtain⟨nb,eh,o0,o',T,os,kk,hi,hP⟩:=hG;refine AMt (s25 hi b.rdX.an w fun v z y3 h cs s ov2 ok hI n w=>?_);rw[Br];refine Af w VS.g2 ?_;have c1:∀ k:Vz->Prop,AQ .eql (AB ((0:Nat):Int))  AF  k=k  AI:=fun k=>by rw[AT];rfl
 rw[As,c1];have k1:∀ V f Z c e R Y X:Res,V+(f+(Z+(c+(e+(R+(Y+X))))))=V+((f+(Z+(c+(e+(R+Y)))))+X):=by intros;ac_rfl
 have k2:∀ f Z c e R Y X:Res,f+(Z+(c+(e+(R+(Y+X)))))=(f+(Z+(c+(e+(R+Y)))))+X:=by intros;ac_rfl
 have q:v.OK (y3+(z+(dr+(y2+(r+(y+x)))))):=ok.mono;rw[k2] at q;refine K v os cs _ h s.an.bf ov2.an.mono q (by rw[n];exact hP) (fun o u=>by rw[n];exact hi.num o u) (by rw[hi.walk.len];exact hi.walk.nlt) (w.cast (k1 _ _ _ _ _ _ _ _))
end
end
section
attribute [local irreducible] BJ CR Ak Bc An Aa AK Ac
def ALB (x:Res)(vs:List Vz)(fs:List Bs):Prop:=vs.length=fs.length/\∀ (i:Nat) (b:Bs),fs[i]? = some b->∃ v,vs[i]? = some v/\RdX x v b
def ALB.bf {vs:List Vz}{fs:List Bs}(d:ALB x vs fs):ALB (y+x) vs fs:=⟨d.1,fun i b h=>by obtain⟨v,a,c⟩:=d.2 i b h;exact⟨v,a,c.bf⟩⟩
section
variable {fv:Vz} {vs:List Vz} {fs:List Bs}
end
end
open Go Go.ChangeShapes Go.WideShapes
def allR (h:H):Res:=fun b=>match h[b]? with|some o=>.one o|none=>.no
def AG4 (h:H):AN (allR h) h:=fun b=>by
 unfold allR;cases a:h[b]? with
 | none=>trivial
 | some o=>exact rfl
def WE {h:H}{b:Nat}{o:Obj}(a:h[b]? = some o):∃ y,allR h=pts b o+y:=by
 let z:Res:=fun i=>if i=b then .no else allR h i
 refine⟨z,?_⟩;funext i;show allR h i=(pts b o i).add (if i=b then .no else allR h i);unfold pts;by_cases hi:i=b
 ·subst hi;simp only[if_true];unfold allR;rw[a];rfl
 ·simp only[hi,if_false];rfl
def qz {h a:H}{y:Res}(w:AN (y+allR h) a){b:Nat}{o:Obj}(c:h[b]? = some o):a[b]? = some o:=by
 have:=w.right b;unfold allR at this;rw[c] at this;exact this
def sq {K:Type}(d:DataW K):1<=Rows.uptoBulk d:=by
 cases d with
 | lit l=>cases l<;>simp[Rows.uptoBulk]
 | nil=>simp[Rows.uptoBulk]
 | ptr d=>simp[Rows.uptoBulk]
 | slice elems spare=>simp[Rows.uptoBulk]
 | agg parts=>simp[Rows.uptoBulk]
 | iface t d=>simp[Rows.uptoBulk]
 | map entries=>simp[Rows.uptoBulk]
 | held h=>simp[Rows.uptoBulk]
def Jj {K:Type}{d:DataW K}{l:List (DataW K)}(h:d∈l):Rows.uptoBulk d<=Rows.uptoBulkAll l:=by
 induction l with
 | nil=>cases h
 | cons x r a=>
  simp only[Rows.uptoBulkAll];rcases I1.1 h with e|e
  ·subst e;omega
  ·have:=a e;omega
def Tx {K:Type}(l:List (DataW K)):l.length<=Rows.uptoBulkAll l:=by
 induction l with
 | nil=>simp[Rows.uptoBulkAll]
 | cons x r a=>have:=sq x;simp only[Rows.uptoBulkAll,J1];omega
section
variable {K:Type} {enc:Tj×Vz->K} {w:World} {base:Nat} {sp:Nat->Bool} {held:Bool} {fuel:Nat} {t e:Tj} {v:Vz} {d:DataW K} {p:List MemPlace}
def cg {a:Addr}{c:List Vz}(h:w.cells? base a 1=some c):∃ u,c=[u]/\w.cell? a=some u:=by
 unfold World.cells? at h;split at h
 ·have e0:a.add 0=a:=by simp[Addr.add]
  simp only[List.range_succ,List.range_zero,U2,List.mapM_cons,List.mapM_nil,e0] at h;cases b:w.cell? a with
  | none=>simp[b] at h
  | some c=>simp[b] at h;exact⟨c,h.symm,rfl⟩
 ·cases h
def ZH (ht:TP.underlying t=some (.slice e))(he:TP.cellsOf e=1)(h:DataW.trod enc TP w base sp held fuel t [v]=some (d,p)) :
  ∃ (vs:List Vz) (ds:List (DataW K)),RdV 1 v vs.length vs (allR w.heap)/\vs.length=ds.length/\(∀ (i:Nat) (u:Vz),vs[i]? = some u->∃ di n q,ds[i]? = some di/\DataW.trod enc TP w base sp held n e [u]=some (di,q))/\Rows.uptoBulkAll ds<=Rows.uptoBulk d:=by
 rcases DataW.trod_slice ht h with⟨s,h2⟩|⟨a,len,cap,elems,rest,n,_,s,h2,_,ar,_,ai,ao,_⟩
 ·simp only[List.cons.injEq,and_true] at s;exact⟨[],[],.inl ⟨none,0,s,rfl,rfl⟩,rfl,fun i u f=>by simp at f,by show 0<=_;omega⟩
 ·simp only[List.cons.injEq,and_true] at s;simp only[D7] at h2;obtain⟨h2,_⟩:=h2;have hb:Rows.uptoBulkAll (elems.map (·.1))<=Rows.uptoBulk d:=by
   rw[h2];simp only[Rows.uptoBulk];omega
  have g:∀ i,i<len->∃ u y,w.cell? (a.add i)=some u/\elems[i]? = some y/\DataW.trod enc TP w base sp held n e [u]=some y:=fun i hi=>by
   have hE:=ao i hi;rw[he,M5] at hE;obtain⟨y,hy⟩:∃ y,elems[i]? = some y:=⟨_,B0 (by omega)⟩;rw[hy] at hE;simp only[Option.bind_eq_some_iff] at hE;obtain⟨c1,aj,aw⟩:=hE;obtain⟨u,rfl,f⟩:=cg aj;exact⟨u,y,f,hy,aw⟩
  by_cases h0:len=0
  ·subst h0;exact⟨[],[],.inl ⟨some a,cap,s,rfl,rfl⟩,rfl,fun i u f=>by simp at f,by show 0<=_;omega⟩
  ·obtain⟨b,o,m⟩:=a;have ah:m=none/\∃ c T fz,w.heap[b]? = some (.cells c T fz):=by
    obtain⟨u,y,f,_⟩:=g 0 (by omega);have e0:(⟨b,o,m⟩:Addr).add 0=⟨b,o,m⟩:=by simp[Addr.add]
    rw[e0] at f;unfold World.cell? at f;split at f
    ·rename_i c T fz hb;split at f
     ·cases f
     ·rename_i hs;exact⟨by simpa using hs,c,T,fz,hb⟩
    ·cases f
   obtain⟨rfl,c,T,fz,ae⟩:=ah;have l:∀ i,i<len->∃ u y,c[o+i]? = some u/\elems[i]? = some y/\DataW.trod enc TP w base sp held n e [u]=some y:=fun i hi=>by
    obtain⟨u,y,f,hy⟩:=g i hi;rw[Cb] at f;unfold World.cell? at f;simp only[ae,Z5,K3,if_false] at f;exact⟨u,y,f,hy⟩
   have au:o+len<=c.toList.length:=by
    obtain⟨u,y,f,_⟩:=l (len-1) (by omega);have:=(S3.1 f).1;rw[C7];omega
   have j:((c.toList.drop o).take len).length=len:=by rw[W1,J2];omega
   obtain⟨y,hy⟩:=WE ae;refine⟨(c.toList.drop o).take len,elems.map (·.1),.inr ⟨b,o,cap,c.toList,T,fz,y,by rw[j];exact s,by rw[hy],by rw[j,M5];exact au,by rw[j,M5],by rw[j];exact ar⟩,by rw[j,Z0,ai],fun i u f=>?_,hb⟩;have hi:i<len:=by have:=(G0.1 f).1;omega
   obtain⟨u',y',h3,h4,h5⟩:=l i hi;rw[I2,D0 hi,Q3,Q7,h3,M2] at f;subst f;exact⟨y'.1,n,y'.2,by rw[Y0,h4];rfl,by rw[h5]⟩
def AHf (a:TP.underlying t=some (.int .u8))(h:DataW.trod enc TP w base sp held fuel t [v]=some (d,p)):∃ b,v=bc b:=by
 cases fuel with
 | zero=>simp[DataW.trod] at h
 | succ n=>
  cases v<;>simp[DataW.trod,a] at h;rename_i k m;obtain⟨⟨rfl,c⟩,_⟩:=h;have f:=bounds_u8 c;have e:((UInt8.ofNat m.toNat).toNat:Int)=m:=by rw[T7];omega
  refine⟨UInt8.ofNat m.toNat,?_⟩;show _=Value.int .u8 ((UInt8.ofNat m.toNat).toNat:Int);rw[e]
theorem jp {α β:Type}{f:β->α}:∀ {l:List α},(∀ a∈l,∃ b,a=f b)->∃ m:List β,l=m.map f
 | [],_=>⟨[],rfl⟩
 | a::l,h=>by
  obtain⟨b,c⟩:=h a (T0 ..);obtain⟨m,d⟩:=jp fun x e=>h x (U0 _ e);exact⟨b::m,by rw[c,d];rfl⟩
def RdV.rdx {x:Res}{bs:Bs}(r:RdV 1 v bs.length (bs.map bc) x):RdX x v bs:=by
 rcases r with⟨a,c,d,e,f⟩|⟨b,o,c,all,T,fz,y,d,e,f,g,i⟩
 ·have:bs=[]:=List.eq_nil_of_length_eq_zero e;exact .inl ⟨a,c,by rw[d],this⟩
 ·exact .inr ⟨b,o,c,all,T,fz,y,d,e,by omega,by rw[<-g,M5],i⟩
def ZG (m:TP.underlying t=some (.slice e))(o:TP.underlying e=some (.int .u8))(g:TP.cellsOf e=1)(h:DataW.trod enc TP w base sp held fuel t [v]=some (d,p)):∃ bs,RdX (allR w.heap) v bs/\bs.length<=Rows.uptoBulk d:=by
 obtain⟨vs,b,r,l,j,u⟩:=ZH m g h;obtain⟨bs,rfl⟩:∃ bs:Bs,vs=bs.map bc:=jp fun a f=>by
  obtain⟨i,hi,rfl⟩:=L6 f;obtain⟨s,n,q,_,c⟩:=j i _ (B0 hi);exact AHf o c
 rw[Z0] at r l;have:=Tx b;exact⟨bs,r.rdx,by omega⟩
theorem jo {α:Type}{P:Nat->α->Prop}:∀ (n:Nat),(∀ i,i<n->∃ a,P i a)->∃ l:List α,l.length=n/\∀ (i:Nat) (a:α),l[i]? = some a->P i a
 | 0,_=>⟨[],rfl,fun i a h=>by simp at h⟩
 | n+1,h=>by
  obtain⟨l,e,f⟩:=jo n fun i hi=>h i (by omega);obtain⟨a,g⟩:=h n (by omega);refine⟨l++[a],by rw[C0,e];rfl,fun i b c=>?_⟩;by_cases hi:i<n
  ·rw[Z1 (by omega)] at c;exact f i b c
  ·have d:=(G0.1 c).1;rw[C0,U3] at d;have:i=n:=by omega
   subst this;rw[X1 (by omega),e,D6] at c;simp only[L4,M2] at c;subst c;exact g
end
open Go Go.ChangeShapes Go.WideShapes
def ty4:TP.underlying 4=some .bool:=by kernel_rfl
def ty5:TP.underlying 5=some (.int .u8):=by kernel_rfl
def ty9:TP.underlying 9=some .string:=by kernel_rfl
def ATM:TP.underlying 30=some (.slice 5):=by kernel_rfl
def ARW:TP.underlying 342=some (.array 7 341):=by kernel_rfl
def ce5:TP.cellsOf 5=1:=by kernel_rfl
def ce9:TP.cellsOf 9=1:=by kernel_rfl
def AH7:TP.cellsOf 341=2:=by kernel_rfl
section
variable {K:Type} {enc:Tj×Vz->K} {w:World} {base:Nat} {sp:Nat->Bool} {held:Bool} {fuel:Nat} {t e:Tj} {v:Vz} {d:DataW K} {p:List MemPlace}
def ZI {k:Iq}{n:Int}(a:TP.underlying t=some (.int k))(h:DataW.trod enc TP w base sp held fuel t [v]=some (.lit (.int k n),p)):v=.int k n:=by
 cases fuel with
 | zero=>simp[DataW.trod] at h
 | succ m=>
  cases v<;>simp[DataW.trod,a] at h;rename_i k' n';obtain⟨⟨rfl,_⟩,rfl,_⟩:=h;rfl
def ZJ {l:Bs}(a:TP.underlying t=some .string)(h:DataW.trod enc TP w base sp held fuel t [v]=some (.lit (.string l),p)):v=str l:=by
 cases fuel with
 | zero=>simp[DataW.trod] at h
 | succ m=>
  cases v<;>simp[DataW.trod,a] at h;rename_i s;obtain⟨_,rfl,_⟩:=h;rfl
def AHA {cs:List Vz}{n:Int}{l:Bs}(h:DataW.trod enc TP w base sp held fuel 341 cs=some (.agg [.lit (.int .u8 n),.lit (.string l)],p)):cs=[.int .u8 n,str l]:=by
 obtain⟨a,b,m,d,c,f,g⟩:=trod_struct2 Tryz.underlying341 h;rw[AH7] at c
 match cs,c with
 | [c0,c1],_=>
  simp only[D7,DataW.agg.injEq,List.cons.injEq,and_true] at d;obtain⟨⟨e0,e1⟩,_⟩:=d;have g0:DataW.trod enc TP w base sp held m 5 [c0]=some a:=by
   rw[<-f];show _=DataW.trod enc TP w base sp held m 5 (([c0,c1].drop 0).take (TP.cellsOf 5));rw[ce5];rfl
  have g1:DataW.trod enc TP w base sp held m 9 [c1]=some b:=by
   rw[<-g];show _=DataW.trod enc TP w base sp held m 9 (([c0,c1].drop 1).take (TP.cellsOf 9));rw[ce9];rfl
  have e:a=(.lit (.int .u8 n),a.2):=by rw[e0]
  have f1:b=(.lit (.string l),b.2):=by rw[e1]
  rw[e] at g0;rw[f1] at g1;rw[ZI ty5 g0,ZJ ty9 g1]
end
def pxD {K:Type}(q:Nat×Bs):DataW K:=.agg [.lit (.int .u8 (q.1:Nat)),.lit (.string q.2)]
theorem AGq {K:Type}:(Rows.laid_pub_marram_pub_hcsshim_ext4_inner_compactext4_xattrPrefixes:DataW K)=.agg (PX.map pxD):=rfl
def ANR {W:World}(h:laidMet TP [("pub-marram/pub/hcsshim/ext4/inner/compactext4.xattrPrefixes",Rows.laid_pub_marram_pub_hcsshim_ext4_inner_compactext4_xattrPrefixes)] W):HU (allR W.heap):=by
 obtain⟨ps,⟨g,t,cs,fuel,p,q,hg,ht,a,hd,_,_⟩,_⟩:=h;have n : TP.globalNamed "pub-marram/pub/hcsshim/ext4/inner/compactext4.xattrPrefixes" = some 4:=by kernel_rfl
 have ah:(TP.globals[4]?).map (·.type)=some 342:=by kernel_rfl
 obtain rfl:4=g:=V0 (n.symm.trans hg);obtain rfl:342=t:=V0 (ah.symm.trans ht);unfold World.var? at a;rw[n] at a;simp only[Option.bind_some] at a;split at a
 ·rename_i c T fz hb;simp only[M2] at a;subst a;obtain⟨y,hy⟩:=WE hb;refine⟨c,T,fz,y,hy,fun i hi=>?_⟩;rw[AGq] at hd;obtain⟨xs,m,_,v,hl,ai,f⟩:=DataW.trod_array ARW hd;simp only[D7,DataW.agg.injEq] at v;obtain⟨v,_⟩:=v;rw[AH7] at f;have hj:∀ j (r:Nat×Bs),PX[j]? = some r->(c.toList.drop (j*2)).take 2=[.int .u8 (r.1:Nat),str r.2]:=fun j r u=>by
   have ae:j<7:=(G0.1 u).1;have w:=f j ae;have d:xs[j]?.map (·.1)=some (pxD r):=by
    rw[<-Y0,<-v,Y0,u];rfl
   cases s:xs[j]? with
   | none=>rw[s] at d;cases d
   | some x=>
    rw[s] at w d;simp only[N5,M2] at d;have:x=(pxD r,x.2):=by rw[<-d]
    rw[this] at w;exact AHA w
  have b:∀ j (r:Nat×Bs),PX[j]? = some r->c[j*2]? = some (.int .u8 (r.1:Nat))/\c[j*2+1]? = some (str r.2):=fun j r u=>by
   have e:=hj j r u;have e0:=J3 (fun l:List Vz=>l[0]?) e;have e1:=J3 (fun l:List Vz=>l[1]?) e;simp only[I2,Q3,Q7] at e0 e1;exact⟨e0,e1⟩
  have o:i=0\/i=1\/i=2\/i=3\/i=4\/i=5\/i=6\/i=7\/i=8\/i=9\/i=10\/i=11\/i=12\/i=13:=by omega
  rcases o with rfl|rfl|rfl|rfl|rfl|rfl|rfl|rfl|rfl|rfl|rfl|rfl|rfl|rfl
  ·exact (b 0 _ rfl).1
  ·exact (b 0 _ rfl).2
  ·exact (b 1 _ rfl).1
  ·exact (b 1 _ rfl).2
  ·exact (b 2 _ rfl).1
  ·exact (b 2 _ rfl).2
  ·exact (b 3 _ rfl).1
  ·exact (b 3 _ rfl).2
  ·exact (b 4 _ rfl).1
  ·exact (b 4 _ rfl).2
  ·exact (b 5 _ rfl).1
  ·exact (b 5 _ rfl).2
  ·exact (b 6 _ rfl).1
  ·exact (b 6 _ rfl).2
 ·cases a
def sx {f:FuncId}{args:List Vz}{W:World}(h:Call TP f args W.heap fun v c=>v=.bool true/\∃ y,AN (y+allR W.heap) c) :
  Calls TP f args.toArray W fun e a=>e=.returned  AI /\a.os=W.os/\a.output=W.output/\∀ (b:Nat) (o:Obj),W.heap[b]? = some o->a.heap[b]? = some o:=by
 refine (h W rfl).mono fun e a q=>?_;cases e with
 | returned v=>
  obtain⟨⟨s1,s2⟩,rfl,y,w⟩:=q;exact⟨rfl,s1,s2,fun b o d=>qz w d⟩
 | _=>exact q.elim
def AGo {W a:World}{c:MemPlace->Prop}(e:a.os=W.os)(f:a.output=W.output)(g:∀ (b:Nat) (o:Obj),W.heap[b]? = some o->a.heap[b]? = some o):W.keptBut a c:=by
 refine⟨e,f,fun i hi=>?_⟩;have d:W.heap[i]? = some W.heap[i]:=K8 hi;rw[g i _ d,d];cases W.heap[i]<;>simp
def AHQ {W c:World}{g:List MemPlace}(d:∀ p∈g,p.block<W.heap.size)(e:∀ (b:Nat) (o:Obj),W.heap[b]? = some o->c.heap[b]? = some o):∀ p∈g,W.sameAt c p:=fun p i=>by
 have f:=d p i;cases p with
 | cell b off=>
  have a:W.heap[b]? = some W.heap[b]:=K8 f;show c.cell? _=W.cell? _;unfold World.cell?;simp only[e b _ a,a]
 | map b=>
  have a:W.heap[b]? = some W.heap[b]:=K8 f;show c.heap[b]? = W.heap[b]?;rw[e b _ a,a]
def Sg {a p n:Nat}{r:Bs}(h:4<=p):leL (Ag a++r) p n=leL r (p-4) n:=Cm (by rw[BK];omega)
def Sf {a p n:Nat}{r:Bs}(h:2<=p):leL (BR a++r) p n=leL r (p-2) n:=Cm (by rw[Ba];omega)
def ANS {c:UInt8}{p n:Nat}{r:Bs}(h:1<=p):leL ([c]++r) p n=leL r (p-1) n:=Cm (by show p=1+_;omega)
def ANT {m p n:Nat}{r:Bs}(h:m<=p):leL (List.replicate m 0++r) p n=leL r (p-m) n:=Cm (by rw[M0];omega)
set_option maxHeartbeats 2000000 in
def AOK {f:Nat->Nat}:leL (KR f) 0 4=f 0%4294967296/\leL (KR f) 4 4=f 1%4294967296/\leL (KR f) 20 4=f 5%4294967296/\leL (KR f) 24 4=f 6%4294967296/\leL (KR f) 32 4=f 8%4294967296/\leL (KR f) 40 4=f 10%4294967296/\leL (KR f) 56 2=f 15%65536/\leL (KR f) 58 2=f 16%65536/\leL (KR f) 76 4=f 22%4294967296/\leL (KR f) 84 4=f 25%4294967296/\leL (KR f) 88 2=f 26%65536/\leL (KR f) 92 4=f 28%4294967296/\leL (KR f) 96 4=f 29%4294967296/\leL (KR f) 100 4=f 30%4294967296/\leL (KR f) 336 4=f 177%4294967296/\leL (KR f) 12 4=f 3%4294967296/\leL (KR f) 344 4=f 179%4294967296/\leL (KR f) 16 4=f 4%4294967296:=by
 unfold KR;simp only[U2,P0,Nat.reduceMul];refine⟨?_,?_,?_,?_,?_,?_,?_,?_,?_,?_,?_,?_,?_,?_,?_,?_,?_,?_⟩
 all_goals
  try simp (disch:=decide) only[Sg,Sf,ANS,ANT,Nat.reduceSub]
  first|exact Eh|exact Fx
def ARE {eh vd fi inc:Nat}(hi:eh<4294967296)(t:vd<4294967296)(q:fi<4294967296)(a:inc=578\/inc=33346):SbOK (KR (NS eh vd fi inc)) vd eh/\leL (KR (NS eh vd fi inc)) 12 4=0/\leL (KR (NS eh vd fi inc)) 344 4=0/\leL (KR (NS eh vd fi inc)) 16 4=fi:=by
 have s:=Jz (NS eh vd fi inc);obtain⟨a1,a2,a3,a4,a5,a6,a7,n,o,b,c,d,e,g,i,j,l,m⟩:=AOK (f:=NS eh vd fi inc);have p:inc%4294967296=inc:=by rcases a with rfl|rfl<;>rfl
 refine⟨⟨s,a1.trans (C2 hi),a2.trans (C2 t),a3,a4,a5,a6.trans (C2 hi),a7,n,o,b,c,d,?_,g,i⟩,j,l,m.trans (C2 q)⟩;rw[e];show inc%4294967296=578\/inc%4294967296=33346;rw[p];exact a
end Go.Proofs.YtollddkkdgoonaaGreatDoor
