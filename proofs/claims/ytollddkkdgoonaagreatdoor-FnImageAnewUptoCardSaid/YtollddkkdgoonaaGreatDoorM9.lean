/- A step. No condition. -/
import Derived.Test.YtollddkkdgoonaaGreatDoorM8
namespace Go.Proofs.YtollddkkdgoonaaGreatDoor
open Go
set_option linter.unusedVariables false
set_option linter.unusedSimpArgs false
set_option linter.defProp false
set_option maxRecDepth 100000
variable {h:H} {k:Value->Prop} {kt Q:Kt} {x y z r:Res}
section
variable {v:VS}
theorem XN.one {X:XN}{a1 a2 a3:Option Addr}{n1 n2 b c1 c2 a:Nat}:(X.cells (.slice a1 n1 c1) (.slice a2 n2 c2) (.slice a3 b a)).all Value.oneCell'=true:=rfl
attribute [local irreducible] BJ CR Ak Bc An Aa AK Ac VS.cells XN.cells
section
variable {X X':XN} {xv rv bv:Vz} {b rest C o':Bs} {cl:List Nat} {x4 x5 x6 x8 n:Nat}
abbrev fR (x4 x5 x6:Nat)(bv:Vz):Res:=pts x6 (.cells ⟨[AH ((24:Nat):Int)]⟩ 48 (0,0))+(pts x5 (.cells ⟨[bv]⟩ 30 (0,0))+pts x4 (.cells ⟨qw.cells cst__slice_none_0_0 cst__slice_none_0_0 cst__slice_none_0_0 ⟩ 81 (0,0)))
def secOK (X:XN):Prop:=if X.ed &&& 262144≠0 then X.sec=X.blk else X.sec=X.blk*8
def IQ {I:Bs}{nb:Nat}{e:Bs}(cr:ContR I nb X e rest C X' cl):X'.ed=X.ed/\X'.sec=X.sec/\X'.en=X.en/\X'.size=X.size/\X'.ek=X.ek/\X'.num=X.num:=by
 cases cr<;>exact⟨rfl,rfl,rfl,rfl,rfl,rfl⟩
def APs {rec1:Vz->Vz->H->Prop}{g:Vz}{m:Nat}(ok:v.OK x)(db:RdX x bv b)(hb:b.length=256)(dr:RdX (y+x) rv rest)(l:rest.length<100000)(cr:ContR v.I v.nb X ((b.drop 40).take 60) rest C X' cl)(c:Clm cl v.ow o')(hm:X.en<65536)(f:X.ed<4294967296)(o:secOK X')(aj:X'.blk<1000000)(ai:X'.sec<18446744073709551616)(d:∃ a n c,xv=.slice a n c)
  (w:AN (v.res+(pts x8 (.cells ⟨X.cells  cst__slice_none_0_0   cst__slice_none_0_0 xv⟩ 81 (0,0))+(fR x4 x5 x6 bv+(y+x)))) h)
  (K:∀ cv z h,RdX z cv C->(v.own o').OK x->AN ((v.own o').res+(z+(y+x))) h->Q (.agg ⟨X'.cells cv  cst__slice_none_0_0 xv⟩) h) :
  MJ Q rec1 (Pt v.vb) (AH (n:Nat)) (Pt x4) (Pt x5) (Pt x8) g (AB (m:Nat)) rv (AB (m:Nat)) h:=by
 have cf:=IQ cr;unfold MJ BL;have e1:decide ((m:Int)<(m:Int))=false:=J0 (by omega);rw[AR,e1,AJ];refine Af w (by rfl) ?_;refine AGE (ASe ok.mono.mono db.bf.bf hb dr.bf l cr c hm f w fun cv y' h e ao w=>?_);have p:(v.own o').OK x:=ok.own c.len;have ah:X'.ed<4294967296:=by rw[cf.1];exact f
 have ae:X'.ed &&& 262144<=X'.ed:=O7;have fin:∀ h,AN ((v.own o').res+(pts x8 (.cells ⟨X'.cells cv cst__slice_none_0_0  xv⟩ 81 (0,0))+(y'+(fR x4 x5 x6 bv+(y+x))))) h->Ae true 23 (Pt x8) h fun i=>BV 23 (Pt x4) i h fun h=>Ae true 23 (Pt x4) h fun v=>Q v h:=by
  intro h w;refine BD w XN.len ?_;refine AD w ⟨X'.cells cv  cst__slice_none_0_0 xv⟩ (AU (by rw[XN.size_];exact XN.len)) XN.size_ (by rw[XN.size_];omega) ?_ fun h w=>?_
  ·obtain⟨ca,cc,j⟩:=e.len;obtain⟨xa,xn,xc,d⟩:=d;show (X'.cells cv  cst__slice_none_0_0 xv).all Value.oneCell'=true;rw[j,d];exact XN.one
  ·refine BD w XN.len ?_;have k1:∀ V u Y' t s q Y X:Res,V+(u+(Y'+((t+(s+q))+(Y+X))))=V+((Y'+(u+(t+(s+q))))+(Y+X)):=by intros;ac_rfl
   refine K cv _ h ?_ p (w.cast (k1 _ _ _ _ _ _ _ _));exact e.an
 simp (disch:=omega) only[go_sem,AC w];unfold secOK at o;refine AS (fun hc=>?_) (fun hc=>?_)
 ·rw[D0 (by omega)] at o;have e2:decide ((X'.sec:Int)=(X'.blk:Int))=true:=H0 (by omega);rw[e2];exact BH (EW (fin h w))
 ·rw[F0 (by omega)] at o;have e2:decide ((X'.sec:Int)=((X'.blk*8:Nat):Int))=true:=H0 (by omega);rw[e2];exact BH (EW (fin h w))
def ew:Bs:=[115,121,115,116,101,109,46,100,97,116,97]
def xaOf (l:List (Bs×Bs)):List (Bs×Bs):=l.filter fun p=>decide (p.1≠ew)
def restOf (l:List (Bs×Bs)):Bs:=l.foldl (fun r p=>if p.1=ew then p.2 else r) []
def KG {l:List (Bs×Bs)}{p:Bs×Bs}:xaOf (l++[p])=if p.1=ew then xaOf l else xaOf l++[p]:=by
 unfold xaOf;rw[L5];by_cases h:p.1=ew<;>simp[h]
def My {l:List (Bs×Bs)}{p:Bs×Bs}:restOf (l++[p])=if p.1=ew then p.2 else restOf l:=by
 unfold restOf;rw[M6];rfl
theorem ANq {lv:Vz}{cs:List Vz}{l:List (Bs×Bs)}(d:VecX 86 2 lv l.length cs y)(A:AtV y cs l)(hn:l.length<1000000)(ah:(∃ p∈l,p.1=ew)->X.inl=true)
  (w:AN (v.res+(pts x8 (.cells ⟨X.cells  cst__slice_none_0_0   cst__slice_none_0_0 cst__slice_none_0_0 ⟩ 81 (0,0))+(fR x4 x5 x6 bv+(y+x)))) h)
  (K:∀ (rec1:Vz->Vz->H->Prop) rv xv cs r z h,RdX (z+y) rv (restOf l)->Vec 86 2 xv (xaOf l).length cs r->AtV y cs (xaOf l)->AN (v.res+(pts x8 (.cells ⟨X.cells cst__slice_none_0_0 cst__slice_none_0_0 xv⟩ 81 (0,0))+(fR x4 x5 x6 bv+((r+(z+y))+x)))) h->MJ Q rec1 (Pt v.vb) (AH (n:Nat)) (Pt x4) (Pt x5) (Pt x8) lv (AB (l.length:Nat)) rv (AB (l.length:Nat)) h) :
  OU Q (Pt v.vb) (AH (n:Nat)) (Pt x4) (Pt x5) (Pt x8) lv (AB (l.length:Nat))  cst__slice_none_0_0 (AB ((0:Nat):Int)) h:=by
 unfold OU;refine DF (fun m u0 u1 t=>∃ i rv xv cs r z,m=l.length-i/\i<=l.length/\u0=rv/\u1=AB (i:Nat)/\RdX y rv (restOf (l.take i))/\Vec 86 2 xv (xaOf (l.take i)).length cs r/\AtV y cs (xaOf (l.take i))/\AN (v.res+(pts x8 (.cells ⟨X.cells  cst__slice_none_0_0   cst__slice_none_0_0  xv⟩ 81 (0,0))+(fR x4 x5 x6 bv+((r+(z+y))+x)))) t) l.length
  ⟨0,_,.slice none 0 0,[],0,0,rfl,Q2 _,rfl,rfl,.inl ⟨none,0,rfl,by simp[restOf]⟩,.nil,.nil,by rw[Res.zero_add,Res.zero_add];exact w⟩ ?_
 rintro rec m u0 u1 t ⟨i,rv,xv,g,r,z,rfl,hi,rfl,rfl,dr,dx,q,w⟩ f;rcases P5 i l.length with c|ao
 ·obtain⟨p,hp⟩:∃ p,l[i]? = some p:=⟨_,B0 c⟩;obtain⟨u,hu,s⟩:=LC A hp;obtain⟨ua,uc,j⟩:=s.len;have ar:(xaOf (l.take i)).length<=i:=C6 (G7 _ _) (by simp;omega);have a:l.take (i+1)=l.take i++[p]:=by rw[O3,hp];rfl
  have ai:p∈l:=D1 hp;unfold MJ BL;have e1:decide ((i:Int)<(l.length:Int))=true:=H0 (by omega);rw[AR,e1,Ab];refine (d.bf.bf.an.bf.bf.bf:VecX 86 2 lv l.length cs _).agg w c ?_;rw[hu];refine AV w CU rfl fun b14 h w=>?_;refine AD w ⟨[str p.1,u]⟩ rfl rfl (by simp) (by rw[j];rfl) fun h w=>?_;rw[show (.string ⟨#[115,121,115,116,101,109,46,100,97,116,97]⟩:Vz)=str ew from rfl];have k1:∀ B V P F R Z Y X:Res,B+(V+(P+(F+((R+(Z+Y))+X))))=V+(P+(F+((R+((B+Z)+Y))+X))):=by intros;ac_rfl
  have f1:(AQ .add (AB (i:Nat))  AX)=fun k=>k (AB (i+1:Nat)):=funext fun k=>by
   rw[Az (n:=1),Bq (by omega)]
  have w:AN (pts b14 (.cells ⟨[str p.1,u]⟩ 86 (0,0))+(v.res+(pts x8 (.cells ⟨X.cells  cst__slice_none_0_0   cst__slice_none_0_0 xv⟩ 81 (0,0))+(fR x4 x5 x6 bv+((r+(z+y))+x))))) h:=w;have g0:(⟨[str p.1,u]⟩:Array Vz)[0]? = some (str p.1):=rfl;have g1:(⟨[str p.1,u]⟩:Array Vz)[1]? = some u:=rfl;simp (disch:=omega) only[go_sem,AC w,g0,g1,f1];refine AS (fun e=>?_) (fun e=>?_)
  ·rw[ah ⟨p,ai,e⟩];refine BH (EW ?_);refine f (l.length-(i+1)) _ _ _ ⟨i+1,u,xv,g,r,_,rfl,c,rfl,rfl,?_,?_,?_,w.cast (k1 _ _ _ _ _ _ _ _)⟩ (by omega)
   ·rw[a,My,D0 e];exact s
   ·rw[a,KG,D0 e];exact dx
   ·rw[a,KG,D0 e];exact q
  ·refine BD w rfl ?_;have k2:∀ B V P F R Z Y X:Res,B+(V+(P+(F+((R+(Z+Y))+X))))=R+(V+(P+(F+(((B+Z)+Y)+X)))):=by intros;ac_rfl
   refine CN dx (w.cast (k2 _ _ _ _ _ _ _ _)) CU rfl rfl (by omega) (by omega) (by rw[j];rfl) fun aj h w=>?_;refine CA dx w CU rfl rfl (by rw[j];rfl) (by omega) (by omega) fun xv' r' h o w=>?_;have k3:∀ V P F R Z Y X:Res,R+(V+(P+(F+((Z+Y)+X))))=V+(P+(F+((R+(Z+Y))+X))):=by intros;ac_rfl
   have w:=w.cast (k3 _ _ _ _ _ _ _);obtain⟨⟨a',c',b⟩,_⟩:=o.len;refine AD w ⟨X.cells  cst__slice_none_0_0 cst__slice_none_0_0  xv'⟩ (by rw[b];exact XN.set20) (by rw[b];rfl) (by rw[XN.size_];omega) (by rw[b];rfl) fun h w=>?_;refine f (l.length-(i+1)) _ _ _ ⟨i+1,u0,xv',g++[str p.1,u],r',_,rfl,c,rfl,rfl,?_,?_,?_,w⟩ (by omega)
   ·rw[a,My,F0 e];exact dr
   ·rw[a,KG,F0 e,C0];exact o
   ·rw[a,KG,F0 e];exact q.eu s
 ·have ae:i=l.length:=by omega
  subst ae;rw[L1] at dr dx q;exact K rec u0 xv g r z t dr.bf dx q w
end
end
section
variable {v:VS}
def XN.times {X:XN}{cv ev xv:Vz}:(⟨X.cells cv ev xv⟩:Array Vz).extract 8 (8+2)=⟨CW X.at_⟩/\(⟨X.cells cv ev xv⟩:Array Vz).extract 10 (10+2)=⟨CW X.ct⟩/\(⟨X.cells cv ev xv⟩:Array Vz).extract 12 (12+2)=⟨CW X.mt⟩/\(⟨X.cells cv ev xv⟩:Array Vz).extract 14 (14+2)=⟨CW X.cr⟩:=⟨rfl,rfl,rfl,rfl⟩
attribute [local irreducible] BJ CR Ak Bc An Aa AK Ac VS.cells XN.cells
def WO {kt:Kt}{d e f g:Nat×Nat}(w:AN x h)(K:∀ b h,AN (pts b (.cells ⟨CW d++(CW e++(CW f++CW g))⟩ 60 (0,0))+x) h->kt (.slice (some ⟨b,0,none⟩) 4 4) h) :
  AK (.arr 2) 60 (Am TP 60) 2 4 [(0,.agg ⟨CW d⟩),(1,.agg ⟨CW e⟩),(2,.agg ⟨CW f⟩),(3,.agg ⟨CW g⟩)] h kt:=by
 unfold AK;refine⟨_,⟨CW d++(CW e++(CW f++CW g))⟩,Ny,by omega,?_,fun b i ex a c=>K b i (w.new ex a c)⟩;rw[F0 (by omega)];have j:BN (Value.agg ⟨[AB 0,AB 0]⟩).cells (4*2)=⟨List.replicate 8  AF ⟩:=by kernel_rfl
 rw[j];refine EE _ _ _ ?_;rfl
section
variable {X X':XN} {bv:Vz} {b C o':Bs} {cl:List Nat} {l:List (Bs×Bs)} {x4 x5 x6 x8 n tb:Nat}
def inoX1 (b:Bs)(n:Nat):XN:={MO b n with inl:=decide (leL b 32 4 &&& 268435456≠0)}
structure InoOK (I:Bs) (nb:Nat) (b:Bs) (n:Nat) (X':XN) (C:Bs) (l:List (Bs×Bs)) (cl:List Nat):Prop where
 len:b.length=256
 ex:leL b 128 2=24
 kind:kindL (leL b 0 2)≠0
 del:leL b 20 4=0
 ns:leL b 140 4<4000000000/\leL b 132 4<4000000000/\leL b 136 4<4000000000/\leL b 148 4<4000000000
 xa:XaR b l
 nd:NoDup2 l
 ll:l.length<1000000
 inl:(∃ p∈l,p.1=ew)->(inoX1 b n).inl=true
 rl:(restOf l).length<100000
 con:ContR I nb (inoX1 b n) ((b.drop 40).take 60) (restOf l) C X' cl
 sec:secOK X'
 blk:X'.blk<1000000
theorem APt (ok:v.OK x)(db:RdX x bv b)(io:InoOK v.I v.nb b n X' C l cl)(c:Clm cl v.ow o')
  (w:AN (v.res+(pts x8 (.cells ⟨(MO b n).cells  cst__slice_none_0_0 cst__slice_none_0_0 cst__slice_none_0_0 ⟩ 81 (0,0))+(fR x4 x5 x6 bv+(y+x)))) h)
  (K:∀ cv xv cs z h,RdX z cv C->VecX 86 2 xv (xaOf l).length cs z->AtV z cs (xaOf l)->(v.own o').OK x->AN ((v.own o').res+(z+x)) h->Q (.agg ⟨X'.cells cv  cst__slice_none_0_0  xv⟩) h) :
  Aw 7 (Pt x8) fun i=>Ae false 1 i h fun j=>AQ .and j (AH 268435456) fun m=>AQ .neq m AO  fun o=>Aw 21 (Pt x8) fun p=>BV 1 p o h fun h=>Ae false 1 (Pt x5) h fun q=>Ae false 1 (Pt x6) h fun s=>Call TP 178 [Pt v.vb,Pt x8,q,s] h fun a h=>DM a fun t=>OU Q (Pt v.vb) (AH (n:Nat)) (Pt x4) (Pt x5) (Pt x8) a t  cst__slice_none_0_0   AF  h:=by
 have ai:leL b 32 4<4294967296:=Ar;have aj:leL b 0 2<65536:=Ar;have au:leL b 28 4<4294967296:=Ar;have ar:leL b 116 2<65536:=Ar;have ae:(MO b n).ed=leL b 32 4:=rfl;simp (disch:=omega) only[go_sem,AC w];refine AD w ⟨(inoX1 b n).cells cst__slice_none_0_0   cst__slice_none_0_0   cst__slice_none_0_0⟩ ?_ rfl (by rw[XN.size_];omega) rfl fun h w=>?_
 ·have e:decide (((leL b 32 4 &&& 268435456:Nat):Int)≠0)=decide (leL b 32 4 &&& 268435456≠0):=decide_eq_decide.2 (by omega);rw[ae,e];exact XN.set21
 refine Af w (by rfl) ?_;refine Af w (by rfl) ?_;have g:(⟨(inoX1 b n).cells  cst__slice_none_0_0 cst__slice_none_0_0   cst__slice_none_0_0 ⟩:Array Vz)[0]? = some (AH (n:Nat)):=XN.g0;refine AGD (ASd ok.mono.mono db.bf.bf io.xa io.nd io.ll w g fun lv cs y' h d A w=>?_);obtain⟨⟨la,lc,f⟩,_⟩:=d.len;rw[f,As,<-f];have k1:∀ V P F Y' Y X:Res,V+(P+(Y'+(F+(Y+X))))=V+(P+(F+((Y'+Y)+X))):=by intros;ac_rfl
 refine ANq d.an A.an io.ll io.inl (w.cast (k1 _ _ _ _ _ _)) fun rec1 rv xv cs r z h dr dx A w=>?_;obtain⟨⟨xa,xc,ah⟩,_⟩:=dx.len;have cf:=IQ io.con;refine APs ok db io.len dr.bf.an io.rl io.con c aj ai io.sec io.blk (by rw[cf.2.1];show leL b 28 4+leL b 116 2*4294967296<18446744073709551616;omega) ⟨_,_,_,ah⟩ w fun cv z' h u ao w=>?_;exact K cv xv cs _ h u.an dx.vx.an.bf A.mono.mono.mono ao (w.cast (Kq3 _ _ _ _))
def ART {X:XN}(b:X.at_.2<4000000000/\X.ct.2<4000000000/\X.mt.2<4000000000/\X.cr.2<4000000000)(i:Nat)(hi:i<4):∃ a c:Int,((CW X.at_++(CW X.ct++(CW X.mt++CW X.cr))).drop (i*2)).take 2=[AB a,AB c]/\c<1000000000:=by
 have:i=0\/i=1\/i=2\/i=3:=by omega
 rcases this with rfl|rfl|rfl|rfl<;>refine⟨_,_,rfl,?_⟩<;>omega
theorem ANr {X:XN}(ok:v.OK x)(ai:X.at_.2<4000000000/\X.ct.2<4000000000/\X.mt.2<4000000000/\X.cr.2<4000000000)
  (w:AN (v.res+(pts x8 (.cells ⟨X.cells  cst__slice_none_0_0   cst__slice_none_0_0 cst__slice_none_0_0 ⟩ 81 (0,0))+(fR x4 x5 x6 bv+((pts tb (.cells ⟨CW X.at_++(CW X.ct++(CW X.mt++CW X.cr))⟩ 60 (0,0))+y)+x)))) h)
  (K:∀ y h,AN (v.res+(pts x8 (.cells ⟨X.cells cst__slice_none_0_0 cst__slice_none_0_0   cst__slice_none_0_0 ⟩ 81 (0,0))+(fR x4 x5 x6 bv+(y+x)))) h ->
   Aw 7 (Pt x8) fun g=>Ae false 1 g h fun j=>AQ .and j (AH 268435456) fun l=>AQ .neq l  AO  fun o=>Aw 21 (Pt x8) fun p=>BV 1 p o h fun h=>Ae false 1 (Pt x5) h fun q=>Ae false 1 (Pt x6) h fun s=>Call TP 178 [Pt v.vb,Pt x8,q,s] h fun b h=>DM b fun t=>OU Q (Pt v.vb) (AH (n:Nat)) (Pt x4) (Pt x5) (Pt x8) b t  cst__slice_none_0_0   AF  h) :
  Wu Q (Pt v.vb) (AH (n:Nat)) (Pt x4) (Pt x5) (Pt x6) (Pt x8) (.slice (some ⟨tb,0,none⟩) 4 4) (AB ((4:Nat):Int)) (AB ((0:Nat):Int)) h:=by
 unfold Wu;refine Bj (fun m u h'=>∃ i y,m=4-i/\i<=4/\u=AB (i:Nat)/\AN (v.res+(pts x8 (.cells ⟨X.cells cst__slice_none_0_0   cst__slice_none_0_0 cst__slice_none_0_0 ⟩ 81 (0,0))+(fR x4 x5 x6 bv+((pts tb (.cells ⟨CW X.at_++(CW X.ct++(CW X.mt++CW X.cr))⟩ 60 (0,0))+y)+x)))) h') 4 ⟨0,y,rfl,by omega,rfl,w⟩ ?_;rintro rec m u h' ⟨i,y,rfl,hi,rfl,w⟩ f;unfold Ws BL;rw[AR];refine AS (fun hc=>?_) (fun hc=>K _ h' w);have e:i<4:=by omega
 obtain⟨a,c,ae,ah⟩:=ART ai i e;have d:Vec 60 2 (.slice (some ⟨tb,0,none⟩) 4 4) 4 (CW X.at_++(CW X.ct++(CW X.mt++CW X.cr))) (pts tb (.cells ⟨CW X.at_++(CW X.ct++(CW X.mt++CW X.cr))⟩ 60 (0,0))):=.own' (I0 _) rfl rfl;refine (d.vx.an.an.bf.bf.bf:VecX 60 2 _ 4 _ _).agg w e ?_;rw[ae];refine AV w Ny rfl fun aj h w=>?_;refine AD w ⟨[AB a,AB c]⟩ rfl rfl (by simp) rfl fun h w=>?_;have g1:(⟨[AB a,AB c]⟩:Array Vz)[1]? = some (AB c):=rfl;have e1:decide (c<1000000000)=true:=H0 ah;have f1:(AQ .add (AB (i:Nat))  AX )=fun k=>k (AB (i+1:Nat)):=funext fun k=>by
  rw[Az (n:=1),Bq (by omega)]
 simp (disch:=omega) only[go_sem,AC w,g1,f1];rw[e1];refine BH (EW ?_);have k1:∀ B V P F T Y X:Res,B+(V+(P+(F+((T+Y)+X))))=V+(P+(F+((T+(B+Y))+X))):=by intros;ac_rfl
 exact f (4-(i+1)) _ _ ⟨i+1,_,rfl,by omega,rfl,w.cast (k1 _ _ _ _ _ _ _)⟩ (by omega)
theorem ANo (ok:v.OK x)(db:RdX x bv b)(io:InoOK v.I v.nb b n X' C l cl)(c:Clm cl v.ow o')
  (w:AN (v.res+(pts x8 (.cells ⟨(MO b n).cells  cst__slice_none_0_0 cst__slice_none_0_0 cst__slice_none_0_0 ⟩ 81 (0,0))+(fR x4 x5 x6 bv+(y+x)))) h)
  (K:∀ cv xv cs z h,RdX z cv C->VecX 86 2 xv (xaOf l).length cs z->AtV z cs (xaOf l)->(v.own o').OK x->AN ((v.own o').res+(z+x)) h->Q (.agg ⟨X'.cells cv  cst__slice_none_0_0  xv⟩) h) :
  MK Q (Pt v.vb) (AH (n:Nat)) (Pt x4) (Pt x5) (Pt x6) (Pt x8) h:=by
 have g:leL b 0 2<65536:=Ar;have i:=io.len;have e:(MO b n).en=leL b 0 2:=rfl;have j:kindL (leL b 0 2)≠0:=io.kind;unfold MK AW;rw[Ai];refine Af w XN.g1 ?_;refine Fk (qn g ?_);have e1:decide ((kindL (leL b 0 2):Int)≠0)=true:=H0 (by omega);rw[Ay,e,e1];refine BH (EW ?_);refine Af w (by rfl) ?_;refine ES (p:=20) (n:=4) db.bf.bf.bf.bf w (by decide) (by decide) (by omega) ?_;rw[io.del,AT,show decide (((0:Nat):Int)=0)=true from rfl];refine BH (EW ?_);have d:=w.find (b:=x8);have f:=XN.times (X:=MO b n) (cv:=.slice none 0 0) (ev:=.slice none 0 0) (xv:=.slice none 0 0);have a:∀ o,o<=21->o+2<=(⟨(MO b n).cells cst__slice_none_0_0   cst__slice_none_0_0   cst__slice_none_0_0⟩:Array Vz).size:=fun o m=>by rw[XN.size_];omega
 rw[Ai,BC d (a 8 (by omega)),f.1,Ai,BC d (a 10 (by omega)),f.2.1,Ai,BC d (a 12 (by omega)),f.2.2.1,Ai,BC d (a 14 (by omega)),f.2.2.2];refine WO w fun tb h w=>?_;rw[As];exact ANr ok ⟨io.ns.1,io.ns.2.1,io.ns.2.2.1,io.ns.2.2.2⟩ (w.cast (Kq7 _ _ _ _ _ _)) fun y h w=>APt ok db io c w K
def AHy:Am TP 30=some  cst__slice_none_0_0:=by kernel_rfl
theorem APr (ok:v.OK x)(o:1<=n)(q:n<=v.eh)(hit:itL v.I*4096+v.eh*256<=v.I.length)(io:InoOK v.I v.nb (rawL v.I n) n X' C l cl)(c:Clm cl v.ow o')(w:AN (v.res+(y+x)) h)
  (K:∀ cv xv cs z h,RdX z cv C->VecX 86 2 xv (xaOf l).length cs z->AtV z cs (xaOf l)->(v.own o').OK x->AN ((v.own o').res+(z+(y+x))) h->Q (.agg ⟨X'.cells cv cst__slice_none_0_0 xv⟩) h) :
  ALd (Pt v.vb) (AH (n:Nat)) h Q:=by
 unfold ALd AW;refine AV w Ev rfl fun x4 h w=>?_;have w:AN (v.res+(pts x4 (.cells ⟨qw.cells  cst__slice_none_0_0   cst__slice_none_0_0   cst__slice_none_0_0 ⟩ 81 (0,0))+(y+x))) h:=AN.cast w (Kq2 _ _ _);refine Nb (AHO (ok.mono (y:=y)) o q hit w fun bv db=>?_);obtain⟨s,i,a⟩:=db.len;have g:=io.len;refine AV w AHy rfl fun x5 h w=>?_;refine AD w ⟨[bv]⟩ (by rw[a];rfl) (by rw[a];rfl) (by simp) (by rw[a];rfl) fun h w=>?_;refine AV w Dt rfl fun x6 h w=>?_;refine AD w ⟨[AH 0]⟩ rfl rfl (by simp) rfl fun h w=>?_;have e0:decide ((256:Int)>128)=true:=rfl;simp (disch:=omega) only[go_sem,AC w,e0];refine ES (p:=128) (n:=2) db.bf.bf.bf.bf w (by decide) (by decide) (by omega) ?_;rw[io.ex];refine AD w ⟨[AH ((24:Nat):Int)]⟩ rfl rfl (by simp) rfl fun h w=>?_;refine Af (u:=AH ((24:Nat):Int)) w (by rfl) ?_;have f1:(AQ .add (AH 128) (AH ((24:Nat):Int)))=fun k=>k (AH ((152:Nat):Int)):=funext fun k=>by rw[BT];rfl
 have f2:(AQ .leq (AH ((152:Nat):Int)) (AH 256))=fun k=>k  AI:=funext fun k=>by rw[BY];rfl
 have f3:(AQ .rem (AH ((24:Nat):Int)) (AH 4))=fun k=>k (AH ((0:Nat):Int)):=funext fun k=>by rw[Su (by decide)]
 have m:(AQ .eql (AH ((0:Nat):Int))  AO )=fun k=>k  AI :=funext fun k=>by rw[AT];rfl
 simp only[f1];refine Af w VS.g7 ?_;simp only[f2,CV];refine Af (u:=AH ((24:Nat):Int)) w (by rfl) ?_;simp only[f3,m];refine BH (EW ?_);have k1:∀ e d V b X:Res,e+(d+(V+(b+X)))=(e+(d+(b+V)))+(0+X):=by intros;rw[Res.zero_add];ac_rfl
 refine ANp db (by omega) (fun x8 t h w=>?_) (w.cast (k1 _ _ _ _ _));have k2:∀ f e d b V Y X:Res,(f+(e+(d+(b+V))))+(Y+X)=V+(f+((e+(d+b))+(Y+X))):=by intros;ac_rfl
 exact ANo (ok.mono (y:=y)) db io c (w.cast (k2 _ _ _ _ _ _ _)) fun cv xv cs z h j dx A _ w=>K cv xv cs z h j dx A (ok.own c.len) w
end
abbrev EN:=Bs×Nat×Nat
def EN.cells (e:EN):List Vz:=[str e.1,AH (e.2.1:Nat),AH (e.2.2:Nat)]
def entC (l:List EN):List Vz:=l.flatMap EN.cells
def Ie:Am TP 114=some (.agg ⟨[str [],AH 0,AH 0]⟩):=by kernel_rfl
inductive EntR:Bs->List EN->Prop
 | nil:EntR [] []
 | skip {b:Bs} {l:List EN}:8<=b.length->8<=leL b 4 2->leL b 4 2%4=0->leL b 4 2<=b.length->8+leL b 6 1<=leL b 4 2->leL b 0 4=0->EntR (b.drop (leL b 4 2)) l->EntR b l
 | step {b:Bs} {l:List EN}:8<=b.length->8<=leL b 4 2->leL b 4 2%4=0->leL b 4 2<=b.length->8+leL b 6 1<=leL b 4 2->leL b 0 4≠0->0<leL b 6 1->EntR (b.drop (leL b 4 2)) l->EntR b (((b.drop 8).take (leL b 6 1),leL b 0 4,leL b 7 1)::l)
theorem EntR.len:∀ {b:Bs} {l:List EN},EntR b l->l.length<=b.length
 | _,_,.nil=>I0 _
 | _,_,.skip _ _ _ _ _ _ e=>by
  have:=e.len;rw[J2] at this;omega
 | _,_,.step _ _ _ _ _ _ _ e=>by
  have:=e.len;rw[J2] at this;rw[J1];omega
theorem EntR.inv:∀ {b:Bs} {l:List EN},EntR b l->b≠[]->8<=b.length/\8<=leL b 4 2/\leL b 4 2%4=0/\leL b 4 2<=b.length/\8+leL b 6 1<=leL b 4 2 /\
  ((leL b 0 4=0/\EntR (b.drop (leL b 4 2)) l)\/(leL b 0 4≠0/\0<leL b 6 1/\∃ l2,l=((b.drop 8).take (leL b 6 1),leL b 0 4,leL b 7 1)::l2/\EntR (b.drop (leL b 4 2)) l2))
 | _,_,.nil,h=>absurd rfl h
 | _,_,.skip h1 h2 h3 h4 h5 h6 e,_=>⟨h1,h2,h3,h4,h5,.inl ⟨h6,e⟩⟩
 | _,_,.step h1 h2 h3 h4 h5 h6 h7 e,_=>⟨h1,h2,h3,h4,h5,.inr ⟨h6,h7,_,rfl,e⟩⟩
section
variable {X:XN} {cv ev xv bv x0:Vz} {b:Bs} {es:List Vz} {ib n:Nat} {l:List EN}
def ASf (d:RdX x bv b)(e:EntR b l)(hb:b.length<1000000)(dv:Vec 114 3 ev n es r)(hn:n<100000000)(w:AN (pts ib (.cells ⟨X.cells cv ev xv⟩ 81 (0,0))+(r+x)) h)
  (K:∀ ev r h,Vec 114 3 ev (n+l.length) (es++entC l) r->AN (pts ib (.cells ⟨X.cells cv ev xv⟩ 81 (0,0))+(r+x)) h->Q (.tuple #[]) h):AMP x0 (Pt ib) bv h Q:=by
 have hel0:l.length<=b.length:=e.len;unfold AMP AAs AW;refine Bj (fun m u h'=>∃ bv b l' n' es' ev r,m=b.length/\u=bv/\RdX x bv b/\EntR b l'/\b.length<1000000/\Vec 114 3 ev n' es' r/\n'+l'.length=n+l.length/\es'++entC l'=es++entC l/\AN (pts ib (.cells ⟨X.cells cv ev xv⟩ 81 (0,0))+(r+x)) h') b.length ⟨bv,b,l,n,es,ev,r,rfl,rfl,d,e,hb,dv,rfl,rfl,w⟩ ?_;rintro rec m u h' ⟨bv,b,l',n',es',ev,r,rfl,rfl,d,e,hb',dv,hl,hes,w⟩ hrec;have hel:=e.len;obtain⟨ba,bc',hbv⟩:=d.len;unfold Xz BL;rw[hbv,As,Ah,<-hbv];refine AS (fun hc=>?_) (fun hc=>?_)
 ·have hbn:b≠[]:=fun e0=>by subst e0;simp at hc
  obtain⟨g1,g2,g3,g4,g5,hor⟩:=e.inv hbn;have d3:RdX (pts ib (.cells ⟨X.cells cv ev xv⟩ 81 (0,0))+(r+x)) u b:=d.bf.bf;have l4:leL b 4 2<65536:=Ar;have l6:leL b 6 1<256:=Ar;have l0:leL b 0 4<4294967296:=Ar;have e1:decide ((b.length:Int)<8)=false:=J0 (by omega);have e2:decide ((leL b 4 2:Int)<8)=false:=J0 (by omega);have e3:(AQ .rem (AH (leL b 4 2:Nat)) (AH 4))=fun k=>k (AH ((0:Nat):Int)):=funext fun k=>by rw[Su (by decide),g3]
  have e4:(AQ .neq (AH ((0:Nat):Int)) AO)=fun k=>k  AE :=funext fun k=>by rw[Ay];rfl
  have e5:decide ((leL b 4 2:Int)>(b.length:Int))=false:=J0 (by omega);have f8:(AQ .add (AH 8) (AH (leL b 6 1:Nat)))=fun k=>k (AH ((8+leL b 6 1:Nat):Int)):=funext fun k=>by
   rw[BT,<-Dn (show 8+leL b 6 1<18446744073709551616 by omega)];rfl
  have e6:decide (((8+leL b 6 1:Nat):Int)>(leL b 4 2:Int))=false:=J0 (by omega);refine ES (p:=4) (n:=2) d3 w (by decide) (by decide) (by omega) ?_;refine ES (p:=6) (n:=1) d3 w (by decide) (by decide) (by omega) ?_;refine ES (p:=7) (n:=1) d3 w (by decide) (by decide) (by omega) ?_;rw[hbv,As,AR,e1,Bt,AR,e2,Bt];simp only[e3,e4,Bt];rw[As,Ea,Dn (by omega),Ah,e5,Bt];simp only[f8];rw[Ah,e6,<-hbv];unfold AAr AW;rw[AJ];refine ES (p:=0) (n:=4) d3 w (by decide) (by decide) (by omega) ?_;rw[Ay];have hdl:(b.drop (leL b 4 2)).length=b.length-leL b 4 2:=J2;refine AS (fun hc0=>?_) (fun hc0=>?_)
  ·rcases hor with⟨h0,_⟩|⟨h0,hp,l2,hl2,hr⟩
   ·omega
   ·subst hl2;have e7:decide ((leL b 6 1:Int)>0)=true:=H0 (by omega);rw[Ah,e7,Br];refine Af w XN.g0 ?_;refine BH (EW ?_);rw[Br];refine Af w XN.g19 ?_;simp only[f8];refine d.slice (i:=8) (j:=8+leL b 6 1) GM Bk (by omega) (by omega) fun nv dn=>?_;rw[V3,M4] at dn;refine dn.bf.bf.str w ?_;refine BA Ie rfl (rs:=EN.cells ((b.drop 8).take (leL b 6 1),leL b 0 4,leL b 7 1)) rfl ?_;refine CN dv (w.cast (Kq2 _ _ _)) Ie rfl rfl (by omega) (by omega) rfl fun b14 h w=>?_;refine Is w XN.g19 ?_;have hll:=J3 List.length hes;simp only[J1] at hl hel;refine CA dv w Ie rfl rfl rfl (by omega) (by omega) fun ev' r' h dv' w=>?_;rw[Br];obtain⟨⟨a',c',hev⟩,_⟩:=dv'.len;refine AD w ⟨X.cells cv ev' xv⟩ (by rw[hev];exact XN.set19) (by rw[hev];rfl) (by rw[XN.size_];omega) (by rw[hev];rfl) fun h w=>?_;refine d.slice (i:=leL b 4 2) (j:=b.length) Bk rfl g4 (I0 _) fun u' d'=>?_;rw[L1] at d';refine hrec _ _ _ ⟨u',b.drop (leL b 4 2),l2,n'+1,_,ev',r',rfl,rfl,d',hr,by omega,dv',by omega,?_,w.cast (Kq2 _ _ _)⟩ (by omega);rw[<-hes,P0];rfl
  ·rcases hor with⟨h0,hr⟩|⟨h0,_⟩
   ·refine d.slice (i:=leL b 4 2) (j:=b.length) Bk rfl g4 (I0 _) fun u' d'=>?_;rw[L1] at d';exact hrec _ _ _ ⟨u',b.drop (leL b 4 2),l',n',es',ev,r,rfl,rfl,d',hr,by omega,dv,hl,hes,w⟩ (by omega)
   ·omega
 ·have hb0:b=[]:=X4.1 (by omega);subst hb0;have hl0:l'=[]:=X4.1 (by simpa using hel);subst hl0;rw[show es'=es++entC l by simpa[entC] using hes] at dv;rw[show n'=n+l.length by simpa using hl] at dv;exact K ev r h' dv w
end
inductive BlkR:Bs->List EN->Prop
 | nil:BlkR [] []
 | cons {b:Bs} {l1 l2:List EN}:4096<=b.length->EntR (b.take 4096) l1->BlkR (b.drop 4096) l2->BlkR b (l1++l2)
theorem BlkR.len:∀ {b:Bs} {l:List EN},BlkR b l->l.length<=b.length/\b.length%4096=0
 | _,_,.nil=>⟨I0 _,rfl⟩
 | _,_,.cons h e r=>by
  have a:=e.len;have c:=r.len;rw[W1] at a;rw[J2] at c;rw[C0];omega
def UI {l m:List EN}:entC (l++m)=entC l++entC m:=by unfold entC;rw[W5]
theorem GR:∀ {l:List EN} {i:Nat} {e:EN},l[i]? = some e->(entC l)[i*3+0]? = some (str e.1)/\(entC l)[i*3+1]? = some (AH (e.2.1:Nat))/\(entC l)[i*3+2]? = some (AH (e.2.2:Nat))/\((entC l).drop (i*3)).take 3=e.cells
 | a::l,0,e,h=>by
  simp only[L4,M2] at h;subst h;exact⟨rfl,rfl,rfl,rfl⟩
 | a::l,i+1,e,h=>by
  have:=GR (l:=l) (i:=i) (e:=e) (by simpa using h);rw[show (i+1)*3+0=(i*3+0)+3 by omega,show (i+1)*3+1=(i*3+1)+3 by omega,show (i+1)*3+2=(i*3+2)+3 by omega,show (i+1)*3=i*3+3 by omega];exact this
 | [],_,_,h=>by simp at h
section
variable {X:XN} {cv ev xv bv x0:Vz} {b C:Bs} {es:List Vz} {ib n par:Nat} {l:List EN}
def ANw {x2:Vz}(d:RdX x bv b)(e:BlkR b l)(hb:b.length<10000000)(dv:Vec 114 3 ev n es r)(hn:n<=10000000)(w:AN (pts ib (.cells ⟨X.cells cv ev xv⟩ 81 (0,0))+(r+x)) h)
  (K:∀ ev r h,Vec 114 3 ev (n+l.length) (es++entC l) r->AN (pts ib (.cells ⟨X.cells cv ev xv⟩ 81 (0,0))+(r+x)) h->Ry Q x0 (Pt ib) x2 h):XO Q x0 (Pt ib) x2 bv h:=by
 have v:=e.len;unfold XO;refine Bj (fun m u o=>∃ bv b l' n' es' ev r,m=b.length/\u=bv/\RdX x bv b/\BlkR b l'/\b.length<10000000/\Vec 114 3 ev n' es' r/\n'+l'.length=n+l.length/\es'++entC l'=es++entC l/\AN (pts ib (.cells ⟨X.cells cv ev xv⟩ 81 (0,0))+(r+x)) o) b.length ⟨bv,b,l,n,es,ev,r,rfl,rfl,d,e,hb,dv,rfl,rfl,w⟩ ?_;rintro rec m u o ⟨bv,b,l',n',es',ev,r,rfl,rfl,d,e,ah,dv,hl,c,w⟩ f;have p:=e.len;obtain⟨ba,ae,a⟩:=d.len;unfold XI BL;rw[a,As,Bd,<-a];refine AS (fun t=>?_) (fun t=>?_)
 ·cases e with
  | nil=>simp at t
  | cons g1 g2 g3=>
   rename_i l1 l2;rw[C0] at hl p;refine d.slice (i:=0) (j:=4096) rfl GM (Q2 _) g1 fun u' q=>?_;rw[I5] at q;refine AGF (ASf q g2 (by rw[W1];omega) dv (by omega) w fun g r' h dv' w=>?_);refine d.slice (i:=4096) (j:=b.length) GM rfl g1 (I0 _) fun u2 s=>?_;rw[L1] at s;have ai:(b.drop 4096).length=b.length-4096:=J2;refine f _ _ _ ⟨u2,b.drop 4096,l2,n'+l1.length,es'++entC l1,g,r',rfl,rfl,s,g3,by omega,dv',by omega,?_,w⟩ (by omega);rw[P0,<-UI];exact c
 ·cases e with
  | nil=>
   rw[show es'=es++entC l by simpa[entC] using c] at dv;rw[show n'=n+l.length by simpa using hl] at dv;exact K ev r o dv w
  | cons g1 g2 g3=>omega
end
theorem VecX.pre {T:Tj}{sz n i:Nat}{kk:Iq}{v:Vz}{vs:List Vz}(d:VecX T sz v n vs x)(hi:i<=n)(K:∀ e,VecX T sz e i (vs.take (i*sz)) x->k e):Cf (.slice sz) v none (some (.int kk (i:Int))) k:=by
 obtain⟨r,y,rfl,d⟩:=d;cases d with
 | nil=>
  obtain rfl:i=0:=by omega
  refine⟨.slice none 0 0,?_,K _ ⟨_,y,rfl,by rw[G6];exact .nil⟩⟩;have e1:Bb 0 (some (.int kk ((0:Nat):Int)))=some 0:=Bk;have e2:Bb 0 none=some 0:=rfl;simp only[Bi,e1,e2];rw[D0 ⟨I0 _,I0 _⟩];rfl
 | own j f=>
  rename_i b c all;have g:i*sz<=n*sz:=H3 sz hi;refine⟨.slice (some ⟨b,0,none⟩) i c,?_,K _ ⟨_,y,rfl,.own' (by omega) f (by rw[T6,V2 g])⟩⟩;have e1:Bb n (some (.int kk (i:Int)))=some i:=Bk;have e2:Bb 0 none=some 0:=rfl;simp only[Bi,e1,e2];rw[D0 ⟨Q2 _,by omega⟩];by_cases a:c=0
  ·simp[a]
  ·rw[F0 a,N5,Cb];simp
structure NamesOK (l:List EN):Prop where
 nd:∀ (i j:Nat) (p q:EN),l[i]? = some p->l[j]? = some q->j<i->p.1≠q.1
 sl:∀ p∈l,(47:UInt8)∉p.1
 ln:∀ p∈l,p.1.length<1000
section
variable {X:XN} {cv ev xv bv x0:Vz} {b C:Bs} {es:List Vz} {ib n par i:Nat} {l:List EN} {p:EN}
theorem ANu {rec1:Vz->H->Prop}{x8:Nat}{f g:Vz}(o:(47:UInt8)∉p.1)(s:p.1.length<1000)(hi:i<100000000)(w:AN (pts x8 (.cells ⟨p.cells⟩ 114 (0,0))+(pts ib (.cells ⟨X.cells cv ev xv⟩ 81 (0,0))+x)) h)
  (K:rec1 (AB (i+1:Nat)) h):XK Q rec1 x0 (Pt ib) (Pt x8) f g (AB (i:Nat)) (AB ((0:Nat):Int)) h:=by
 unfold XK;refine Bj (fun m u l=>∃ j,m=p.1.length-j/\j<=p.1.length/\u=AB (j:Nat)/\l=h) p.1.length ⟨0,rfl,Q2 _,rfl,rfl⟩ ?_;rintro rec m u l ⟨j,rfl,q,rfl,rfl⟩ d;have g0:(⟨p.cells⟩:Array Vz)[0]? = some (str p.1):=rfl;unfold XG BL;simp (disch:=omega) only[go_sem,AC w,g0];refine AS (fun n=>?_) (fun n=>K);obtain⟨c,b⟩:∃ c,p.1[j]? = some c:=⟨_,B0 (by omega)⟩;rw[DA b];have a:c≠47:=fun e=>o (by rw[<-e];exact D1 b);have e1:(AQ .neq (bc c) (.int .u8 47))=fun k=>k AI :=funext fun k=>by
  unfold bc;rw[Ay,H0];intro e;apply a;apply UInt8.toNat.inj;show c.toNat=47;omega
 simp only[e1];refine BH (EW ?_);exact d (p.1.length-(j+1)) _ _ ⟨j+1,rfl,by omega,rfl,rfl⟩ (by omega)
theorem ANv {rec1:Vz->H->Prop}{x8:Nat}{c e dv:Vz}(ok:NamesOK l)(n:l[i]? = some p)(d:VecX 114 3 dv i ((entC l).take (i*3)) x)(hi:i<100000000)(w:AN (pts x8 (.cells ⟨p.cells⟩ 114 (0,0))+(pts ib (.cells ⟨X.cells cv ev xv⟩ 81 (0,0))+(z+x))) h)
  (K:∀ z h,AN (pts ib (.cells ⟨X.cells cv ev xv⟩ 81 (0,0))+(z+x)) h->rec1 (AB (i+1:Nat)) h):XL Q rec1 x0 (Pt ib) (Pt x8) c e (AB (i:Nat)) dv (AB (i:Nat)) (AB ((0:Nat):Int)) h:=by
 have a:p∈l:=D1 n;unfold XL;refine Bj (fun m u f=>∃ j z,m=i-j/\j<=i/\u=AB (j:Nat)/\AN (pts x8 (.cells ⟨p.cells⟩ 114 (0,0))+(pts ib (.cells ⟨X.cells cv ev xv⟩ 81 (0,0))+(z+x))) f) i ⟨0,z,rfl,Q2 _,rfl,w⟩ ?_;rintro rec m u f ⟨j,z,rfl,v,rfl,w⟩ b;have g0:(⟨p.cells⟩:Array Vz)[0]? = some (str p.1):=rfl;unfold XH BL;rw[AR];refine AS (fun s=>?_) (fun s=>ANu (ok.sl p a) (ok.ln p a) hi w (K _ f (w.cast (Kq1 _ _ _ _))));have t:i<l.length:=(G0.1 n).1;obtain⟨q,o⟩:∃ q,l[j]? = some q:=⟨_,B0 (by omega)⟩;refine (d.bf.bf.bf:VecX 114 3 dv i _ _).agg w (by omega) ?_;have g:(((entC l).take (i*3)).drop (j*3)).take 3=q.cells:=by
  rw[V3,T6,V2 (by omega)];exact (GR o).2.2.2
 rw[g];refine AV w Ie rfl fun x10 h w=>?_;refine AD w ⟨q.cells⟩ rfl rfl (by simp) rfl fun h w=>?_;have g1:(⟨q.cells⟩:Array Vz)[0]? = some (str q.1):=rfl;have e1:decide (p.1≠q.1)=true:=H0 (ok.nd i j p q n o (by omega));simp (disch:=omega) only[go_sem,AC w,g0,g1,e1];refine BH (EW ?_);exact b (i-(j+1)) _ _ ⟨j+1,_,rfl,by omega,rfl,w.cast (AOg _ _ _ _ _)⟩ (by omega)
def ANs (ok:NamesOK l)(d:VecX 114 3 ev l.length (entC l) x)(s:l.length<100000000)(w:AN (pts ib (.cells ⟨X.cells cv ev xv⟩ 81 (0,0))+(z+x)) h)
  (K:∀ z h,AN (pts ib (.cells ⟨X.cells cv ev xv⟩ 81 (0,0))+(z+x)) h->Q (.tuple #[]) h):XJ Q x0 (Pt ib) h:=by
 obtain⟨⟨o,q,a⟩,_⟩:=d.len;unfold XJ AW;rw[Br];refine Af w XN.g19 ?_;rw[a,As,<-a];unfold xw;refine Bj (fun m u f=>∃ i z,m=l.length-i/\i<=l.length/\u=AB (i:Nat)/\AN (pts ib (.cells ⟨X.cells cv ev xv⟩ 81 (0,0))+(z+x)) f) l.length ⟨0,z,rfl,Q2 _,rfl,w⟩ ?_;rintro rec m u f ⟨i,z,rfl,hi,rfl,w⟩ c;unfold XF BL;rw[AR];refine AS (fun n=>?_) (fun n=>K z f w);have b:i<l.length:=by omega
 obtain⟨p,j⟩:∃ p,l[i]? = some p:=⟨_,B0 b⟩;refine (d.bf.bf:VecX 114 3 ev l.length _ _).agg w b ?_;rw[(GR j).2.2.2];refine AV w Ie rfl fun x8 h w=>?_;refine AD w ⟨p.cells⟩ rfl rfl (by simp) rfl fun h w=>?_;rw[Br];refine Af w XN.g19 ?_;refine d.pre hi fun t g=>?_;obtain⟨⟨v,vc,e⟩,_⟩:=g.len;rw[e,As,<-e];exact ANv ok j g (by omega) w fun z h w=>c (l.length-(i+1)) _ _ ⟨i+1,z,rfl,by omega,rfl,w⟩ (by omega)
end
section
variable {X:XN} {cv ev xv bv x0:Vz} {b C:Bs} {ib n par:Nat} {l:List EN}
def ANt (ok:NamesOK l)(c:l[0]? = some ([46],X.num,2))(b:l[1]? = some ([46,46],par,2))(d:VecX 114 3 ev l.length (entC l) x)(e:l.length<100000000)(w:AN (pts ib (.cells ⟨X.cells cv ev xv⟩ 81 (0,0))+x) h)
  (K:∀ z h,AN (pts ib (.cells ⟨X.cells cv ev xv⟩ 81 (0,0))+(z+x)) h->Q (.tuple #[]) h):Ry Q x0 (Pt ib) (AH (par:Nat)) h:=by
 obtain⟨⟨g,j,a⟩,_⟩:=d.len;have f:1<l.length:=(G0.1 b).1;have e1:decide ((l.length:Int)<2)=false:=J0 (by omega);have dx:VecX 114 3 ev l.length (entC l) (pts ib (.cells ⟨X.cells cv ev xv⟩ 81 (0,0))+x):=d.bf;have c0:=GR c;have c1:=GR b;unfold Ry AW;rw[Br];refine Af w XN.g19 ?_;rw[a,As,AR,e1,Bt,Br];refine Af w XN.g19 ?_;refine dx.cell (i:=0) w (by omega) (by omega) c0.1 ?_;rw[show (.string ⟨#[46]⟩:Vz)=str [46] from rfl,EF,show decide (([46]:Bs)≠[46])=false from rfl,Bt,Br];refine Af w XN.g19 ?_;refine dx.cell (i:=1) w (by omega) (by omega) c1.1 ?_;rw[show (.string ⟨#[46,46]⟩:Vz)=str [46,46] from rfl,EF,show decide (([46,46]:Bs)≠[46,46])=false from rfl];unfold xp AW;rw[AJ,Br];refine Af w XN.g19 ?_;refine dx.cell (i:=0) w (by omega) (by omega) c0.2.1 ?_;rw[Br];refine Af w XN.g0 ?_;rw[AT,show decide ((X.num:Int)=(X.num:Int))=true from H0 rfl,CV,Br];refine Af w XN.g19 ?_;refine dx.cell (i:=0) w (by omega) (by omega) c0.2.2.1 ?_;rw[AT,Br];refine Af w XN.g0 ?_;refine BH (EW ?_);unfold xl AW;rw[Br];refine Af w XN.g19 ?_;refine dx.cell (i:=1) w (by omega) (by omega) c1.2.1 ?_;rw[AT,show decide ((par:Int)=(par:Int))=true from H0 rfl,CV,Br];refine Af w XN.g19 ?_;refine dx.cell (i:=1) w (by omega) (by omega) c1.2.2.1 ?_;rw[AT,Br];refine Af w XN.g0 ?_;refine BH (EW ?_);exact ANs (z:=0) ok d e (by rw[Res.zero_add];exact w) K
def ASE (c:X.inl=false)(d:RdX x cv C)(e:BlkR C l)(i:C.length<10000000)(ok:NamesOK l)(g:l[0]? = some ([46],X.num,2))(f:l[1]? = some ([46,46],par,2))(w:AN (pts ib (.cells ⟨X.cells cv cst__slice_none_0_0  xv⟩ 81 (0,0))+x) h)
  (K:∀ ev z h,VecX 114 3 ev l.length (entC l) z->AN (pts ib (.cells ⟨X.cells cv ev xv⟩ 81 (0,0))+(z+x)) h->Q (.tuple #[]) h):ALe x0 (Pt ib) (AH (par:Nat)) h Q:=by
 obtain⟨m,cc,a⟩:=d.len;have b:=e.len;have j:1<l.length:=(G0.1 f).1;have e1:decide ((C.length:Int)>0)=true:=H0 (by omega);have e2:(AQ .rem (AB (C.length:Nat)) (AB 4096))=fun k=>k (AB ((0:Nat):Int)):=funext fun k=>by rw[Su (by decide),b.2]
 unfold ALe AW;rw[Br];refine Af w XN.g18 ?_;rw[Br];refine Af w XN.g21 ?_;rw[c,AJ,a,As,Ah,e1,CV,As];simp only[e2];rw[AT,Br,<-a];refine Af w XN.g0 ?_;refine BH (EW ?_);unfold xu AW;refine ANw (n:=0) (es:=[]) d e i .nil (by omega) (w.cast (by rw[Res.zero_add])) fun ev r h dv w=>?_;rw[U1,U2] at dv;refine ANt ok g f dv.vx.an (by omega) w fun z h w=>?_;exact K ev _ h dv.vx.bf (w.cast (Kq3 _ _ _ _))
end
end
inductive VecQ (T:Tj):Vz->Nat->List Vz->Res->Prop
 | own {b o n c:Nat} {all:List Vz}:n<=c->o+c<=all.length->VecQ T (.slice (some ⟨b,o,none⟩) n c) n ((all.drop o).take n) (pts b (.cells ⟨all⟩ T (0,0)))
def VecQ.own' {T:Tj}{b o n c:Nat}{all vs:List Vz}(d:n<=c)(a:o+c<=all.length)(e:(all.drop o).take n=vs):VecQ T (.slice (some ⟨b,o,none⟩) n c) n vs (pts b (.cells ⟨all⟩ T (0,0))):=by
 subst e;exact .own d a
def VecQ.len {T:Tj}{n:Nat}{v:Vz}{vs:List Vz}(d:VecQ T v n vs r):(∃ a c,v=.slice a n c)/\vs.length=n:=by
 cases d with
 | own e b=>exact⟨⟨_,_,rfl⟩,by simp;omega⟩
def VecQ.get {T:Tj}{v u:Vz}{n i:Nat}{kk:Iq}{vs:List Vz}(d:VecQ T v n vs r)(w:AN (r+x) h)(e:vs[i]? = some u)(K:k u):Ap (.slice 1) v (.int kk (i:Int)) fun a=>Ae false 1 a h k:=by
 have g:=d.len.2;have hi:i<vs.length:=(G0.1 e).1;cases d with
 | own j f=>
  rename_i b o c all;rw[Dq (by omega),AC w];have:(⟨all⟩:Array Vz)[o+i]? = some u:=by
   rw[I2] at e;split at e
   ·simpa using e
   ·cases e
  rw[this];exact K
theorem VecQ.tail {T:Tj}{v:Vz}{n:Nat}{kk:Iq}{vs:List Vz}(d:VecQ T v n vs r)(g:1<=n)(K:∀ f,VecQ T f (n-1) (vs.drop 1) r->k f):Cf (.slice 1) v (some (.int kk 1)) none k:=by
 cases d with
 | own e i=>
  rename_i b o c all;have e1:Bb 0 (some (.int kk 1))=some 1:=Bk (n:=1);have e2:Bb n none=some n:=rfl;refine⟨.slice (some ⟨b,if c=1 then o else o+1,none⟩) (n-1) (c-1),?_,K _ (.own' (by omega) ?_ ?_)⟩
  ·simp only[Bi,e1,e2];rw[D0 ⟨g,e⟩];by_cases a:c=1
   ·rw[D0 a,D0 a]
   ·rw[F0 a,F0 a,N5,Cb]
  ·by_cases a:c=1
   ·rw[D0 a];omega
   ·rw[F0 a];omega
  ·by_cases a:c=1
   ·have:n=1:=by omega
    subst this;rw[V3];simp
   ·rw[F0 a,<-H5,V3]
def VecQ.push {T:Tj}{f n:Nat}{z:Option Vz}{zv v e:Vz}{vs:List Vz}(d:VecQ T v n vs r)(w:AN (r+x) h)(hz:z=some zv)(a:zv.cells=#[zv])(he:e.cells=#[e])(ho:Value.oneCell' e=true)
  (hb:(n+1)*f<=140737488355328) (j:n+1<=140737488355328) (K:∀ v r h,VecQ T v (n+1) (vs++[e]) r->AN (r+x) h->kt v h) :
  AK (.arr 1) T z 1 1 [(0,e)] h fun s h=>Ac T z 1 f v s h kt:=by
 refine Hb w hz a he ho fun eb h w=>?_;refine⟨1,⟨[e]⟩,rfl,?_,?_⟩
 ·unfold By;simp only[w.left.one];simp
 cases d with
 | @own b o _ c all hn hc=>
  have t:AN (pts b (.cells ⟨all⟩ T (0,0))+(pts eb (.cells ⟨[e]⟩ T (0,0))+x)) h:=w.cast (Res.left_comm _ _ _);have g:By 1 n h (.slice (some ⟨b,o,none⟩) n c)=some ⟨(all.drop o).take n⟩:=by
   unfold By;simp only[t.left.one,Z5,K3,if_false];rw[D0 (by simp;omega)];congr 1;apply P4;simp[I3]
  have m:((all.drop o).take n).length=n:=by simp;omega
  refine⟨_,n,c,zv,_,rfl,hz,by rw[a];rfl,hb,j,g,fun h0=>?_,fun _ b' c' h' l ae ex i p=>?_⟩
  ·refine .inr ⟨_,_,T,rfl,rfl,t.left.one,by simp;omega,by simp[ho],?_⟩;have q:(Av ⟨all⟩ (o+n*1) [e]).toList.length=all.length:=by rw[C7,HO];rfl
   refine K _ _ _ (.own' (all:=(Av ⟨all⟩ (o+n*1) [e]).toList) h0 (by rw[q];exact hc) ?_) (AN.left (y:=pts eb (.cells ⟨[e]⟩ T (0,0))) (t.set.cast ?_))
   ·have:=Ib (all:=all) (news:=[e]) (o:=o+n) (by simp;omega);rw[M5];have u:((Av ⟨all⟩ (o+n) [e]).toList.take (o+n+1)).drop o=(all.take (o+n)++[e]).drop o:=by rw[<-this];rfl
    rw[V3,show o+n+1-o=n+1 by omega] at u;rw[u,I4 (by simp;omega),V3,M4]
   ·ac_rfl
  ·refine K _ _ h' (.own' (o:=0) (all:=(all.drop o).take n++[e]++(Builtin.zeroCells zv.cells (c'-(n+1))).toList) l ?_ ?_) ((w.right.right.new ex i p).cast ?_)
   ·simp only[C0,C7,Mj,a,m,U3,U1];rw[show (#[zv]:Array Vz).size=1 from rfl,M5];omega
   ·rw[I5,L2 (by simp[m]),X2 (by simp[m])]
   ·congr 2;simp only[Obj.cells.injEq,and_true];apply P4;simp
section
variable {A:Res}{v:VS}
attribute [local irreducible] BJ CR Ak Bc An Aa AK Ac VS.cells XN.cells
structure TS where
 seen:List Bool
 par:List Nat
 nam:List Nat
 sub:List Nat
 q:List Nat
def bC (l:List Bool):List Vz:=l.map .bool
def nC (l:List Nat):List Vz:=l.map fun n=>AH (n:Nat)
def TR (N:Nat)(S:TS)(x4 x5 x6 x7 x8:Vz)(A:Res):Prop:=∃ r4 r5 r6 r7 rq,A=r4+(r5+(r6+(r7+rq)))/\Vec 4 1 x4 N (bC S.seen) r4/\Vec 48 1 x5 N (nC S.par) r5/\Vec 48 1 x6 N (nC S.nam) r6/\Vec 48 1 x7 N (nC S.sub) r7/\VecQ 48 x8 S.q.length (nC S.q) rq
def TS.see (S:TS)(n c:Nat):TS:=if S.seen.getD c false then S else {S with seen:=S.seen.set c true,par:=S.par.set c n,q:=S.q++[c]}
def RY {l:List Bool}{i:Nat}(h:i<l.length):(bC l)[i]? = some (.bool (l.getD i false)):=by
 unfold bC;rw[Y0,B0 h,W0,B0 h];rfl
def Kj {l:List Nat}{i:Nat}(h:i<l.length):(nC l)[i]? = some (AH (l.getD i 0:Nat)):=by
 unfold nC;rw[Y0,B0 h,W0,B0 h];rfl
def WM {l:List Bool}{i:Nat}{b:Bool}:(bC l).set i (.bool b)=bC (l.set i b):=by unfold bC;rw[E7]
def Sl {l:List Nat}{i n:Nat}:(nC l).set i (AH (n:Nat))=nC (l.set i n):=by unfold nC;rw[E7]
section
variable {N eb n c i:Nat} {S:TS} {e:EN} {x0 x1 x4 x5 x6 x7 x8 x10 x69 x70:Vz} {rec2:Vz->H->Prop} {rec3:Vz->Vz->H->Prop}
theorem AK3 (t:TR N S x4 x5 x6 x7 x8 A)(j:e.2.1<N)(s:S.q.length<1000000)(hi:i<100000000)(w:AN (pts eb (.cells ⟨e.cells⟩ 114 (0,0))+(A+x)) h)
  (K:∀ x8 A h,TR N (S.see n e.2.1) x4 x5 x6 x7 x8 A->AN (pts eb (.cells ⟨e.cells⟩ 114 (0,0))+(A+x)) h->rec3 x8 (AB (i+1:Nat)) h) :
  ACN Q rec2 rec3 x0 x1 x4 x5 x6 x7 x8 (AH (n:Nat)) x10 (Pt eb) x69 x70 (AB (i:Nat)) h:=by
 obtain⟨r4,r5,r6,r7,f,rfl,a4,a5,a6,a7,d⟩:=t;have g1:(⟨e.cells⟩:Array Vz)[1]? = some (AH (e.2.1:Nat)):=rfl;have g:e.2.1<S.seen.length:=by have:=a4.len.2;unfold bC at this;rw[Z0] at this;omega
 have f1:(AQ .add (AB (i:Nat))  AX )=fun k=>k (AB (i+1:Nat)):=funext fun k=>by
  rw[Az (n:=1),Bq (by omega)]
 unfold ACN AW;rw[Ai];refine Af w g1 ?_;refine CF a4 (w.cast (ALC _ _ _ _)) (RY g) ?_;rw[CI];cases l:S.seen.getD e.2.1 false with
 | true=>
  have e1:S.see n e.2.1=S:=by unfold TS.see;rw[l];rfl
  rw[e1] at K;show BJ  AE _ _;rw[AJ];simp only[f1];exact K x8 _ h ⟨r4,r5,r6,r7,f,rfl,a4,a5,a6,a7,d⟩ w
 | false=>
  have e1:S.see n e.2.1 = {S with seen:=S.seen.set e.2.1 true,par:=S.par.set e.2.1 n,q:=S.q++[e.2.1]}:=by unfold TS.see;rw[l];rfl
  rw[e1] at K;show BJ  AI  _ _;rw[Ab,Ai];refine Af w g1 ?_;rw[Ai];refine Af w g1 ?_;refine DV (u:=.bool true) a4 (w.cast (ALC _ _ _ _)) j rfl rfl fun r4 h a4 w=>?_;refine Is w g1 ?_;have m:∀ R4 E R5 B X:Res,R4+(E+((R5+B)+X))=R5+(R4+(E+(B+X))):=by intros;ac_rfl
  refine DV (u:=AH (n:Nat)) a5 (w.cast (m _ _ _ _ _)) j rfl rfl fun r5 h a5 w=>?_;rw[Ai];refine Af w g1 ?_;have o:∀ R5 R4 E a b c X:Res,R5+(R4+(E+((a+(b+c))+X)))=c+(R5+(R4+(E+((a+b)+X)))):=by intros;ac_rfl
  refine d.push (w.cast (o _ _ _ _ _ _ _)) Dt rfl rfl rfl (by omega) (by omega) fun x8 f h d w=>?_;simp only[f1];have p:∀ c R5 R4 E a b X:Res,c+(R5+(R4+(E+((a+b)+X))))=E+((R4+(R5+(a+(b+c))))+X):=by intros;ac_rfl
  refine K x8 _ h ⟨r4,r5,r6,r7,f,rfl,?_,?_,a6,a7,?_⟩ (w.cast (p _ _ _ _ _ _ _))
  ·rw[WM] at a4;exact a4
  ·rw[Sl] at a5;exact a5
  ·show VecQ 48 x8 (S.q++[e.2.1]).length (nC (S.q++[e.2.1])) f;rw[C0];unfold nC at d ⊢;rw[H2];exact d
def TS.ent (S:TS)(n:Nat)(e:EN):TS:=TS.see {S with nam:=S.nam.set e.2.1 (S.nam.getD e.2.1 0+1),sub:=if e.2.2=2 then S.sub.set n (S.sub.getD n 0+1) else S.sub} n e.2.1
structure EntOK (I:Bs) (eh:Nat) (S:TS) (e:EN):Prop where
 i1:11<=e.2.1
 i2:e.2.1<=eh
 kind:kindL (leL (rawL I e.2.1) 0 2)=e.2.2
 dir:e.2.2=2->S.seen.getD e.2.1 false=false
theorem AQk {v:VS}(ok:v.OK x)(hit:itL v.I*4096+v.eh*256<=v.I.length)(t:TR N S x4 x5 x6 x7 x8 A)(hN:N=v.eh+1)(f:EntOK v.I v.eh S e)(q:n<N)(hq:S.q.length<1000000)(hb:S.nam.getD e.2.1 0<1000000/\S.sub.getD n 0<1000000)(hi:i<100000000)(w:AN (v.res+((pts eb (.cells ⟨e.cells⟩ 114 (0,0))+A)+x)) h)
  (K:∀ x8 A h,TR N (S.ent n e) x4 x5 x6 x7 x8 A->AN (v.res+((pts eb (.cells ⟨e.cells⟩ 114 (0,0))+A)+x)) h->rec3 x8 (AB (i+1:Nat)) h) :
  ACO Q rec2 rec3 (Pt v.vb) x1 x4 x5 x6 x7 x8 (AH (n:Nat)) x10 (Pt eb) x69 x70 (AB (i:Nat)) h:=by
 obtain⟨r4,r5,r6,r7,rq,rfl,a4,a5,a6,a7,s⟩:=t;have ae:=f.i1;have j:=f.i2;have g:e.2.1<N:=by omega
 have m:e.2.1<S.nam.length:=by have:=a6.len.2;unfold nC at this;rw[Z0] at this;omega
 have o:n<S.sub.length:=by have:=a7.len.2;unfold nC at this;rw[Z0] at this;omega
 have l:e.2.1<S.seen.length:=by have:=a4.len.2;unfold bC at this;rw[Z0] at this;omega
 have g1:(⟨e.cells⟩:Array Vz)[1]? = some (AH (e.2.1:Nat)):=rfl;have g2:(⟨e.cells⟩:Array Vz)[2]? = some (AH (e.2.2:Nat)):=rfl;have lm:leL (rawL v.I e.2.1) 0 2<65536:=Ar;have ah:(rawL v.I e.2.1).length<=256:=by unfold rawL;rw[W1];omega
 unfold ACO AW;rw[Ai];refine Af w g1 ?_;refine Nb (AHO ok (by omega) j hit w fun bv db=>?_);refine ES (p:=0) (n:=2) db.bf.bf w (by decide) (by decide) (by omega) ?_;refine ALI lm ?_;refine Fk (qn lm ?_);rw[f.kind,Ai];refine Af w g2 ?_;rw[AT,show decide ((e.2.2:Int)=(e.2.2:Int))=true from H0 rfl,Ai];refine Af w g1 ?_;refine BH (EW ?_);rw[Ai];refine Af w g1 ?_;have k6:∀ V E R4 R5 b c d X:Res,V+((E+(R4+(R5+(b+(c+d)))))+X)=b+(V+(E+(R4+(R5+(c+d)))+X)):=by intros;ac_rfl
 have w:=w.cast (k6 _ _ _ _ _ _ _ _);refine CF a6 w (Kj m) ?_;rw[Az (n:=1),Dn (by omega)];refine DV (u:=AH (S.nam.getD e.2.1 0+1:Nat)) a6 w g rfl rfl fun r6 h a6 w=>?_;rw[Sl] at a6;rw[AT];have k7:∀ V E R4 R5 b c d X:Res,b+(V+(E+(R4+(R5+(c+d)))+X))=c+(V+(E+(R4+(R5+(b+d)))+X)):=by intros;ac_rfl
 have k8:∀ V E R4 R5 b c d X:Res,c+(V+(E+(R4+(R5+(b+d)))+X))=E+((R4+(R5+(b+(c+d))))+(V+X)):=by intros;ac_rfl
 have k9:∀ V E A X:Res,E+(A+(V+X))=V+((E+A)+X):=by intros;ac_rfl
 refine AS (fun hk=>?_) (fun hk=>?_)
 ·have a:e.2.2=2:=by omega
  have w:=w.cast (k7 _ _ _ _ _ _ _ _);refine CF a7 w (Kj o) ?_;rw[Az (n:=1),Dn (by omega)];refine DV (u:=AH (S.sub.getD n 0+1:Nat)) a7 w q rfl rfl fun r7 h a7 w=>?_;rw[Sl] at a7;rw[Ai];have w:=w.cast (k8 _ _ _ _ _ _ _ _);refine Af w g1 ?_;refine CF a4 (w.cast (ALC _ _ _ _)) (RY l) ?_;rw[CI,f.dir a,Ai];refine Af w g1 ?_;refine BH (EW ?_);refine AK3 (S:={S with nam:=S.nam.set e.2.1 (S.nam.getD e.2.1 0+1),sub:=S.sub.set n (S.sub.getD n 0+1)}) ⟨r4,r5,r6,r7,rq,rfl,a4,a5,a6,a7,s⟩ g hq hi w fun x8 A h t w=>K x8 A h ?_ (w.cast (k9 _ _ _ _));unfold TS.ent;rw[D0 a];exact t
 ·have a:¬e.2.2=2:=by omega
  have w:=(w.cast (k7 _ _ _ _ _ _ _ _)).cast (k8 _ _ _ _ _ _ _ _);refine AK3 (S:={S with nam:=S.nam.set e.2.1 (S.nam.getD e.2.1 0+1)}) ⟨r4,r5,r6,r7,rq,rfl,a4,a5,a6,a7,s⟩ g hq hi w fun x8 A h t w=>K x8 A h ?_ (w.cast (k9 _ _ _ _));unfold TS.ent;rw[F0 a];exact t
end
def TS.stp (n:Nat)(S:TS)(e:EN):TS:=if e.1=[46]\/e.1=[46,46] then S else S.ent n e
inductive EntsR (I:Bs) (eh n:Nat):TS->List EN->Prop
 | nil {S:TS}:EntsR I eh n S []
 | cons {S:TS} {e:EN} {l:List EN}:(e.1=[46]\/e.1=[46,46])\/EntOK I eh S e->S.q.length<1000000/\S.nam.getD e.2.1 0<1000000/\S.sub.getD n 0<1000000->EntsR I eh n (S.stp n e) l->EntsR I eh n S (e::l)
section
variable {N eb n c i:Nat} {S:TS} {e:EN} {l:List EN} {x0 x4 x5 x6 x7 x8 x10 x69 x70:Vz} {rec2:Vz->H->Prop} {rec3:Vz->Vz->H->Prop}
theorem AQn (ok:v.OK x)(hit:itL v.I*4096+v.eh*256<=v.I.length)(d:VecX 114 3 x69 l.length (entC l) x)(hl:l.length<10000000)(t:TR N S x4 x5 x6 x7 x8 A)(hN:N=v.eh+1)(er:EntsR v.I v.eh n S l)(ai:n<N)(w:AN (v.res+(A+(z+x))) h)
  (K:∀ x8 A z h,TR N (l.foldl (TS.stp n) S) x4 x5 x6 x7 x8 A->AN (v.res+(A+(z+x))) h->gq Q rec2 (Pt v.vb) (AH ((11:Nat):Int)) x4 x5 x6 x7 x8 x10 h) :
  ACS Q rec2 (Pt v.vb) (AH ((11:Nat):Int)) x4 x5 x6 x7 (AH (n:Nat)) x10 x69 (AB (l.length:Nat)) x8 (AB ((0:Nat):Int)) h:=by
 have ar:=ok.eh;obtain⟨R,hR⟩:∃ R,l.foldl (TS.stp n) S=R:=⟨_,rfl⟩;rw[hR] at K;unfold ACS;refine DF (fun m u0 u1 h'=>∃ i S A z,m=l.length-i/\i<=l.length/\u1=AB (i:Nat)/\TR N S x4 x5 x6 x7 u0 A/\EntsR v.I v.eh n S (l.drop i)/\(l.drop i).foldl (TS.stp n) S=R/\AN (v.res+(A+(z+x))) h') l.length ⟨0,S,A,z,rfl,Q2 _,rfl,t,er,hR,w⟩ ?_;rintro rec m u0 u1 h' ⟨i,S',A,z,rfl,hi,rfl,t,er,q,w⟩ j;unfold ACL BL;rw[AR];refine AS (fun hc=>?_) (fun hc=>?_)
 ·have b:i<l.length:=by omega
  obtain⟨e,he⟩:∃ e,l[i]? = some e:=⟨_,B0 b⟩;have ah:l.drop i=e::l.drop (i+1):=by
   rw[N3 b];rw[B0 b] at he;rw[V0 he]
  rw[ah] at er q;cases er with
  | cons f p g=>
   refine (d.bf.bf.bf:VecX 114 3 x69 l.length _ _).agg w b ?_;rw[(GR he).2.2.2];refine AV w Ie rfl fun eb h w=>?_;refine AD w ⟨e.cells⟩ rfl rfl (by simp) rfl fun h w=>?_;have g0:(⟨e.cells⟩:Array Vz)[0]? = some (str e.1):=rfl;have g1:(⟨e.cells⟩:Array Vz)[1]? = some (AH (e.2.1:Nat)):=rfl;have f1:(AQ .add (AB (i:Nat)) AX )=fun k=>k (AB (i+1:Nat)):=funext fun k=>by
    rw[Az (n:=1),Bq (by omega)]
   have skip:(e.1=[46]\/e.1=[46,46])->AQ .add (AB (i:Nat))  AX  fun ae=>rec u0 ae h:=by
    intro hd;rw[f1];have es:S'.stp n e=S':=D0 hd;rw[es] at g;rw[J4,es] at q;exact j (l.length-(i+1)) _ _ _ ⟨i+1,S',A,_,rfl,b,rfl,t,g,q,w.cast (AOg _ _ _ _ _)⟩ (by omega)
   rw[Ai];refine Af w g0 ?_;rw[show (.string ⟨#[46]⟩:Vz)=str [46] from rfl,Fs];by_cases s:e.1=[46]
   ·rw[H0 s,Hi];exact skip (.inl s)
   ·rw[J0 s,Bt,Ai];refine Af w g0 ?_;rw[show (.string ⟨#[46,46]⟩:Vz)=str [46,46] from rfl,Fs];refine AS (fun h2=>skip (.inr h2)) (fun h2=>?_);have f:=f.resolve_left (fun o=>o.elim s h2);have aj:=f.i1;have ao:=f.i2;obtain⟨⟨sa,sc,u⟩,_⟩:(∃ a c,x4=.slice a N c)/\True:=by
     obtain⟨_,_,_,_,_,_,a4,_⟩:=t;exact⟨a4.len.1,trivial⟩
    have e1:decide ((e.2.1:Int)=0)=false:=J0 (by omega);have e2:decide ((e.2.1:Int)>=(N:Int))=false:=J0 (by omega);have e3:decide ((e.2.1:Int)<((11:Nat):Int))=false:=J0 (by omega);unfold AJp AW;rw[Ai];refine Af w g1 ?_;rw[AT,e1,Bt,Ai];refine Af w g1 ?_;rw[u,As,Ea,Dn (by omega),Bd,e2,Bt,Ai,<-u];refine Af w g1 ?_;rw[AR,e3,AJ];have k2:∀ E V A Z X:Res,E+(V+(A+(Z+X)))=V+((E+A)+(Z+X)):=by intros;ac_rfl
    have k3:∀ E V A Z X:Res,V+((E+A)+(Z+X))=V+(A+((E+Z)+X)):=by intros;ac_rfl
    refine AQk (ok.mono (y:=z)) hit t hN f ai p.1 ⟨p.2.1,p.2.2⟩ (by omega) (w.cast (k2 _ _ _ _ _)) fun x8 A h t w=>?_;have es:S'.stp n e=S'.ent n e:=F0 (fun o=>o.elim s h2);rw[es] at g;rw[J4,es] at q;exact j (l.length-(i+1)) _ _ _ ⟨i+1,_,A,_,rfl,b,rfl,t,g,q,w.cast (k3 _ _ _ _ _)⟩ (by omega)
 ·have b:i=l.length:=by omega
  subst b;rw[X6,List.foldl_nil] at q;rw[q] at t;exact K _ A z h' t w
end
end
section
variable {A:Res}{v:VS}
def VS.ino (v:VS)(u:Vz):VS:={v with iv:=u}
theorem VS.set0 {v:VS}{u:Vz}:Av v.cells 0 [u]=(v.ino u).cells:=rfl
theorem VS.csize {v:VS}:v.cells.size=11:=rfl
attribute [local irreducible] BJ CR Ak Bc An Aa AK Ac VS.cells XN.cells
def VS.OK.ino {u:Vz}(ok:v.OK x):(v.ino u).OK x:=⟨ok.rd,ok.len,ok.big,ok.nb,ok.nb1,ok.ow,ok.eh,ok.ipg1,ok.ipg16⟩
structure AA where
 X:XN
 C:Bs
 l:List (Bs×Bs)
 E:List EN
inductive OutV (x:Res):List Vz->List AA->Prop
 | nil:OutV x [] []
 | eu {cs:List Vz} {os:List AA} {o:AA} {cv ev xv:Vz} {xas:List Vz}:OutV x cs os->RdX x cv o.C->VecX 114 3 ev o.E.length (entC o.E) x->VecX 86 2 xv o.l.length xas x->AtV x xas o.l->OutV x (cs++o.X.cells cv ev xv) (os++[o])
theorem OutV.mono:∀ {cs:List Vz} {os:List AA},OutV x cs os->OutV (y+x) cs os
 | _,_,.nil=>.nil
 | _,_,.eu a b c d e=>.eu a.mono b.bf c.bf d.bf e.mono
def OutV.an {cs:List Vz}{os:List AA}(a:OutV x cs os):OutV (x+y) cs os:=by rw[Res.comm];exact a.mono
section
variable {m n xb:Nat} {o:AA} {os:List AA} {cs xas:List Vz} {cv ev xv x1 x4 x5 x6 x7 x8:Vz} {rec2:Vz->H->Prop}
def AK2 (d:Vec 81 23 v.iv m cs r)(ov:OutV x cs os)(hm:m<1000000)(j:RdX x cv o.C)(l:VecX 114 3 ev o.E.length (entC o.E) x)(dx:VecX 86 2 xv o.l.length xas x)(q:AtV x xas o.l)(w:AN (v.res+(r+(pts xb (.cells ⟨o.X.cells cv ev xv⟩ 81 (0,0))+y))) h)
  (K:∀ iv r cs h,Vec 81 23 iv (m+1) cs r->OutV x cs (os++[o])->AN ((v.ino iv).res+(r+(pts xb (.cells ⟨o.X.cells cv ev xv⟩ 81 (0,0))+y))) h->rec2 x8 h):gq Q rec2 (Pt v.vb) x1 x4 x5 x6 x7 x8 (Pt xb) h:=by
 obtain⟨s,cc,f⟩:=j.len;obtain⟨⟨t,u,g⟩,_⟩:=l.len;obtain⟨⟨xa,xc,i⟩,_⟩:=dx.len;have a:(o.X.cells cv ev xv).all Value.oneCell'=true:=by rw[f,g,i];exact XN.one
 have p:∀ (k:Vz->Prop),(BS (Pt v.vb) fun e=>Aw 0 e k)=k (.pointer (some ⟨v.vb,0,none⟩)):=fun k=>by simp only[go_sem]
 have n:(Value.agg ⟨qw.cells  cst__slice_none_0_0 cst__slice_none_0_0 cst__slice_none_0_0⟩).cells.size=23:=XN.size_;unfold gq AW;rw[p];refine Af w VS.g0 ?_;refine BD w XN.len ?_;refine CN d (w.cast (Kq2 _ _ _)) Ev n XN.len (by omega) (by omega) a fun b h w=>?_;refine Is w VS.g0 ?_;refine CA d w Ev n XN.len a (by omega) (by omega) fun iv r h d w=>?_;obtain⟨⟨ia,ic,c⟩,_⟩:=d.len;rw[p];refine AD w (v.ino iv).cells (by rw[c];exact VS.set0) (by rw[c];rfl) (by rw[VS.csize];omega) (by rw[c];rfl) fun h w=>?_;exact K iv r _ h d (.eu ov j l dx q) (w.cast (Kq2 _ _ _).symm)
end
inductive WalkR (I:Bs) (nb eh:Nat):Nat->Bs->TS->List AA->Bs->TS->List AA->Prop
 | done {ow:Bs} {S:TS} {os:List AA}:S.q=[]->WalkR I nb eh 0 ow S os ow S os
 | file {k n:Nat} {ow ow1 ow' C:Bs} {S S':TS} {os os':List AA} {q:List Nat} {X:XN} {l:List (Bs×Bs)} {cl:List Nat}:S.q=n::q->1<=n->n<=eh->InoOK I nb (rawL I n) n X C l cl->Clm cl ow ow1->kindL X.en≠2 ->
   WalkR I nb eh k ow1 {S with q:=q} (os++[⟨X,C,xaOf l,[]⟩]) ow' S' os'->WalkR I nb eh (k+1) ow S os ow' S' os'
 | dir {k n:Nat} {ow ow1 ow' C:Bs} {S S':TS} {os os':List AA} {q:List Nat} {X:XN} {l:List (Bs×Bs)} {cl:List Nat} {E:List EN}:S.q=n::q->1<=n->n<=eh->InoOK I nb (rawL I n) n X C l cl->Clm cl ow ow1->kindL X.en=2 ->
   X.inl=false->BlkR C E->C.length<10000000->NamesOK E->E[0]? = some ([46],X.num,2)->E[1]? = some ([46,46],S.par.getD n 0,2)->E.length<10000000->EntsR I eh n {S with q:=q} E ->
   WalkR I nb eh k ow1 (E.foldl (TS.stp n) {S with q:=q}) (os++[⟨X,C,xaOf l,E⟩]) ow' S' os'->WalkR I nb eh (k+1) ow S os ow' S' os'
section
variable {m n N:Nat} {S S':TS} {os os':List AA} {cs:List Vz} {x4 x5 x6 x7 x8:Vz}
def Eg {I b C:Bs}{nb n:Nat}{X:XN}{l:List (Bs×Bs)}{cl:List Nat}(io:InoOK I nb b n X C l cl):X.en<65536/\X.num=n:=by
 have a:=IQ io.con;have:leL b 0 2<65536:=Ar;exact⟨by rw[a.2.2.1];exact this,by rw[a.2.2.2.2.2];rfl⟩
def AQm {o':Bs}{kk:Nat}(ok:v.OK x)(hit:itL v.I*4096+v.eh*256<=v.I.length)(hN:N=v.eh+1)(wr:WalkR v.I v.nb v.eh kk v.ow S os o' S' os')(hm:m+kk<1000000)(d:Vec 81 23 v.iv m cs r)(ov:OutV z cs os)(t:TR N S x4 x5 x6 x7 x8 A)(w:AN (v.res+(r+(A+(z+x)))) h)
  (K:∀ (rec2:Vz->H->Prop) iv r cs A z x8 h,Vec 81 23 iv (m+kk) cs r->OutV z cs os'->TR N S' x4 x5 x6 x7 x8 A->S'.q=[]->((v.ino iv).own o').OK x->AN (((v.ino iv).own o').res+(r+(A+(z+x)))) h->OY Q rec2 (Pt v.vb) (AH ((11:Nat):Int)) x4 x5 x6 x7 x8 h) :
  ACR Q (Pt v.vb) (AH ((11:Nat):Int)) x4 x5 x6 x7 x8 h:=by
 unfold ACR;refine Bj (fun kk' u h'=>∃ m' iv ow S os cs r A z,m'+kk'=m+kk/\ow.length=v.ow.length/\WalkR v.I v.nb v.eh kk' ow S os o' S' os'/\Vec 81 23 iv m' cs r/\OutV z cs os/\TR N S x4 x5 x6 x7 u A/\AN (((v.ino iv).own ow).res+(r+(A+(z+x)))) h') kk ⟨m,v.iv,v.ow,S,os,cs,r,A,z,rfl,rfl,wr,d,ov,t,w⟩ ?_;rintro rec kk' u h' ⟨m',iv,ow,S,os,cs,r,A,z,hmk,hol,wr,d,ov,t,w⟩ hrec;have ok1:((v.ino iv).own ow).OK x:=(ok.ino (u:=iv)).own hol;cases wr with
 | done hq=>exact K rec iv r cs A z u h' (by rw[<-hmk];exact d) ov t hq ok1 w
 | file hq h1 h2 io c hk wr2=>
  rename_i k2 n ow1 C q X l cl;obtain⟨r4,r5,r6,r7,rq,rfl,a4,a5,a6,a7,aq⟩:=t;rw[hq] at aq;obtain⟨⟨qa,qc,hu⟩,_⟩:=aq.len;have hmo:=Eg io;unfold OY BL;rw[hu,As,Ah,H0 (by rw[J1];omega),Ab,<-hu];have w:=w.cast (AOh _ _ _ _ _ _ _ _ _);refine aq.get (i:=0) (u:=AH (n:Nat)) w rfl ?_;refine aq.tail (by rw[J1];omega) fun u' aq=>?_;have k2':∀ RQ V Y X:Res,RQ+(V+(Y+X))=V+((RQ+Y)+X):=by intros;ac_rfl
  refine Zy (APr (v:=(v.ino iv).own ow) ok1 h1 h2 hit io c (w.cast (k2' _ _ _ _)) fun cv xv xcs z' h dcv dxv dat ok2 w=>?_);refine AV w Ev rfl fun xb h w=>?_;obtain⟨ca,cc,hcv⟩:=dcv.len;obtain⟨⟨xa,xc,hxv⟩,_⟩:=dxv.len;have hone:(X.cells cv cst__slice_none_0_0 xv).all Value.oneCell'=true:=by rw[hcv,hxv];exact XN.one
  have w:AN (pts xb (.cells ⟨qw.cells  cst__slice_none_0_0   cst__slice_none_0_0   cst__slice_none_0_0 ⟩ 81 (0,0))+(((v.ino iv).own ow1).res+(z'+((rq+((r+((r4+(r5+(r6+r7)))+z))))+x)))) h:=w;refine AD w ⟨X.cells cv cst__slice_none_0_0  xv⟩ (AU (by rw[XN.size_];exact XN.len)) XN.size_ (by rw[XN.size_];omega) hone fun h w=>?_;rw[Ai];refine Af w XN.g1 ?_;refine Fk (qn hmo.1 ?_);rw[AT,J0 (by omega),AJ];have k3:∀ P V Z' RQ R R4 R5 R6 R7 Z X:Res,P+(V+(Z'+((RQ+(R+((R4+(R5+(R6+R7)))+Z)))+X)))=V+(R+(P+((R4+(R5+(R6+(R7+RQ))))+((Z'+Z)+X)))):=by intros;ac_rfl
  refine AK2 (v:=(v.ino iv).own ow1) (o:=⟨X,C,xaOf l,[]⟩) (ev:=.slice none 0 0) d (ov.mono (y:=z')) (by omega) dcv.an (Vec.nil.vx.an (y:=z'+z) |> fun q=>by rw[Res.zero_add] at q;exact q) dxv.an dat.an (w.cast (k3 _ _ _ _ _ _ _ _ _ _ _)) fun iv' r cs h d ov w=>?_;exact hrec k2 _ _ ⟨m'+1,iv',ow1,{S with q:=q},_,cs,r,_,_,by omega,c.len.trans hol,wr2,d,ov.mono,⟨r4,r5,r6,r7,rq,rfl,a4,a5,a6,a7,aq⟩,w.cast (AOi _ _ _ _ _ _)⟩ (by omega)
 | dir hq h1 h2 io c hk hin hB hC hNm hE0 hE1 hEl hEs wr2=>
  rename_i k2 n ow1 C q X l cl E;obtain⟨r4,r5,r6,r7,rq,rfl,a4,a5,a6,a7,aq⟩:=t;rw[hq] at aq;obtain⟨⟨qa,qc,hu⟩,_⟩:=aq.len;have hmo:=Eg io;unfold OY BL;rw[hu,As,Ah,H0 (by rw[J1];omega),Ab,<-hu];have w:=w.cast (AOh _ _ _ _ _ _ _ _ _);refine aq.get (i:=0) (u:=AH (n:Nat)) w rfl ?_;refine aq.tail (by rw[J1];omega) fun u' aq=>?_;have k2':∀ RQ V Y X:Res,RQ+(V+(Y+X))=V+((RQ+Y)+X):=by intros;ac_rfl
  refine Zy (APr (v:=(v.ino iv).own ow) ok1 h1 h2 hit io c (w.cast (k2' _ _ _ _)) fun cv xv xcs z' h dcv dxv dat ok2 w=>?_);refine AV w Ev rfl fun xb h w=>?_;obtain⟨ca,cc,hcv⟩:=dcv.len;obtain⟨⟨xa,xc,hxv⟩,_⟩:=dxv.len;have hone:(X.cells cv cst__slice_none_0_0 xv).all Value.oneCell'=true:=by rw[hcv,hxv];exact XN.one
  have w:AN (pts xb (.cells ⟨qw.cells  cst__slice_none_0_0   cst__slice_none_0_0   cst__slice_none_0_0 ⟩ 81 (0,0))+(((v.ino iv).own ow1).res+(z'+((rq+((r+((r4+(r5+(r6+r7)))+z))))+x)))) h:=w;refine AD w ⟨X.cells cv cst__slice_none_0_0  xv⟩ (AU (by rw[XN.size_];exact XN.len)) XN.size_ (by rw[XN.size_];omega) hone fun h w=>?_;rw[Ai];refine Af w XN.g1 ?_;refine Fk (qn hmo.1 ?_);rw[AT,H0 (by omega),Ab];have hl5:n<S.par.length:=by have:=a5.len.2;unfold nC at this;rw[Z0] at this;omega
  have k5:∀ P V Z' RQ R R4 R5 R6 R7 Z X:Res,P+(V+(Z'+((RQ+(R+((R4+(R5+(R6+R7)))+Z)))+X)))=R5+(P+(V+(Z'+(RQ+(R+(R4+(R6+(R7+(Z+X))))))))):=by intros;ac_rfl
  have w:=w.cast (k5 _ _ _ _ _ _ _ _ _ _ _);refine CF a5 w (Kj hl5) ?_;have k6:∀ P V Z' RQ R R4 R5 R6 R7 Z X:Res,R5+(P+(V+(Z'+(RQ+(R+(R4+(R6+(R7+(Z+X)))))))))=P+(Z'+(V+((R4+(R5+(R6+(R7+RQ))))+(R+(Z+X))))):=by intros;ac_rfl
  refine AFm (ASE hin dcv.an hB hC hNm hE0 hE1 (w.cast (k6 _ _ _ _ _ _ _ _ _ _ _)) fun ev z2 h de w=>?_);obtain⟨⟨ea,ec,hev⟩,_⟩:=de.len;rw[Ai];refine Af w XN.g19 ?_;rw[hev,As,<-hev];have k7:∀ P Z2 Z' V A R Z X:Res,P+(Z2+(Z'+(V+(A+(R+(Z+X))))))=V+(A+(0+((P+(Z2+(Z'+(R+Z))))+X))):=by intros;rw[Res.zero_add];ac_rfl
  have okl:((v.ino iv).own ow1).OK ((pts xb (.cells ⟨X.cells cv ev xv⟩ 81 (0,0))+(z2+(z'+(r+z))))+x):=ok2.mono;refine AQn (v:=(v.ino iv).own ow1) (S:={S with q:=q}) okl hit de.an.bf.an hEl ⟨r4,r5,r6,r7,rq,rfl,a4,a5,a6,a7,aq⟩ hN hEs (by omega) (w.cast (k7 _ _ _ _ _ _ _ _)) fun x8 A z3 h t w=>?_;have k8:∀ V A Z3 P Z2 Z' R Z X:Res,V+(A+(Z3+((P+(Z2+(Z'+(R+Z))))+X)))=V+(R+(P+(A+(((Z3+(Z2+Z'))+Z)+X)))):=by intros;ac_rfl
  refine AK2 (v:=(v.ino iv).own ow1) (o:=⟨X,C,xaOf l,E⟩) d (ov.mono (y:=z3+(z2+z'))) (by omega) dcv.bf.bf.an de.an.bf.an dxv.bf.bf.an dat.mono.mono.an (w.cast (k8 _ _ _ _ _ _ _ _ _)) fun iv' r cs h d ov w=>?_;exact hrec k2 _ _ ⟨m'+1,iv',ow1,_,_,cs,r,_,_,by omega,c.len.trans hol,wr2,d,ov.mono,t,w.cast (AOi _ _ _ _ _ _)⟩ (by omega)
end
theorem OutV.len:∀ {cs:List Vz} {os:List AA},OutV x cs os->cs.length=os.length*23
 | _,_,.nil=>rfl
 | _,_,.eu a _ _ _ _=>by
  have:=a.len;rw[C0,C0,XN.len,this];simp;omega
theorem OutV.get:∀ {cs:List Vz} {os:List AA} {i:Nat} {o:AA},OutV x cs os->os[i]? = some o ->
  ∃ cv ev xv xas,(cs.drop (i*23)).take 23=o.X.cells cv ev xv/\RdX x cv o.C/\VecX 114 3 ev o.E.length (entC o.E) x/\VecX 86 2 xv o.l.length xas x/\AtV x xas o.l
 | _,_,_,_,.nil,e=>by simp at e
 | _,_,i,o,.eu (cs:=cs) (os:=os) (o:=o') (cv:=cv) (ev:=ev) (xv:=xv) (xas:=xas) a b c d f,e=>by
  have l:=a.len;rcases P5 i os.length with g|g
  ·rw[Z1 g] at e;obtain⟨cv,ev,xv,xas,g1,g2⟩:=a.get e;refine⟨cv,ev,xv,xas,?_,g2⟩;rw[I4 (by omega),L2 (by rw[J2];omega)];exact g1
  ·rw[X1 g] at e;have hi:i=os.length:=by
    rcases P5 (i-os.length) 1 with j|j
    ·omega
    ·rw[D3 (by simpa using j)] at e;cases e
   subst hi;rw[D6] at e;simp only[L4,M2] at e;subst e;refine⟨cv,ev,xv,xas,?_,b,c,d,f⟩;rw[<-l,U5,X2 (by rw[XN.len];omega)]
def LinksOK (N:Nat)(S:TS)(os:List AA):Prop:=∀ o∈os,o.X.num<N/\o.X.en<65536/\S.sub.getD o.X.num 0<1000000/\o.X.ek=if kindL o.X.en=2 then S.sub.getD o.X.num 0+2 else S.nam.getD o.X.num 0
section
variable {N:Nat} {S:TS} {os:List AA} {cs:List Vz} {x0 x6 x7 iv:Vz} {r6 r7:Res}
def AQl (lo:LinksOK N S os)(d:VecX 81 23 iv os.length cs x)(ov:OutV y cs os)(a6:Vec 48 1 x6 N (nC S.nam) r6)(a7:Vec 48 1 x7 N (nC S.sub) r7)(hn:os.length<1000000)(w:AN (r6+(r7+(z+x))) h)
  (K:∀ z h,AN (r6+(r7+(z+x))) h->Q (.tuple #[]) h):ACQ Q x0 x6 x7 iv (AB (os.length:Nat)) (AB ((0:Nat):Int)) h:=by
 have ah:S.nam.length=N:=by have:=a6.len.2;unfold nC at this;rw[Z0] at this;omega
 have ai:S.sub.length=N:=by have:=a7.len.2;unfold nC at this;rw[Z0] at this;omega
 unfold ACQ;refine Bj (fun m u q=>∃ i z,m=os.length-i/\i<=os.length/\u=AB (i:Nat)/\AN (r6+(r7+(z+x))) q) os.length ⟨0,z,rfl,Q2 _,rfl,w⟩ ?_;rintro rec m u q ⟨i,z,rfl,hi,rfl,w⟩ p;unfold ACK BL;rw[AR];refine AS (fun hc=>?_) (fun hc=>K z q w);have e:i<os.length:=by omega
 obtain⟨o,ho⟩:∃ o,os[i]? = some o:=⟨_,B0 e⟩;obtain⟨cv,ev,xv,xas,s,b,c,dd,f⟩:=ov.get ho;obtain⟨g1,g2,g3,g4⟩:=lo o (D1 ho);obtain⟨ca,cc,t⟩:=b.len;obtain⟨⟨ea,ec,v⟩,_⟩:=c.len;obtain⟨⟨xa,xc,ae⟩,_⟩:=dd.len;have l:(o.X.cells cv ev xv).all Value.oneCell'=true:=by rw[t,v,ae];exact XN.one
 refine (d.bf.bf.bf:VecX 81 23 iv os.length cs _).agg w e ?_;rw[s];refine AV w Ev rfl fun xb h w=>?_;refine AD w ⟨o.X.cells cv ev xv⟩ (AU (by rw[XN.size_];exact XN.len)) XN.size_ (by rw[XN.size_];omega) l fun h w=>?_;have k2:∀ P g j Z X:Res,g+(P+(j+(Z+X)))=j+(P+(g+(Z+X))):=by intros;ac_rfl
 have k3:∀ P g j Z X:Res,g+(P+(j+(Z+X)))=g+(j+((P+Z)+X)):=by intros;ac_rfl
 have w:=w.cast (qs _ _ _ _ _);have f1:(AQ .add (AB (i:Nat))  AX )=fun k=>k (AB (i+1:Nat)):=funext fun k=>by
  rw[Az (n:=1),Bq (by omega)]
 have fin:∀ a:Nat,a=o.X.ek->ACM Q rec x0 x6 x7 (Pt xb) (AH (a:Nat)) iv (AB (os.length:Nat)) (AB (i:Nat)) h:=by
  intro a hw;unfold ACM AW;rw[Ai];refine Af w XN.g5 ?_;rw[AT,H0 (by omega),Ai];refine Af w XN.g0 ?_;refine BH (EW ?_);rw[f1];exact p (os.length-(i+1)) _ _ ⟨i+1,_,rfl,e,rfl,w.cast (k3 _ _ _ _ _)⟩ (by omega)
 rw[Ai];refine Af w XN.g0 ?_;refine CF a6 w (Kj (by omega)) ?_;rw[Ai];refine Af w XN.g1 ?_;refine Fk (qn g2 ?_);rw[AT];refine AS (fun hk=>?_) (fun hk=>?_)
 ·rw[Ai];refine Af w XN.g0 ?_;refine CF a7 (w.cast (k2 _ _ _ _ _)) (Kj (by omega)) ?_;rw[Az (n:=2),Dn (by omega)];exact fin _ (by rw[g4,D0 (by omega)])
 ·exact fin _ (by rw[g4,F0 (by omega)])
end
def XN.at1 {X:XN}{cv ev xv:Vz}{l:List Vz}(h:(l.drop (0*23)).take 23=X.cells cv ev xv):l[0*23+1]? = some (cU16 (X.en:Nat)):=by
 have:((l.drop (0*23)).take 23)[1]? = some (cU16 (X.en:Nat)):=by
  rw[h];exact XN.g1 (X:=X) (cv:=cv) (ev:=ev) (xv:=xv) |> fun q=>by simpa using q
 rw[I2] at this;simpa using this
section
variable {N m:Nat} {S:TS} {os:List AA} {cs:List Vz} {x4 x5 x6 x7 x8 x1:Vz} {rec2:Vz->H->Prop} {o0:AA}
def AOF (d:Vec 81 23 v.iv os.length cs r)(ov:OutV z cs os)(t:TR N S x4 x5 x6 x7 x8 A)(q:S.q=[])(lo:LinksOK N S os)(f:os[0]? = some o0)(hk:kindL o0.X.en=2)(p:os.length<1000000)(w:AN (v.res+(r+(A+(z+x)))) h)
  (K:∀ z h,VecX 81 23 v.iv os.length cs z->OutV z cs os->AN (v.res+(z+x)) h->Q (.tuple #[]) h):OY Q rec2 (Pt v.vb) x1 x4 x5 x6 x7 x8 h:=by
 obtain⟨r4,r5,r6,r7,u,rfl,a4,a5,a6,a7,n⟩:=t;rw[q] at n;obtain⟨⟨qa,qc,s⟩,_⟩:=n.len;obtain⟨g1,g2,g3,g4⟩:=lo o0 (D1 f);obtain⟨cv,ev,xv,xas,j,_⟩:=ov.get f;obtain⟨⟨ia,ic,c⟩,_⟩:=d.len;have g:0<os.length:=(G0.1 f).1;have o:∀ (k:Vz->Prop),(BS (Pt v.vb) fun e=>Aw 0 e k)=k (.pointer (some ⟨v.vb,0,none⟩)):=fun k=>by simp only[go_sem]
 unfold OY BL;rw[s,As,Ah,J0 (by simp),AJ,o];refine Af w VS.g0 ?_;have dx:VecX 81 23 v.iv os.length cs (v.res+(r+((r4+(r5+(r6+(r7+u))))+(z+x)))):=d.vx.an.bf;refine dx.cell (i:=0) w g (by omega) (XN.at1 j) ?_;refine Fk (qn g2 ?_);rw[AT,H0 (by omega)];refine BH (EW ?_);rw[o];refine Af w VS.g0 ?_;rw[c,As,<-c];have k1:∀ V R R4 R5 a b l Z X:Res,V+(R+((R4+(R5+(a+(b+l))))+(Z+X)))=a+(b+((R4+(R5+l))+(R+(Z+(V+X))))):=by intros;ac_rfl
 have k2:∀ V R a b m Z X:Res,a+(b+(m+(R+(Z+(V+X)))))=V+((R+(Z+(a+(b+m))))+X):=by intros;ac_rfl
 exact AQl lo d.vx.an ov a6 a7 p (w.cast (k1 _ _ _ _ _ _ _ _ _)) fun z2 h w=>K _ h d.vx.an ov.an.mono (w.cast (k2 _ _ _ _ _ _ _))
end
def ZM:Am TP 4=some  AE :=by kernel_rfl
def TS0 (N:Nat):TS:=⟨(List.replicate N false).set 2 true,(List.replicate N 0).set 2 2,List.replicate N 0,List.replicate N 0,[2]⟩
structure WalkOK (I:Bs) (nb eh:Nat) (ow o':Bs) (S:TS) (os:List AA) (n:Nat):Prop where
 walk:WalkR I nb eh n ow (TS0 (eh+1)) [] o' S os
 nlt:n<1000000
 len:os.length=n
 ek:LinksOK (eh+1) S os
 root:∃ o,os[0]? = some o/\kindL o.X.en=2
 hit:itL I*4096+eh*256<=I.length
section
variable {o':Bs} {S:TS} {os:List AA} {kk b4 b5 b6 b7 N:Nat}
def AEX (ok:v.OK x)(j:v.iv=.slice none 0 0)(g:N=v.eh+1)(e:WalkOK v.I v.nb v.eh v.ow o' S os kk)
  (w:AN (v.res+(pts b4 (.cells ⟨List.replicate N  AE⟩ 4 (0,0))+(pts b5 (.cells ⟨List.replicate N  AO⟩ 48 (0,0))+(pts b6 (.cells ⟨List.replicate N AO ⟩ 48 (0,0))+x)))) h)
  (K:∀ iv cs z h,VecX 81 23 iv os.length cs z->OutV z cs os->((v.ino iv).own o').OK x->AN (((v.ino iv).own o').res+(z+x)) h->Q (.tuple #[]) h) :
  ACP Q (Pt v.vb) (AH ((11:Nat):Int)) (.slice (some ⟨b4,0,none⟩) N N) (.slice (some ⟨b5,0,none⟩) N N) (.slice (some ⟨b6,0,none⟩) N N) h:=by
 have ae:=ok.eh;have s:=ok.ipg1;unfold ACP AW;rw[As];refine Di w Dt rfl (I0 _) (by omega) (by omega) fun b7 h w=>?_;refine Hb w Dt rfl rfl rfl fun b8 h w=>?_;rw[As,BY,J0 (by omega),AJ];have k1:∀ c b V p f a X:Res,c+(b+(V+(p+(f+(a+X)))))=p+(c+(b+(V+(f+(a+X))))):=by intros;ac_rfl
 have a4:Vec 4 1 (.slice (some ⟨b4,0,none⟩) N N) N (List.replicate N  AE ) (pts b4 (.cells ⟨List.replicate N  AE ⟩ 4 (0,0))):=.own' (I0 _) (by simp) (by simp);have a5:Vec 48 1 (.slice (some ⟨b5,0,none⟩) N N) N (List.replicate N AO ) (pts b5 (.cells ⟨List.replicate N  AO ⟩ 48 (0,0))):=.own' (I0 _) (by simp) (by simp);have a6:Vec 48 1 (.slice (some ⟨b6,0,none⟩) N N) N (List.replicate N AO ) (pts b6 (.cells ⟨List.replicate N  AO ⟩ 48 (0,0))):=.own' (I0 _) (by simp) (by simp);have a7:Vec 48 1 (.slice (some ⟨b7,0,none⟩) N N) N (List.replicate N AO ) (pts b7 (.cells ⟨List.replicate N  AO ⟩ 48 (0,0))):=.own' (I0 _) (by simp) (by simp);refine DV (i:=2) (u:=.bool true) a4 (w.cast (k1 _ _ _ _ _ _ _)) (by omega) rfl rfl fun r4 h a4 w=>?_;have k2:∀ R4 c b V f a X:Res,R4+(c+(b+(V+(f+(a+X)))))=f+(R4+(c+(b+(V+(a+X))))):=by intros;ac_rfl
 refine DV (i:=2) (u:=AH 2) a5 (w.cast (k2 _ _ _ _ _ _ _)) (by omega) rfl rfl fun r5 h a5 w=>?_;have q:VecQ 48 (.slice (some ⟨b8,0,none⟩) 1 1) 1 (nC [2]) (pts b8 (.cells ⟨[AH 2]⟩ 48 (0,0))):=.own' (I0 _) (by simp) rfl;have t:TR N (TS0 N) (.slice (some ⟨b4,0,none⟩) N N) (.slice (some ⟨b5,0,none⟩) N N) (.slice (some ⟨b6,0,none⟩) N N) (.slice (some ⟨b7,0,none⟩) N N) (.slice (some ⟨b8,0,none⟩) 1 1) (r4+(r5+(pts b6 (.cells ⟨List.replicate N  AO ⟩ 48 (0,0))+(pts b7 (.cells ⟨List.replicate N AO ⟩ 48 (0,0))+pts b8 (.cells ⟨[AH 2]⟩ 48 (0,0)))))):=by
  refine⟨r4,r5,_,_,_,rfl,?_,?_,?_,?_,q⟩
  ·have:bC (TS0 N).seen=(List.replicate N AE ).set 2 AI :=by unfold bC TS0;rw[E7,W6]
   rw[this];exact a4
  ·have:nC (TS0 N).par=(List.replicate N  AO).set 2 (AH 2):=by unfold nC TS0;rw[E7,W6];rfl
   rw[this];exact a5
  ·have:nC (TS0 N).nam=List.replicate N  AO :=by unfold nC TS0;rw[W6];rfl
   rw[this];exact a6
  ·have:nC (TS0 N).sub=List.replicate N  AO :=by unfold nC TS0;rw[W6];rfl
   rw[this];exact a7
 have k3:∀ R5 R4 c b V a X:Res,R5+(R4+(c+(b+(V+(a+X)))))=V+(0+((R4+(R5+(a+(b+c))))+(0+X))):=by intros;rw[Res.zero_add,Res.zero_add];ac_rfl
 obtain⟨o0,n,l⟩:=e.root;refine AQm (m:=0) (S:=TS0 N) (os:=[]) (cs:=[]) ok e.hit g (by rw[g];exact e.walk) (by have:=e.nlt;omega) (by rw[j];exact .nil) .nil t (w.cast (k3 _ _ _ _ _ _ _)) fun rec2 iv r cs A z x8 h d ov t hq o w=>?_;rw[U1,<-e.len] at d;exact AOF (v:=(v.ino iv).own o') d ov t hq (by rw[g];exact e.ek) n l (by rw[e.len];exact e.nlt) w fun z h d ov w=>K iv cs z h d ov o w
def s68 (ok:v.OK x)(a:v.iv=.slice none 0 0)(e:WalkOK v.I v.nb v.eh v.ow o' S os kk)(w:AN (v.res+x) h)
  (K:∀ iv cs z h,VecX 81 23 iv os.length cs z->OutV z cs os->((v.ino iv).own o').OK x->AN (((v.ino iv).own o').res+(z+x)) h->Q (.tuple #[]) h) :
  f68 (Pt v.vb) (AH ((11:Nat):Int)) h Q:=by
 have f:=ok.eh;have f1:(AQ .mul Aq  (AH (v.eh:Nat)))=fun k=>k (AH (v.eh:Nat)):=funext fun k=>by
  rw[CZ,Int.one_mul,Dn (by omega)]
 unfold f68 AW;simp (disch:=omega) only[go_sem,AC w,f1];refine Di w ZM rfl (I0 _) (by omega) (by omega) fun b4 h w=>?_;rw[As,As];have k1:∀ d c b V X:Res,d+(c+(b+(V+X)))=V+(b+(c+(d+X))):=by intros;ac_rfl
 have k2:∀ d c b V X:Res,c+(d+(b+(V+X)))=V+(b+(c+(d+X))):=by intros;ac_rfl
 refine And.intro ?_ ?_
 ·refine Di w Dt rfl (I0 _) (by omega) (by omega) fun b5 h w=>?_;refine And.intro ?_ ?_
  ·exact Di w Dt rfl (I0 _) (by omega) (by omega) fun b6 h w=>AEX ok a rfl e (w.cast (k1 _ _ _ _ _)) K
  ·exact Di w Dt rfl (I0 _) (by omega) (by omega) fun b6 h w=>AEX ok a rfl e (w.cast (k1 _ _ _ _ _)) K
 ·refine Di w Dt rfl (I0 _) (by omega) (by omega) fun b6 h w=>?_;exact Di w Dt rfl (I0 _) (by omega) (by omega) fun b5 h w=>AEX ok a rfl e (w.cast (k2 _ _ _ _ _)) K
end
def usd:Nat->List Bool->List Bool
 | 0,l=>l
 | n+1,l=>(usd n l).set (n+1) true
theorem Nt:∀ (n:Nat) (l:List Bool),(usd n l).length=l.length
 | 0,_=>rfl
 | n+1,l=>by rw[usd,O5,Nt n l]
section
variable {N:Nat} {U:List Bool} {x0 x4 x5 sv:Vz} {sb:Bs}
def AQo (d:RdX x sv sb)(j:sb.length<100000)(c:leL sb 84 4=11)(a4:Vec 4 1 x4 N (bC U) r)(l:16<=N)(f:N<100000)(w:AN (r+x) h)
  (K:∀ r h,Vec 4 1 x4 N (bC (usd 10 U)) r->AN (r+x) h->ACb Q x0 sv x4 x5 h):ACg Q x0 sv x4 x5 (AH ((1:Nat):Int)) h:=by
 unfold ACg;refine Bj (fun m u b=>∃ i r,m+i=10/\u=AH (i+1:Nat)/\Vec 4 1 x4 N (bC (usd i U)) r/\AN (r+x) b) 10 ⟨0,r,rfl,rfl,a4,w⟩ ?_;rintro rec m u b ⟨i,r,hi,rfl,a4,w⟩ a;obtain⟨⟨o,q,e⟩,_⟩:=a4.len;unfold ACZ BL;refine ES (p:=84) (n:=4) d.bf w (by decide) (by decide) (by omega) ?_;rw[c,AR];refine Ct (fun g=>?_) (fun g=>?_)
 ·rw[e,As,Ea,Dn (by omega),AR,H0 (by omega),Ab,<-e];refine DV (u:=.bool true) a4 w (by omega) rfl rfl fun r h a4 w=>?_;rw[Az (n:=1),Dn (by omega)];rw[WM] at a4;exact a (m-1) _ _ ⟨i+1,r,by omega,rfl,a4,w⟩ (by omega)
 ·have:i=10:=by omega
  subst this;exact K r b a4 w
def mkU (U:List Bool)(os:List AA):List Bool:=os.foldl (fun u o=>u.set o.X.num true) U
def cntD (os:List AA):Nat:=(os.filter fun o=>decide (kindL o.X.en=2)).length
def AGx {os:List AA}:∀ {U:List Bool},(mkU U os).length=U.length:=by
 induction os with
 | nil=>intro U;rfl
 | cons o os a=>intro U;exact (a (U:=U.set o.X.num true)).trans (O5 ..)
def AQt {os:List AA}{cs:List Vz}{iv:Vz}{r4 r5:Res}(ok:v.OK x)(hN:N=v.eh+1)(ah:∀ o∈os,1<=o.X.num/\o.X.num<=v.eh/\o.X.en<65536)(d:VecX 81 23 iv os.length cs x)(ov:OutV y cs os)(hn:os.length<1000000)(a4:Vec 4 1 x4 N (bC U) r4)(a5:Vec 48 1 x5 1 (nC [0]) r5)(w:AN (v.res+(r4+(r5+(z+x)))) h)
  (K:∀ r4 r5 z h,Vec 4 1 x4 N (bC (mkU U os)) r4->Vec 48 1 x5 1 (nC [cntD os]) r5->AN (v.res+(r4+(r5+(z+x)))) h->gu Q (Pt v.vb) sv x4 x5 AO   AO   AO h) :
  ACf Q (Pt v.vb) sv x4 x5 iv (AB (os.length:Nat)) (AB ((0:Nat):Int)) h:=by
 have ao:=ok.eh;unfold ACf;refine Bj (fun m u q=>∃ i r4 r5 z,m=os.length-i/\i<=os.length/\u=AB (i:Nat)/\Vec 4 1 x4 N (bC (mkU U (os.take i))) r4/\Vec 48 1 x5 1 (nC [cntD (os.take i)]) r5/\AN (v.res+(r4+(r5+(z+x)))) q) os.length ⟨0,r4,r5,z,rfl,Q2 _,rfl,a4,a5,w⟩ ?_;rintro rec m u q ⟨i,r4,r5,z,rfl,hi,rfl,a4,a5,w⟩ e;unfold ACY BL;rw[AR];refine AS (fun hc=>?_) (fun hc=>?_)
 ·have a:i<os.length:=by omega
  obtain⟨o,ho⟩:∃ o,os[i]? = some o:=⟨_,B0 a⟩;obtain⟨cv,ev,xv,xas,s,b,c,dd,f⟩:=ov.get ho;obtain⟨g1,g2,g3⟩:=ah o (D1 ho);obtain⟨ca,cc,t⟩:=b.len;obtain⟨⟨ea,ec,ae⟩,_⟩:=c.len;obtain⟨⟨xa,xc,ai⟩,_⟩:=dd.len;have g:(o.X.cells cv ev xv).all Value.oneCell'=true:=by rw[t,ae,ai];exact XN.one
  have j:os.take (i+1)=os.take i++[o]:=by rw[O3,ho];rfl
  refine (d.bf.bf.bf.bf:VecX 81 23 iv os.length cs _).agg w a ?_;rw[s];refine AV w Ev rfl fun xb h w=>?_;refine AD w ⟨o.X.cells cv ev xv⟩ (AU (by rw[XN.size_];exact XN.len)) XN.size_ (by rw[XN.size_];omega) g fun h w=>?_;have hU:mkU U (os.take (i+1))=(mkU U (os.take i)).set o.X.num true:=by rw[j];unfold mkU;rw[M6];rfl
  have p:cntD (os.take (i+1))=if kindL o.X.en=2 then cntD (os.take i)+1 else cntD (os.take i):=by
   rw[j];unfold cntD;rw[L5];by_cases hk:kindL o.X.en=2<;>simp[hk]
  have aj:cntD (os.take i)<=i:=C6 (G7 _ _) (by simp;omega);have f1:(AQ .add (AB (i:Nat))  AX)=fun k=>k (AB (i+1:Nat)):=funext fun k=>by
   rw[Az (n:=1),Bq (by omega)]
  rw[Ai];refine Af w XN.g0 ?_;have k1:∀ P V R4 R5 Z X:Res,P+(V+(R4+(R5+(Z+X))))=R4+(P+(V+(R5+(Z+X)))):=by intros;ac_rfl
  refine DV (u:=.bool true) a4 (w.cast (k1 _ _ _ _ _ _)) (by omega) rfl rfl fun r4 h a4 w=>?_;rw[WM,<-hU] at a4;rw[Ai];refine Af w XN.g1 ?_;refine Fk (qn g3 ?_);rw[AT];refine AS (fun hk=>?_) (fun hk=>?_)
  ·rw[D0 (by omega)] at p;rw[Ai];refine Af w XN.g0 ?_;have nf:∀ (k:Vz->Prop),(BS (Pt v.vb) fun l=>Aw 6 l k)=k (.pointer (some ⟨v.vb,6,none⟩)):=fun k=>by simp only[go_sem]
   rw[ZD (n:=1) (by show (1:Int)<=_;omega),Dn (show o.X.num-1<18446744073709551616 by omega),nf];refine Af w VS.g6 ?_;rw[Yt (show 0<v.eh by omega),Nat.div_eq_of_lt (show o.X.num-1<v.eh by omega),Dn (show 0<18446744073709551616 by omega)];have k2:∀ P V R4 R5 Z X:Res,R4+(P+(V+(R5+(Z+X))))=R5+(P+(V+(R4+(Z+X)))):=by intros;ac_rfl
   have w:=w.cast (k2 _ _ _ _ _ _);refine CF a5 w (Kj (by simp)) ?_;rw[show ([cntD (os.take i)].getD 0 0)=cntD (os.take i) from rfl,Az (n:=1),Dn (show cntD (os.take i)+1<18446744073709551616 by omega)];refine DV (u:=AH (cntD (os.take i)+1:Nat)) a5 w (by omega) rfl rfl fun r5 h a5 w=>?_;rw[Sl,show [cntD (os.take i)].set 0 (cntD (os.take i)+1)=[cntD (os.take i)+1] from rfl,<-p] at a5;rw[f1];have k4:∀ P V R4 R5 Z X:Res,R5+(P+(V+(R4+(Z+X))))=V+(R4+(R5+((P+Z)+X))):=by intros;ac_rfl
   exact e (os.length-(i+1)) _ _ ⟨i+1,r4,r5,_,rfl,a,rfl,a4,a5,w.cast (k4 _ _ _ _ _ _)⟩ (by omega)
  ·rw[F0 (by omega)] at p;rw[f1];have k3:∀ P V R4 R5 Z X:Res,R4+(P+(V+(R5+(Z+X))))=V+(R4+(R5+((P+Z)+X))):=by intros;ac_rfl
   rw[<-p] at a5;exact e (os.length-(i+1)) _ _ ⟨i+1,r4,r5,_,rfl,a,rfl,a4,a5,w.cast (k3 _ _ _ _ _ _)⟩ (by omega)
 ·have:i=os.length:=by omega
  subst this;rw[L1] at a4 a5;exact K r4 r5 z q a4 a5 w
end
def AQq {x1:Vz}(w:AN (v.res+x) h)(K:Q (.tuple #[]) h):ACd Q (Pt v.vb) x1  AO  h:=by
 unfold ACd;refine Bj (fun m u b=>b=h/\((m=1/\u=AH 0)\/(m=0/\u=AH ((1:Nat):Int)))) 1 ⟨rfl,.inl ⟨rfl,rfl⟩⟩ ?_;rintro rec m u b ⟨rfl,hh⟩ a;unfold ACV BL;rw[Br];refine Af w VS.g4 ?_;rcases hh with⟨rfl,rfl⟩|⟨rfl,rfl⟩
 ·have c1:(AQ .lss  AO   Aq)=fun k=>k AI :=funext fun k=>by rw[AR];rfl
  have c2:(AQ .mul  AO   Bm)=fun k=>k AO :=funext fun k=>by rw[CZ];rfl
  have c:(AQ .gtr  AO   AO)=fun k=>k AE :=funext fun k=>by rw[Ah];rfl
  have c4:(AQ .add  AO   Aq)=fun k=>k (AH ((1:Nat):Int)):=funext fun k=>by rw[BT];rfl
  simp only[c1,Ab];rw[Br];refine Af w VS.g5 ?_;simp only[c2,c,GU];unfold AJy AW;simp only[c4,AJ];exact a 0 _ _ ⟨rfl,.inr ⟨rfl,rfl⟩⟩ (by omega)
 ·have c1:(AQ .lss (AH ((1:Nat):Int)) Aq )=fun k=>k AE :=funext fun k=>by rw[AR];rfl
  simp only[c1,AJ];exact K
def li {T:Tj}{v u:Vz}{n i:Nat}{kk:Iq}{vs:List Vz}{F:Vz->Vz->Prop}(d:Vec T 1 v n vs r)(w:AN (r+x) h)(e:vs[i]? = some u)(K:∀ a,(Ae false 1 a h fun v=>v=u)->F a u):Ap (.slice 1) v (.int kk (i:Int)) fun a=>Ae false 1 a h fun u=>F a u:=by
 have g:=d.len.2;have hi:i<vs.length:=(G0.1 e).1;cases d with
 | nil=>simp at hi
 | own j f=>
  rename_i b c all;have:(⟨all⟩:Array Vz)[i]? = some u:=by
   rw[I2] at e;split at e
   ·simpa using e
   ·cases e
  rw[Dq (by omega),U1,AC w,this];exact K _ (by rw[AC w,this];exact rfl)
def AH9 {a b:Bool}:HF .bool false false h (.bool a) (.bool b) k=k (.bool (a == b)):=by simp[HF,HS]
def cntN (p:Nat->Bool)(n:Nat):Nat:=((List.range n).filter p).length
def FE (p:Nat->Bool)(n:Nat):cntN p (n+1)=if p n then cntN p n+1 else cntN p n:=by
 unfold cntN;rw[List.range_succ,L5,C0];cases a:p n<;>simp[a]
def Rc (p:Nat->Bool)(n:Nat):cntN p n<=n:=by
 unfold cntN;exact C6 (G7 _ _) (by rw[List.length_range];exact I0 _)
def mkB (nb:Nat)(ow:Bs)(i:Nat):Bool:=decide (nb<=i)||decide (ow.getD i 0≠0)
structure MarkOK (I:Bs) (nb eh:Nat) (ow:Bs) (U:List Bool) (dirs:Nat) (sb:Bs):Prop where
 bb:leL (dscL I) 0 4<nb
 ib:leL (dscL I) 4 4<nb
 blk:∀ i,i<32768->bitL (blkL I (leL (dscL I) 0 4)) i=mkB nb ow i
 ino:∀ i,i<eh->bitL (blkL I (leL (dscL I) 4 4)) i=U.getD (i+1) false
 fre:∀ i,i<eh->U.getD (i+1) false=false->leL (rawL I (i+1)) 0 2=0/\leL (rawL I (i+1)) 26 2=0
 g12:leL (dscL I) 12 2=cntN (fun i=>!mkB nb ow i) 32768
 g14:leL (dscL I) 14 2=cntN (fun i=>decide (i<eh) && !U.getD (i+1) false) 32768
 g16:leL (dscL I) 16 2=dirs
 s12:leL sb 12 4=cntN (fun i=>!mkB nb ow i) 32768
 s344:leL sb 344 4=0
 s16:leL sb 16 4=cntN (fun i=>decide (i<eh) && !U.getD (i+1) false) 32768
 s84:leL sb 84 4=11
section
variable {N:Nat} {U:List Bool} {x1 x4 x5 x9 x10 x12 x13:Vz} {sb bb ib:Bs} {dirs F E:Nat} {r4 r5:Res} {rec2:Vz->Vz->Vz->H->Prop}
def AQp {rec3:Vz->Vz->Vz->H->Prop}{i c1 c2:Nat}(ok:v.OK x)(hN:U.length=v.eh+1)(hit:itL v.I*4096+v.eh*256<=v.I.length)(hi:i<32768)(u:c2<=i)
  (g:i<v.eh->bitL ib i=U.getD (i+1) false) (m:4096<=ib.length) (j:ib.length<1000000) (f:i<v.eh->U.getD (i+1) false=false->leL (rawL v.I (i+1)) 0 2=0/\leL (rawL v.I (i+1)) 26 2=0)
  (q:RdX x x13 ib) (a4:Vec 4 1 x4 (v.eh+1) (bC U) r4) (w:AN (v.res+(r4+(y+x))) h)
  (K:rec3 (AH (c1:Nat)) (AH ((if decide (i<v.eh) && !U.getD (i+1) false then c2+1 else c2:Nat):Nat)) (AH (i+1:Nat)) h) :
  gt Q rec2 rec3 (Pt v.vb) x1 x4 x5 x9 x10 (AH ((0:Nat):Int)) x12 x13 (AH (c1:Nat)) (AH (c2:Nat)) (AH (i:Nat)) h:=by
 have ae:=ok.eh;have m1:∀ k:Vz->Prop,AQ .mul (AH ((0:Nat):Int)) (AH (v.eh:Nat)) k=k (AH ((0:Nat):Int)):=fun k=>by rw[Yp,G6,Dn (by omega)]
 have m2:∀ k:Vz->Prop,AQ .add (AH ((0:Nat):Int)) (AH (i:Nat)) k=k (AH (i:Nat)):=fun k=>by rw[IJ,U1,Dn (by omega)]
 have m3:∀ k:Vz->Prop,AQ .add (AH (i:Nat))  Aq  k=k (AH (i+1:Nat)):=fun k=>by rw[Az (n:=1),Dn (by omega)]
 have m4:∀ k:Vz->Prop,AQ .add (AH (c2:Nat)) Aq  k=k (AH (c2+1:Nat)):=fun k=>by rw[Az (n:=1),Dn (by omega)]
 unfold gt AW;rw[Br];refine Af w VS.g6 ?_;simp only[m1,m2,m3];rw[Br];refine Af w VS.g6 ?_;rw[AR];refine AS (fun t=>?_) (fun t=>?_)
 ·have b:i<v.eh:=by omega
  rw[H0 b,Bool.true_and] at K;have o:=w.cast (Kq2 _ _ _);refine li a4 o (RY (i:=i+1) (by omega)) fun a s=>?_;refine Zz (APu q.bf.bf.bf w (by omega) (by omega) ?_);refine⟨s,?_⟩;rw[AH9,g b,beq_self_eq_true];refine BH (EW ?_);refine CF a4 o (RY (i:=i+1) (by omega)) ?_;rw[CI];cases l:U.getD (i+1) false with
  | true=>rw[l] at K;rw[P3,AJ];exact K
  | false=>
   rw[l] at K;obtain⟨f1,f2⟩:=f b l;have c:(rawL v.I (i+1)).length<1000000:=by unfold rawL;rw[W1];omega
   have e:=w.cast (Kq3 _ _ _ _);have e0:∀ k:Vz->Prop,AQ .eql (AH ((0:Nat):Int))  AO  k=k  AI :=fun k=>by rw[AT];rfl
   rw[T5,Ab];simp only[m4];refine Nb (AHO ok (by omega) (by omega) hit e fun bv d=>?_);refine ES (p:=0) (n:=2) d.bf.bf e (by decide) (by decide) c ?_;rw[f1,e0,CV];refine Nb (AHO ok (by omega) (by omega) hit e fun bv d=>?_);refine ES (p:=26) (n:=2) d.bf.bf e (by decide) (by decide) c ?_;rw[f2,e0];refine BH (EW ?_);exact K
 ·rw[J0 (by omega),Bool.false_and] at K;exact K
theorem AQs {dirs:Nat}(ok:v.OK x)(hN:U.length=v.eh+1)(hit:itL v.I*4096+v.eh*256<=v.I.length)(mk:MarkOK v.I v.nb v.eh v.ow U dirs sb)(p:v.nb*4096<=v.I.length)
  (d1:RdX x x12 (blkL v.I (leL (dscL v.I) 0 4))) (u:RdX x x13 (blkL v.I (leL (dscL v.I) 4 4))) (a4:Vec 4 1 x4 (v.eh+1) (bC U) r4) (a5:Vec 48 1 x5 1 (nC [dirs]) r5) (w:AN (v.res+(r4+(r5+(z+x)))) h)
  (K:rec2 (AH (cntN (fun i=>!mkB v.nb v.ow i) 32768:Nat)) (AH (cntN (fun i=>decide (i<v.eh) && !U.getD (i+1) false) 32768:Nat)) (AH ((1:Nat):Int)) h) :
  ACe Q rec2 (Pt v.vb) x1 x4 x5 (AH ((0:Nat):Int)) (AH ((0:Nat):Int)) (AH ((0:Nat):Int)) x12 x13 (AH ((0:Nat):Int)) (AH ((0:Nat):Int)) (AH ((0:Nat):Int)) h:=by
 have ae:=ok.eh;have ah:=ok.nb;have ai:=ok.ow;have t:∀ n,n<v.nb->(blkL v.I n).length=4096:=fun n hn=>by
  have:(n+1)*4096<=v.nb*4096:=H3 _ hn;unfold blkL;rw[W1,J2];omega
 have aj:=t _ mk.bb;have ao:=t _ mk.ib;unfold ACe;refine Ms (fun m u0 u1 u2 f=>f=h/\∃ i,m+i=32768/\u0=AH (cntN (fun i=>!mkB v.nb v.ow i) i:Nat)/\u1=AH (cntN (fun i=>decide (i<v.eh) && !U.getD (i+1) false) i:Nat)/\u2=AH (i:Nat)) 32768 ⟨rfl,0,rfl,rfl,rfl,rfl⟩ ?_;rintro rec3 m u0 u1 u2 f ⟨rfl,i,hi,rfl,rfl,rfl⟩ e;have z0:∀ {op:BinOp},True:=fun {_}=>trivial;have q1:=Rc (fun i=>!mkB v.nb v.ow i) i;have q2:=Rc (fun i=>decide (i<v.eh) && !U.getD (i+1) false) i;unfold ACX BL;rw[AR];refine AS (fun hc=>?_) (fun hc=>?_)
 ·have d:i<32768:=by omega
  have m1:∀ k:Vz->Prop,AQ .mul (AH ((0:Nat):Int))  Bm  k=k (AH ((0:Nat):Int)):=fun k=>by rw[CZ];rfl
  have m2:∀ k:Vz->Prop,AQ .add (AH ((0:Nat):Int)) (AH (i:Nat)) k=k (AH (i:Nat)):=fun k=>by rw[IJ,U1,Dn (by omega)]
  have m5:∀ k:Vz->Prop,AQ .geq (AH (i:Nat)) Bm  k=k  AE :=fun k=>by rw[Bd,J0 (by omega)]
  have m6:∀ k:Vz->Prop,AQ .lss (AH (i:Nat)) Bm  k=k  AI :=fun k=>by rw[AR,H0 (by omega)]
  have s:∀ c1,c1=cntN (fun i=>!mkB v.nb v.ow i) (i+1)->gt Q rec2 rec3 (Pt v.vb) x1 x4 x5 (AH ((0:Nat):Int)) (AH ((0:Nat):Int)) (AH ((0:Nat):Int)) x12 x13 (AH (c1:Nat)) (AH (cntN (fun i=>decide (i<v.eh) && !U.getD (i+1) false) i:Nat)) (AH (i:Nat)) f:=fun c1 g=>by
   refine AQp (y:=r5+z) ok hN hit d q2 (mk.ino i) (by omega) (by omega) (mk.fre i) u a4 (w.cast (by ac_rfl)) ?_;refine e (m-1) _ _ _ _ ⟨rfl,i+1,by omega,by rw[g],?_,rfl⟩ (by omega);rw[FE]
  have o:ACa Q rec2 rec3 (Pt v.vb) x1 x4 x5 (AH ((0:Nat):Int)) (AH ((0:Nat):Int)) (AH ((0:Nat):Int)) x12 x13 (AH (cntN (fun i=>!mkB v.nb v.ow i) i:Nat)) (AH (cntN (fun i=>decide (i<v.eh) && !U.getD (i+1) false) i:Nat)) (AH (i:Nat)) (AH (i:Nat)) (.bool (mkB v.nb v.ow i)) f:=by
   unfold ACa AW;rw[Br];refine Af w VS.g5 ?_;rw[m6,Ab];refine Zz (APu d1.bf.bf.bf.bf w (by omega) (by omega) ?_);rw[AH9,mk.blk i d,beq_self_eq_true];refine BH (EW ?_);unfold AJz AW;rw[CI];have cs:=FE (fun i=>!mkB v.nb v.ow i) i;cases q:mkB v.nb v.ow i with
   | true=>rw[q] at cs;rw[P3,AJ];exact s _ (by rw[cs];rfl)
   | false=>
    rw[q] at cs;rw[T5,Ab,Az (n:=1),Dn (by omega)];exact s _ (by rw[cs];rfl)
  rw[Br];refine Af w VS.g5 ?_;simp only[m1,m2];rw[Br];refine Af w VS.g5 ?_;rw[m5,Bt,Br];refine Af w VS.g1 ?_;rw[Bd];refine Cj (fun hb=>?_) (fun hb=>?_)
  ·have j:i<v.nb:=by omega
   rw[Br];refine Af w VS.g9 ?_;rw[Dq j,U1,AC w,Ji];obtain⟨c,b⟩:∃ c,v.ow[i]? = some c:=⟨_,B0 (by omega)⟩;rw[b,N5,Hn];have e2:∀ k:Vz->Prop,AQ .neq (bc c)  BE  k=k (.bool (decide (c≠0))):=fun k=>by
    unfold bc;rw[Ay];congr 2;apply decide_eq_decide.2;constructor
    ·intro hh l;exact hh (by rw[l];rfl)
    ·intro hh l;exact hh (J6.1 (by simpa using l))
   rw[e2];have:mkB v.nb v.ow i=decide (c≠0):=by
    unfold mkB;rw[J0 (by omega),Bool.false_or,W0,b];rfl
   rw[<-this];exact o
  ·have:mkB v.nb v.ow i=true:=by
    unfold mkB;rw[H0 (by omega),Bool.true_or]
   rw[this] at o;exact o
 ·have:i=32768:=by omega
  subst this;have g5:(AH ((0:Nat):Int):Vz)=AH ((0:Nat):Int):=rfl;refine Jn (p4 (lo:=12) (n:=2) ok.mono.mono.mono (w.cast rfl) (by omega) (by omega) ?_);rw[mk.g12,AT,H0 rfl];refine BH (EW ?_);refine Jn (p4 (lo:=14) (n:=2) ok.mono.mono.mono (w.cast rfl) (by omega) (by omega) ?_);rw[mk.g14,AT,H0 rfl];refine BH (EW ?_);refine li a5 (w.cast (Kq0 _ _ _ _)) (Kj (i:=0) (by simp)) fun a ha=>?_;refine Jn (p4 (lo:=16) (n:=2) ok.mono.mono.mono (w.cast rfl) (by omega) (by omega) ?_);refine⟨ha,?_⟩;rw[mk.g16,show ([dirs].getD 0 0)=dirs from rfl,AT,H0 rfl];refine BH (EW ?_);rw[IJ,U1,Dn (by omega),IJ,U1,Dn (by omega),Az (n:=1),Dn (by omega)];exact K
end
section
variable {N:Nat} {U:List Bool} {x4 x5 sv:Vz} {sb:Bs} {dirs:Nat} {r4 r5:Res}
def AQr (ok:v.OK x)(d:RdX x sv sb)(j:sb.length=1024)(g:U.length=v.eh+1)(hit:itL v.I*4096+v.eh*256<=v.I.length)(mk:MarkOK v.I v.nb v.eh v.ow U dirs sb)
  (a4:Vec 4 1 x4 (v.eh+1) (bC U) r4) (a5:Vec 48 1 x5 1 (nC [dirs]) r5) (w:AN (v.res+(r4+(r5+(z+x)))) h) (K:Q (.tuple #[]) h) :
  gu Q (Pt v.vb) sv x4 x5  AO   AO AO h:=by
 have a:=w.cast (Kq8 _ _ _ _ _);unfold gu;refine Ms (fun m u0 u1 u2 c=>c=h/\((m=1/\u0=AH ((0:Nat):Int)/\u1=AH ((0:Nat):Int)/\u2=AH ((0:Nat):Int))\/(m=0/\u0=AH (cntN (fun i=>!mkB v.nb v.ow i) 32768:Nat)/\u1=AH (cntN (fun i=>decide (i<v.eh) && !U.getD (i+1) false) 32768:Nat)/\u2=AH ((1:Nat):Int)))) 1 ⟨rfl,.inl ⟨rfl,rfl,rfl,rfl⟩⟩ ?_;rintro rec2 m u0 u1 u2 c ⟨rfl,hh⟩ b;unfold ACW BL;rw[Br];refine Af w VS.g4 ?_;rcases hh with⟨rfl,rfl,rfl,rfl⟩|⟨rfl,rfl,rfl,rfl⟩
 ·have c1:∀ k:Vz->Prop,AQ .lss (AH ((0:Nat):Int))  Aq  k=k  AI :=fun k=>by rw[AR];rfl
  rw[c1,Ab];refine Zj (APo ok.mono (a.cast (by ac_rfl:_=v.res+((r4+(r5+z))+x))) ?_);refine Rz (ANx ok mk.bb a fun bv d1=>?_);refine Zk (APp ok.mono a ?_);refine Rz (ANx ok mk.ib a fun e f=>?_);exact AQs ok g hit mk ok.len d1 f a4 a5 w (b 0 _ _ _ _ ⟨rfl,.inr ⟨rfl,rfl,rfl,rfl⟩⟩ (by omega))
 ·have c1:∀ k:Vz->Prop,AQ .lss (AH ((1:Nat):Int))  Aq  k=k  AE :=fun k=>by rw[AR];rfl
  have l:=Rc (fun i=>!mkB v.nb v.ow i) 32768;rw[c1,AJ];refine ES (p:=12) (n:=4) d.bf.bf a (by decide) (by decide) (by omega) ?_;refine ES (p:=344) (n:=4) d.bf.bf a (by decide) (by decide) (by omega) ?_;have c7:∀ k:Vz->Prop,AQ .shl (AH ((0:Nat):Int))  Bw  k=k (AH ((0:Nat):Int)):=fun k=>by rw[Lr]
  rw[mk.s12,mk.s344,c7,AD1 (by omega) (by omega),Nat.or_zero,AT,H0 rfl];refine BH (EW ?_);refine ES (p:=16) (n:=4) d.bf.bf a (by decide) (by decide) (by omega) ?_;rw[mk.s16,AT,H0 rfl];refine BH (EW ?_);exact AQq a K
theorem s69 {os:List AA}{cs:List Vz}(ok:v.OK x)(d:RdX x sv sb)(f:sb.length=1024)(hit:itL v.I*4096+v.eh*256<=v.I.length)
  (e:∀ o∈os,1<=o.X.num/\o.X.num<=v.eh/\o.X.en<65536) (dv:VecX 81 23 v.iv os.length cs x) (ov:OutV y cs os) (t:os.length<1000000)
  (mk:MarkOK v.I v.nb v.eh v.ow (mkU (usd 10 (List.replicate (v.eh+1) false)) os) (cntD os) sb) (w:AN (v.res+x) h) (K:∀ z h,AN (v.res+(z+x)) h->Q (.tuple #[]) h) :
  f69 (Pt v.vb) sv h Q:=by
 have s:=ok.eh;have q:=ok.ipg1;have f1:∀ k:Vz->Prop,AQ .mul  Aq (AH (v.eh:Nat)) k=k (AH (v.eh:Nat)):=fun k=>by
  rw[CZ,Int.one_mul,Dn (by omega)]
 have a:∀ (x4 x5:Vz) (r4 r5:Res) (h:H),Vec 4 1 x4 (v.eh+1) (bC (List.replicate (v.eh+1) false)) r4->Vec 48 1 x5 1 (nC [0]) r5->AN (v.res+(r4+(r5+x))) h->ACc Q (Pt v.vb) sv x4 x5 h:=by
  intro x4 x5 r4 r5 h a4 a5 w;unfold ACc AW;have k1:∀ V R4 R5 X:Res,V+(R4+(R5+X))=R4+(V+(R5+X)):=by intros;ac_rfl
  refine AQo (x:=v.res+(r5+x)) d.bf.bf (by omega) mk.s84 a4 (by omega) (by omega) (w.cast (k1 _ _ _ _)) fun r4 h a4 w=>?_;unfold ACb AW;rw[Br];refine Af w VS.g0 ?_;obtain⟨⟨va,vc,p⟩,_⟩:=dv.len;rw[p,As,<-p];have k2:∀ V R4 R5 X:Res,R4+(V+(R5+X))=V+(R4+(R5+(0+X))):=by intros;rw[Res.zero_add];ac_rfl
  refine AQt (z:=0) ok rfl e dv ov t a4 a5 (w.cast (k2 _ _ _ _)) fun r4 r5 z h a4 a5 w=>?_;have c:(mkU (usd 10 (List.replicate (v.eh+1) false)) os).length=v.eh+1:=by rw[AGx,Nt,M0]
  exact AQr ok d f c hit mk a4 a5 w (K _ _ (w.cast (Kq8 _ _ _ _ _)))
 unfold f69 AW;rw[Br];refine Af w VS.g4 ?_;rw[Br];refine Af w VS.g6 ?_;rw[f1,Az (n:=1),Dn (by omega),Br];refine Af w VS.g4 ?_;have u:∀ n,bC (List.replicate n false)=List.replicate n  AE :=fun n=>by unfold bC;rw[W6]
 have rn:nC [0]=List.replicate 1  AO:=rfl;have g:∀ b,Vec 4 1 (.slice (some ⟨b,0,none⟩) (v.eh+1) (v.eh+1)) (v.eh+1) (bC (List.replicate (v.eh+1) false)) (pts b (.cells ⟨List.replicate (v.eh+1)  AE ⟩ 4 (0,0))):=fun b=>by
  rw[u];exact .own' (I0 _) (by simp) (by simp)
 have i:∀ b,Vec 48 1 (.slice (some ⟨b,0,none⟩) 1 1) 1 (nC [0]) (pts b (.cells ⟨List.replicate 1  AO ⟩ 48 (0,0))):=fun b=>by
  rw[rn];exact .own' (I0 _) (by simp) (by simp)
 have k2:∀ l j V X:Res,j+(l+(V+X))=V+(j+(l+X)):=by intros;ac_rfl
 refine And.intro ?_ ?_
 ·refine Di w ZM rfl (I0 _) (by omega) (by omega) fun b4 h w=>?_;refine⟨Af w VS.g4 rfl,?_,?_⟩
  ·exact Di (n:=1) (m:=1) w Dt rfl (I0 _) (by omega) (by omega) fun b5 h w=>a _ _ _ _ _ (g b4) (i b5) (w.cast (Kq9 _ _ _ _))
  ·exact Di (n:=1) (m:=1) w Dt rfl (I0 _) (by omega) (by omega) fun b5 h w=>a _ _ _ _ _ (g b4) (i b5) (w.cast (Kq9 _ _ _ _))
 ·refine Di (n:=1) (m:=1) w Dt rfl (I0 _) (by omega) (by omega) fun b5 h w=>?_;refine⟨Af w VS.g4 rfl,Af w VS.g6 rfl,?_⟩;exact Di w ZM rfl (I0 _) (by omega) (by omega) fun b4 h w=>a _ _ _ _ _ (g b4) (i b5) (w.cast (k2 _ _ _ _))
end
end
end Go.Proofs.YtollddkkdgoonaaGreatDoor
