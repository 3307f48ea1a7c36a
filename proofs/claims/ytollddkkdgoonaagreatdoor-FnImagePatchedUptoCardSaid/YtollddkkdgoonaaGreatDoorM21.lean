/- A part of a proof over images that are written and read. No condition; a step. -/
import Derived.Test.YtollddkkdgoonaaGreatDoorM20
namespace Go.Proofs.YtollddkkdgoonaaGreatDoor
open Go
set_option linter.unusedVariables false
set_option linter.unusedSimpArgs false
section
variable {h:H} {k:Value→Prop} {kt Q:Kt} {x y z r A:Res} {v:VS}
def vC (img:Value)(nb gs pg ipg ib db:Nat)(ov:Value)(wd:Bool):List Value:=[.slice none 0 0,.int .u64 (nb:Nat),.slice none 0 0,img,.int .u64 (gs:Nat),.int .u64 (pg:Nat),.int .u64 (ipg:Nat),.int .u64 (ib:Nat),.int .u64 (db:Nat),ov,.bool wd]
theorem VS.cells_v {b ob nb ipg:Nat}{iv:Value}{I ow:Bs}:(VS.mk b ob (.slice none 0 0) iv I nb ipg ow).cells=⟨vC iv nb 1 32768 ipg 256 32 (.slice (some ⟨ob,0,none⟩) nb nb) false⟩:=rfl
attribute [local irreducible] AK Az AQ BB Ae AY AH AM VS.cells XN.cells
theorem Yx:AG TP 51=some (.agg ⟨vC (.slice none 0 0) 0 0 0 0 0 0 (.slice none 0 0) false⟩):=by kernel_rfl
theorem WQ:AG TP 5=some (.int .u8 0):=by kernel_rfl
structure SbOK (sb:Bs) (nb ipg:Nat):Prop where
 len:sb.length=1024
 s0:leL sb 0 4=ipg
 s4:leL sb 4 4=nb
 s20:leL sb 20 4=0
 s24:leL sb 24 4=2
 s32:leL sb 32 4=32768
 s40:leL sb 40 4=ipg
 s56:leL sb 56 2=61267
 s58:leL sb 58 2=1
 s76:leL sb 76 4=1
 s84:leL sb 84 4=11
 s88:leL sb 88 2=256
 s92:leL sb 92 4=520
 s96:leL sb 96 4=578∨leL sb 96 4=33346
 s100:leL sb 100 4=4170
 s336:leL sb 336 4=0
structure PH (I:Bs) (nb ipg:Nat) (o0 o':Bs) (S:TS) (os:List AA) (kk:Nat):Prop where
 len:I.length=nb*4096
 nb0:nb≤32768
 nb1:2≤nb
 ipg0:ipg≤32768
 ipg1:16≤ipg
 ipg16:ipg%16=0
 sb:SbOK ((I.drop 1024).take 1024) nb ipg
 grp:Clm (grpL I ipg) (List.replicate nb 0) o0
 walk:WalkOK I nb ipg o0 o' S os kk
 num:∀ o∈os,1≤o.X.num∧o.X.num≤ipg∧o.X.mode<65536
 mark:MarkOK I nb ipg o' (mkU (usd 10 (List.replicate (ipg+1) false)) os) (cntD os) ((I.drop 1024).take 1024)
section
variable {I o0 o':Bs} {S:TS} {os:List AA} {kk nb ipg b:Nat} {iv sv:Value}
set_option maxRecDepth 20000 in
theorem AFz {ev:Value}(g:PH I nb ipg o0 o' S os kk)(d:RdX x iv I)(ds:RdX x sv ((I.drop 1024).take 1024))(w:AN (pts b (.cells ⟨vC iv nb 0 32768 ipg 256 32 ev false⟩ 51 (0,0))+x) h)(hev:ev=.slice none 0 0)
  (K:∀ (v:VS) z y h cs,VecX 81 23 v.iv os.length cs z→OutV z cs os→v.OK (z+x)→v.vb=b→v.I=I→v.ipg=ipg→AN (v.res+(y+(z+x))) h→Q (Pt b) h) :
  Pn Q (Pt b) sv h:=by
 have nf:∀ (o:Nat) (k:Value→Prop),(AE (Pt b) fun x161=>AC o x161 k)=k (.pointer (some ⟨b,o,none⟩)):=fun o k=>by simp only[go_sem]
 have hip:=g.ipg0
 have hnb:=g.nb0
 have hnb1:=g.nb1
 have hi1:=g.ipg1
 have hsl:((I.drop 1024).take 1024).length<1000000:=by rw[g.sb.len];decide
 subst hev
 have cg:∀ (gs:Nat) (ov:Value),(⟨vC iv nb gs 32768 ipg 256 32 ov false⟩:Array Value)[1]? = some (.int .u64 (nb:Nat))∧(⟨vC iv nb gs 32768 ipg 256 32 ov false⟩:Array Value)[2]? = some (.slice none 0 0)∧(⟨vC iv nb gs 32768 ipg 256 32 ov false⟩:Array Value)[4]? = some (.int .u64 (gs:Nat))∧(⟨vC iv nb gs 32768 ipg 256 32 ov false⟩:Array Value)[5]? = some (.int .u64 ((32768:Nat):Int))∧(⟨vC iv nb gs 32768 ipg 256 32 ov false⟩:Array Value)[6]? = some (.int .u64 (ipg:Nat)):=fun gs ov=>⟨rfl,rfl,rfl,rfl,rfl⟩
 have q1:∀ k:Value→Prop,AD .gtr (.int .i64 ((0:Nat):Int)) (.int .i64 0) k=k (.bool false):=fun k=>by rw[Ao];rfl
 have q2:∀ k:Value→Prop,AD .quo (.int .u64 ((nb+32768-1:Nat):Int)) (.int .u64 ((32768:Nat):Int)) k=k (.int .u64 ((1:Nat):Int)):=fun k=>by
  rw[QI (by omega),show (nb+32768-1)/32768=1 by omega,CU (by omega)]
 have q3:∀ k:Value→Prop,AD .mul (.int .u64 ((1:Nat):Int)) (.int .u64 (ipg:Nat)) k=k (.int .u64 (ipg:Nat)):=fun k=>by rw[Qc,Nat.one_mul,CU (by omega)]
 have q4:∀ k:Value→Prop,AD .and (.int .u64 ((1:Nat):Int)) (.int .u64 1) k=k (.int .u64 ((1:Nat):Int)):=fun k=>by
  have:=Qm (k:=k) (a:=1) (b:=1) (by omega) (by decide)
  exact this
 have q5:∀ k:Value→Prop,AD .eql (.int .u64 ((1:Nat):Int)) (.int .u64 1) k=k (.bool true):=fun k=>by rw[Aa];rfl
 unfold Pn
 rw[nf]
 refine AW w (cg 0 _).2.1 ?_
 rw[Aw,q1,AU,nf]
 refine AW w (cg 0 _).1 ?_
 rw[nf]
 refine AW w (cg 0 _).2.2.2.1 ?_
 rw[F2,CU (by omega),Ra (n:=1) (by show (1:Int)≤_;omega),CU (by omega),nf]
 refine AW w (cg 0 _).2.2.2.1 ?_
 rw[q2,nf]
 refine AL w ⟨vC iv nb 1 32768 ipg 256 32 (.slice none 0 0) false⟩ rfl rfl (by show _≤11;omega) rfl fun h w=>?_
 rw[nf]
 refine AW w (cg 1 _).2.2.1 ?_
 rw[nf]
 refine AW w (cg 1 _).2.2.2.2 ?_
 rw[q3]
 refine DF (p:=0) (n:=4) ds.addR w (by decide) (by decide) hsl ⟨AW w (cg 1 _).2.2.1 rfl,AW w (cg 1 _).2.2.2.2 rfl,?_⟩
 rw[g.sb.s0,Aa,decide_eq_true rfl]
 refine DF (p:=0) (n:=4) ds.addR w (by decide) (by decide) hsl ⟨AW w (cg 1 _).2.2.1 rfl,AW w (cg 1 _).2.2.2.2 rfl,?_⟩
 refine Al _ _ _ _ _ _ (Da ?_)
 refine DF (p:=58) (n:=2) ds.addR w (by decide) (by decide) hsl ?_
 rw[g.sb.s58,q4,q5]
 refine DF (p:=58) (n:=2) ds.addR w (by decide) (by decide) hsl ?_
 refine Al _ _ _ _ _ _ (Da ?_)
 rw[nf]
 refine AW w (cg 1 _).2.1 ?_
 rw[Aw,q1,AU,nf]
 refine AW w (cg 1 _).1 ?_
 refine C4 w WQ rfl (Nat.le_refl _) (by omega) (by omega) fun ob h w=>?_
 rw[nf]
 have k1:∀ A B X:Res,A+(B+X)=B+(A+X):=by intros;ac_rfl
 refine AL (w.cast (k1 _ _ _)) ⟨vC iv nb 1 32768 ipg 256 32 (.slice (some ⟨ob,0,none⟩) nb nb) false⟩ rfl rfl (by show _≤11;omega) rfl fun h w=>?_
 let v:VS:=⟨b,ob,.slice none 0 0,iv,I,nb,ipg,List.replicate nb 0⟩
 have hres:pts b (.cells ⟨vC iv nb 1 32768 ipg 256 32 (.slice (some ⟨ob,0,none⟩) nb nb) false⟩ 51 (0,0))+(pts ob (.cells ⟨List.replicate nb (.int .u8 0)⟩ 5 (0,0))+x)=v.res+x:=by
  have:pts ob (.cells ⟨List.replicate nb (.int .u8 0)⟩ 5 (0,0))=buf ob (List.replicate nb 0):=by
   unfold buf bcs;rw[List.map_replicate];rfl
  rw[this,←Res.assoc]
  show _=pts b (.cells (VS.cells ⟨b,ob,.slice none 0 0,iv,I,nb,ipg,List.replicate nb 0⟩) 51 (0,0))+buf ob (List.replicate nb 0)+x
  rw[VS.cells_v]
 have w:=w.cast hres
 have ok:v.OK x:=⟨d,by show nb*4096≤I.length;rw[g.len];exact Nat.le_refl _,by show I.length<1099511627776;rw[g.len];omega,hnb,hnb1,List.length_replicate ..,hip,hi1,g.ipg16⟩
 refine AEL _ _ _ _ (s67 (v:=v) ok ds g.sb.len g.sb.s92 g.grp w fun h ok w=>?_)
 refine DF (p:=84) (n:=4) ds.addR w (by decide) (by decide) hsl ?_
 rw[g.sb.s84]
 refine AEI _ _ _ _ (s68 (v:=v.own o0) ok rfl g.walk w fun iv2 cs z h dv ov ok w=>?_)
 refine ACu _ _ _ _ (s69 (x:=z+x) (v:=((v.own o0).ino iv2).own o') ok.mono ds.addR g.sb.len g.walk.hit g.num dv.addL ov (by rw[g.walk.len];exact g.walk.nlt) g.mark w fun y h w=>?_)
 exact K _ z y h cs dv ov ok.mono rfl rfl rfl w
theorem PI {inc:Nat}(hi:inc=578∨inc=33346):(∀ k:Value→Prop,AD .and (.int .u64 (inc:Nat)) (.int .u64 128) k=k (.int .u64 ((0:Nat):Int)))∧(∀ k:Value→Prop,AD .andNot (.int .u64 (inc:Nat)) (.int .u64 33474) k=k (.int .u64 ((0:Nat):Int)))∧(∀ k:Value→Prop,AD .and (.int .u64 (inc:Nat)) (.int .u64 2) k=k (.int .u64 ((2:Nat):Int))):=by
 have an:∀ a b:Nat,a<18446744073709551616→b<18446744073709551616→∀ k:Value→Prop,AD .and (.int .u64 (a:Nat)) (.int .u64 (b:Nat)) k=k (.int .u64 (a &&& b:Nat)):=fun a b h1 h2 k=>Nv rfl h1 h2
 have nn:∀ k:Value→Prop,∀ a b:Nat,AD .andNot (.int .u64 (a:Nat)) (.int .u64 (b:Nat)) k=k (.int .u64 (IntKind.u64.wrap ((a%18446744073709551616 &&& (18446744073709551615-b%18446744073709551616):Nat):Int))):=fun k a b=>by
  unfold AD CT
  simp
  exact Iff.rfl
 rcases hi with rfl|rfl
 ·exact⟨fun k=>an 578 128 (by decide) (by decide) k,fun k=>nn k 578 33474,fun k=>an 578 2 (by decide) (by decide) k⟩
 ·exact⟨fun k=>an 33346 128 (by decide) (by decide) k,fun k=>nn k 33346 33474,fun k=>an 33346 2 (by decide) (by decide) k⟩
set_option maxRecDepth 20000 in
theorem AGc {inc:Nat}(g:PH I nb ipg o0 o' S os kk)(d:RdX x iv I)(ds:RdX x sv ((I.drop 1024).take 1024))(hinc:inc=578∨inc=33346)(w:AN (pts b (.cells ⟨vC iv nb 0 32768 ipg 256 32 (.slice none 0 0) false⟩ 51 (0,0))+x) h)
  (K:∀ (v:VS) z y h cs,VecX 81 23 v.iv os.length cs z→OutV z cs os→v.OK (z+x)→v.vb=b→v.I=I→v.ipg=ipg→AN (v.res+(y+(z+x))) h→Q (Pt b) h) :
  N8 Q iv (Pt b) sv (.int .u64 (inc:Nat)) (.int .u64 ((4170:Nat):Int)) h:=by
 have nf:∀ (o:Nat) (k:Value→Prop),(AE (Pt b) fun x161=>AC o x161 k)=k (.pointer (some ⟨b,o,none⟩)):=fun o k=>by simp only[go_sem]
 have hip:=g.ipg0
 have hnb:=g.nb0
 have hnb1:=g.nb1
 have hi1:=g.ipg1
 have hlen:=g.len
 have hsl:((I.drop 1024).take 1024).length<1000000:=by rw[g.sb.len];decide
 obtain⟨_,b2,b3⟩:=PI hinc
 have q1:∀ k:Value→Prop,AD .neq (.int .u64 ((2:Nat):Int)) (.int .u64 0) k=k (.bool true):=fun k=>by rw[A3];rfl
 have q2:∀ k:Value→Prop,AD .and (.int .u64 ((4170:Nat):Int)) (.int .u64 1040) k=k (.int .u64 ((0:Nat):Int)):=fun k=>Qm (a:=4170) (b:=1040) (by decide) (by decide)
 have q3:∀ k:Value→Prop,AD .and (.int .u64 ((256:Nat):Int)) (.int .u64 ((255:Nat):Int)) k=k (.int .u64 ((0:Nat):Int)):=fun k=>Nv (a:=256) (b:=255) rfl (by decide) (by decide)
 have q4:∀ k:Value→Prop,AD .sub (.int .u64 ((256:Nat):Int)) (.int .u64 1) k=k (.int .u64 ((255:Nat):Int)):=fun k=>by rw[Bv];rfl
 have c1:(⟨vC iv nb 0 32768 ipg 256 32 (.slice none 0 0) false⟩:Array Value)[1]? = some (.int .u64 (nb:Nat)):=rfl
 have c5:(⟨vC iv nb 0 32768 ipg 256 32 (.slice none 0 0) false⟩:Array Value)[5]? = some (.int .u64 ((32768:Nat):Int)):=rfl
 have c6:(⟨vC iv nb 0 32768 ipg 256 32 (.slice none 0 0) false⟩:Array Value)[6]? = some (.int .u64 (ipg:Nat)):=rfl
 have c7:(⟨vC iv nb 0 32768 ipg 256 32 (.slice none 0 0) false⟩:Array Value)[7]? = some (.int .u64 ((256:Nat):Int)):=rfl
 have c8:(⟨vC iv nb 0 32768 ipg 256 32 (.slice none 0 0) false⟩:Array Value)[8]? = some (.int .u64 ((32:Nat):Int)):=rfl
 unfold N8
 refine DF (p:=76) (n:=4) ds.addR w (by decide) (by decide) hsl ?_
 rw[g.sb.s76,Aa,decide_eq_true (by decide)]
 refine DF (p:=76) (n:=4) ds.addR w (by decide) (by decide) hsl ?_
 refine Al _ _ _ _ _ _ (Da ?_)
 refine DF (p:=24) (n:=4) ds.addR w (by decide) (by decide) hsl ?_
 rw[g.sb.s24,Aa,decide_eq_true (by decide)]
 refine DF (p:=24) (n:=4) ds.addR w (by decide) (by decide) hsl ?_
 refine Al _ _ _ _ _ _ (Da ?_)
 refine DF (p:=20) (n:=4) ds.addR w (by decide) (by decide) hsl ?_
 rw[g.sb.s20,Aa,decide_eq_true (by decide)]
 refine DF (p:=20) (n:=4) ds.addR w (by decide) (by decide) hsl ?_
 refine Al _ _ _ _ _ _ (Da ?_)
 rw[b2,Aa,decide_eq_true (by decide),Cq,b3,q1]
 refine Al _ _ _ _ _ _ (Da ?_)
 unfold So
 rw[q2,Aa,decide_eq_true (by decide)]
 refine Al _ _ _ _ _ _ (Da ?_)
 rw[nf]
 refine AW w c5 ?_
 rw[BD,decide_eq_true (by omega),Cq,nf]
 refine AW w c5 ?_
 rw[BW,decide_eq_true (by omega),nf]
 refine AW w c5 ?_
 refine Al _ _ _ _ _ _ (Da ?_)
 unfold TK
 rw[nf]
 refine AW w c6 ?_
 rw[BD,decide_eq_true (by omega),Cq,nf]
 refine AW w c6 ?_
 rw[BW,decide_eq_true (by omega),nf]
 refine AW w c6 ?_
 refine Al _ _ _ _ _ _ (Da ?_)
 unfold TW
 rw[nf]
 refine AW w c7 ?_
 rw[BD,decide_eq_true (by omega),Cq,nf]
 refine AW w c7 ?_
 rw[BW,decide_eq_true (by omega),Cq,nf]
 refine AW w c7 ?_
 rw[nf]
 refine AW w c7 ?_
 rw[q4,q3,Aa,decide_eq_true (by decide),nf]
 refine AW w c7 ?_
 refine Al _ _ _ _ _ _ (Da ?_)
 unfold OC
 rw[nf]
 refine AW w c8 ?_
 rw[BD,decide_eq_true (by omega),Cq,nf]
 refine AW w c8 ?_
 rw[BW,decide_eq_true (by omega),nf]
 refine AW w c8 ?_
 refine Al _ _ _ _ _ _ (Da ?_)
 unfold TU
 rw[nf]
 refine AW w c1 ?_
 rw[BD,decide_eq_true (by omega),Cq,nf]
 refine AW w c1 ?_
 obtain⟨a,c,hv⟩:=d.len
 rw[hv,Aw,DO,CU (by omega),Rb (n:=4096) (by decide),CU (by omega),BW,decide_eq_true (by omega),nf]
 refine AW w c1 ?_
 refine Al _ _ _ _ _ _ (Da ?_)
 exact AFz g d ds w rfl K
set_option maxRecDepth 20000 in
theorem s25 (g:PH I nb ipg o0 o' S os kk)(d:RdX x iv I)(w:AN x h)
  (K:∀ (v:VS) z y h cs,VecX 81 23 v.iv os.length cs z→OutV z cs os→v.OK (z+x)→v.I=I→v.ipg=ipg→AN (v.res+(y+(z+x))) h→Q (Pt v.vb) h):f25 iv h Q:=by
 have hnb1:=g.nb1
 have hnb:=g.nb0
 have hlen:=g.len
 have hsl:((I.drop 1024).take 1024).length<1000000:=by rw[g.sb.len];decide
 unfold f25
 obtain⟨a,c,hv⟩:=d.len
 refine Au Yx rfl (rs:=vC iv 0 0 0 0 0 0 (.slice none 0 0) false) (by rw[hv];rfl) (BJ w fun b h w=>?_)
 have w:AN (pts b (.cells ⟨vC iv 0 0 0 0 0 0 (.slice none 0 0) false⟩ 51 (0,0))+x) h:=w
 unfold AH
 refine⟨_,#[],WQ,by decide,rfl,fun b2 h' e hb ho=>?_⟩
 have w:=w.ext e
 show Ab iv _
 rw[hv,Aw,←hv,BD,decide_eq_true (by omega),Ak]
 refine d.slice (i:=1024) (j:=2048) Ec Ec (by omega) (by omega) fun sv ds=>?_
 have e1:(I.take 2048).drop 1024=(I.drop 1024).take 1024:=by rw[List.drop_take]
 rw[e1] at ds
 have nf:∀ (o:Nat) (k:Value→Prop),(AE (Pt b) fun x161=>AC o x161 k)=k (.pointer (some ⟨b,o,none⟩)):=fun o k=>by simp only[go_sem]
 have c7:∀ k:Value→Prop,AD .shl (.int .u64 ((0:Nat):Int)) (.int .u64 32) k=k (.int .u64 ((0:Nat):Int)):=fun k=>by rw[Hm]
 have q1:∀ k:Value→Prop,AD .neq (.int .u64 ((0:Nat):Int)) (.int .u64 0) k=k (.bool false):=fun k=>by rw[A3];rfl
 unfold Tj
 refine DF (p:=56) (n:=2) ds.addR w (by decide) (by decide) hsl ?_
 rw[g.sb.s56,Aa,decide_eq_true (by decide)]
 refine DF (p:=56) (n:=2) ds.addR w (by decide) (by decide) hsl ?_
 refine Al _ _ _ _ _ _ (Da ?_)
 refine DF (p:=4) (n:=4) ds.addR w (by decide) (by decide) hsl ?_
 refine DF (p:=336) (n:=4) ds.addR w (by decide) (by decide) hsl ?_
 rw[g.sb.s4,g.sb.s336,c7,V2 (by omega) (by omega),Nat.or_zero,nf]
 refine AL w ⟨vC iv nb 0 0 0 0 0 (.slice none 0 0) false⟩ rfl rfl (by show _≤11;omega) rfl fun h w=>?_
 refine DF (p:=32) (n:=4) ds.addR w (by decide) (by decide) hsl ?_
 refine DF (p:=40) (n:=4) ds.addR w (by decide) (by decide) hsl ?_
 rw[g.sb.s32,g.sb.s40,nf]
 refine AL w ⟨vC iv nb 0 32768 0 0 0 (.slice none 0 0) false⟩ rfl rfl (by show _≤11;omega) rfl fun h w=>?_
 rw[nf]
 refine AL w ⟨vC iv nb 0 32768 ipg 0 0 (.slice none 0 0) false⟩ rfl rfl (by show _≤11;omega) rfl fun h w=>?_
 refine DF (p:=88) (n:=2) ds.addR w (by decide) (by decide) hsl ?_
 rw[g.sb.s88,nf]
 refine AL w ⟨vC iv nb 0 32768 ipg 256 0 (.slice none 0 0) false⟩ rfl rfl (by show _≤11;omega) rfl fun h w=>?_
 rw[nf]
 refine AL w ⟨vC iv nb 0 32768 ipg 256 32 (.slice none 0 0) false⟩ rfl rfl (by show _≤11;omega) rfl fun h w=>?_
 refine DF (p:=96) (n:=4) ds.addR w (by decide) (by decide) hsl ?_
 refine DF (p:=100) (n:=4) ds.addR w (by decide) (by decide) hsl ?_
 rw[(PI g.sb.s96).1,q1,nf,g.sb.s100]
 refine AL w ⟨vC iv nb 0 32768 ipg 256 32 (.slice none 0 0) false⟩ rfl rfl (by show _≤11;omega) rfl fun h w=>?_
 rw[nf]
 refine AW w (show (⟨vC iv nb 0 32768 ipg 256 32 (.slice none 0 0) false⟩:Array Value)[10]? = some (.bool false) from rfl) ?_
 rw[AU]
 refine AGc g d ds g.sb.s96 w fun v z y h cs dv ov ok hb hI hip w=>?_
 exact hb▸K v z y h cs dv ov ok hI hip w
end
end
section
variable {h:H} {k:Value→Prop} {kt Q:Kt} {x y z r:Res}
def RdV (sz:Nat)(v:Value)(n:Nat)(vs:List Value)(x:Res):Prop:=
 (∃ a c,v=.slice a 0 c∧n=0∧vs=[])∨∃ b o c all T fz y,v=.slice (some ⟨b,o,none⟩) n c∧x=pts b (.cells ⟨all⟩ T fz)+y∧o+n*sz≤all.length∧(all.drop o).take (n*sz)=vs∧n≤c
theorem RdV.addL {sz n:Nat}{v:Value}{vs:List Value}(d:RdV sz v n vs x):RdV sz v n vs (x+y):=by
 rcases d with d|⟨b,o,c,all,T,fz,z,h1,h2,h3⟩
 ·exact .inl d
 ·exact .inr ⟨b,o,c,all,T,fz,z+y,h1,by rw[h2,Res.assoc],h3⟩
theorem RdV.addR {sz n:Nat}{v:Value}{vs:List Value}(d:RdV sz v n vs x):RdV sz v n vs (y+x):=by rw[Res.comm];exact d.addL
theorem Vec.rdv {T:TypeId}{sz n:Nat}{v:Value}{vs:List Value}(d:Vec T sz v n vs r):RdV sz v n vs r:=by
 cases d with
 | nil=>exact .inl ⟨none,0,rfl,rfl,rfl⟩
 | own hn hc=>
  have:=Nat.mul_le_mul_right sz hn
  exact .inr ⟨_,0,_,_,T,_,0,rfl,(Res.add_zero _).symm,by omega,by rw[List.drop_zero],hn⟩
theorem VecX.rdv {T:TypeId}{sz n:Nat}{v:Value}{vs:List Value}(d:VecX T sz v n vs x):RdV sz v n vs x:=by
 obtain⟨r,y,rfl,d⟩:=d
 exact d.rdv.addL
theorem RdV.len {sz n:Nat}{v:Value}{vs:List Value}(d:RdV sz v n vs x):(∃ a c,v=.slice a n c)∧vs.length=n*sz:=by
 rcases d with⟨a',c,h1,h2,h3⟩|⟨b,o,c,all,T,fz,y,h1,h2,h3,h4,h5⟩
 ·subst h2 h3;exact⟨⟨_,_,h1⟩,by simp⟩
 ·refine⟨⟨_,_,h1⟩,?_⟩
  rw[←h4,List.length_take,List.length_drop];omega
theorem RdV.one_ {sz n:Nat}{v:Value}{vs:List Value}(d:RdV sz v n vs x):Value.oneCell' v=true:=by
 obtain⟨⟨a,c,hv⟩,_⟩:=d.len
 rw[hv];rfl
theorem PQ {b o n c i sz:Nat}{kk:IntKind}(hi:i<n):AI (.slice sz) (.slice (some ⟨b,o,none⟩) n c) (.int kk (i:Int)) k=k (.pointer (some ⟨b,o+i*sz,none⟩)):=by
 refine propext ⟨fun⟨kk',m,h1,a,l,c',h2,h3,h4,h5⟩=>?_,fun hk=>⟨kk,i,rfl,_,n,c,rfl,by omega,by omega,?_⟩⟩
 ·cases h1;cases h2;simpa[Bm] using h5
 ·simpa[Bm] using hk
theorem RdV.get {n i:Nat}{kk:IntKind}{v u:Value}{vs:List Value}(d:RdV 1 v n vs x)(w:AN x h)(hu:vs[i]? = some u)(K:k u):AI (.slice 1) v (.int kk (i:Int)) fun a=>AB false 1 a h k:=by
 have hl:=d.len.2
 have hi:i<vs.length:=(List.getElem?_eq_some_iff.1 hu).1
 rcases d with⟨a',c,h1,h2,h3⟩|⟨b,o,c,all,T,fz,y,h1,h2,h3,h4,h5⟩
 ·subst h3;simp at hi
 ·subst h1 h2
  rw[Cg (by omega),AF w]
  have:(⟨all⟩:Array Value)[o+i]? = some u:=by
   rw[←h4,List.getElem?_take] at hu
   split at hu
   ·rw[List.getElem?_drop] at hu;simpa using hu
   ·cases hu
  rw[this];exact K
theorem RdV.two {n i:Nat}{kk:IntKind}{v u:Value}{vs:List Value}{F:Value→Value→Prop}(d:RdV 1 v n vs x)(w:AN x h)(hu:vs[i]? = some u)(K:∀ a,(AB false 1 a h fun v=>v=u)→F a u):AI (.slice 1) v (.int kk (i:Int)) fun a=>AB false 1 a h fun u=>F a u:=by
 have hl:=d.len.2
 have hi:i<vs.length:=(List.getElem?_eq_some_iff.1 hu).1
 rcases d with⟨a',c,h1,h2,h3⟩|⟨b,o,c,all,T,fz,y,h1,h2,h3,h4,h5⟩
 ·subst h3;simp at hi
 ·subst h1 h2
  have:(⟨all⟩:Array Value)[o+i]? = some u:=by
   rw[←h4,List.getElem?_take] at hu
   split at hu
   ·rw[List.getElem?_drop] at hu;simpa using hu
   ·cases hu
  rw[Cg (by omega),AF w,this]
  exact K _ (by rw[AF w,this];exact rfl)
theorem RdV.agg {sz n i:Nat}{kk:IntKind}{v:Value}{vs:List Value}(d:RdV sz v n vs x)(w:AN x h)(hi:i<n)(K:k (.agg ⟨(vs.drop (i*sz)).take sz⟩)):AI (.slice sz) v (.int kk (i:Int)) fun a=>AB true sz a h k:=by
 rcases d with⟨a',c,h1,h2,h3⟩|⟨b,o,c,all,T,fz,y,h1,h2,h3,h4,h5⟩
 ·omega
 ·subst h1 h2
  have hm:i*sz+sz≤n*sz:=by
   have:(i+1)*sz≤n*sz:=Nat.mul_le_mul_right sz hi
   rw[Nat.add_mul,Nat.one_mul] at this;exact this
  rw[PQ hi,Am (o:=o+i*sz) (w.left.one) (by simp;omega)]
  have:(⟨all⟩:Array Value).extract (o+i*sz) (o+i*sz+sz)=⟨(vs.drop (i*sz)).take sz⟩:=by
   apply Array.ext'
   rw[←h4]
   simp only[List.extract_toArray,List.extract_eq_take_drop,List.drop_take,List.take_take,List.drop_drop]
   congr 1
   omega
  rw[this];exact K
theorem RdV.cell {sz n i j:Nat}{kk:IntKind}{v u:Value}{vs:List Value}(d:RdV sz v n vs x)(w:AN x h)(hi:i<n)(hj:j<sz)(hu:vs[i*sz+j]? = some u)(K:k u):AI (.slice sz) v (.int kk (i:Int)) fun a=>AC j a fun p=>AB false 1 p h k:=by
 rcases d with⟨a',c,h1,h2,h3⟩|⟨b,o,c,all,T,fz,y,h1,h2,h3,h4,h5⟩
 ·omega
 ·subst h1 h2
  have hm:i*sz+sz≤n*sz:=by
   have:(i+1)*sz≤n*sz:=Nat.mul_le_mul_right sz hi
   rw[Nat.add_mul,Nat.one_mul] at this;exact this
  rw[PQ hi]
  simp only[DW,Bm]
  rw[AF w]
  have:(⟨all⟩:Array Value)[o+i*sz+j]? = some u:=by
   rw[←h4,List.getElem?_take] at hu
   split at hu
   ·rw[List.getElem?_drop,←Nat.add_assoc] at hu;simpa using hu
   ·cases hu
  rw[this];exact K
theorem RdV.slice {sz n i j:Nat}{lo hi:Option Value}{v:Value}{vs:List Value}(d:RdV sz v n vs x)(hlo:Ay 0 lo=some i)(hhi:Ay n hi=some j)(h1:i≤j)(h2:j≤n)(K:∀ v',RdV sz v' (j-i) ((vs.take (j*sz)).drop (i*sz)) x→k v'):AZ (.slice sz) v lo hi k:=by
 rcases d with⟨a',c,e1,e2,e3⟩|⟨b,o,c,all,T,fz,y,e1,e2,e3,e4,e5⟩
 ·subst e1 e2 e3
  obtain rfl:j=0:=by omega
  obtain rfl:i=0:=by omega
  refine⟨.slice (if c=0 then a' else a'.map (·.add 0)) 0 c,?_,K _ (.inl ⟨_,c,rfl,rfl,by simp⟩)⟩
  simp only[A6,hlo,hhi]
  rw[if_pos ⟨Nat.le_refl _,Nat.zero_le _⟩]
  simp
 ·subst e1
  have hj:j*sz≤n*sz:=Nat.mul_le_mul_right sz h2
  have hij:i*sz+(j-i)*sz=j*sz:=by rw[←Nat.add_mul];congr 1;omega
  refine⟨.slice (some ⟨b,if c=i then o else o+i*sz,none⟩) (j-i) (c-i),?_,K _ (.inr ⟨b,if c=i then o else o+i*sz,c-i,all,T,fz,y,rfl,e2,?_,?_,by omega⟩)⟩
  ·simp only[A6,hlo,hhi]
   rw[if_pos ⟨h1,by omega⟩]
   by_cases hc:c=i
   ·rw[if_pos hc,if_pos hc]
   ·rw[if_neg hc,if_neg hc,Option.map_some,Bm]
  ·by_cases hc:c=i
   ·rw[if_pos hc]
    have:j-i=0:=by omega
    rw[this];omega
   ·rw[if_neg hc];omega
  ·by_cases hc:c=i
   ·have:j=i:=by omega
    subst this
    rw[Nat.sub_self,Nat.zero_mul,List.take_zero,List.drop_take,Nat.sub_self,List.take_zero]
   ·rw[if_neg hc,←e4,List.take_take,Nat.min_eq_left hj,List.drop_take,List.drop_drop]
    congr 1
    omega
theorem RdV.src {sz n:Nat}{v:Value}{vs:List Value}(d:RdV sz v n vs x)(w:AN x h):srcLen v=some n∧BF sz n h v=some ⟨vs⟩:=by
 rcases d with⟨a',c,h1,h2,h3⟩|⟨b,o,c,all,T,fz,y,h1,h2,h3,h4,h5⟩
 ·subst h1 h2 h3;exact⟨rfl,Od (Nat.zero_mul _)⟩
 ·subst h1 h2
  refine⟨rfl,?_⟩
  unfold BF
  simp only[w.left.one,Option.isSome_none,Bool.false_eq_true,if_false]
  rw[if_pos (by simpa using h3)]
  congr 1
  apply Array.ext'
  rw[←h4]
  simp only[List.extract_toArray,List.extract_eq_take_drop]
  congr 1
  omega
theorem CA {T:TypeId}{sz by_ n m:Nat}{z:Option Value}{zv v s:Value}{vs news:List Value}(d:Vec T sz v n vs r)(e:RdV sz s m news x)(w:AN (r+x) h)(hz:z=some zv)(hzs:zv.cells.size=sz)
  (hb:(n+m)*by_≤140737488355328) (hb2:n+m≤140737488355328) (hone:news.all Value.oneCell'=true)
  (K:∀ v r h,Vec T sz v (n+m) (vs++news) r→AN (r+x) h→kt v h):AM T z sz by_ v s h kt:=by
 obtain⟨s1,s2⟩:=e.src w.right
 exact⟨m,⟨news⟩,s1,s2,IP d w hz hzs hb hb2 hone e.len.2 K⟩
theorem Dg {T:TypeId}{sz:Nat}{z:Option Value}{zv:Value}{kt:Kt}(w:AN x h)(hz:z=some zv)(K:∀ v r h,Vec T sz v 0 [] r→AN (r+x) h→kt v h):AH (.arr sz) T z sz 0 [] h kt:=by
 refine⟨zv,#[],hz,by omega,?_,fun b h' e hb ho=>K _ _ h' (.own' (all:=[]) (Nat.le_refl _) (by simp) (by simp)) (w.new e hb ho)⟩
 rw[if_pos (by omega)];rfl
theorem Pi (l:List Bs):(strs l).all Value.oneCell'=true:=by
 unfold strs
 rw[List.all_map,List.all_eq_true]
 intro a _;rfl
end
section
set_option maxRecDepth 100000
def KL (Q:Kt)(r1:R1)(r2:R1)(x2 x3 x4 x9 a3 d4 d5 d6 n0 n1 n2 p1:Value)(h:H):Prop:=
 AK p1
 (AB true 18 x9 h fun p2=>AC 0 a3 fun p3=>AB false 1 p3 h fun p4=>AC 1 a3 fun p6=>AB false 1 p6 h fun p7=>AI (.slice 1) x4 p7 fun p8=>AB false 1 p8 h fun p9=>Call TP 46 [p2,p4,p9] h fun q0 h=>AJ 18 x9 q0 h fun h=>AD .add n2 (.int .i64 1) fun q1=>r2 q1 h)
 (AD .add n2 (.int .i64 1) fun q1=>r2 q1 h)
def We (Q:Kt)(r1:R1)(r2:R1)(x2 x3 x4 x9 d4 d5 d6 n0 n1 n2:Value)(h:H):Prop:=
 AD .lss n2 n1 fun n3=>AK n3
 (AI (.slice 3) n0 n2 fun n4=>AB true 3 n4 h fun n5=>AQ (AG TP 114) 114 h fun a3 h=>AJ 3 a3 n5 h fun h=>AC 0 a3 fun n6=>AB false 1 n6 h fun n7=>AD .neq n7 (.string ⟨#[46]⟩) fun n8=>Az n8 true (AC 0 a3 fun o0=>AB false 1 o0 h fun o1=>AD .neq o1 (.string ⟨#[46,46]⟩) fun o2=>Az o2 true (AC 1 a3 fun o5=>AB false 1 o5 h fun o6=>Ab x4 fun o8=>AV .u64 o8 fun o9=>AD .lss o6 o9 fun p0=>KL Q r1 r2 x2 x3 x4 x9 a3 d4 d5 d6 n0 n1 n2 p0 h) (KL Q r1 r2 x2 x3 x4 x9 a3 d4 d5 d6 n0 n1 n2 (.bool false) h)) (KL Q r1 r2 x2 x3 x4 x9 a3 d4 d5 d6 n0 n1 n2 (.bool false) h))
 (AC 0 x3 fun q2=>AB false 1 q2 h fun q3=>AB true 18 x9 h fun q4=>AH (.arr 18) 63 (AG TP 63) 18 1 [(0,q4)] h fun q5 h=>AM 63 (AG TP 63) 18 200 q3 q5 h fun q6 h=>AC 0 x3 fun q7=>AJ 1 q7 q6 h fun h=>AD .add d6 (.int .i64 1) fun q8=>r1 q8 h)
def Wj (Q:Kt)(r1:R1)(x2 x3 x4 x9 d4 d5 d6 n0 n1 n2:Value)(h:H):Prop:=A1 (fun r2 n2 h=>We Q r1 r2 x2 x3 x4 x9 d4 d5 d6 n0 n1 n2 h) n2 h
def WX (Q:Kt)(r1:R1)(r3:R1)(x2 x3 x4 x8 x9 d4 d5 d6 k4 k5 k6:Value)(h:H):Prop:=
 AD .lss k6 k5 fun k7=>AK k7
 (AI (.slice 2) k4 k6 fun k8=>AB true 2 k8 h fun k9=>AQ (AG TP 86) 86 h fun a1 h=>AJ 2 a1 k9 h fun h=>AC 15 x9 fun m0=>AB false 1 m0 h fun m1=>AC 0 a1 fun m2=>AB false 1 m2 h fun m3=>AC 1 a1 fun m4=>AB false 1 m4 h fun m5=>Call TP 16 [m1,m3,m5] h fun m6 h=>AC 15 x9 fun m7=>AJ 1 m7 m6 h fun h=>AD .add k6 (.int .i64 1) fun m8=>r3 m8 h)
 (AC 19 x8 fun m9=>AB false 1 m9 h fun n0=>Ab n0 fun n1=>Wj Q r1 x2 x3 x4 x9 d4 d5 d6 n0 n1 (.int .i64 0) h)
def ABJ (Q:Kt)(r1:R1)(x2 x3 x4 x8 x9 d4 d5 d6 k4 k5 k6:Value)(h:H):Prop:=A1 (fun r3 k6 h=>WX Q r1 r3 x2 x3 x4 x8 x9 d4 d5 d6 k4 k5 k6 h) k6 h
def MW (Q:Kt)(r1:R1)(x2 x3 x4 x8 x9 d4 d5 d6:Value)(h:H):Prop:=
 AC 20 x8 fun k3=>AB false 1 k3 h fun k4=>Ab k4 fun k5=>ABJ Q r1 x2 x3 x4 x8 x9 d4 d5 d6 k4 k5 (.int .i64 0) h
def XX (Q:Kt)(r1:R1)(x2 x3 x4 d4 d5 d6:Value)(h:H):Prop:=
 AD .lss d6 d5 fun d7=>AK d7
 (AI (.slice 23) d4 d6 fun d8=>AB true 23 d8 h fun d9=>AQ (AG TP 81) 81 h fun x8 h=>AJ 23 x8 d9 h fun h=>AC 1 x8 fun g0=>AB false 1 g0 h fun g1=>AC 2 x8 fun g2=>AB false 1 g2 h fun g3=>AC 3 x8 fun g4=>AB false 1 g4 h fun g5=>AC 8 x8 fun g6=>AB true 2 g6 h fun g7=>AC 10 x8 fun g8=>AB true 2 g8 h fun g9=>AC 12 x8 fun i0=>AB true 2 i0 h fun i1=>AC 14 x8 fun i2=>AB true 2 i2 h fun i3=>AC 16 x8 fun i4=>AB false 1 i4 h fun i5=>AC 17 x8 fun i6=>AB false 1 i6 h fun i7=>Ae (.struct [(0,1),(1,1),(2,1),(3,2),(5,2),(7,2),(9,2),(11,1),(12,1),(13,1),(14,1),(15,1),(16,1),(17,1)]) (AG TP 63) [(0,g1),(1,g3),(2,g5),(3,g7),(4,g9),(5,i1),(6,i3),(7,i5),(8,i7)] fun i8=>AQ (AG TP 63) 63 h fun x9 h=>AJ 18 x9 i8 h fun h=>AC 1 x8 fun i9=>AB false 1 i9 h fun j0=>Call TP 45 [j0] h fun j1 h=>AD .eql j1 (.int .u64 1) fun j3=>AK j3
 (AC 18 x8 fun j4=>AB false 1 j4 h fun j5=>AC 13 x9 fun j6=>AJ 1 j6 j5 h fun h=>MW Q r1 x2 x3 x4 x8 x9 d4 d5 d6 h)
 (AD .eql j1 (.int .u64 7) fun j8=>AK j8
 (AC 18 x8 fun j9=>AB false 1 j9 h fun k0=>HI k0 h fun k1=>AC 14 x9 fun k2=>AJ 1 k2 k1 h fun h=>MW Q r1 x2 x3 x4 x8 x9 d4 d5 d6 h)
 (MW Q r1 x2 x3 x4 x8 x9 d4 d5 d6 h)))
 (AB true 1 x3 h fun q9=>AJ 1 x2 q9 h fun h=>AB true 1 x2 h fun v=>Q v h)
def WK (Q:Kt)(x2 x3 x4 d4 d5 d6:Value)(h:H):Prop:=A1 (fun r1 d6 h=>XX Q r1 x2 x3 x4 d4 d5 d6 h) d6 h
def VM (Q:Kt)(r4:R1)(x0 x2 x3 x4 b8 b9 c0:Value)(h:H):Prop:=
 AD .lss c0 b9 fun c1=>AK c1
 (AI (.slice 23) b8 c0 fun c3=>AB true 23 c3 h fun c4=>AQ (AG TP 81) 81 h fun x6 h=>AJ 23 x6 c4 h fun h=>AC 0 x6 fun c6=>AB false 1 c6 h fun c7=>AI (.slice 1) x4 c7 fun c9=>AJ 1 c9 c0 h fun h=>AD .add c0 (.int .i64 1) fun d0=>r4 d0 h)
 (AE x0 fun d2=>AC 0 d2 fun d3=>AB false 1 d3 h fun d4=>Ab d4 fun d5=>WK Q x2 x3 x4 d4 d5 (.int .i64 0) h)
def ABO (Q:Kt)(x0 x2 x3 x4 b8 b9 c0:Value)(h:H):Prop:=A1 (fun r4 c0 h=>VM Q r4 x0 x2 x3 x4 b8 b9 c0 h) c0 h
def f14 (x0:Value)(h:H)(Q:Kt):Prop:=
 AQ (AG TP 40) 40 h fun x2 h=>AQ (AG TP 40) 40 h fun x3 h=>AE x0 fun a5=>AC 4 a5 fun a6=>AB false 1 a6 h fun a7=>AE x0 fun a9=>AC 6 a9 fun b0=>AB false 1 b0 h fun b1=>AD .mul a7 b1 fun b2=>AD .add b2 (.int .u64 1) fun b3=>AY (AG TP 3) 1 8 3 b3 b3 h fun b4 h=>AE x0 fun b6=>AC 0 b6 fun b7=>AB false 1 b7 h fun b8=>Ab b8 fun b9=>ABO Q x0 x2 x3 b4 b8 b9 (.int .i64 0) h
def AHw (Q:Kt)(r:RS):Nat→DJ:=tab [(262568550,.jn fun e h=>KL Q (u1 (r 250)) (u1 (r 1025658)) (e 2) (e 3) (e 4) (e 9) (e 13) (e 44) (e 45) (e 46) (e 100) (e 101) (e 102) (e 121) h),
 (2051317,.lp [2,3,4,9,44,45,46,100,101] [102] fun s e l h=>We Q (u1 (r 250)) (u1 s) (e 2) (e 3) (e 4) (e 9) (e 44) (e 45) (e 46) (e 100) (e 101) (gl l 0) h),
 (1025653,.lp [2,3,4,8,9,44,45,46,84,85] [86] fun s e l h=>WX Q (u1 (r 250)) (u1 s) (e 2) (e 3) (e 4) (e 8) (e 9) (e 44) (e 45) (e 46) (e 84) (e 85) (gl l 0) h),
 (128206,.jn fun e h=>MW Q (u1 (r 250)) (e 2) (e 3) (e 4) (e 8) (e 9) (e 44) (e 45) (e 46) h),
 (501,.lp [2,3,4,44,45] [46] fun s e l h=>XX Q (u1 s) (e 2) (e 3) (e 4) (e 44) (e 45) (gl l 0) h),
 (245,.lp [0,2,3,4,28,29] [30] fun s e l h=>VM Q (u1 s) (e 0) (e 2) (e 3) (e 4) (e 28) (e 29) (gl l 0) h)]
theorem ABt (x0:Value)(h:H)(Q:Kt)(x:f14 x0 h Q):Call TP 14 [x0] h Q:=Bb (AHw Q) Tryz.func14 (by kernel_rfl) x
def Ls (Q:Kt)(x3 x6 x7 x9 a0:Value)(h:H):Prop:=
 AC 16 x3 fun d1=>AB false 1 d1 h fun d2=>AZ (.slice 1) d2 (some x7) none fun d4=>AC 17 x3 fun d7=>AB false 1 d7 h fun d8=>AZ (.slice 1) d8 (some x7) none fun g0=>AM 9 (AG TP 9) 1 16 x9 d4 h fun d5 h=>((AB false 1 d7 h fun v=>v=d8)∧AC 16 x3 fun g2=>AM 3 (AG TP 3) 1 8 a0 g0 h fun g1 h=>AJ 1 g2 d5 h fun h=>AC 17 x3 fun g3=>AJ 1 g3 g1 h fun h=>AB true 18 x3 h fun g4=>AJ 18 x6 g4 h fun h=>AB true 18 x6 h fun v=>Q v h)
def LO (Q:Kt)(x1 x2 x3 x6 x7 x8 x9 a0:Value)(h:H):Prop:=
 AH (.arr 1) 9 (AG TP 9) 1 1 [(0,x1)] h fun c1 h=>AM 9 (AG TP 9) 1 16 x9 c1 h fun c2 h=>AH (.arr 1) 3 (AG TP 3) 1 1 [(0,x2)] h fun c5 h=>AM 3 (AG TP 3) 1 8 a0 c5 h fun c6 h=>AK x8
 (AD .add x7 (.int .i64 1) fun c9=>Ls Q x3 x6 c9 c2 c6 h)
 (Ls Q x3 x6 x7 c2 c6 h)
def f46 (x0 x1 x2:Value)(h:H)(Q:Kt):Prop:=
 BB 63 (x0:Value).cells h fun x3 h=>AQ (AG TP 63) 63 h fun x6 h=>AB true 18 x3 h fun a2=>Call TP 50 [a2,x1] h fun a4 h=>AO a4 0 fun a5=>AO a4 1 fun a6=>AC 16 x3 fun a8=>AB false 1 a8 h fun a9=>AZ (.slice 1) a9 none (some a5) fun b1=>AC 17 x3 fun b4=>AB false 1 b4 h fun b5=>AZ (.slice 1) b5 none (some a5) fun b7=>((AH (.arr 1) 9 (AG TP 9) 1 0 [] h fun a7 h=>((AB false 1 a8 h fun v=>v=a9)∧(AB false 1 b4 h fun v=>v=b5)∧((AM 9 (AG TP 9) 1 16 a7 b1 h fun b2 h=>((AB false 1 b4 h fun v=>v=b5)∧AH (.arr 1) 3 (AG TP 3) 1 0 [] h fun b3 h=>((AB false 1 b4 h fun v=>v=b5)∧AM 3 (AG TP 3) 1 8 b3 b7 h fun b8 h=>LO Q x1 x2 x3 x6 a5 a6 b2 b8 h)))
 ∧ (AH (.arr 1) 3 (AG TP 3) 1 0 [] h fun b3 h=>((AB false 1 a8 h fun v=>v=a9)∧(AB false 1 b4 h fun v=>v=b5)∧AM 9 (AG TP 9) 1 16 a7 b1 h fun b2 h=>((AB false 1 b4 h fun v=>v=b5)∧AM 3 (AG TP 3) 1 8 b3 b7 h fun b8 h=>LO Q x1 x2 x3 x6 a5 a6 b2 b8 h))))))
 ∧ (AH (.arr 1) 3 (AG TP 3) 1 0 [] h fun b3 h=>((AB false 1 a8 h fun v=>v=a9)∧(AB false 1 b4 h fun v=>v=b5)∧AH (.arr 1) 9 (AG TP 9) 1 0 [] h fun a7 h=>((AB false 1 a8 h fun v=>v=a9)∧(AB false 1 b4 h fun v=>v=b5)∧AM 9 (AG TP 9) 1 16 a7 b1 h fun b2 h=>((AB false 1 b4 h fun v=>v=b5)∧AM 3 (AG TP 3) 1 8 b3 b7 h fun b8 h=>LO Q x1 x2 x3 x6 a5 a6 b2 b8 h)))))
def AHa (Q:Kt)(r:RS):Nat→DJ:=tab [(126,.jn fun e h=>Ls Q (e 3) (e 6) (e 7) (e 9) (e 10) h),
 (30,.jn fun e h=>LO Q (e 1) (e 2) (e 3) (e 6) (e 7) (e 8) (e 9) (e 10) h)]
theorem AB4 (x0 x1 x2:Value)(h:H)(Q:Kt)(x:f46 x0 x1 x2 h Q):Call TP 46 [x0,x1,x2] h Q:=Bb (AHa Q) Tryz.func46 (by kernel_rfl) x
def Pc (Q:Kt)(x1 x2 x6:Value)(h:H):Prop:=
 AC 16 x2 fun b5=>AB false 1 b5 h fun b6=>Ab b6 fun b7=>AD .lss x6 b7 fun b8=>Az b8 true (AC 16 x2 fun c0=>AB false 1 c0 h fun c1=>AI (.slice 1) c1 x6 fun c3=>AB false 1 c3 h fun c4=>AD .eql c4 x1 fun c6=>Q (.tuple #[x6,c6]) h) (Q (.tuple #[x6,(.bool false)]) h)
def W8 (Q:Kt)(r1:R1)(x1 x2 x6:Value)(h:H):Prop:=
 AC 16 x2 fun x8=>AB false 1 x8 h fun x9=>Ab x9 fun a0=>AD .lss x6 a0 fun a1=>Az a1 true (AC 16 x2 fun a3=>AB false 1 a3 h fun a4=>AI (.slice 1) a4 x6 fun a6=>AB false 1 a6 h fun a7=>AD .lss a7 x1 fun a9=>AK a9
 (AD .add x6 (.int .i64 1) fun b2=>r1 b2 h)
 (Pc Q x1 x2 x6 h)) (Pc Q x1 x2 x6 h)
def AA2 (Q:Kt)(x1 x2 x6:Value)(h:H):Prop:=A1 (fun r1 x6 h=>W8 Q r1 x1 x2 x6 h) x6 h
def f50 (x0 x1:Value)(h:H)(Q:Kt):Prop:=
 BB 63 (x0:Value).cells h fun x2 h=>AA2 Q x1 x2 (.int .i64 0) h
def AHC (Q:Kt)(r:RS):Nat→DJ:=tab [(30,.jn fun e h=>Pc Q (e 1) (e 2) (e 6) h),
 (57,.lp [1,2] [6] fun s e l h=>W8 Q (u1 s) (e 1) (e 2) (gl l 0) h)]
theorem Xl (x0 x1:Value)(h:H)(Q:Kt)(x:f50 x0 x1 h Q):Call TP 50 [x0,x1] h Q:=Bb (AHC Q) Tryz.func50 (by kernel_rfl) x
def f20 (x0 x1:Value)(h:H)(Q:Kt):Prop:=
 BB 63 (x0:Value).cells h fun x2 h=>AB true 18 x2 h fun x9=>Call TP 50 [x9,x1] h fun a1 h=>AO a1 0 fun a2=>AO a1 1 fun a3=>LH .not a3 fun a5=>AK a5
 (Q (.tuple #[(.int .i64 0),(.bool false)]) h)
 (AC 17 x2 fun a6=>AB false 1 a6 h fun a7=>AI (.slice 1) a7 a2 fun a9=>AB false 1 a9 h fun b0=>Q (.tuple #[b0,(.bool true)]) h)
theorem ADr (x0 x1:Value)(h:H)(Q:Kt)(x:f20 x0 x1 h Q):Call TP 20 [x0,x1] h Q:=Bb nT Tryz.func20 (by kernel_rfl) x
def Vh (Q:Kt)(r1:R2)(x2 a1 a2 x6 a3:Value)(h:H):Prop:=
 AD .lss a3 a2 fun a4=>AK a4
 (AI (.slice 1) a1 a3 fun a5=>AB false 1 a5 h fun a6=>AC 0 x2 fun a8=>AB false 1 a8 h fun a9=>AI (.slice 18) a9 x6 fun b1=>AB true 18 b1 h fun b2=>Call TP 20 [b2,a6] h fun b4 h=>AO b4 0 fun b5=>AO b4 1 fun b6=>AC 0 x2 fun b7=>AB false 1 b7 h fun b8=>AI (.slice 18) b8 x6 fun c0=>AB true 18 c0 h fun c1=>Call TP 31 [c1] h fun c2 h=>AD .neq c2 (.int .u16 16384) fun c3=>Az c3 false (LH .not b6 fun c6=>AK c6
 (Q (.tuple #[(.int .i64 0),(.bool false)]) h)
 (AD .add a3 (.int .i64 1) fun c9=>r1 b5 c9 h)) (Q (.tuple #[(.int .i64 0),(.bool false)]) h))
 (Q (.tuple #[x6,(.bool true)]) h)
def ABI (Q:Kt)(x2 a1 a2 x6 a3:Value)(h:H):Prop:=Bx (fun r1 x6 a3 h=>Vh Q r1 x2 a1 a2 x6 a3 h) x6 a3 h
def f15 (x0 x1:Value)(h:H)(Q:Kt):Prop:=
 BB 40 (x0:Value).cells h fun x2 h=>Ab x1 fun a2=>ABI Q x2 x1 a2 (.int .i64 0) (.int .i64 0) h
def AHr (Q:Kt)(r:RS):Nat→DJ:=tab [(117,.lp [2,11,12] [6,13] fun s e l h=>Vh Q (u2 s) (e 2) (e 11) (e 12) (gl l 0) (gl l 1) h)]
theorem ACJ (x0 x1:Value)(h:H)(Q:Kt)(x:f15 x0 x1 h Q):Call TP 15 [x0,x1] h Q:=Bb (AHr Q) Tryz.func15 (by kernel_rfl) x
def f31 (x0:Value)(h:H)(Q:Kt):Prop:=
 BB 63 (x0:Value).cells h fun x1 h=>AC 0 x1 fun x3=>AB false 1 x3 h fun x4=>AD .and x4 (.int .u16 61440) fun x5=>Q x5 h
theorem AB9 (x0:Value)(h:H)(Q:Kt)(x:f31 x0 h Q):Call TP 31 [x0] h Q:=Bb nT Tryz.func31 (by kernel_rfl) x
def f27 (x0:Value)(h:H)(Q:Kt):Prop:=
 AD .lss x0 (.int .i64 10) fun x4=>AK x4
 (AD .add (.int .i64 48) x0 fun x6=>AV .u8 x6 fun x7=>AH (.arr 1) 5 (AG TP 5) 1 1 [(0,x7)] h fun x8 h=>HI x8 h fun x9=>Q x9 h)
 (AD .quo x0 (.int .i64 10) fun a1=>AD .rem x0 (.int .i64 10) fun a4=>AD .add (.int .i64 48) a4 fun a5=>AV .u8 a5 fun a6=>((Call TP 27 [a1] h fun a2 h=>AH (.arr 1) 5 (AG TP 5) 1 1 [(0,a6)] h fun a7 h=>HI a7 h fun a8=>AD .add a2 a8 fun a9=>Q a9 h)
 ∧ (AH (.arr 1) 5 (AG TP 5) 1 1 [(0,a6)] h fun a7 h=>HI a7 h fun a8=>Call TP 27 [a1] h fun a2 h=>((HI a7 h fun v=>v=a8)∧AD .add a2 a8 fun a9=>Q a9 h))))
theorem Mw (x0:Value)(h:H)(Q:Kt)(x:f27 x0 h Q):Call TP 27 [x0] h Q:=Bb nT Tryz.func27 (by kernel_rfl) x
def Vf (Q:Kt)(r1:R1)(x8 x9 a0:Value)(h:H):Prop:=
 AD .lss a0 x9 fun a1=>AK a1
 (AI (.slice 1) x8 a0 fun a2=>AB false 1 a2 h fun a3=>Ab a3 fun a5=>AD .gtr a5 (.int .i64 2147483647) fun a6=>AK a6
 (Q (.bool false) h)
 (AD .add a0 (.int .i64 1) fun a7=>r1 a7 h))
 (Q (.bool true) h)
def ABR (Q:Kt)(x8 x9 a0:Value)(h:H):Prop:=A1 (fun r1 a0 h=>Vf Q r1 x8 x9 a0 h) a0 h
def f26 (x0:Value)(h:H)(Q:Kt):Prop:=
 Ab x0 fun x6=>AD .gtr x6 (.int .i64 2147483647) fun x7=>AK x7
 (Q (.bool false) h)
 (Ab x0 fun x9=>ABR Q x0 x9 (.int .i64 0) h)
def AHg (Q:Kt)(r:RS):Nat→DJ:=tab [(117,.lp [8,9] [10] fun s e l h=>Vf Q (u1 s) (e 8) (e 9) (gl l 0) h)]
theorem AC8 (x0:Value)(h:H)(Q:Kt)(x:f26 x0 h Q):Call TP 26 [x0] h Q:=Bb (AHg Q) Tryz.func26 (by kernel_rfl) x
def ACf (Q:Kt)(r1:R1)(x0 a3 n6 n7 n8:Value)(h:H):Prop:=
 AD .lss n8 n7 fun n9=>AK n9
 (AI (.slice 23) n6 n8 fun o0=>AB true 23 o0 h fun o1=>AQ (AG TP 81) 81 h fun a9 h=>AJ 23 a9 o1 h fun h=>AC 0 a9 fun o2=>AB false 1 o2 h fun o3=>AV .i64 o3 fun o4=>AD .sub o4 (.int .i64 12) fun o5=>AD .geq o5 (.int .i64 0) fun o7=>Az o7 true (Ab x0 fun p1=>AD .geq o5 p1 fun p2=>Az p2 false (AC 18 a9 fun p4=>AB false 1 p4 h fun p5=>HI p5 h fun p6=>AI (.slice 1) x0 o5 fun p9=>AB false 1 p9 h fun q0=>HI q0 h fun q1=>AD .neq p6 q1 fun q2=>AK q2
 (Q (.bool false) h)
 (AD .add n8 (.int .i64 1) fun q5=>r1 q5 h)) (Q (.bool false) h)) (AD .add n8 (.int .i64 1) fun q5=>r1 q5 h))
 (AC 0 a3 fun q6=>AB false 1 q6 h fun q7=>Ab q7 fun q8=>Ab x0 fun t0=>AD .add t0 (.int .i64 2) fun t1=>AD .eql q8 t1 fun t2=>Q t2 h)
def ACt (Q:Kt)(x0 a3 n6 n7 n8:Value)(h:H):Prop:=A1 (fun r1 n8 h=>ACf Q r1 x0 a3 n6 n7 n8 h) n8 h
def ABk (Q:Kt)(r2:R1)(x0 a1 a3 j3 j4 j5:Value)(h:H):Prop:=
 AD .lss j5 j4 fun j6=>AK j6
 (AI (.slice 1) j3 j5 fun j8=>AB false 1 j8 h fun j9=>AB true 1 a3 h fun k1=>Call TP 27 [j5] h fun k3 h=>((AB true 1 a3 h fun v=>v=k1)∧AH (.arr 1) 9 (AG TP 9) 1 1 [(0,k3)] h fun k4 h=>((AB true 1 a3 h fun v=>v=k1)∧Call TP 15 [k1,k4] h fun k5 h=>AO k5 0 fun k6=>AO k5 1 fun k7=>LH .not k7 fun k9=>Az k9 false (AC 0 a3 fun m1=>AB false 1 m1 h fun m2=>AI (.slice 18) m2 k6 fun m4=>AC 13 m4 fun m5=>AB false 1 m5 h fun m6=>HI m6 h fun m7=>HI j9 h fun m9=>AD .neq m7 m9 fun n0=>AK n0
 (Q (.bool false) h)
 (AD .add j5 (.int .i64 1) fun n2=>r2 n2 h)) (Q (.bool false) h))))
 (AE a1 fun n4=>AC 0 n4 fun n5=>AB false 1 n5 h fun n6=>Ab n6 fun n7=>ACt Q x0 a3 n6 n7 (.int .i64 0) h)
def ADH (Q:Kt)(x0 a1 a3 j3 j4 j5:Value)(h:H):Prop:=A1 (fun r2 j5 h=>ABk Q r2 x0 a1 a3 j3 j4 j5 h) j5 h
def ADF (Q:Kt)(r3:R2)(x0 x1 d3 d4 x8 d5:Value)(h:H):Prop:=
 AD .lss d5 d4 fun d6=>AK d6
 (AI (.slice 1) d3 d5 fun d8=>AB false 1 d8 h fun d9=>Call TP 27 [d5] h fun g2 h=>AD .add (.string ⟨#[47]⟩) g2 fun g3=>Ab d9 fun g5=>Ae (.struct [(0,1),(1,1),(2,1),(3,1),(4,1),(5,3),(8,3),(11,3),(14,3),(17,1),(18,1),(19,1)]) (AG TP 28) [(1,g5)] fun g6=>Ae (.struct [(0,1),(1,1),(2,1),(3,20),(23,1)]) (AG TP 32) [(0,(.int .i64 0)),(1,g3),(3,g6)] fun g7=>Ae (.struct [(0,1),(1,1),(2,1),(3,20),(23,1)]) (AG TP 32) [(0,(.int .i64 1)),(4,d9)] fun g9=>AH (.arr 24) 32 (AG TP 32) 24 2 [(0,g7),(1,g9)] h fun i0 h=>AM 32 (AG TP 32) 24 232 x8 i0 h fun i1 h=>AD .add d5 (.int .i64 1) fun i2=>r3 i1 i2 h)
 (Call TP 13 [x1,(.int .i64 0),x8] h fun i6 h=>AO i6 0 fun i7=>AO i6 1 fun i8=>LH .not i8 fun j0=>AK j0
 (Q (.bool false) h)
 (Call TP 14 [i7] h fun j2 h=>AQ (AG TP 40) 40 h fun a3 h=>AJ 1 a3 j2 h fun h=>Ab x0 fun j4=>ADH Q x0 i7 a3 x0 j4 (.int .i64 0) h))
def ADN (Q:Kt)(x0 x1 d3 d4 x8 d5:Value)(h:H):Prop:=Bx (fun r3 x8 d5 h=>ADF Q r3 x0 x1 d3 d4 x8 d5 h) x8 d5 h
def AEJ (Q:Kt)(x0 x1:Value)(h:H):Prop:=
 AH (.arr 24) 32 (AG TP 32) 24 0 [] h fun d2 h=>Ab x0 fun d4=>ADN Q x0 x1 x0 d4 d2 (.int .i64 0) h
def AEX (Q:Kt)(r4:R2)(x0 x1 b4 b5 x5 b6:Value)(h:H):Prop:=
 AD .lss b6 b5 fun b7=>AK b7
 (AI (.slice 1) b4 b6 fun b8=>AB false 1 b8 h fun b9=>Ab b9 fun c2=>AD .add x5 c2 fun c3=>AD .add b6 (.int .i64 1) fun c4=>r4 c3 c4 h)
 (Ab x0 fun c6=>AD .gtr c6 (.int .i64 60) fun c7=>Az c7 false (AD .gtr x5 (.int .i64 300000) fun d0=>AK d0
 (Q (.bool true) h)
 (AEJ Q x0 x1 h)) (Q (.bool true) h))
def AEw (Q:Kt)(x0 x1 b4 b5 x5 b6:Value)(h:H):Prop:=Bx (fun r4 x5 b6 h=>AEX Q r4 x0 x1 b4 b5 x5 b6 h) x5 b6 h
def f6 (x0 x1:Value)(h:H)(Q:Kt):Prop:=
 Call TP 26 [x0] h fun b2 h=>LH .not b2 fun b3=>AK b3
 (Q (.bool true) h)
 (Ab x0 fun b5=>AEw Q x0 x1 x0 b5 (.int .i64 0) (.int .i64 0) h)
def f6T (Q:Kt)(r:RS):Nat→DJ:=tab [(65525,.lp [0,13,106,107] [108] fun s e l h=>ACf Q (u1 s) (e 0) (e 13) (e 106) (e 107) (gl l 0) h),
 (32757,.lp [0,11,13,73,74] [75] fun s e l h=>ABk Q (u1 s) (e 0) (e 11) (e 13) (e 73) (e 74) (gl l 0) h),
 (2037,.lp [0,1,43,44] [8,45] fun s e l h=>ADF Q (u2 s) (e 0) (e 1) (e 43) (e 44) (gl l 0) (gl l 1) h),
 (126,.jn fun e h=>AEJ Q (e 0) (e 1) h),
 (245,.lp [0,1,24,25] [5,26] fun s e l h=>AEX Q (u2 s) (e 0) (e 1) (e 24) (e 25) (gl l 0) (gl l 1) h)]
theorem AGU (x0 x1:Value)(h:H)(Q:Kt)(x:f6 x0 x1 h Q):Call TP 6 [x0,x1] h Q:=Bb (f6T Q) Tryz.func6 (by kernel_rfl) x
end
section
variable {h:H} {k:Value→Prop} {kt Q:Kt} {x y z r:Res}
attribute [local irreducible] AK Az AQ BB Ae AY AH AM
def BV:List Bs→Bs→Nat
 | [],_=>0
 | a::l,nm=>if Op.bytesLess a nm=true then BV l nm+1 else 0
theorem EI:∀ (l:List Bs) (nm:Bs),BV l nm≤l.length
 | [],_=>Nat.le_refl _
 | a::l,nm=>by
  have:=EI l nm
  rw[BV,List.length_cons]
  split<;>omega
theorem NX {l:List Bs}{i:Nat}{a:Bs}(h:l[i]? = some a):(strs l)[i]? = some (str a):=Gf h
theorem Ov {l:List Bs}{nm a:Bs}{i:Nat}(h:l[i]? = some a):BV (l.drop i) nm=if Op.bytesLess a nm=true then BV (l.drop (i+1)) nm+1 else 0:=by
 obtain⟨hi,e⟩:=List.getElem?_eq_some_iff.1 h
 rw[List.drop_eq_getElem_cons hi,BV,e]
section
variable {cs:List Value} {nv kv:Value} {names:List Bs} {nm:Bs} {b2:Nat}
theorem s50 (hcs:cs[16]? = some nv)(d:RdV 1 nv names.length (strs names) x)(hl:names.length<1000000000)(w:AN x h)
  (K:∀ y h,AN (y+x) h→Q (.tuple #[.int .i64 (BV names nm:Nat),.bool (decide (names[BV names nm]? = some nm))]) h):f50 (.agg ⟨cs⟩) (str nm) h Q:=by
 obtain⟨⟨va,vc,hv⟩,_⟩:=d.len
 unfold f50
 refine BJ w fun b2 h w=>?_
 have w:AN (pts b2 (.cells ⟨cs⟩ 63 (0,0))+x) h:=w
 have g16:(⟨cs⟩:Array Value)[16]? = some nv:=by simpa using hcs
 have ff:∀ (o:Nat) (k:Value→Prop),AC o (Pt b2) k=k (.pointer (some ⟨b2,o,none⟩)):=fun o k=>by simp only[go_sem]
 have j1:∀ i,i≤names.length→BV names nm=i→Pc Q (str nm) (Pt b2) (.int .i64 (i:Nat)) h:=by
  intro i hi hp
  unfold Pc
  rw[ff]
  refine AW w g16 ?_
  rw[hv,Aw,AT]
  refine C3 (fun hc=>?_) (fun hc=>?_)
  ·have hil:i<names.length:=by omega
   have hg:names[i]? = some names[i]:=List.getElem?_eq_getElem hil
   rw[ff]
   refine AW w g16 ?_
   refine (d.addR:RdV 1 nv names.length (strs names) (_+x)).get w (NX hg) ?_
   rw[NZ]
   have:=K (pts b2 (.cells ⟨cs⟩ 63 (0,0))) h w
   rw[hp,hg] at this
   have e:decide (some names[i]=some nm)=decide (names[i]=nm):=decide_eq_decide.2 (by simp)
   rw[e] at this
   exact this
  ·have:=K (pts b2 (.cells ⟨cs⟩ 63 (0,0))) h w
   rw[hp,List.getElem?_eq_none (by omega)] at this
   exact this
 unfold AA2
 refine Ba (fun m u h'=>∃ i,m+i=names.length∧u=.int .i64 (i:Nat)∧h'=h∧BV names nm=i+BV (names.drop i) nm) names.length ⟨0,rfl,rfl,rfl,by rw[List.drop_zero,Nat.zero_add]⟩ ?_
 rintro rec m u h' ⟨i,hi,rfl,rfl,hp⟩ hrec
 unfold W8
 rw[ff]
 refine AW w g16 ?_
 rw[hv,Aw,AT]
 refine C3 (fun hc=>?_) (fun hc=>?_)
 ·have hil:i<names.length:=by omega
  have hg:names[i]? = some names[i]:=List.getElem?_eq_getElem hil
  rw[ff]
  refine AW w g16 ?_
  refine (d.addR:RdV 1 nv names.length (strs names) (_+x)).get w (NX hg) ?_
  rw[SC]
  rw[Ov hg] at hp
  cases hb:Op.bytesLess names[i] nm with
  | true=>
   rw[hb,if_pos rfl] at hp
   rw[Ak,BN (n:=1),Ci (by omega)]
   exact hrec (m-1) _ _ ⟨i+1,by omega,rfl,rfl,by omega⟩ (by omega)
  | false=>
   rw[hb,if_neg (by decide),Nat.add_zero] at hp
   rw[AU]
   exact j1 i (by omega) hp
 ·have:i=names.length:=by omega
  subst this
  rw[List.drop_length] at hp
  exact j1 _ (Nat.le_refl _) hp
def ints (l:List Nat):List Value:=l.map fun n=>.int .i64 (n:Nat)
theorem SD {l:List Nat}{i n:Nat}(h:l[i]? = some n):(ints l)[i]? = some (.int .i64 (n:Nat)):=by unfold ints;rw[List.getElem?_map,h];rfl
def kidL (ks:List (Bs×Nat))(nm:Bs):Option Nat:=match ks[BV (ks.map (·.1)) nm]? with|some e=>if e.1=nm then some e.2 else none|none=>none
variable {ks:List (Bs×Nat)}
theorem s20 (hcs:cs[16]? = some nv)(hcs2:cs[17]? = some kv)(hcl:cs.length=18)(d:RdV 1 nv ks.length (strs (ks.map (·.1))) x)(d2:RdV 1 kv ks.length (ints (ks.map (·.2))) x)(hl:ks.length<1000000000)(w:AN x h)
  (K:∀ y h,AN (y+x) h→Q (match kidL ks nm with|some n=>.tuple #[.int .i64 (n:Nat),.bool true]|none=>.tuple #[.int .i64 0,.bool false]) h):f20 (.agg ⟨cs⟩) (str nm) h Q:=by
 unfold f20
 refine BJ w fun b2 h w=>?_
 have w:AN (pts b2 (.cells ⟨cs⟩ 63 (0,0))+x) h:=w
 have ff:∀ (o:Nat) (k:Value→Prop),AC o (Pt b2) k=k (.pointer (some ⟨b2,o,none⟩)):=fun o k=>by simp only[go_sem]
 refine Cj w hcl ?_
 refine Xl _ _ _ _ (s50 (names:=ks.map (·.1)) (nm:=nm) (x:=pts b2 (.cells ⟨cs⟩ 63 (0,0))+x) hcs (by rw[List.length_map];exact d.addR) (by rw[List.length_map];exact hl) w fun y h w=>?_)
 rw[DA,DH,F1]
 have hle:=EI (ks.map (·.1)) nm
 rw[List.getElem?_map]
 cases hg:ks[BV (ks.map (·.1)) nm]? with
 | none=>
  have hk:kidL ks nm=none:=by unfold kidL;rw[hg]
  rw[hk] at K
  have e:decide ((none:Option (Bs×Nat)).map (·.1)=some nm)=false:=rfl
  rw[e,Bool.not_false,Ak]
  exact K (y+pts b2 (.cells ⟨cs⟩ 63 (0,0))) h (w.cast (by ac_rfl))
 | some e=>
  have e1:decide ((some e).map (·.1)=some nm)=decide (e.1=nm):=decide_eq_decide.2 (by simp)
  rw[e1]
  by_cases hn:e.1=nm
  ·rw[decide_eq_true hn,Bool.not_true,AU,ff]
   have hk:kidL ks nm=some e.2:=by unfold kidL;rw[hg];exact if_pos hn
   have K':=K
   rw[hk] at K'
   have g17:(⟨cs⟩:Array Value)[17]? = some kv:=by simpa using hcs2
   refine AW w g17 ?_
   refine (d2.addR.addR:RdV 1 kv ks.length (ints (ks.map (·.2))) (y+(_+x))).get w (SD (by rw[List.getElem?_map,hg];rfl)) ?_
   exact K' (y+pts b2 (.cells ⟨cs⟩ 63 (0,0))) h (w.cast (by ac_rfl))
  ·rw[decide_eq_false hn,Bool.not_false,Ak]
   have hk:kidL ks nm=none:=by unfold kidL;rw[hg];exact if_neg hn
   have K':=K
   rw[hk] at K'
   exact K' (y+pts b2 (.cells ⟨cs⟩ 63 (0,0))) h (w.cast (by ac_rfl))
theorem s31 {m:Nat}{cs:List Value}(hcs:cs[0]? = some (.int .u16 (m:Nat)))(hm:m<65536)(w:AN x h)(K:∀ y h,AN (y+x) h→Q (.int .u16 (kindB m:Nat)) h):f31 (.agg ⟨cs⟩) h Q:=by
 unfold f31
 refine BJ w fun b2 h w=>?_
 have w:AN (pts b2 (.cells ⟨cs⟩ 63 (0,0))+x) h:=w
 have ff:∀ (o:Nat) (k:Value→Prop),AC o (Pt b2) k=k (.pointer (some ⟨b2,o,none⟩)):=fun o k=>by simp only[go_sem]
 have g0:(⟨cs⟩:Array Value)[0]? = some (.int .u16 (m:Nat)):=by simpa using hcs
 rw[ff]
 refine AW w g0 ?_
 rw[Jk hm (by decide)]
 exact K _ h w
def FB (ks:List (Bs×Nat))(nm:Bs)(n:Nat):List (Bs×Nat):=
 ks.take (BV (ks.map (·.1)) nm)++[(nm,n)]++ks.drop (BV (ks.map (·.1)) nm+if (ks.map (·.1))[BV (ks.map (·.1)) nm]? = some nm then 1 else 0)
end
end
section
variable {h:H} {k:Value→Prop} {kt Q:Kt} {x y z r:Res}
attribute [local irreducible] AK Az AQ BB Ae AY AH AM
theorem Lr {α:Type}{f:α→Value}{l:List α}{v:Value}{n i:Nat}{kk:IntKind}(d:RdV 1 v n (l.map f) x)(hi:i≤n)(K:∀ v',RdV 1 v' i ((l.take i).map f) x→k v'):AZ (.slice 1) v none (some (.int kk (i:Int))) k:=by
 refine d.slice (i:=0) (j:=i) rfl BA (Nat.zero_le _) hi fun v' d'=>K v' ?_
 simp only[Nat.sub_zero,Nat.mul_one,Nat.zero_mul,List.drop_zero] at d'
 rw[List.map_take];exact d'
theorem MD {α:Type}{f:α→Value}{l:List α}{v:Value}{n i:Nat}{kk:IntKind}(d:RdV 1 v n (l.map f) x)(hi:i≤n)(K:∀ v',RdV 1 v' (n-i) ((l.drop i).map f) x→k v'):AZ (.slice 1) v (some (.int kk (i:Int))) none k:=by
 have hl:=d.len.2
 refine d.slice (i:=i) (j:=n) BA rfl hi (Nat.le_refl _) fun v' d'=>K v' ?_
 rw[Nat.mul_one,Nat.mul_one,List.take_of_length_le (by omega)] at d'
 rw[List.map_drop];exact d'
theorem Ko:AG TP 63=some (.agg ⟨[.int .u16 0,.int .u32 0,.int .u32 0,.int .i64 0,.int .i64 0,.int .i64 0,.int .i64 0,.int .i64 0,.int .i64 0,.int .i64 0,.int .i64 0,.int .u32 0,.int .u32 0,.slice none 0 0,str [],.slice none 0 0,.slice none 0 0,.slice none 0 0]⟩):=by kernel_rfl
theorem OT (l:List Nat):(ints l).all Value.oneCell'=true:=by
 unfold ints
 rw[List.all_map,List.all_eq_true]
 intro a _;rfl
theorem XY (ks:List (Bs×Nat))(nm:Bs)(n:Nat):(FB ks nm n).length≤ks.length+1:=by
 have:=EI (ks.map (·.1)) nm
 rw[List.length_map] at this
 unfold FB
 simp only[List.length_append,List.length_take,List.length_drop,List.length_singleton]
 omega
section
variable {cs z18:List Value} {nv kv:Value} {ks:List (Bs×Nat)} {nm:Bs} {b3 b6 i j n:Nat}
theorem AEg {x9 x10:Value}{r9 r10:Res}{ns:List Bs}{is:List Nat}(hcl:cs.length=18)(h16:cs[16]? = some nv)(h17:cs[17]? = some kv)(hone:cs.all Value.oneCell'=true)(hz:z18.length=18)(d:RdV 1 nv ks.length (strs (ks.map (·.1))) x)(d2:RdV 1 kv ks.length (ints (ks.map (·.2))) x)(hl:ks.length<1000000000)
  (hj:j≤ks.length) (hi:i≤ks.length+1) (a9:Vec 9 1 x9 i (strs ns) r9) (a10:Vec 3 1 x10 i (ints is) r10)
  (w:AN (r9+(r10+(pts b3 (.cells ⟨cs⟩ 63 (0,0))+(pts b6 (.cells ⟨z18⟩ 63 (0,0))+x)))) h)
  (K:∀ nv' kv' y h,RdV 1 nv' (i+(ks.length-j)) (strs (ns++(ks.drop j).map (·.1))) y→RdV 1 kv' (i+(ks.length-j)) (ints (is++(ks.drop j).map (·.2))) y→AN (y+x) h→Q (.agg ⟨(cs.set 16 nv').set 17 kv'⟩) h) :
  Ls Q (Pt b3) (Pt b6) (.int .i64 (j:Nat)) x9 x10 h:=by
 have g16:(⟨cs⟩:Array Value)[16]? = some nv:=by simpa using h16
 have g17:(⟨cs⟩:Array Value)[17]? = some kv:=by simpa using h17
 have ff:∀ (b o:Nat) (k:Value→Prop),AC o (Pt b) k=k (.pointer (some ⟨b,o,none⟩)):=fun b o k=>by simp only[go_sem]
 unfold Ls
 rw[ff]
 refine AW w g16 ?_
 refine MD (f:=str) d hj fun s9 e9=>?_
 rw[ff]
 refine AW w g17 ?_
 refine MD (f:=fun n:Nat=>Value.int .i64 (n:Nat)) d2 hj fun s10 e10=>?_
 have e9':RdV 1 s9 (ks.length-j) (strs ((ks.drop j).map (·.1))) x:=by rw[List.map_drop];exact e9
 have e10':RdV 1 s10 (ks.length-j) (ints ((ks.drop j).map (·.2))) x:=by rw[List.map_drop];exact e10
 refine CA a9 e9'.addR.addR.addR w Ho rfl (by omega) (by omega) (Pi _) fun v9 q9 h a9 w=>?_
 refine And.intro (AW w g17 rfl) ?_
 rw[ff]
 have k1:∀ A B C D X:Res,A+(B+(C+(D+X)))=B+(A+(C+(D+X))):=by intros;ac_rfl
 refine CA a10 e10'.addR.addR.addR (w.cast (k1 _ _ _ _ _)) HL rfl (by omega) (by omega) (OT _) fun v10 q10 h a10 w=>?_
 obtain⟨⟨va,vc,hv9⟩,_⟩:=a9.len
 obtain⟨⟨vb,vd,hv10⟩,_⟩:=a10.len
 have ss:∀ (l:List Value) (o:Nat) (u:Value),Ai ⟨l⟩ o [u]=⟨l.set o u⟩:=fun l o u=>by rw[A2];rfl
 refine AL w ⟨cs.set 16 v9⟩ (by rw[hv9];exact ss _ _ _) (by rw[hv9];rfl) (by simp;omega) (by rw[hv9];rfl) fun h w=>?_
 rw[ff]
 refine AL w ⟨(cs.set 16 v9).set 17 v10⟩ (by rw[hv10];exact ss _ _ _) (by rw[hv10];rfl) (by simp;omega) (by rw[hv10];rfl) fun h w=>?_
 have hl2:((cs.set 16 v9).set 17 v10).length=18:=by simp;exact hcl
 refine Cj w hl2 ?_
 have hone2:((cs.set 16 v9).set 17 v10).all Value.oneCell'=true:=by
  rw[List.all_eq_true] at hone ⊢
  intro a ha
  rcases List.mem_or_eq_of_mem_set ha with h1|h1
  ·rcases List.mem_or_eq_of_mem_set h1 with h2|h2
   ·exact hone a h2
   ·rw[h2,hv9];rfl
  ·rw[h1,hv10];rfl
 have hfull:Ai (⟨z18⟩:Array Value) 0 (Value.agg ⟨(cs.set 16 v9).set 17 v10⟩).cells.toList=⟨(cs.set 16 v9).set 17 v10⟩:=Ar (by show ((cs.set 16 v9).set 17 v10).length=z18.toArray.size;rw[List.size_toArray];omega)
 refine AL w ⟨(cs.set 16 v9).set 17 v10⟩ hfull (by show ((cs.set 16 v9).set 17 v10).toArray.size=18;rw[List.size_toArray];exact hl2) (by show 0+18≤z18.toArray.size;rw[List.size_toArray];omega) hone2 fun h w=>?_
 refine Cj w hl2 ?_
 have hs:strs ns++strs ((ks.drop j).map (·.1))=strs (ns++(ks.drop j).map (·.1)):=by unfold strs;rw[List.map_append]
 have hi2:ints is++ints ((ks.drop j).map (·.2))=ints (is++(ks.drop j).map (·.2)):=by unfold ints;rw[List.map_append]
 rw[hs] at a9
 rw[hi2] at a10
 have k2:∀ A B C D X:Res,A+(B+(C+(D+X)))=((A+B)+(C+D))+X:=by intros;ac_rfl
 exact K v9 v10 _ h a9.rdv.addR.addL a10.rdv.addL.addL (w.cast (k2 _ _ _ _ _))
theorem AGV {x9 x10:Value}{r9 r10:Res}{has:Bool}(hcl:cs.length=18)(h16:cs[16]? = some nv)(h17:cs[17]? = some kv)(hone:cs.all Value.oneCell'=true)(hz:z18.length=18)(d:RdV 1 nv ks.length (strs (ks.map (·.1))) x)(d2:RdV 1 kv ks.length (ints (ks.map (·.2))) x)(hl:ks.length<1000000000)
  (hi:i≤ks.length) (hh:has=true→i<ks.length) (a9:Vec 9 1 x9 i (strs ((ks.take i).map (·.1))) r9) (a10:Vec 3 1 x10 i (ints ((ks.take i).map (·.2))) r10)
  (w:AN (r9+(r10+(pts b3 (.cells ⟨cs⟩ 63 (0,0))+(pts b6 (.cells ⟨z18⟩ 63 (0,0))+x)))) h)
  (K:∀ nv' kv' ks' y h,ks'=ks.take i++[(nm,n)]++ks.drop (i+if has=true then 1 else 0)→RdV 1 nv' ks'.length (strs (ks'.map (·.1))) y→RdV 1 kv' ks'.length (ints (ks'.map (·.2))) y→AN (y+x) h→Q (.agg ⟨(cs.set 16 nv').set 17 kv'⟩) h) :
  LO Q (str nm) (.int .i64 (n:Nat)) (Pt b3) (Pt b6) (.int .i64 (i:Nat)) (.bool has) x9 x10 h:=by
 have main:∀ (j:Nat) (v9 v10:Value) (q9 q10:Res) (h:H),j=i+(if has=true then 1 else 0)→Vec 9 1 v9 (i+1) (strs ((ks.take i).map (·.1)++[nm])) q9→Vec 3 1 v10 (i+1) (ints ((ks.take i).map (·.2)++[n])) q10→AN (q9+(q10+(pts b3 (.cells ⟨cs⟩ 63 (0,0))+(pts b6 (.cells ⟨z18⟩ 63 (0,0))+x)))) h→Ls Q (Pt b3) (Pt b6) (.int .i64 (j:Nat)) v9 v10 h:=by
  intro j v9 v10 q9 q10 h hj a9 a10 w
  have hjl:j≤ks.length:=by
   rw[hj]
   split
   ·rename_i hb;have:=hh hb;omega
   ·omega
  have hlen:(ks.take i++[(nm,n)]++ks.drop j).length=i+1+(ks.length-j):=by simp;omega
  have e1:(ks.take i++[(nm,n)]++ks.drop j).map (·.1)=(ks.take i).map (·.1)++[nm]++(ks.drop j).map (·.1):=by rw[List.map_append,List.map_append];rfl
  have e2:(ks.take i++[(nm,n)]++ks.drop j).map (·.2)=(ks.take i).map (·.2)++[n]++(ks.drop j).map (·.2):=by rw[List.map_append,List.map_append];rfl
  refine AEg hcl h16 h17 hone hz d d2 hl hjl (by omega) a9 a10 w fun nv' kv' y h c1 c2 w=>?_
  exact K nv' kv' (ks.take i++[(nm,n)]++ks.drop j) y h (by rw[hj]) (by rw[hlen,e1];exact c1) (by rw[hlen,e2];exact c2) w
 unfold LO
 refine EY a9 w Ho rfl rfl rfl (by omega) (by omega) fun v9 q9 h a9 w=>?_
 have k1:∀ A B C D X:Res,A+(B+(C+(D+X)))=B+(A+(C+(D+X))):=by intros;ac_rfl
 refine EY a10 (w.cast (k1 _ _ _ _ _)) HL rfl rfl rfl (by omega) (by omega) fun v10 q10 h a10 w=>?_
 have a9':Vec 9 1 v9 (i+1) (strs ((ks.take i).map (·.1)++[nm])) q9:=by unfold strs at a9 ⊢;rw[List.map_append];exact a9
 have a10':Vec 3 1 v10 (i+1) (ints ((ks.take i).map (·.2)++[n])) q10:=by unfold ints at a10 ⊢;rw[List.map_append];exact a10
 cases has with
 | true=>
  rw[Ak,BN (n:=1),Ci (by omega)]
  exact main (i+1) _ _ _ _ h rfl a9' a10' (w.cast (k1 _ _ _ _ _))
 | false=>
  rw[AU]
  exact main i _ _ _ _ h rfl a9' a10' (w.cast (k1 _ _ _ _ _))
set_option maxRecDepth 20000 in
theorem s46 (hcl:cs.length=18)(h16:cs[16]? = some nv)(h17:cs[17]? = some kv)(hone:cs.all Value.oneCell'=true)(d:RdV 1 nv ks.length (strs (ks.map (·.1))) x)(d2:RdV 1 kv ks.length (ints (ks.map (·.2))) x)(hl:ks.length<1000000000)(w:AN x h)
  (K:∀ nv' kv' y h,RdV 1 nv' (FB ks nm n).length (strs ((FB ks nm n).map (·.1))) y→RdV 1 kv' (FB ks nm n).length (ints ((FB ks nm n).map (·.2))) y→AN (y+x) h→Q (.agg ⟨(cs.set 16 nv').set 17 kv'⟩) h) :
  f46 (.agg ⟨cs⟩) (str nm) (.int .i64 (n:Nat)) h Q:=by
 unfold f46
 refine BJ w fun b3 h w=>?_
 have w:AN (pts b3 (.cells ⟨cs⟩ 63 (0,0))+x) h:=w
 refine Ah w Ko rfl fun b6 h w=>?_
 obtain⟨z18,hz18⟩:∃ l:List Value,l=[.int .u16 0,.int .u32 0,.int .u32 0,.int .i64 0,.int .i64 0,.int .i64 0,.int .i64 0,.int .i64 0,.int .i64 0,.int .i64 0,.int .i64 0,.int .u32 0,.int .u32 0,.slice none 0 0,str [],.slice none 0 0,.slice none 0 0,.slice none 0 0]:=⟨_,rfl⟩
 rw[←hz18] at w
 have hz:z18.length=18:=by rw[hz18];rfl
 clear hz18
 have g16:(⟨cs⟩:Array Value)[16]? = some nv:=by simpa using h16
 have g17:(⟨cs⟩:Array Value)[17]? = some kv:=by simpa using h17
 have ff:∀ (b o:Nat) (k:Value→Prop),AC o (Pt b) k=k (.pointer (some ⟨b,o,none⟩)):=fun b o k=>by simp only[go_sem]
 refine Cj w hcl ?_
 refine Xl _ _ _ _ (s50 (names:=ks.map (·.1)) (nm:=nm) h16 (by rw[List.length_map];exact d.addR.addR) (by rw[List.length_map];exact hl) w fun y h w=>?_)
 rw[DA,DH]
 obtain⟨i,hi⟩:∃ i,BV (ks.map (·.1)) nm=i:=⟨_,rfl⟩
 obtain⟨has,hhas⟩:∃ has:Bool,decide ((ks.map (·.1))[BV (ks.map (·.1)) nm]? = some nm)=has:=⟨_,rfl⟩
 have hil:i≤ks.length:=by
  have:=EI (ks.map (·.1)) nm
  rw[List.length_map] at this
  omega
 have hh:has=true→i<ks.length:=fun hb=>by
  rw[hb] at hhas
  have h1:=of_decide_eq_true hhas
  have:=(List.getElem?_eq_some_iff.1 h1).1
  rw[List.length_map] at this
  omega
 have hins:FB ks nm n=ks.take i++[(nm,n)]++ks.drop (i+if has=true then 1 else 0):=by
  unfold FB
  rw[hi] at hhas ⊢
  congr 3
  by_cases hc:(ks.map (·.1))[i]? = some nm
  ·rw[if_pos hc,←hhas,if_pos (decide_eq_true hc)]
  ·rw[if_neg hc,←hhas,if_neg (by simpa using hc)]
 rw[hhas,hi]
 have K2:∀ nv' kv' ks' y' h,ks'=ks.take i++[(nm,n)]++ks.drop (i+if has=true then 1 else 0)→RdV 1 nv' ks'.length (strs (ks'.map (·.1))) y'→RdV 1 kv' ks'.length (ints (ks'.map (·.2))) y'→AN (y'+(y+x)) h→Q (.agg ⟨(cs.set 16 nv').set 17 kv'⟩) h:=fun nv' kv' ks' y' h he c1 c2 w=>by
  rw[←hins] at he
  subst he
  exact K nv' kv' (y'+y) h c1.addL c2.addL (w.cast (Res.assoc _ _ _).symm)
 have k0:∀ Y B6 B3 X:Res,Y+(B6+(B3+X))=B3+(B6+(Y+X)):=by intros;ac_rfl
 have w:=w.cast (k0 _ _ _ _)
 rw[ff]
 refine AW w g16 ?_
 refine Lr (f:=str) (x:=y+x) (d.addR:RdV 1 nv ks.length (strs (ks.map (·.1))) (y+x)) hil fun s9 e9=>?_
 rw[ff]
 refine AW w g17 ?_
 refine Lr (f:=fun n:Nat=>Value.int .i64 (n:Nat)) (x:=y+x) (d2.addR:RdV 1 kv ks.length (ints (ks.map (·.2))) (y+x)) hil fun s10 e10=>?_
 have e9':RdV 1 s9 i (strs ((ks.take i).map (·.1))) (y+x):=by rw[List.map_take];exact e9
 have e10':RdV 1 s10 i (ints ((ks.take i).map (·.2))) (y+x):=by rw[List.map_take];exact e10
 have fin:∀ (v9 v10:Value) (q9 q10:Res) (h:H),Vec 9 1 v9 i (strs ((ks.take i).map (·.1))) q9→Vec 3 1 v10 i (ints ((ks.take i).map (·.2))) q10→AN (q9+(q10+(pts b3 (.cells ⟨cs⟩ 63 (0,0))+(pts b6 (.cells ⟨z18⟩ 63 (0,0))+(y+x))))) h→LO Q (str nm) (.int .i64 (n:Nat)) (Pt b3) (Pt b6) (.int .i64 (i:Nat)) (.bool has) v9 v10 h:=fun v9 v10 q9 q10 h a9 a10 w=>AGV hcl h16 h17 hone hz d.addR d2.addR hl hil hh a9 a10 w K2
 have k1:∀ A B C D X:Res,A+(B+(C+(D+X)))=B+(A+(C+(D+X))):=by intros;ac_rfl
 have one9:=Pi ((ks.take i).map (·.1))
 have one3:=OT ((ks.take i).map (·.2))
 have nil9:∀ l,strs []++strs l=strs l:=fun l=>rfl
 have nil3:∀ l,ints []++ints l=ints l:=fun l=>rfl
 have z0:0+i=i:=Nat.zero_add i
 refine And.intro ?_ ?_
 ·refine Dg w Ho fun v9 q9 h a9 w=>?_
  refine⟨AW w g16 rfl,AW w g17 rfl,?_,?_⟩
  ·refine CA a9 e9'.addR.addR w Ho rfl (by omega) (by omega) one9 fun v9 q9 h a9 w=>?_
   rw[z0] at a9
   refine⟨AW w g17 rfl,?_⟩
   refine Dg w HL fun v10 q10 h a10 w=>?_
   refine⟨AW w g17 rfl,?_⟩
   refine CA a10 e10'.addR.addR.addR w HL rfl (by omega) (by omega) one3 fun v10 q10 h a10 w=>?_
   rw[z0] at a10
   exact fin _ _ _ _ h a9 a10 (w.cast (k1 _ _ _ _ _))
  ·refine Dg w HL fun v10 q10 h a10 w=>?_
   refine⟨AW w g16 rfl,AW w g17 rfl,?_⟩
   refine CA a9 e9'.addR.addR.addR (w.cast (k1 _ _ _ _ _)) Ho rfl (by omega) (by omega) one9 fun v9 q9 h a9 w=>?_
   rw[z0] at a9
   refine⟨AW w g17 rfl,?_⟩
   refine CA a10 e10'.addR.addR.addR (w.cast (k1 _ _ _ _ _)) HL rfl (by omega) (by omega) one3 fun v10 q10 h a10 w=>?_
   rw[z0] at a10
   exact fin _ _ _ _ h a9 a10 (w.cast (k1 _ _ _ _ _))
 ·refine Dg w HL fun v10 q10 h a10 w=>?_
  refine⟨AW w g16 rfl,AW w g17 rfl,?_⟩
  refine Dg w Ho fun v9 q9 h a9 w=>?_
  refine⟨AW w g16 rfl,AW w g17 rfl,?_⟩
  refine CA a9 e9'.addR.addR.addR w Ho rfl (by omega) (by omega) one9 fun v9 q9 h a9 w=>?_
  rw[z0] at a9
  refine⟨AW w g17 rfl,?_⟩
  refine CA a10 e10'.addR.addR.addR (w.cast (k1 _ _ _ _ _)) HL rfl (by omega) (by omega) one3 fun v10 q10 h a10 w=>?_
  rw[z0] at a10
  exact fin _ _ _ _ h a9 a10 (w.cast (k1 _ _ _ _ _))
end
end
end Go.Proofs.YtollddkkdgoonaaGreatDoor
