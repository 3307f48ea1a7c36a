/- A part of a proof over images that are written and read. No condition; a step. -/
import Derived.Test.YtollddkkdgoonaaGreatDoorM15
namespace Go.Proofs.YtollddkkdgoonaaGreatDoor
open Go
set_option linter.unusedVariables false
set_option linter.unusedSimpArgs false
set_option maxRecDepth 100000
section
variable {h:H} {k:Value→Prop} {kt Q:Kt} {x y r:Res} {v:VS}
attribute [local irreducible] AK Az AQ BB Ae AY AH AM VS.cells XN.cells CK
structure Ext1 (e:Bs) (start len:Nat):Prop where
 l60:e.length=60
 magic:leL e 0 2=62218
 ent:leL e 2 2=1
 most:leL e 4 2=4
 dep:leL e 6 2=0
 fr:leL ((e.drop 12).take 12) 0 4=0
 ln:leL ((e.drop 12).take 12) 4 2=len
 hi:leL ((e.drop 12).take 12) 6 2=0
 st:leL ((e.drop 12).take 12) 8 4=start
section
variable {X:XN} {ev xv bv:Value} {cb ib nx start len size:Nat} {e o':Bs}
theorem AIK (ok:v.OK x)(ex:Ext1 e start len)(hsz:X.size=size)(h1:(len-1)*4096<size)(h0:0<len)(hlen:len≤32768)(hs:start+len≤v.nb)(hsl:size≤len*4096)(c:Clm ((List.range len).map (start + ·)) v.ow o')(hb:X.blk<100000)(d:RdX x bv e)
  (w:AN (v.res+(xR ib cb nx X (.slice (some ⟨cb,0,none⟩) size size) ev xv (CK v.I start size 0) (.int .u64 0)+x)) h)
  (K:∀ h,(v.own o').OK x→AN ((v.own o').res+(xR ib cb nx {X with blk:=X.blk+len} (.slice (some ⟨cb,0,none⟩) size size) ev xv (CK v.I start size len) (.int .u64 (len:Nat))+x)) h→Q (.tuple #[]) h) :
  ABj (Pt v.vb) (Pt ib) bv (.int .i64 5) (Pt nx) h Q:=by
 obtain⟨ba,bcc,hbv⟩:=d.len
 have hl60:=ex.l60
 have d3:RdX (v.res+(xR ib cb nx X (.slice (some ⟨cb,0,none⟩) size size) ev xv (CK v.I start size 0) (.int .u64 0)+x)) bv e:=d.addR.addR
 have wn:∀ k,AB false 1 (.pointer (some ⟨ib,0,none⟩)) h k=k (.int .u64 (X.num:Nat)):=fun k=>by
  rw[AF w,XN.g0];rfl
 have wx:∀ k,AB false 1 (Pt nx) h k=k (.int .u64 0):=fun k=>by
  rw[AF w];rfl
 have nf:∀ k:Value→Prop,(AE (Pt ib) fun x161=>AC 0 x161 k)=k (.pointer (some ⟨ib,0,none⟩)):=fun k=>by simp only[go_sem]
 have nn:∀ k:Value→Prop,AE (Pt nx) k=k (Pt nx):=fun k=>by simp only[go_sem]
 unfold ABj Ucl Uff Uld Ukp Ucg Unf
 refine Bh (JM (p:=2) (n:=2) d3 w (by omega) (by omega) (by omega) ?_)
 refine Bh (JM (p:=4) (n:=2) d3 w (by omega) (by omega) (by omega) ?_)
 refine Bh (JM (p:=6) (n:=2) d3 w (by omega) (by omega) (by omega) ?_)
 rw[ex.ent,ex.most,ex.dep,DO,Ci (by omega),nf,wn]
 refine Bh (JM (p:=0) (n:=2) d3 w (by omega) (by omega) (by omega) ?_)
 rw[ex.magic,wn]
 refine⟨rfl,?_⟩
 have b1:(AD .eql (.int .u64 ((62218:Nat):Int)) (.int .u64 62218))=fun k=>k (.bool true):=funext fun k=>by rw[Aa];rfl
 have b2:(AD .leq (.int .u64 ((1:Nat):Int)) (.int .u64 ((4:Nat):Int)))=fun k=>k (.bool true):=funext fun k=>by rw[BW];rfl
 have b3:(AD .mul (.int .u64 12) (.int .u64 ((4:Nat):Int)))=fun k=>k (.int .u64 48):=funext fun k=>by rw[Bc];rfl
 have b4:(AD .add (.int .u64 12) (.int .u64 48))=fun k=>k (.int .u64 60):=funext fun k=>by rw[A0];rfl
 have b5:(AD .leq (.int .u64 60) (.int .u64 ((60:Nat):Int)))=fun k=>k (.bool true):=funext fun k=>by rw[BW];rfl
 have b6:(AD .leq (.int .i64 ((0:Nat):Int)) (.int .i64 5))=fun k=>k (.bool true):=funext fun k=>by rw[BW];rfl
 have b7:(AD .eql (.int .i64 5) (.int .i64 5))=fun k=>k (.bool true):=funext fun k=>by rw[Aa];rfl
 have b8:(AD .neq (.int .u64 ((62218:Nat):Int)) (.int .u64 62218))=fun k=>k (.bool false):=funext fun k=>by rw[A3];rfl
 have b9:(AD .mul (.int .u64 12) (.int .u64 ((1:Nat):Int)))=fun k=>k (.int .u64 12):=funext fun k=>by rw[Bc];rfl
 have b10:(AD .add (.int .u64 12) (.int .u64 12))=fun k=>k (.int .u64 24):=funext fun k=>by rw[A0];rfl
 have b11:(AD .gtr (.int .u64 24) (.int .u64 ((60:Nat):Int)))=fun k=>k (.bool false):=funext fun k=>by rw[Ao];rfl
 have b12:(AD .gtr (.int .i64 ((0:Nat):Int)) (.int .i64 5))=fun k=>k (.bool false):=funext fun k=>by rw[Ao];rfl
 have b13:(AD .neq (.int .i64 5) (.int .i64 5))=fun k=>k (.bool false):=funext fun k=>by rw[A3];rfl
 have len60:∀ k:Value→Prop,(Ab bv fun x47=>AV .u64 x47 k)=k (.int .u64 ((60:Nat):Int)):=fun k=>by rw[hbv,Aw,DO,hl60];rfl
 simp only[b1]
 refine Al (Da ?_)
 simp only[b2,b3,b4,Cq,len60,b5,nf,wn]
 refine Al (Da ?_)
 unfold NC Ucg Ucf Unf Ucl
 simp only[b6,b7,Cq,PD,nf,wn]
 refine Al (Da ?_)
 unfold K8 Ucl Ucf Ucg Ucm
 refine Bh (JM (p:=0) (n:=2) d3 w (by omega) (by omega) (by omega) ?_)
 rw[ex.magic]
 simp only[b8,b9,b10,b11,b12,b13,Cr,SR,len60]
 unfold Mv Vp
 refine Ba (fun m u h'=>(m=1∧u=.int .u64 0∧h'=h)∨(m=0∧u=.int .u64 ((1:Nat):Int)∧(v.own o').OK x∧AN ((v.own o').res+(xR ib cb nx {X with blk:=X.blk+len} (.slice (some ⟨cb,0,none⟩) size size) ev xv (CK v.I start size len) (.int .u64 (len:Nat))+x)) h')) 1 (.inl ⟨rfl,rfl,rfl⟩) ?_
 rintro rec m u h' hh hrec
 rcases hh with⟨rfl,rfl,rfl⟩|⟨rfl,rfl,ok2,w⟩
 ·unfold NL Ucm Ucl Uld Unf Uff Ukp Ucg
  have c1:(AD .lss (.int .u64 0) (.int .u64 ((1:Nat):Int)))=fun k=>k (.bool true):=funext fun k=>by rw[AT];rfl
  have c2:(AD .mul (.int .u64 12) (.int .u64 0))=fun k=>k (.int .u64 0):=funext fun k=>by rw[Bc];rfl
  have c3:(AD .add (.int .u64 12) (.int .u64 0))=fun k=>k (.int .u64 ((12:Nat):Int)):=funext fun k=>by rw[A0];rfl
  have c4:(AD .add (.int .u64 24) (.int .u64 0))=fun k=>k (.int .u64 ((24:Nat):Int)):=funext fun k=>by rw[A0];rfl
  have c5:(AD .geq (.int .u64 ((0:Nat):Int)) (.int .u64 0))=fun k=>k (.bool true):=funext fun k=>by rw[BD];rfl
  have c6:(AD .gtr (.int .i64 ((0:Nat):Int)) (.int .i64 0))=fun k=>k (.bool false):=funext fun k=>by rw[Ao];rfl
  have c7:(AD .shl (.int .u64 ((0:Nat):Int)) (.int .u64 32))=fun k=>k (.int .u64 ((0:Nat):Int)):=funext fun k=>by rw[Hm]
  have hstl:start<4294967296:=by rw[←ex.st];exact Ag
  have c8:(AD .or (.int .u64 (start:Nat)) (.int .u64 ((0:Nat):Int)))=fun k=>k (.int .u64 (start:Nat)):=funext fun k=>by rw[V2 (by omega) (by omega),Nat.or_zero]
  have c9:(AD .geq (.int .u64 (len:Nat)) (.int .u64 1))=fun k=>k (.bool true):=funext fun k=>by rw[BD,A04 (by omega)]
  have c10:(AD .leq (.int .u64 (len:Nat)) (.int .u64 32768))=fun k=>k (.bool true):=funext fun k=>by rw[BW,A04 (by omega)]
  have c11:(AD .gtr (.int .u64 (len:Nat)) (.int .u64 32768))=fun k=>k (.bool false):=funext fun k=>by rw[Ao,A08 (by omega)]
  simp only[c1,c2,c3,c4,Ak]
  refine d.slice (i:=12) (j:=24) BA BA (by omega) (by omega) fun sv ds=>?_
  rw[A49] at ds
  have dsl:((e.drop 12).take 12).length=12:=by simp;omega
  have ds3:RdX (v.res+(xR ib cb nx X (.slice (some ⟨cb,0,none⟩) size size) ev xv (CK v.I start size 0) (.int .u64 0)+x)) sv ((e.drop 12).take 12):=ds.addR.addR
  refine Bh (JM (p:=0) (n:=4) ds3 w (by omega) (by omega) (by omega) ?_)
  rw[ex.fr]
  simp only[nn,nf,wn,wx,c5]
  refine Al (Da ?_)
  simp only[c6,AU]
  refine Bh (JM (p:=4) (n:=2) ds3 w (by omega) (by omega) (by omega) ?_)
  refine Bh (JM (p:=8) (n:=4) ds3 w (by omega) (by omega) (by omega) ?_)
  refine Bh (JM (p:=6) (n:=2) ds3 w (by omega) (by omega) (by omega) ?_)
  rw[ex.ln,ex.st,ex.hi]
  simp only[c7,c8,c9,c10,Cq,nf,wn]
  refine Al (Da ?_)
  unfold Nm Ucm
  simp only[c11,AU]
  exact ACq (i:=0) ok hsz h1 h0 hlen (by omega) hs hsl c hb w fun h ok2 w=>hrec 0 _ _ (.inr ⟨rfl,rfl,ok2,w⟩) (by omega)
 ·unfold NL Ucm Ucl Uld Unf Uff Ukp Ucg
  have c1:(AD .lss (.int .u64 ((1:Nat):Int)) (.int .u64 ((1:Nat):Int)))=fun k=>k (.bool false):=funext fun k=>by rw[AT];rfl
  simp only[c1,AU]
  exact K h' ok2 w
end
end
section
variable {h:H} {k:Value→Prop} {kt Q:Kt} {x y r:Res} {v:VS}
attribute [local irreducible] AK Az AQ BB Ae AY AH AM VS.cells XN.cells CK
def mjL (e:Bs):Nat:=if leL e 0 4≠0 then leL e 0 4/256 &&& 255 else leL e 4 4/256 &&& 4095
def mnL (e:Bs):Nat:=if leL e 0 4≠0 then leL e 0 4 &&& 255 else leL e 4 4 &&& 255 ||| leL e 4 4/4096 &&& 1048320
inductive ContR (I:Bs) (nb:Nat):XN→Bs→Bs→Bs→XN→List Nat→Prop
 | dev {X:XN} {e rest:Bs}:kindL X.mode=3∨kindL X.mode=4→X.size=0→X.flags &&& 524288=0→ContR I nb X e rest [] {X with major:=mjL e,minor:=mnL e} []
 | pipe {X:XN} {e rest:Bs}:kindL X.mode=5∨kindL X.mode=6→X.size=0→X.flags &&& 524288=0→ContR I nb X e rest [] X []
 | inline {X:XN} {e rest:Bs}:kindL X.mode=1∨kindL X.mode=2∨kindL X.mode=7→X.inl=true→X.size≤e.length+rest.length→X.size≤I.length→ContR I nb X e rest ((e++rest).take X.size) X []
 | ext {X:XN} {e rest:Bs} {start len:Nat}:kindL X.mode=1∨kindL X.mode=2∨kindL X.mode=7→X.inl=false→X.flags &&& 524288≠0→Ext1 e start len→(len-1)*4096<X.size→0<len→len≤32768→start+len≤nb→X.size≤len*4096→X.blk<100000→ContR I nb X e rest ((I.drop (start*4096)).take X.size) {X with blk:=X.blk+len} ((List.range len).map (start + ·))
 | empty {X:XN} {e rest:Bs}:kindL X.mode=1∨kindL X.mode=2→X.inl=false→X.flags &&& 524288=0→X.size=0→ContR I nb X e rest [] X []
section
variable {X X':XN} {ev xv bv rv:Value} {ib:Nat} {b rest o' C:Bs} {cl:List Nat}
theorem YM (ok:v.OK x){cv:Value}(hs:X.size=0)(hf:X.flags &&& 524288=0)(hfl:X.flags<4294967296)(w:AN (v.res+(pts ib (.cells ⟨X.cells cv ev xv⟩ 81 (0,0))+x)) h)(K:Q (.tuple #[]) h):KX Q (Pt v.vb) (Pt ib) h:=by
 have e1:decide ((X.size:Int)=0)=true:=A04 (by omega)
 have e2:decide (((X.flags &&& 524288:Nat):Int)=0)=true:=A04 (by omega)
 unfold KX Unf Ucg Ucl
 simp (disch:=omega) only[go_sem,AF w,e1,e2]
 exact Al (Da K)
theorem Vd (ok:v.OK x){x3 x18:Value}{e:Bs}(d:RdX x bv e)(he:e.length=60)(hs:X.size=0)(hf:X.flags &&& 524288=0)(hfl:X.flags<4294967296)(w:AN (v.res+(pts ib (.cells ⟨X.cells (.slice none 0 0) ev xv⟩ 81 (0,0))+x)) h)
  (K:∀ h,AN (v.res+(pts ib (.cells ⟨{X with major:=mjL e,minor:=mnL e}.cells (.slice none 0 0) ev xv⟩ 81 (0,0))+x)) h→Q (.tuple #[]) h):IU Q (Pt v.vb) (Pt ib) x3 bv x18 (.bool true) h:=by
 have d3:RdX (v.res+(pts ib (.cells ⟨X.cells (.slice none 0 0) ev xv⟩ 81 (0,0))+x)) bv e:=d.addR.addR
 have l0:leL e 0 4<4294967296:=Ag
 have l4:leL e 4 4<4294967296:=Ag
 unfold IU Ucl Ucm Uff
 rw[Ak]
 refine Bh (JM (p:=0) (n:=4) d3 w (by omega) (by omega) (by omega) ?_)
 refine Bh (JM (p:=4) (n:=4) d3 w (by omega) (by omega) (by omega) ?_)
 rw[A3]
 have ha:∀ z,leL e 0 4/256 &&& z≤leL e 0 4/256:=fun z=>B20
 have ha2:∀ z,leL e 0 4 &&& z≤leL e 0 4:=fun z=>B20
 have ha3:∀ z,leL e 4 4/256 &&& z≤leL e 4 4/256:=fun z=>B20
 have ha4:∀ z,leL e 4 4 &&& z≤leL e 4 4:=fun z=>B20
 have ha5:leL e 4 4/4096 &&& 1048320≤leL e 4 4/4096:=B20
 have q1:=ha 255
 have q2:=ha2 255
 have q3:=ha3 4095
 have q4:=ha4 255
 have q5:leL e 4 4 &&& 255 ||| leL e 4 4/4096 &&& 1048320<4294967296:=B01 (n:=32) (by omega) (by omega)
 have sh12:∀ a:Nat,(AD .shr (.int .u64 (a:Nat)) (.int .u64 12))=fun k=>k (.int .u64 ((a/4096:Nat):Int)):=fun a=>funext fun k=>EC (s:=12)
 refine AX (fun hc=>?_) (fun hc=>?_)
 ·have e0:leL e 0 4≠0:=by omega
  simp (disch:=omega) only[go_sem,AF w]
  refine AL w _ XN.set16 rfl (by rw[XN.size_];omega) rfl fun h w=>?_
  refine AL w _ XN.set17 rfl (by rw[XN.size_];omega) rfl fun h w=>?_
  have em:mjL e=leL e 0 4/256 &&& 255:=A03 e0
  have en:mnL e=leL e 0 4 &&& 255:=A03 e0
  rw[em,en] at K
  exact YM (X:={X with major:=leL e 0 4/256 &&& 255,minor:=leL e 0 4 &&& 255}) ok hs hf hfl w (K h w)
 ·have e0:¬leL e 0 4≠0:=by omega
  simp (disch:=omega) only[go_sem,AF w,sh12]
  refine AL w _ XN.set16 rfl (by rw[XN.size_];omega) rfl fun h w=>?_
  refine AL w _ XN.set17 rfl (by rw[XN.size_];omega) rfl fun h w=>?_
  have em:mjL e=leL e 4 4/256 &&& 4095:=A05 e0
  have en:mnL e=leL e 4 4 &&& 255 ||| leL e 4 4/4096 &&& 1048320:=A05 e0
  rw[em,en] at K
  exact YM (X:={X with major:=leL e 4 4/256 &&& 4095,minor:=leL e 4 4 &&& 255 ||| leL e 4 4/4096 &&& 1048320}) ok hs hf hfl w (K h w)
theorem Zd {I:Bs}{start size:Nat}:CK I start size 0=List.replicate size 0:=by
 unfold CK;simp
theorem Ze {I:Bs}{start size len:Nat}(h:size≤len*4096):CK I start size len=(I.drop (start*4096)).take size:=by
 unfold CK
 rw[Nat.min_eq_right h,A87];simp
theorem Cb:AG TP 48=some (.int .u64 0):=by kernel_rfl
theorem AFm {e:Bs}(ok:v.OK x)(d:RdX x bv e)(he:e.length=60)(dr:RdX x rv rest)(hrl:rest.length<100000)(hin:X.inl=true)(hsz:X.size≤e.length+rest.length)(hsi:X.size≤v.I.length)(w:AN (v.res+(pts ib (.cells ⟨X.cells (.slice none 0 0) ev xv⟩ 81 (0,0))+x)) h)
  (K:∀ cv y h,RdX y cv ((e++rest).take X.size)→AN (v.res+(pts ib (.cells ⟨X.cells cv ev xv⟩ 81 (0,0))+(y+x))) h→Q (.tuple #[]) h):EX Q (Pt v.vb) (Pt ib) rv bv (.bool false) h:=by
 obtain⟨ia,ic,hi⟩:=ok.rd.len
 have hg:=ok.big
 have e1:decide ((X.size:Int)≤(v.I.length:Int))=true:=A04 (by omega)
 have e2:decide ((X.size:Int)>(v.I.length:Int))=false:=A08 (by omega)
 unfold EX Unf Ucg Ucl Ucm Uff Umk Uld
 rw[AU]
 simp (disch:=omega) only[go_sem,AF w]
 rw[hi]
 simp (disch:=omega) only[go_sem,AF w]
 rw[e1]
 refine Al (Da ?_)
 simp (disch:=omega) only[go_sem,AF w,hi]
 rw[e2,AU,hin,Ak]
 refine CZ (l:=[]) w (by omega) rfl rfl fun eb h w=>?_
 refine BU (BufV.own' (n:=0) (all:=[]) (c:=0) (bs:=[]) (A07 _) rfl rfl) w (d.addR.addR.rd w.right) (by simp;omega) fun v1 r1 h b1 w=>?_
 rw[A34] at b1
 refine BU b1 w (dr.addR.addR.rd w.right) (by omega) fun v2 r2 h b2 w=>?_
 obtain⟨a2,c2,hv2⟩:=b2.len
 have w:AN (v.res+(pts ib (.cells ⟨X.cells (.slice none 0 0) ev xv⟩ 81 (0,0))+(r2+x))) h:=w.cast (by ac_rfl)
 rw[hv2]
 refine AL w _ XN.set18 rfl (by rw[XN.size_];omega) rfl fun h w=>?_
 have hl2:(e++rest).length=e.length+rest.length:=A01
 have e3:decide ((X.size:Int)≤((e++rest).length:Int))=true:=A04 (by omega)
 simp (disch:=omega) only[go_sem,AF w]
 rw[e3]
 refine Al (Da ?_)
 simp (disch:=omega) only[go_sem,AF w]
 refine XT ?_
 rw[A30 (by omega),←hv2]
 refine b2.rdX.slice (i:=0) (j:=X.size) rfl BA (A39 _) (by omega) fun cv dc=>?_
 obtain⟨ca,cc,hcv⟩:=dc.len
 rw[A68] at dc
 refine AL w ⟨X.cells cv ev xv⟩ (by rw[hcv];exact XN.set18) (by rw[hcv];rfl) (by rw[XN.size_];omega) (by rw[hcv];rfl) fun h w=>K cv r2 h dc w
theorem AFA {e:Bs}{start len:Nat}(ok:v.OK x)(d:RdX x bv e)(ex:Ext1 e start len)(hin:X.inl=false)(hf:X.flags &&& 524288≠0)(hfl:X.flags<4294967296)(h1:(len-1)*4096<X.size)(h0:0<len)(hlen:len≤32768)(hs:start+len≤v.nb)(hsl:X.size≤len*4096)(c:Clm ((List.range len).map (start + ·)) v.ow o')(hb:X.blk<100000)
  (w:AN (v.res+(pts ib (.cells ⟨X.cells (.slice none 0 0) ev xv⟩ 81 (0,0))+x)) h)
  (K:∀ cv y h,RdX y cv ((v.I.drop (start*4096)).take X.size)→(v.own o').OK x→AN ((v.own o').res+(pts ib (.cells ⟨{X with blk:=X.blk+len}.cells cv ev xv⟩ 81 (0,0))+(y+x))) h→Q (.tuple #[]) h):EX Q (Pt v.vb) (Pt ib) rv bv (.bool false) h:=by
 obtain⟨ia,ic,hi⟩:=ok.rd.len
 have hg:=ok.big
 have hil:=ok.len
 have hxs:X.size≤v.I.length:=by omega
 have hci:start*4096+X.size≤v.I.length:=by omega
 have e1:decide ((X.size:Int)≤(v.I.length:Int))=true:=A04 (by omega)
 have e2:decide ((X.size:Int)>(v.I.length:Int))=false:=A08 (by omega)
 have e4:decide (((X.flags &&& 524288:Nat):Int)≠0)=true:=A04 (by omega)
 unfold EX Unf Ucg Ucl Ucm Uff Umk Uld
 rw[AU]
 simp (disch:=omega) only[go_sem,AF w]
 rw[hi]
 simp (disch:=omega) only[go_sem]
 rw[e1]
 refine Al (Da ?_)
 simp (disch:=omega) only[go_sem,AF w,hi]
 rw[e2,AU,hin,AU,e4,Ak]
 refine ER w (by omega) fun cb h w=>?_
 have w:AN (v.res+(pts ib (.cells ⟨X.cells (.slice none 0 0) ev xv⟩ 81 (0,0))+(buf cb (List.replicate X.size 0)+x))) h:=w.cast (by ac_rfl)
 refine AL w _ XN.set18 rfl (by rw[XN.size_];omega) rfl fun h w=>?_
 refine Ah w Cb rfl fun nx h w=>?_
 refine AL w ⟨[.int .u64 0]⟩ rfl rfl (by simp) rfl fun h w=>?_
 have hr0:List.replicate X.size (0:UInt8)=CK v.I start X.size 0:=Zd.symm
 rw[hr0] at w
 have k1:∀ N V P C X:Res,N+(V+(P+(C+X)))=V+(P+(C+N)+X):=by intros;ac_rfl
 refine Zi (AIK (nx:=nx) (cb:=cb) ok ex rfl h1 h0 hlen hs hsl c hb d (w.cast (k1 _ _ _ _ _)) fun h ok2 w=>?_)
 rw[Ze hsl] at w
 have hcl:((v.I.drop (start*4096)).take X.size).length=X.size:=by simp;omega
 have wx:∀ k,AB false 1 (Pt nx) h k=k (.int .u64 (len:Nat)):=fun k=>by
  rw[AF w];rfl
 have e5:decide ((len:Int)≤(((X.size+4096-1)/4096:Nat):Int))=true:=A04 (by omega)
 rw[wx]
 have w:AN ((v.own o').res+(xR ib cb nx {X with blk:=X.blk+len} (.slice (some ⟨cb,0,none⟩) X.size X.size) ev xv ((v.I.drop (start*4096)).take X.size) (.int .u64 (len:Nat))+x)) h:=w
 simp (disch:=omega) only[go_sem,AF w]
 rw[e5]
 refine Al (Da ?_)
 have dc:RdX (buf cb ((v.I.drop (start*4096)).take X.size)+pts nx (.cells ⟨[.int .u64 (len:Nat)]⟩ 48 (0,0))) (.slice (some ⟨cb,0,none⟩) X.size X.size) ((v.I.drop (start*4096)).take X.size):=by
  exact .ofBuf hcl
 exact K _ _ h dc ok2 (w.cast (by unfold xR;ac_rfl))
theorem AE5 {e:Bs}(ok:v.OK x)(hk:kindL X.mode≠7)(hm:X.mode<65536)(hin:X.inl=false)(hf:X.flags &&& 524288=0)(hfl:X.flags<4294967296)(h0:X.size=0)
  (w:AN (v.res+(pts ib (.cells ⟨X.cells (.slice none 0 0) ev xv⟩ 81 (0,0))+x)) h) (K:Q (.tuple #[]) h):EX Q (Pt v.vb) (Pt ib) rv bv (.bool false) h:=by
 obtain⟨ia,ic,hi⟩:=ok.rd.len
 have hg:=ok.big
 have e1:decide ((X.size:Int)≤(v.I.length:Int))=true:=A04 (by omega)
 have e2:decide ((X.size:Int)>(v.I.length:Int))=false:=A08 (by omega)
 have e4:decide (((X.flags &&& 524288:Nat):Int)≠0)=false:=A08 (by omega)
 have e5:decide ((X.size:Int)=0)=true:=A04 (by omega)
 have e6:decide ((kindL X.mode:Int)=7)=false:=A08 (by omega)
 unfold EX Unf Ucg Ucl Ucm Uff Umk Uld
 rw[AU]
 simp (disch:=omega) only[go_sem,AF w]
 rw[hi]
 simp (disch:=omega) only[go_sem]
 rw[e1]
 refine Al (Da ?_)
 simp (disch:=omega) only[go_sem,AF w,hi]
 rw[e2,AU,hin,AU,e4,AU]
 refine E9 (YT hm ?_)
 simp (disch:=omega) only[go_sem,AF w]
 rw[e6,AU,e5]
 exact Al (Da K)
theorem ABd (hs:X.size=0)(hf:X.flags &&& 524288=0)(hfl:X.flags<4294967296)(w:AN (v.res+(pts ib (.cells ⟨X.cells (.slice none 0 0) ev xv⟩ 81 (0,0))+x)) h)(K:Q (.tuple #[]) h):EX Q (Pt v.vb) (Pt ib) rv bv (.bool true) h:=by
 have e1:decide ((X.size:Int)=0)=true:=A04 (by omega)
 have e2:decide (((X.flags &&& 524288:Nat):Int)=0)=true:=A04 (by omega)
 unfold EX Unf Ucg Ucl Ucm Uff Umk Uld
 rw[Ak]
 simp (disch:=omega) only[go_sem,AF w,e1,e2]
 exact Al (Da K)
theorem AIL (ok:v.OK x)(db:RdX x bv b)(hb:b.length=256)(dr:RdX x rv rest)(hrl:rest.length<100000)(cr:ContR v.I v.nb X ((b.drop 40).take 60) rest C X' cl)(c:Clm cl v.ow o')(hm:X.mode<65536)(hfl:X.flags<4294967296)
  (w:AN (v.res+(pts ib (.cells ⟨X.cells (.slice none 0 0) ev xv⟩ 81 (0,0))+x)) h)
  (K:∀ cv y h,RdX y cv C→(v.own o').OK x→AN ((v.own o').res+(pts ib (.cells ⟨X'.cells cv ev xv⟩ 81 (0,0))+(y+x))) h→Q (.tuple #[]) h):ADh (Pt v.vb) (Pt ib) bv rv h Q:=by
 have hel:((b.drop 40).take 60).length=60:=by simp;omega
 have nilK:∀ {X':XN} {h:H},o'=v.ow→(∀ cv y h,RdX y cv []→(v.own o').OK x→AN ((v.own o').res+(pts ib (.cells ⟨X'.cells cv ev xv⟩ 81 (0,0))+(y+x))) h→Q (.tuple #[]) h)→AN (v.res+(pts ib (.cells ⟨X'.cells (.slice none 0 0) ev xv⟩ 81 (0,0))+x)) h→Q (.tuple #[]) h:=by
  intro X' h he K w
  subst he
  exact K (.slice none 0 0) 0 h (.inl ⟨none,0,rfl,rfl⟩) ok (by rw[Res.zero_add];exact w)
 unfold ADh Unf Ucl Ucm
 refine db.slice (i:=40) (j:=100) Ec Ec (by omega) (by omega) fun ev' de=>?_
 rw[A49] at de
 simp (disch:=omega) only[go_sem,AF w]
 refine E9 (YT hm ?_)
 rw[Aa]
 refine AX (fun h3=>?_) (fun h3=>?_)
 ·have hk:kindL X.mode=3:=by omega
  cases cr with
  | dev _ hs hf=>
   cases c
   exact Vd ok de hel hs hf hfl w fun h w=>nilK rfl K w
  | pipe hk2 _ _=>omega
  | inline hk2 _ _ _=>omega
  | ext hk2 _ _ _ _ _ _ _ _ _=>omega
  | empty hk2 _ _ _=>omega
 ·rw[Aa]
  by_cases h4:kindL X.mode=4
  ·have e4:decide ((kindL X.mode:Int)=4)=true:=A04 (by omega)
   rw[e4]
   cases cr with
   | dev _ hs hf=>
    cases c
    exact Vd ok de hel hs hf hfl w fun h w=>nilK rfl K w
   | pipe hk2 _ _=>omega
   | inline hk2 _ _ _=>omega
   | ext hk2 _ _ _ _ _ _ _ _ _=>omega
   | empty hk2 _ _ _=>omega
  ·have e4:decide ((kindL X.mode:Int)=4)=false:=A08 (by omega)
   rw[e4]
   unfold IU Ucl Ucm Uff
   rw[AU,Aa]
   refine AX (fun h5=>?_) (fun h5=>?_)
   ·cases cr with
    | dev hk2 _ _=>omega
    | pipe _ hs hf=>
     cases c
     exact ABd hs hf hfl w (nilK rfl K w)
    | inline hk2 _ _ _=>omega
    | ext hk2 _ _ _ _ _ _ _ _ _=>omega
    | empty hk2 _ _ _=>omega
   ·rw[Aa]
    by_cases h6:kindL X.mode=6
    ·have e6:decide ((kindL X.mode:Int)=6)=true:=A04 (by omega)
     rw[e6]
     cases cr with
     | dev hk2 _ _=>omega
     | pipe _ hs hf=>
      cases c
      exact ABd hs hf hfl w (nilK rfl K w)
     | inline hk2 _ _ _=>omega
     | ext hk2 _ _ _ _ _ _ _ _ _=>omega
     | empty hk2 _ _ _=>omega
    ·have e6:decide ((kindL X.mode:Int)=6)=false:=A08 (by omega)
     rw[e6]
     cases cr with
     | dev hk2 _ _=>omega
     | pipe hk2 _ _=>omega
     | inline hk2 hin hsz hsi=>
      cases c
      exact AFm ok de hel dr hrl hin hsz hsi w fun cv y h d w=>K cv y h d ok w
     | ext hk2 hin hf ex g1 g2 g3 g4 g5 g6=>exact AFA ok de ex hin hf hfl g1 g2 g3 g4 g5 c g6 w K
     | empty hk2 hin hf hs=>
      cases c
      exact AE5 (e:=[]) ok (by omega) hm hin hf hfl hs w (nilK rfl K w)
end
end
section
set_option maxRecDepth 100000
def Ii (Q:Kt)(r1:R2)(a b c d f g i j k:Value)(h:H):Prop:=
 Ucm .lss k i
 (AI (.slice 2) g k fun c=>AB true 2 c h fun c=>Umk 86 h fun d h=>AJ 2 d c h fun h=>Ufl 0 d h fun c=>Ucm .eql c (.string ⟨#[115,121,115,116,101,109,46,100,97,116,97]⟩)
 (Ufl 1 d h fun c=>Ufl 21 f h fun d=>Ucl 65 [a,d,(.string "data that is not inline in inode".toUTF8),b] h fun _ h=>AD .add k (.int .i64 1) fun a=>r1 c a h)
 (Ufl 20 f h fun a=>AB true 2 d h fun b=>AH (.arr 2) 86 (AG TP 86) 2 1 [(0,b)] h fun b h=>AM 86 (AG TP 86) 2 40 a b h fun a h=>AC 20 f fun b=>AJ 1 b a h fun h=>AD .add k (.int .i64 1) fun a=>r1 j a h))
 (Uld d h fun d=>Ucl 179 [a,f,d,j] h fun _ h=>Ufl 7 f h fun d=>AD .and d (.int .u64 262144) fun d=>Ucm .neq d (.int .u64 0)
 (Ufl 6 f h fun d=>Ufl 22 f h fun g=>AD .eql d g fun d=>Ucl 65 [a,d,(.string "blocks of inode".toUTF8),b] h fun _ h=>AB true 23 f h fun a=>AJ 23 c a h fun h=>AB true 23 c h fun a=>Q a h)
 (Ufl 6 f h fun d=>Ufl 22 f h fun g=>AD .mul g (.int .u64 8) fun g=>AD .eql d g fun d=>Ucl 65 [a,d,(.string "sectors of inode".toUTF8),b] h fun _ h=>AB true 23 f h fun a=>AJ 23 c a h fun h=>AB true 23 c h fun a=>Q a h))
def KV (Q:Kt)(a b c d f g i j k:Value)(h:H):Prop:=Bx (fun r1 j k h=>Ii Q r1 a b c d f g i j k h) j k h
def P0 (Q:Kt)(r2:R1)(a b c d f g i j k:Value)(h:H):Prop:=
 Ucm .lss k j
 (AI (.slice 2) i k fun c=>AB true 2 c h fun c=>Umk 60 h fun d h=>AJ 2 d c h fun h=>Ufl 1 d h fun c=>AD .lss c (.int .i64 1000000000) fun c=>Ucl 65 [a,c,(.string "nanoseconds of inode".toUTF8),b] h fun _ h=>AD .add k (.int .i64 1) fun a=>r2 a h)
 (Ufl 7 g h fun i=>AD .and i (.int .u64 268435456) fun i=>AD .neq i (.int .u64 0) fun i=>AC 21 g fun j=>AJ 1 j i h fun h=>Uld d h fun i=>Uld f h fun f=>Ucl 178 [a,g,i,f] h fun f h=>Ab f fun i=>KV Q a b c d g f i (.slice none 0 0) (.int .i64 0) h)
def RE (Q:Kt)(a b c d f g i j k:Value)(h:H):Prop:=A1 (fun r2 k h=>P0 Q r2 a b c d f g i j k h) k h
def Gj (Q:Kt)(a b c d f g:Value)(h:H):Prop:=
 Ufl 1 g h fun i=>Ucl 45 [i] h fun i h=>AD .neq i (.int .u64 0) fun i=>Ucl 65 [a,i,(.string "kind of inode".toUTF8),b] h fun _ h=>Uld d h fun i=>Ucl 66 [i,(.int .u64 20),(.int .u64 4)] h fun i h=>AD .eql i (.int .u64 0) fun i=>Ucl 65 [a,i,(.string "deleted inode".toUTF8),b] h fun _ h=>AC 8 g fun i=>AB true 2 i h fun i=>AC 10 g fun j=>AB true 2 j h fun j=>AC 12 g fun k=>AB true 2 k h fun k=>AC 14 g fun m=>AB true 2 m h fun m=>AH (.arr 2) 60 (AG TP 60) 2 4 [(0,i),(1,j),(2,k),(3,m)] h fun i h=>Ab i fun j=>RE Q a b c d f g i j (.int .i64 0) h
def LV (Q:Kt)(a b c d f g i j k m n o p q t u v:Value)(h:H):Prop:=
 Ae (.struct [(0,1),(1,1),(2,1),(3,1),(4,1),(5,1),(6,1),(7,1),(8,2),(10,2),(12,2),(14,2),(16,1),(17,1),(18,1),(19,1),(20,1),(21,1),(22,1)]) (AG TP 81) [(0,b),(1,i),(2,j),(3,k),(4,m),(5,n),(6,o),(7,p),(8,q),(9,t),(10,u),(11,v)] fun i=>AJ 23 g i h fun h=>Gj Q a b c d f g h
def IW (Q:Kt)(a b c d f g i j k m n o p q t u:Value)(h:H):Prop:=
 Bj TP (.func (.func 176) #[] #[f,d]) [(.int .u64 144)] h fun v h=>Bj TP (.func (.func 176) #[] #[f,d]) [(.int .u64 148)] h fun w h=>Ucl 177 [v,w] h fun v h=>LV Q a b c d f g i j k m n o p q t u v h
def KJ (Q:Kt)(a b c d f g i j k m n o p q t u:Value)(h:H):Prop:=
 Ucl 66 [u,(.int .u64 16),(.int .u64 4)] h fun u h=>Bj TP (.func (.func 176) #[] #[f,d]) [(.int .u64 136)] h fun v h=>Ucl 177 [u,v] h fun u h=>IW Q a b c d f g i j k m n o p q t u h
def Kl (Q:Kt)(a b c d f g i j k m n o p q t u:Value)(h:H):Prop:=
 Bj TP (.func (.func 176) #[] #[f,d]) [(.int .u64 132)] h fun v h=>((Ukp d h u)∧Ucl 177 [t,v] h fun t h=>((Ukp d h u)∧KJ Q a b c d f g i j k m n o p q t u h))
def Nq (Q:Kt)(a b c d f g i j k m n o p q t u v:Value)(h:H):Prop:=
 Ucl 177 [q,t] h fun q h=>((Ukp d h u)∧(Ukp d h v)∧Ucl 66 [u,(.int .u64 12),(.int .u64 4)] h fun t h=>((Ukp d h v)∧Kl Q a b c d f g i j k m n o p q t v h))
def M7 (Q:Kt)(a b c d f g i j k m n o p q t u:Value)(h:H):Prop:=
 Bj TP (.func (.func 176) #[] #[f,d]) [(.int .u64 140)] h fun v h=>((Ukp d h t)∧(Ukp d h u)∧Nq Q a b c d f g i j k m n o p q v t u h)
def Np (Q:Kt)(a b c d f g i j k m n o p q t u:Value)(h:H):Prop:=
 Ucl 66 [q,(.int .u64 8),(.int .u64 4)] h fun q h=>((Ukp d h t)∧(Ukp d h u)∧M7 Q a b c d f g i j k m n o p q t u h)
def M2 (Q:Kt)(a b c d f g i j k m n o p q t u:Value)(h:H):Prop:=
 Ucl 66 [p,(.int .u64 32),(.int .u64 4)] h fun p h=>((Ukp d h q)∧(Ukp d h t)∧(Ukp d h u)∧Np Q a b c d f g i j k m n o p q t u h)
def Ml (Q:Kt)(a b c d f g i j k m n o p q t u v:Value)(h:H):Prop:=
 Ucl 66 [p,(.int .u64 116),(.int .u64 2)] h fun p h=>((Ukp d h q)∧(Ukp d h t)∧(Ukp d h u)∧(Ukp d h v)∧AD .shl p (.int .u64 32) fun p=>AD .or o p fun o=>M2 Q a b c d f g i j k m n o q t u v h)
def Jl (Q:Kt)(a b c d f g i j k m n o p q t u v:Value)(h:H):Prop:=
 Ucl 66 [o,(.int .u64 28),(.int .u64 4)] h fun o h=>((Ukp d h p)∧(Ukp d h q)∧(Ukp d h t)∧(Ukp d h u)∧(Ukp d h v)∧Ml Q a b c d f g i j k m n o p q t u v h)
def Jg (Q:Kt)(a b c d f g i j k m n o p q t u v:Value)(h:H):Prop:=
 Ucl 66 [n,(.int .u64 26),(.int .u64 2)] h fun n h=>((Ukp d h o)∧(Ukp d h p)∧(Ukp d h q)∧(Ukp d h t)∧(Ukp d h u)∧(Ukp d h v)∧Jl Q a b c d f g i j k m n o p q t u v h)
def Jw (Q:Kt)(a b c d f g i j k m n o p q t u v w:Value)(h:H):Prop:=
 Ucl 66 [n,(.int .u64 108),(.int .u64 4)] h fun n h=>((Ukp d h o)∧(Ukp d h p)∧(Ukp d h q)∧(Ukp d h t)∧(Ukp d h u)∧(Ukp d h v)∧(Ukp d h w)∧AD .shl n (.int .u64 32) fun n=>AD .or m n fun m=>Jg Q a b c d f g i j k m o p q t u v w h)
def Jc (Q:Kt)(a b c d f g i j k m n o p q t u v w:Value)(h:H):Prop:=
 Ucl 66 [m,(.int .u64 4),(.int .u64 4)] h fun m h=>((Ukp d h n)∧(Ukp d h o)∧(Ukp d h p)∧(Ukp d h q)∧(Ukp d h t)∧(Ukp d h u)∧(Ukp d h v)∧(Ukp d h w)∧Jw Q a b c d f g i j k m n o p q t u v w h)
def Jd (Q:Kt)(a b c d f g i j k m n o p q t u v w y:Value)(h:H):Prop:=
 Ucl 66 [m,(.int .u64 122),(.int .u64 2)] h fun m h=>((Ukp d h n)∧(Ukp d h o)∧(Ukp d h p)∧(Ukp d h q)∧(Ukp d h t)∧(Ukp d h u)∧(Ukp d h v)∧(Ukp d h w)∧(Ukp d h y)∧AD .shl m (.int .u64 16) fun m=>AD .or k m fun k=>AV .u32 k fun k=>Jc Q a b c d f g i j k n o p q t u v w y h)
def Ju (Q:Kt)(a b c d f g i j k m n o p q t u v w y:Value)(h:H):Prop:=
 Ucl 66 [k,(.int .u64 24),(.int .u64 2)] h fun k h=>((Ukp d h m)∧(Ukp d h n)∧(Ukp d h o)∧(Ukp d h p)∧(Ukp d h q)∧(Ukp d h t)∧(Ukp d h u)∧(Ukp d h v)∧(Ukp d h w)∧(Ukp d h y)∧Jd Q a b c d f g i j k m n o p q t u v w y h)
def Jb (Q:Kt)(a b c d f g i j k m n o p q t u v w y z:Value)(h:H):Prop:=
 Ucl 66 [k,(.int .u64 120),(.int .u64 2)] h fun k h=>((Ukp d h m)∧(Ukp d h n)∧(Ukp d h o)∧(Ukp d h p)∧(Ukp d h q)∧(Ukp d h t)∧(Ukp d h u)∧(Ukp d h v)∧(Ukp d h w)∧(Ukp d h y)∧(Ukp d h z)∧AD .shl k (.int .u64 16) fun k=>AD .or j k fun j=>AV .u32 j fun j=>Ju Q a b c d f g i j m n o p q t u v w y z h)
def Jh (Q:Kt)(a b c d f g i j k m n o p q t u v w y z:Value)(h:H):Prop:=
 Ucl 66 [j,(.int .u64 2),(.int .u64 2)] h fun j h=>((Ukp d h k)∧(Ukp d h m)∧(Ukp d h n)∧(Ukp d h o)∧(Ukp d h p)∧(Ukp d h q)∧(Ukp d h t)∧(Ukp d h u)∧(Ukp d h v)∧(Ukp d h w)∧(Ukp d h y)∧(Ukp d h z)∧Jb Q a b c d f g i j k m n o p q t u v w y z h)
def Iw (Q:Kt)(a b c d f:Value)(h:H):Prop:=
 Uld d h fun g=>Uld d h fun i=>Uld d h fun j=>Uld d h fun k=>Uld d h fun m=>Uld d h fun n=>Uld d h fun o=>Uld d h fun p=>Uld d h fun q=>Uld d h fun t=>Uld d h fun u=>Uld d h fun v=>Uld d h fun w=>Uld d h fun y=>((Ucl 66 [g,(.int .u64 0),(.int .u64 2)] h fun g h=>((Ukp d h i)∧(Ukp d h j)∧(Ukp d h k)∧(Ukp d h m)∧(Ukp d h n)∧(Ukp d h o)∧(Ukp d h p)∧(Ukp d h q)∧(Ukp d h t)∧(Ukp d h u)∧(Ukp d h v)∧(Ukp d h w)∧(Ukp d h y)∧AV .u16 g fun g=>((Ucl 66 [i,(.int .u64 2),(.int .u64 2)] h fun i h=>((Ukp d h j)∧(Ukp d h k)∧(Ukp d h m)∧(Ukp d h n)∧(Ukp d h o)∧(Ukp d h p)∧(Ukp d h q)∧(Ukp d h t)∧(Ukp d h u)∧(Ukp d h v)∧(Ukp d h w)∧(Ukp d h y)∧((Ucl 66 [j,(.int .u64 120),(.int .u64 2)] h fun j h=>((Ukp d h k)∧(Ukp d h m)∧(Ukp d h n)∧(Ukp d h o)∧(Ukp d h p)∧(Ukp d h q)∧(Ukp d h t)∧(Ukp d h u)∧(Ukp d h v)∧(Ukp d h w)∧(Ukp d h y)∧AD .shl j (.int .u64 16) fun j=>AD .or i j fun i=>AV .u32 i fun i=>((Ucl 66 [k,(.int .u64 24),(.int .u64 2)] h fun j h=>((Ukp d h m)∧(Ukp d h n)∧(Ukp d h o)∧(Ukp d h p)∧(Ukp d h q)∧(Ukp d h t)∧(Ukp d h u)∧(Ukp d h v)∧(Ukp d h w)∧(Ukp d h y)∧((Ucl 66 [m,(.int .u64 122),(.int .u64 2)] h fun k h=>((Ukp d h n)∧(Ukp d h o)∧(Ukp d h p)∧(Ukp d h q)∧(Ukp d h t)∧(Ukp d h u)∧(Ukp d h v)∧(Ukp d h w)∧(Ukp d h y)∧AD .shl k (.int .u64 16) fun k=>AD .or j k fun j=>AV .u32 j fun j=>((Ucl 66 [n,(.int .u64 4),(.int .u64 4)] h fun k h=>((Ukp d h o)∧(Ukp d h p)∧(Ukp d h q)∧(Ukp d h t)∧(Ukp d h u)∧(Ukp d h v)∧(Ukp d h w)∧(Ukp d h y)∧((Ucl 66 [o,(.int .u64 108),(.int .u64 4)] h fun m h=>((Ukp d h p)∧(Ukp d h q)∧(Ukp d h t)∧(Ukp d h u)∧(Ukp d h v)∧(Ukp d h w)∧(Ukp d h y)∧AD .shl m (.int .u64 32) fun m=>AD .or k m fun k=>((Ucl 66 [p,(.int .u64 26),(.int .u64 2)] h fun m h=>((Ukp d h q)∧(Ukp d h t)∧(Ukp d h u)∧(Ukp d h v)∧(Ukp d h w)∧(Ukp d h y)∧((Ucl 66 [q,(.int .u64 28),(.int .u64 4)] h fun n h=>((Ukp d h t)∧(Ukp d h u)∧(Ukp d h v)∧(Ukp d h w)∧(Ukp d h y)∧((Ucl 66 [t,(.int .u64 116),(.int .u64 2)] h fun o h=>((Ukp d h u)∧(Ukp d h v)∧(Ukp d h w)∧(Ukp d h y)∧AD .shl o (.int .u64 32) fun o=>AD .or n o fun n=>((Ucl 66 [u,(.int .u64 32),(.int .u64 4)] h fun o h=>((Ukp d h v)∧(Ukp d h w)∧(Ukp d h y)∧((Ucl 66 [v,(.int .u64 8),(.int .u64 4)] h fun p h=>((Ukp d h w)∧(Ukp d h y)∧((Bj TP (.func (.func 176) #[] #[f,d]) [(.int .u64 140)] h fun q h=>((Ukp d h w)∧(Ukp d h y)∧((Ucl 177 [p,q] h fun p h=>((Ukp d h w)∧(Ukp d h y)∧((Ucl 66 [w,(.int .u64 12),(.int .u64 4)] h fun q h=>((Ukp d h y)∧((Bj TP (.func (.func 176) #[] #[f,d]) [(.int .u64 132)] h fun t h=>((Ukp d h y)∧((Ucl 177 [q,t] h fun q h=>((Ukp d h y)∧((Ucl 66 [y,(.int .u64 16),(.int .u64 4)] h fun t h=>((Bj TP (.func (.func 176) #[] #[f,d]) [(.int .u64 136)] h fun u h=>((Ucl 177 [t,u] h fun t h=>((Bj TP (.func (.func 176) #[] #[f,d]) [(.int .u64 144)] h fun u h=>((Bj TP (.func (.func 176) #[] #[f,d]) [(.int .u64 148)] h fun v h=>((Ucl 177 [u,v] h fun u h=>Ae (.struct [(0,1),(1,1),(2,1),(3,1),(4,1),(5,1),(6,1),(7,1),(8,2),(10,2),(12,2),(14,2),(16,1),(17,1),(18,1),(19,1),(20,1),(21,1),(22,1)]) (AG TP 81) [(0,b),(1,g),(2,i),(3,j),(4,k),(5,m),(6,n),(7,o),(8,p),(9,q),(10,t),(11,u)] fun g=>Umk 81 h fun i h=>AJ 23 i g h fun h=>Gj Q a b c d f i h)
 ∧ (Umk 81 h fun w h=>Ucl 177 [u,v] h fun u h=>LV Q a b c d f w g i j k m n o p q t u h)))
 ∧ (Umk 81 h fun v h=>Bj TP (.func (.func 176) #[] #[f,d]) [(.int .u64 148)] h fun w h=>Ucl 177 [u,w] h fun u h=>LV Q a b c d f v g i j k m n o p q t u h)))
 ∧ (Umk 81 h fun u h=>IW Q a b c d f u g i j k m n o p q t h)))
 ∧ (Umk 81 h fun v h=>Ucl 177 [t,u] h fun t h=>IW Q a b c d f v g i j k m n o p q t h)))
 ∧ (Umk 81 h fun u h=>Bj TP (.func (.func 176) #[] #[f,d]) [(.int .u64 136)] h fun v h=>Ucl 177 [t,v] h fun t h=>IW Q a b c d f u g i j k m n o p q t h)))
 ∧ (Umk 81 h fun t h=>((Ukp d h y)∧KJ Q a b c d f t g i j k m n o p q y h)))))
 ∧ (Umk 81 h fun u h=>((Ukp d h y)∧Ucl 177 [q,t] h fun q h=>((Ukp d h y)∧KJ Q a b c d f u g i j k m n o p q y h))))))
 ∧ (Umk 81 h fun t h=>((Ukp d h y)∧Kl Q a b c d f t g i j k m n o p q y h)))))
 ∧ (Umk 81 h fun q h=>((Ukp d h w)∧(Ukp d h y)∧Ucl 66 [w,(.int .u64 12),(.int .u64 4)] h fun t h=>((Ukp d h y)∧Kl Q a b c d f q g i j k m n o p t y h))))))
 ∧ (Umk 81 h fun t h=>((Ukp d h w)∧(Ukp d h y)∧Nq Q a b c d f t g i j k m n o p q w y h)))))
 ∧ (Umk 81 h fun q h=>((Ukp d h w)∧(Ukp d h y)∧M7 Q a b c d f q g i j k m n o p w y h)))))
 ∧ (Umk 81 h fun p h=>((Ukp d h v)∧(Ukp d h w)∧(Ukp d h y)∧Np Q a b c d f p g i j k m n o v w y h)))))
 ∧ (Umk 81 h fun o h=>((Ukp d h u)∧(Ukp d h v)∧(Ukp d h w)∧(Ukp d h y)∧M2 Q a b c d f o g i j k m n u v w y h)))))
 ∧ (Umk 81 h fun o h=>((Ukp d h t)∧(Ukp d h u)∧(Ukp d h v)∧(Ukp d h w)∧(Ukp d h y)∧Ml Q a b c d f o g i j k m n t u v w y h)))))
 ∧ (Umk 81 h fun n h=>((Ukp d h q)∧(Ukp d h t)∧(Ukp d h u)∧(Ukp d h v)∧(Ukp d h w)∧(Ukp d h y)∧Jl Q a b c d f n g i j k m q t u v w y h)))))
 ∧ (Umk 81 h fun m h=>((Ukp d h p)∧(Ukp d h q)∧(Ukp d h t)∧(Ukp d h u)∧(Ukp d h v)∧(Ukp d h w)∧(Ukp d h y)∧Jg Q a b c d f m g i j k p q t u v w y h)))))
 ∧ (Umk 81 h fun m h=>((Ukp d h o)∧(Ukp d h p)∧(Ukp d h q)∧(Ukp d h t)∧(Ukp d h u)∧(Ukp d h v)∧(Ukp d h w)∧(Ukp d h y)∧Jw Q a b c d f m g i j k o p q t u v w y h)))))
 ∧ (Umk 81 h fun k h=>((Ukp d h n)∧(Ukp d h o)∧(Ukp d h p)∧(Ukp d h q)∧(Ukp d h t)∧(Ukp d h u)∧(Ukp d h v)∧(Ukp d h w)∧(Ukp d h y)∧Jc Q a b c d f k g i j n o p q t u v w y h)))))
 ∧ (Umk 81 h fun k h=>((Ukp d h m)∧(Ukp d h n)∧(Ukp d h o)∧(Ukp d h p)∧(Ukp d h q)∧(Ukp d h t)∧(Ukp d h u)∧(Ukp d h v)∧(Ukp d h w)∧(Ukp d h y)∧Jd Q a b c d f k g i j m n o p q t u v w y h)))))
 ∧ (Umk 81 h fun j h=>((Ukp d h k)∧(Ukp d h m)∧(Ukp d h n)∧(Ukp d h o)∧(Ukp d h p)∧(Ukp d h q)∧(Ukp d h t)∧(Ukp d h u)∧(Ukp d h v)∧(Ukp d h w)∧(Ukp d h y)∧Ju Q a b c d f j g i k m n o p q t u v w y h)))))
 ∧ (Umk 81 h fun z h=>((Ukp d h j)∧(Ukp d h k)∧(Ukp d h m)∧(Ukp d h n)∧(Ukp d h o)∧(Ukp d h p)∧(Ukp d h q)∧(Ukp d h t)∧(Ukp d h u)∧(Ukp d h v)∧(Ukp d h w)∧(Ukp d h y)∧Jb Q a b c d f z g i j k m n o p q t u v w y h)))))
 ∧ (Umk 81 h fun z h=>((Ukp d h i)∧(Ukp d h j)∧(Ukp d h k)∧(Ukp d h m)∧(Ukp d h n)∧(Ukp d h o)∧(Ukp d h p)∧(Ukp d h q)∧(Ukp d h t)∧(Ukp d h u)∧(Ukp d h v)∧(Ukp d h w)∧(Ukp d h y)∧Jh Q a b c d f z g i j k m n o p q t u v w y h)))))
 ∧ (Umk 81 h fun z h=>((Ukp d h g)∧(Ukp d h i)∧(Ukp d h j)∧(Ukp d h k)∧(Ukp d h m)∧(Ukp d h n)∧(Ukp d h o)∧(Ukp d h p)∧(Ukp d h q)∧(Ukp d h t)∧(Ukp d h u)∧(Ukp d h v)∧(Ukp d h w)∧(Ukp d h y)∧Ucl 66 [g,(.int .u64 0),(.int .u64 2)] h fun g h=>((Ukp d h i)∧(Ukp d h j)∧(Ukp d h k)∧(Ukp d h m)∧(Ukp d h n)∧(Ukp d h o)∧(Ukp d h p)∧(Ukp d h q)∧(Ukp d h t)∧(Ukp d h u)∧(Ukp d h v)∧(Ukp d h w)∧(Ukp d h y)∧AV .u16 g fun g=>Jh Q a b c d f z g i j k m n o p q t u v w y h))))
def AES (a b:Value)(h:H)(Q:Kt):Prop:=
 Umk 81 h fun c h=>Ucl 128 [a,b] h fun d h=>Umk 30 h fun f h=>AJ 1 f d h fun h=>Umk 48 h fun d h=>AJ 1 d (.int .u64 0) h fun h=>Unf 7 a h fun g=>Ucm .gtr g (.int .u64 128)
 (Uld f h fun g=>Ucl 66 [g,(.int .u64 128),(.int .u64 2)] h fun g h=>AJ 1 d g h fun h=>Uld d h fun g=>AD .add (.int .u64 128) g fun g=>Unf 7 a h fun i=>Ucg .leq g i (Uld d h fun g=>AD .rem g (.int .u64 4) fun g=>AD .eql g (.int .u64 0) fun g=>Ucl 65 [a,g,(.string "extra size of inode".toUTF8),b] h fun _ h=>Iw Q a b c f d h) (Ucl 65 [a,(.bool false),(.string "extra size of inode".toUTF8),b] h fun _ h=>Iw Q a b c f d h))
 (Iw Q a b c f d h)
def AGQ (Q:Kt)(r:RS):Nat→DJ:=tab [(131061,.lp [0,1,4,5,8,139,140] [11,141] fun s e l h=>Ii Q (u2 s) (e 0) (e 1) (e 4) (e 5) (e 8) (e 139) (e 140) (gl l 0) (gl l 1) h),
 (8181,.lp [0,1,4,5,6,8,117,118] [119] fun s e l h=>P0 Q (u1 s) (e 0) (e 1) (e 4) (e 5) (e 6) (e 8) (e 117) (e 118) (gl l 0) h),
 (254,.jn fun e h=>Gj Q (e 0) (e 1) (e 4) (e 5) (e 6) (e 8) h),
 (62,.jn fun e h=>Iw Q (e 0) (e 1) (e 4) (e 5) (e 6) h)]
theorem SL {a b:Value}{h:H}{Q:Kt}(x:AES a b h Q):Call TP 126 [a,b] h Q:=Bb (AGQ Q) Tryz.func126 (by kernel_rfl) x
end
section
variable {h:H} {k:Value→Prop} {kt Q:Kt} {x y z r:Res} {v:VS}
attribute [local irreducible] AK Az AQ BB Ae AY AH AM VS.cells
theorem Cy:AG TP 81=some (.agg ⟨(XN.mk 0 0 0 0 0 0 0 0 (0,0) (0,0) (0,0) (0,0) 0 0 false 0).cells (.slice none 0 0) (.slice none 0 0) (.slice none 0 0)⟩):=by kernel_rfl
def If:XN:=⟨0,0,0,0,0,0,0,0,(0,0),(0,0),(0,0),(0,0),0,0,false,0⟩
def Iy (b:Bs)(n:Nat):XN:=
 ⟨n,leL b 0 2,leL b 2 2+leL b 120 2*65536,leL b 24 2+leL b 122 2*65536,leL b 4 4+leL b 108 4*4294967296,leL b 26 2,leL b 28 4+leL b 116 2*4294967296,leL b 32 4,
  (leL b 8 4,leL b 140 4),(leL b 12 4,leL b 132 4),(leL b 16 4,leL b 136 4),(leL b 144 4,leL b 148 4),0,0,false,0⟩
section
variable {bv:Value} {b:Bs} {p n m a c x4 x5 x6:Nat}
abbrev zR (x4 x5 x6:Nat)(bv:Value)(v:VS):Res:=pts x6 (.cells ⟨[.int .u64 ((24:Nat):Int)]⟩ 48 (0,0))+(pts x5 (.cells ⟨[bv]⟩ 30 (0,0))+(pts x4 (.cells ⟨If.cells (.slice none 0 0) (.slice none 0 0) (.slice none 0 0)⟩ 81 (0,0))+v.res))
theorem AW {b o:Nat}{cs:Array Value}{T:TypeId}{fz:Nat×Nat}{u:Value}(w:AN x h)[CO b x (.cells cs T fz)](hu:cs[o]? = some u)(K:k u):AB false 1 (.pointer (some ⟨b,o,none⟩)) h k:=by
 rw[AF w,hu];exact K
theorem AIn {B:Prop} {b o:Nat}{cs:Array Value}{T:TypeId}{fz:Nat×Nat}{u:Value}(w:AN x h)[CO b x (.cells cs T fz)](hu:cs[o]? = some u)(K:B):AB false 1 (.pointer (some ⟨b,o,none⟩)) h (fun v=>v=u)∧B:=⟨AW w hu rfl,K⟩
theorem DF (d:RdX x bv b)(w:AN x h)(hn:n≤7)(hp:p<1000)(hb:b.length<1000000)(K:Q (.int .u64 (leL b p n:Nat)) h):Call TP 66 [bv,.int .u64 (OfNat.ofNat p),.int .u64 (OfNat.ofNat n)] h Q:=
 Bh (JM d w hn (by omega) (by omega) K)
theorem Ie (w:AN (z+(y+x)) h)(h1:a<4294967296)(h2:c<4294967296)(K:∀ y h,AN (z+(y+x)) h→Q (Fd a c) h):Call TP 177 [.int .u64 (a:Nat),.int .u64 (c:Nat)] h Q:=
 Yn (AIR h1 h2 w fun y' h w=>K (y'+y) h (w.cast (by ac_rfl)))
theorem EE (w:AN (z+(y+x)) h)(K:∀ b h,AN ((pts b (.cells ⟨If.cells (.slice none 0 0) (.slice none 0 0) (.slice none 0 0)⟩ 81 (0,0))+z)+(y+x)) h→kt (Pt b) h):AQ (AG TP 81) 81 h kt:=
 Ah w Cy rfl fun b h w=>K b h (w.cast (Res.assoc _ _ _).symm)
theorem ACC (hm:m<65536)(K:k (.int .u16 (m:Nat))):AV .u16 (.int .u64 (m:Nat)) k:=by rw[DO,AFr hm];exact K
theorem ZR (hm:m<4294967296)(K:k (.int .u32 (m:Nat))):AV .u32 (.int .u64 (m:Nat)) k:=by rw[DO,JR hm];exact K
theorem Zy (hm:m<65536)(K:k (.int .u64 (m*65536:Nat))):AD .shl (.int .u64 (m:Nat)) (.int .u64 16) k:=by rw[XM,A23 (by omega)];exact K
theorem Zt (hm:m<4294967296)(K:k (.int .u64 (m*4294967296:Nat))):AD .shl (.int .u64 (m:Nat)) (.int .u64 32) k:=by rw[Hm,A23 (by omega)];exact K
theorem TO (ha:a<65536)(hc:c<65536)(K:k (.int .u64 (a+c*65536:Nat))):AD .or (.int .u64 (a:Nat)) (.int .u64 (c*65536:Nat)) k:=by
 rw[V2 (by omega) (by omega)]
 have:=orp (a:=a) (b:=c) (i:=16) ha
 simp only[Nat.reducePow] at this
 rw[this];exact K
theorem Tq (ha:a<4294967296)(hc:c<4294967296)(K:k (.int .u64 (a+c*4294967296:Nat))):AD .or (.int .u64 (a:Nat)) (.int .u64 (c*4294967296:Nat)) k:=by
 rw[V2 (by omega) (by omega)]
 have:=orp (a:=a) (b:=c) (i:=32) ha
 simp only[Nat.reducePow] at this
 rw[this];exact K
theorem AHM {kk:Kt}{x5 x6:Nat}(d:RdX x bv b)(w:AN x h)[CO x6 x (.cells ⟨[.int .u64 ((24:Nat):Int)]⟩ 48 (0,0))][CO x5 x (.cells ⟨[bv]⟩ 30 (0,0))](hp:p≤148)(hb:b.length<1000000)(K:kk (.int .u64 (leL b p 4:Nat)) h) :
  ACW (.int .u64 (OfNat.ofNat p)) (Pt x6) (Pt x5) h kk:=by
 unfold ACW Uld Ucm Ucl
 have e:(.int .u64 (OfNat.ofNat p):Value)=.int .u64 (p:Nat):=rfl
 rw[e]
 have f1:(AD .add (.int .u64 128) (.int .u64 ((24:Nat):Int)))=fun k=>k (.int .u64 ((152:Nat):Int)):=funext fun k=>by rw[A0];rfl
 have e2:decide (((p+4:Nat):Int)>((152:Nat):Int))=false:=A08 (by omega)
 simp (disch:=omega) only[go_sem,AF w,f1]
 rw[e2,AU]
 exact Bh (JM (n:=4) d w (by omega) (by omega) (by omega) K)
theorem AGE:F9 TP 176=true:=by kernel_rfl
theorem JT {kk:Kt}{x5 x6:Nat}(d:RdX x bv b)(w:AN x h)[CO x6 x (.cells ⟨[.int .u64 ((24:Nat):Int)]⟩ 48 (0,0))][CO x5 x (.cells ⟨[bv]⟩ 30 (0,0))](hp:p≤148)(hb:b.length<1000000)(K:kk (.int .u64 (leL b p 4:Nat)) h) :
  Bj TP (.func (.func 176) #[] #[Pt x6,Pt x5]) [.int .u64 (OfNat.ofNat p)] h kk:=
 IF (l:=[.int .u64 (OfNat.ofNat p),Pt x6,Pt x5]) rfl AGE (ZI (AHM d w hp hb K))
def Fg (Q:Kt)(v:VS)(n:Nat)(b:Bs)(bv:Value)(x4 x5 x6:Nat)(x:Res):Prop:=∀ (x8:Nat) (y:Res) (h:H),AN ((pts x8 (.cells ⟨(Iy b n).cells (.slice none 0 0) (.slice none 0 0) (.slice none 0 0)⟩ 81 (0,0))+zR x4 x5 x6 bv v)+(y+x)) h→Gj Q (Pt v.vb) (.int .u64 (n:Nat)) (Pt x4) (Pt x5) (Pt x6) (Pt x8) h
abbrev bld (b:Bs)(n:Nat)(k:Value→Prop):Prop:=
 Ae (.struct [(0,1),(1,1),(2,1),(3,1),(4,1),(5,1),(6,1),(7,1),(8,2),(10,2),(12,2),(14,2),(16,1),(17,1),(18,1),(19,1),(20,1),(21,1),(22,1)]) (AG TP 81)
  [(0,.int .u64 (n:Nat)),(1,.int .u16 (leL b 0 2:Nat)),(2,.int .u32 (leL b 2 2+leL b 120 2*65536:Nat)),(3,.int .u32 (leL b 24 2+leL b 122 2*65536:Nat)),(4,.int .u64 (leL b 4 4+leL b 108 4*4294967296:Nat)),(5,.int .u64 (leL b 26 2:Nat)),(6,.int .u64 (leL b 28 4+leL b 116 2*4294967296:Nat)),(7,.int .u64 (leL b 32 4:Nat)),
   (8,Fd (leL b 8 4) (leL b 140 4)),(9,Fd (leL b 12 4) (leL b 132 4)),(10,Fd (leL b 16 4) (leL b 136 4)),(11,Fd (leL b 144 4) (leL b 148 4))] k
theorem XN.len {X:XN}{cv ev xv:Value}:(X.cells cv ev xv).length=23:=rfl
theorem Yf {m0 m1 m2 m3 m4 m5 m6 m7:Int}{a0 a1 a2 a3 b0 b1 b2 b3:Nat} :
  DC (Br (.struct [(0,1),(1,1),(2,1),(3,1),(4,1),(5,1),(6,1),(7,1),(8,2),(10,2),(12,2),(14,2),(16,1),(17,1),(18,1),(19,1),(20,1),(21,1),(22,1)])) (If.cells (.slice none 0 0) (.slice none 0 0) (.slice none 0 0))
   [(0,.int .u64 m0),(1,.int .u16 m1),(2,.int .u32 m2),(3,.int .u32 m3),(4,.int .u64 m4),(5,.int .u64 m5),(6,.int .u64 m6),(7,.int .u64 m7),(8,Fd a0 b0),(9,Fd a1 b1),(10,Fd a2 b2),(11,Fd a3 b3)]=some ([.int .u64 m0,.int .u16 m1,.int .u32 m2,.int .u32 m3,.int .u64 m4,.int .u64 m5,.int .u64 m6,.int .u64 m7]++(BY (a0,b0)++BY (a1,b1)++BY (a2,b2)++BY (a3,b3))++[.int .u32 0,.int .u32 0,.slice none 0 0,.slice none 0 0,.slice none 0 0,.bool false,.int .u64 0]):=by kernel_rfl
theorem WB {k:Value→Prop}(K:k (.agg ⟨(Iy b n).cells (.slice none 0 0) (.slice none 0 0) (.slice none 0 0)⟩)):bld b n k:=
 Au Cy rfl (rs:=(Iy b n).cells (.slice none 0 0) (.slice none 0 0) (.slice none 0 0)) Yf K
theorem ADO {x8:Nat}(K:Fg Q v n b bv x4 x5 x6 x)(w:AN ((pts x8 (.cells ⟨If.cells (.slice none 0 0) (.slice none 0 0) (.slice none 0 0)⟩ 81 (0,0))+zR x4 x5 x6 bv v)+(y+x)) h) :
  bld b n fun x95=>AJ 23 (Pt x8) x95 h fun h=>Gj Q (Pt v.vb) (.int .u64 (n:Nat)) (Pt x4) (Pt x5) (Pt x6) (Pt x8) h:=
 WB (AL w ⟨(Iy b n).cells (.slice none 0 0) (.slice none 0 0) (.slice none 0 0)⟩ (Ar (by rw[XN.size_];exact XN.len)) XN.size_ (by rw[XN.size_];omega) rfl fun h w=>K x8 y h w)
theorem AAl (K:Fg Q v n b bv x4 x5 x6 x)(w:AN (zR x4 x5 x6 bv v+(y+x)) h) :
  bld b n fun x95=>AQ (AG TP 81) 81 h fun x8 h=>AJ 23 x8 x95 h fun h=>Gj Q (Pt v.vb) (.int .u64 (n:Nat)) (Pt x4) (Pt x5) (Pt x6) x8 h:=
 WB (EE w fun x8 h w=>AL w ⟨(Iy b n).cells (.slice none 0 0) (.slice none 0 0) (.slice none 0 0)⟩ (Ar (by rw[XN.size_];exact XN.len)) XN.size_ (by rw[XN.size_];omega) rfl fun h w=>K x8 y h w)
end
end
end Go.Proofs.YtollddkkdgoonaaGreatDoor
