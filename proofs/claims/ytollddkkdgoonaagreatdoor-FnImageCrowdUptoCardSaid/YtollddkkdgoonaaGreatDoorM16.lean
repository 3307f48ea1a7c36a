/- A part of a proof over images that are written and read. No condition; a step. -/
import Derived.Test.YtollddkkdgoonaaGreatDoorM15
namespace Go.Proofs.YtollddkkdgoonaaGreatDoor
open Go
set_option linter.unusedVariables false
set_option linter.unusedSimpArgs false
section
variable {h:H} {k:Value→Prop} {kt Q:Kt} {x y r:Res} {v:VS}
attribute [local irreducible] AK Az AQ BB Ae AY AH AM VS.cells
structure XN where
 num:Nat
 mode:Nat
 uid:Nat
 gid:Nat
 size:Nat
 links:Nat
 sec:Nat
 flags:Nat
 at_:Nat×Nat
 ct:Nat×Nat
 mt:Nat×Nat
 cr:Nat×Nat
 major:Nat
 minor:Nat
 inl:Bool
 blk:Nat
def BY (p:Nat×Nat):List Value:=(ZM p.1 p.2).map (.int .i64 ·)
def XN.cells (X:XN)(cv ev xv:Value):List Value:=
 [.int .u64 (X.num:Nat),.int .u16 (X.mode:Nat),.int .u32 (X.uid:Nat),.int .u32 (X.gid:Nat),.int .u64 (X.size:Nat),.int .u64 (X.links:Nat),.int .u64 (X.sec:Nat),.int .u64 (X.flags:Nat)]++(BY X.at_++BY X.ct++BY X.mt++BY X.cr) ++
 [.int .u32 (X.major:Nat),.int .u32 (X.minor:Nat),cv,ev,xv,.bool X.inl,.int .u64 (X.blk:Nat)]
section
variable {X:XN} {cv ev xv:Value}
@[go_sem] theorem XN.g0:(⟨X.cells cv ev xv⟩:Array Value)[0]? = some (.int .u64 (X.num:Nat)):=rfl
@[go_sem] theorem XN.g1:(⟨X.cells cv ev xv⟩:Array Value)[1]? = some (.int .u16 (X.mode:Nat)):=rfl
@[go_sem] theorem XN.g4:(⟨X.cells cv ev xv⟩:Array Value)[4]? = some (.int .u64 (X.size:Nat)):=rfl
@[go_sem] theorem XN.g5:(⟨X.cells cv ev xv⟩:Array Value)[5]? = some (.int .u64 (X.links:Nat)):=rfl
@[go_sem] theorem XN.g6:(⟨X.cells cv ev xv⟩:Array Value)[6]? = some (.int .u64 (X.sec:Nat)):=rfl
@[go_sem] theorem XN.g7:(⟨X.cells cv ev xv⟩:Array Value)[7]? = some (.int .u64 (X.flags:Nat)):=rfl
@[go_sem] theorem XN.g18:(⟨X.cells cv ev xv⟩:Array Value)[18]? = some cv:=rfl
@[go_sem] theorem XN.g19:(⟨X.cells cv ev xv⟩:Array Value)[19]? = some ev:=rfl
@[go_sem] theorem XN.g20:(⟨X.cells cv ev xv⟩:Array Value)[20]? = some xv:=rfl
@[go_sem] theorem XN.g21:(⟨X.cells cv ev xv⟩:Array Value)[21]? = some (.bool X.inl):=rfl
@[go_sem] theorem XN.g22:(⟨X.cells cv ev xv⟩:Array Value)[22]? = some (.int .u64 (X.blk:Nat)):=rfl
theorem XN.set16 {n:Nat}:Ai (⟨X.cells cv ev xv⟩:Array Value) 16 [.int .u32 (n:Nat)]=⟨{X with major:=n}.cells cv ev xv⟩:=rfl
theorem XN.set17 {n:Nat}:Ai (⟨X.cells cv ev xv⟩:Array Value) 17 [.int .u32 (n:Nat)]=⟨{X with minor:=n}.cells cv ev xv⟩:=rfl
theorem XN.set18 {u:Value}:Ai (⟨X.cells cv ev xv⟩:Array Value) 18 [u]=⟨X.cells u ev xv⟩:=rfl
theorem XN.set19 {u:Value}:Ai (⟨X.cells cv ev xv⟩:Array Value) 19 [u]=⟨X.cells cv u xv⟩:=rfl
theorem XN.set20 {u:Value}:Ai (⟨X.cells cv ev xv⟩:Array Value) 20 [u]=⟨X.cells cv ev u⟩:=rfl
theorem XN.set21 {b:Bool}:Ai (⟨X.cells cv ev xv⟩:Array Value) 21 [.bool b]=⟨{X with inl:=b}.cells cv ev xv⟩:=rfl
theorem XN.set22 {n:Nat}:Ai (⟨X.cells cv ev xv⟩:Array Value) 22 [.int .u64 (n:Nat)]=⟨{X with blk:=n}.cells cv ev xv⟩:=rfl
theorem XN.size_:(⟨X.cells cv ev xv⟩:Array Value).size=23:=rfl
end
attribute [local irreducible] XN.cells
theorem UT {b off n c:Nat}{all src:Bs}{s:Value}{T:TypeId}{kt:Kt}(w:AN (pts b (.cells (bcs all) T (0,0))+x) h)(d:RdX x s src)(hle:off+min src.length n≤all.length)
  (K:∀ h,AN (pts b (.cells (bcs (setL all off (src.take (min src.length n)))) T (0,0))+x) h→kt (.int .i64 (min src.length n:Nat)) h):DI 1 (.slice (some ⟨b,off,none⟩) n c) s h kt:=by
 have rd:=d.rd w.right
 have hl:(src.take (min src.length n)).length=min src.length n:=by simp
 refine⟨_,n,c,src.length,bcs (src.take (min src.length n)),rfl,rd.srcLen,?_,.inr ⟨_,bcs all,T,rfl,rfl,w.left.one,by rw[CH,CH,hl];exact hle,H6 _,?_⟩⟩
 ·exact rd.src _ (Nat.min_le_left _ _)
 ·simp only
  rw[Cc (by rw[hl];exact hle)]
  exact K _ w.set
def CK (I:Bs)(start size k:Nat):Bs:=(I.drop (start*4096)).take (min (k*4096) size)++List.replicate (size-min (k*4096) size) 0
theorem AAB {A Z m:Bs}{o:Nat}(ho:o=A.length)(_hm:m.length≤Z.length):setL (A++Z) o m=A++m++Z.drop m.length:=by
 subst ho
 unfold setL
 rw[B26,List.drop_append,A62,A59 (by omega),A34]
theorem ACl {I:Bs}{start size k:Nat}(h:start*4096+size≤I.length):(CK I start size k).length=size:=by
 unfold CK
 simp
 omega
theorem Zq {I:Bs}{start size k:Nat}(h:start*4096+size≤I.length)(hk:k*4096<size) :
  setL (CK I start size k) (k*4096) ((blkL I (start+k)).take (min (blkL I (start+k)).length (size-k*4096)))=CK I start size (k+1):=by
 have e1:min (k*4096) size=k*4096:=by omega
 have hb:(blkL I (start+k)).take (min (blkL I (start+k)).length (size-k*4096))=((I.drop (start*4096)).drop (k*4096)).take (min ((k+1)*4096) size-k*4096):=by
  unfold blkL
  rw[A64,A95,←A93,A20,A27]
  congr 1
  omega
 have hml:(((I.drop (start*4096)).drop (k*4096)).take (min ((k+1)*4096) size-k*4096)).length=min ((k+1)*4096) size-k*4096:=by
  simp;omega
 rw[hb]
 unfold CK
 rw[AAB (by simp;omega) (by rw[hml];simp;omega),hml,e1]
 have e2:(I.drop (start*4096)).take (k*4096)++((I.drop (start*4096)).drop (k*4096)).take (min ((k+1)*4096) size-k*4096)=(I.drop (start*4096)).take (min ((k+1)*4096) size):=by
  rw[←List.take_add]
  congr 1
  omega
 rw[e2]
 congr 1
 rw[List.drop_replicate]
 congr 1
 omega
attribute [local irreducible] CK
section
variable {X:XN} {ev xv nv x2 x10 x12:Value} {cb ib nx start len size:Nat} {C o':Bs}
abbrev xR (ib cb nx:Nat)(X:XN)(cv ev xv:Value)(C:Bs)(nv:Value):Res:=pts ib (.cells ⟨X.cells cv ev xv⟩ 81 (0,0))+(buf cb C+pts nx (.cells ⟨[nv]⟩ 48 (0,0)))
set_option maxRecDepth 20000 in
theorem ACq {rec1:Value→H→Prop}{i:Nat}(ok:v.OK x)(hsz:X.size=size)(h1:(len-1)*4096<size)(h0:0<len)(hlen:len≤32768)(hi:i<10)(hs:(start+len)≤v.nb)(hsl:size≤len*4096)(c:Clm ((List.range len).map (start + ·)) v.ow o')(hb:X.blk<100000)
  (w:AN (v.res+(xR ib cb nx X (.slice (some ⟨cb,0,none⟩) size size) ev xv (CK v.I start size 0) nv+x)) h)
  (K:∀ h,(v.own o').OK x→AN ((v.own o').res+(xR ib cb nx {X with blk:=X.blk+len} (.slice (some ⟨cb,0,none⟩) size size) ev xv (CK v.I start size len) (.int .u64 (len:Nat))+x)) h→rec1 (.int .u64 (i+1:Nat)) h) :
  Rq Q rec1 (Pt v.vb) (Pt ib) x2 (Pt nx) x10 x12 (.int .u64 (i:Nat)) (.int .u64 ((0:Nat):Int)) (.int .u64 (len:Nat)) (.int .u64 (start:Nat)) (.int .u64 ((0:Nat):Int)) h:=by
 have hnb:=ok.nb
 have hil:=ok.len
 have hlc:=c.len
 unfold Rq
 refine Ba (fun m u h'=>∃ j ow,m+j=len∧u=.int .u64 (j:Nat)∧ow.length=v.ow.length∧Clm ((List.range m).map (start+j + ·)) ow o'∧AN ((v.own ow).res+(xR ib cb nx {X with blk:=X.blk+j} (.slice (some ⟨cb,0,none⟩) size size) ev xv (CK v.I start size j) nv+x)) h') len ⟨0,v.ow,by omega,rfl,rfl,c,w⟩ ?_
 rintro rec m u h' ⟨j,ow,hmj,rfl,hl,c2,w⟩ hrec
 have ok1:(v.own ow).OK x:=ok.own hl
 unfold RR
 simp (disch:=omega) only[go_sem]
 refine AX (fun hc=>?_) (fun hc=>?_)
 ·have hm:m=(m-1)+1:=by omega
  rw[hm,List.range_succ_eq_map,A33,B05] at c2
  cases c2 with
  | cons g1 g2=>
   refine Gn _ _ _ _ _ (Uk (v:=v.own ow) (n:=start+j) (s:=[99,111,110,116,101,110,116]) (ok1.mono (y:=xR ib cb nx {X with blk:=X.blk+j} (.slice (some ⟨cb,0,none⟩) size size) ev xv (CK v.I start size j) nv)) g1 w (by decide) fun h ok2 w=>?_)
   have ok3:((v.own ow).clm (start+j)).OK x:=ok1.clm (by show start+j<v.nb;omega)
   simp (disch:=omega) only[go_sem,AF w]
   refine AL w _ XN.set22 rfl (by rw[XN.size_];omega) rfl fun h w=>?_
   have hck:(CK v.I start size j).length=size:=ACl (by omega)
   simp (disch:=omega) only[go_sem,AF w]
   have e1:decide ((((0+j)*4096:Nat):Int)<(X.size:Int))=true:=A04 (by omega)
   rw[e1,Ak]
   have hnum:start+j<v.nb:=by omega
   refine NG _ _ _ _ (ABw (v:=(v.own ow).clm (start+j)) ok3 hnum w fun bv db=>?_)
   refine⟨by rw[AF w,XN.g18];rfl,?_⟩
   simp only[A29]
   have db:RdX x bv (blkL v.I (start+j)):=db
   have hbl:(blkL v.I (start+j)).length=4096:=by unfold blkL;simp;omega
   have k1:∀ V P C N X:Res,V+(P+(C+N)+X)=C+(V+(P+(N+X))):=by intros;ac_rfl
   refine UT (w.cast (k1 _ _ _ _ _)) db.addR.addR.addR (by rw[hck];omega) fun h w=>?_
   have hst:=Zq (I:=v.I) (start:=start) (size:=size) (k:=j) (by omega) (by omega)
   rw[hst] at w
   refine hrec (m-1) _ _ ⟨j+1,setL ow (start+j) [1],by omega,rfl,?_,?_,?_⟩ (by omega)
   ·exact (ok3.ow.trans ok.ow.symm)
   ·refine Eq.mp ?_ g2
    congr 1
    refine A72 fun a _=>?_
    simp only[Function.comp]
    omega
   ·exact w.cast (k1 _ _ _ _ _).symm
 ·have hm0:m=0:=by omega
  subst hm0
  have hj:j=len:=by omega
  subst hj
  cases c2
  have w:AN ((v.own o').res+(xR ib cb nx {X with blk:=X.blk+j} (.slice (some ⟨cb,0,none⟩) size size) ev xv (CK v.I start size j) nv+x)) h':=w
  simp only[A29]
  refine AL w ⟨[.int .u64 (j:Nat)]⟩ rfl rfl (by simp) rfl fun h w=>K h ok1 w
end
end
section
variable {h:H} {k:Value→Prop} {kt Q:Kt} {x y r:Res} {v:VS}
attribute [local irreducible] AK Az AQ BB Ae AY AH AM VS.cells XN.cells CK
structure Ext1 (e:Bs) (start len:Nat):Prop where
 l60:e.length=60
 magic:leL e 0 2=62218
 ent:leL e 2 2=1
 most:leL e 4 2=4
 dep:leL e 6 2=0
 fr:leL ((e.drop 12).take 12) 0 4=0
 ln:leL ((e.drop 12).take 12) 4 2=len
 hi:leL ((e.drop 12).take 12) 6 2=0
 st:leL ((e.drop 12).take 12) 8 4=start
section
variable {X:XN} {ev xv bv:Value} {cb ib nx start len size:Nat} {e o':Bs}
set_option maxRecDepth 20000 in
theorem AIK (ok:v.OK x)(ex:Ext1 e start len)(hsz:X.size=size)(h1:(len-1)*4096<size)(h0:0<len)(hlen:len≤32768)(hs:start+len≤v.nb)(hsl:size≤len*4096)(c:Clm ((List.range len).map (start + ·)) v.ow o')(hb:X.blk<100000)(d:RdX x bv e)
  (w:AN (v.res+(xR ib cb nx X (.slice (some ⟨cb,0,none⟩) size size) ev xv (CK v.I start size 0) (.int .u64 0)+x)) h)
  (K:∀ h,(v.own o').OK x→AN ((v.own o').res+(xR ib cb nx {X with blk:=X.blk+len} (.slice (some ⟨cb,0,none⟩) size size) ev xv (CK v.I start size len) (.int .u64 (len:Nat))+x)) h→Q (.tuple #[]) h) :
  ABj (Pt v.vb) (Pt ib) bv (.int .i64 5) (Pt nx) h Q:=by
 obtain⟨ba,bcc,hbv⟩:=d.len
 have hl60:=ex.l60
 have d3:RdX (v.res+(xR ib cb nx X (.slice (some ⟨cb,0,none⟩) size size) ev xv (CK v.I start size 0) (.int .u64 0)+x)) bv e:=d.addR.addR
 have wn:∀ k,AB false 1 (.pointer (some ⟨ib,0,none⟩)) h k=k (.int .u64 (X.num:Nat)):=fun k=>by
  rw[AF w,XN.g0];rfl
 have wx:∀ k,AB false 1 (Pt nx) h k=k (.int .u64 0):=fun k=>by
  rw[AF w];rfl
 have nf:∀ k:Value→Prop,(AE (Pt ib) fun x161=>AC 0 x161 k)=k (.pointer (some ⟨ib,0,none⟩)):=fun k=>by simp only[go_sem]
 have nn:∀ k:Value→Prop,AE (Pt nx) k=k (Pt nx):=fun k=>by simp only[go_sem]
 unfold ABj
 refine Bh _ _ _ _ _ (JM (p:=2) (n:=2) d3 w (by omega) (by omega) (by omega) ?_)
 refine Bh _ _ _ _ _ (JM (p:=4) (n:=2) d3 w (by omega) (by omega) (by omega) ?_)
 refine Bh _ _ _ _ _ (JM (p:=6) (n:=2) d3 w (by omega) (by omega) (by omega) ?_)
 rw[ex.ent,ex.most,ex.dep,DO,Ci (by omega),nf,wn]
 refine Bh _ _ _ _ _ (JM (p:=0) (n:=2) d3 w (by omega) (by omega) (by omega) ?_)
 rw[ex.magic,wn]
 refine⟨rfl,?_⟩
 have b1:(AD .eql (.int .u64 ((62218:Nat):Int)) (.int .u64 62218))=fun k=>k (.bool true):=funext fun k=>by rw[Aa];rfl
 have b2:(AD .leq (.int .u64 ((1:Nat):Int)) (.int .u64 ((4:Nat):Int)))=fun k=>k (.bool true):=funext fun k=>by rw[BW];rfl
 have b3:(AD .mul (.int .u64 12) (.int .u64 ((4:Nat):Int)))=fun k=>k (.int .u64 48):=funext fun k=>by rw[Bc];rfl
 have b4:(AD .add (.int .u64 12) (.int .u64 48))=fun k=>k (.int .u64 60):=funext fun k=>by rw[A0];rfl
 have b5:(AD .leq (.int .u64 60) (.int .u64 ((60:Nat):Int)))=fun k=>k (.bool true):=funext fun k=>by rw[BW];rfl
 have b6:(AD .leq (.int .i64 ((0:Nat):Int)) (.int .i64 5))=fun k=>k (.bool true):=funext fun k=>by rw[BW];rfl
 have b7:(AD .eql (.int .i64 5) (.int .i64 5))=fun k=>k (.bool true):=funext fun k=>by rw[Aa];rfl
 have b8:(AD .neq (.int .u64 ((62218:Nat):Int)) (.int .u64 62218))=fun k=>k (.bool false):=funext fun k=>by rw[A3];rfl
 have b9:(AD .mul (.int .u64 12) (.int .u64 ((1:Nat):Int)))=fun k=>k (.int .u64 12):=funext fun k=>by rw[Bc];rfl
 have b10:(AD .add (.int .u64 12) (.int .u64 12))=fun k=>k (.int .u64 24):=funext fun k=>by rw[A0];rfl
 have b11:(AD .gtr (.int .u64 24) (.int .u64 ((60:Nat):Int)))=fun k=>k (.bool false):=funext fun k=>by rw[Ao];rfl
 have b12:(AD .gtr (.int .i64 ((0:Nat):Int)) (.int .i64 5))=fun k=>k (.bool false):=funext fun k=>by rw[Ao];rfl
 have b13:(AD .neq (.int .i64 5) (.int .i64 5))=fun k=>k (.bool false):=funext fun k=>by rw[A3];rfl
 have len60:∀ k:Value→Prop,(Ab bv fun x47=>AV .u64 x47 k)=k (.int .u64 ((60:Nat):Int)):=fun k=>by rw[hbv,Aw,DO,hl60];rfl
 simp only[b1]
 refine Al _ _ _ _ _ _ (Da ?_)
 simp only[b2,b3,b4,Cq,len60,b5,nf,wn]
 refine Al _ _ _ _ _ _ (Da ?_)
 unfold NC
 simp only[b6,b7,Cq,PD,nf,wn]
 refine Al _ _ _ _ _ _ (Da ?_)
 unfold K8
 refine Bh _ _ _ _ _ (JM (p:=0) (n:=2) d3 w (by omega) (by omega) (by omega) ?_)
 rw[ex.magic]
 simp only[b8,b9,b10,b11,b12,b13,Cr,SR,len60]
 unfold Mv Vp
 refine Ba (fun m u h'=>(m=1∧u=.int .u64 0∧h'=h)∨(m=0∧u=.int .u64 ((1:Nat):Int)∧(v.own o').OK x∧AN ((v.own o').res+(xR ib cb nx {X with blk:=X.blk+len} (.slice (some ⟨cb,0,none⟩) size size) ev xv (CK v.I start size len) (.int .u64 (len:Nat))+x)) h')) 1 (.inl ⟨rfl,rfl,rfl⟩) ?_
 rintro rec m u h' hh hrec
 rcases hh with⟨rfl,rfl,rfl⟩|⟨rfl,rfl,ok2,w⟩
 ·unfold NL
  have c1:(AD .lss (.int .u64 0) (.int .u64 ((1:Nat):Int)))=fun k=>k (.bool true):=funext fun k=>by rw[AT];rfl
  have c2:(AD .mul (.int .u64 12) (.int .u64 0))=fun k=>k (.int .u64 0):=funext fun k=>by rw[Bc];rfl
  have c3:(AD .add (.int .u64 12) (.int .u64 0))=fun k=>k (.int .u64 ((12:Nat):Int)):=funext fun k=>by rw[A0];rfl
  have c4:(AD .add (.int .u64 24) (.int .u64 0))=fun k=>k (.int .u64 ((24:Nat):Int)):=funext fun k=>by rw[A0];rfl
  have c5:(AD .geq (.int .u64 ((0:Nat):Int)) (.int .u64 0))=fun k=>k (.bool true):=funext fun k=>by rw[BD];rfl
  have c6:(AD .gtr (.int .i64 ((0:Nat):Int)) (.int .i64 0))=fun k=>k (.bool false):=funext fun k=>by rw[Ao];rfl
  have c7:(AD .shl (.int .u64 ((0:Nat):Int)) (.int .u64 32))=fun k=>k (.int .u64 ((0:Nat):Int)):=funext fun k=>by rw[Hm]
  have hstl:start<4294967296:=by rw[←ex.st];exact Ag
  have c8:(AD .or (.int .u64 (start:Nat)) (.int .u64 ((0:Nat):Int)))=fun k=>k (.int .u64 (start:Nat)):=funext fun k=>by rw[V2 (by omega) (by omega),Nat.or_zero]
  have c9:(AD .geq (.int .u64 (len:Nat)) (.int .u64 1))=fun k=>k (.bool true):=funext fun k=>by rw[BD,A04 (by omega)]
  have c10:(AD .leq (.int .u64 (len:Nat)) (.int .u64 32768))=fun k=>k (.bool true):=funext fun k=>by rw[BW,A04 (by omega)]
  have c11:(AD .gtr (.int .u64 (len:Nat)) (.int .u64 32768))=fun k=>k (.bool false):=funext fun k=>by rw[Ao,A08 (by omega)]
  simp only[c1,c2,c3,c4,Ak]
  refine d.slice (i:=12) (j:=24) BA BA (by omega) (by omega) fun sv ds=>?_
  rw[A49] at ds
  have dsl:((e.drop 12).take 12).length=12:=by simp;omega
  have ds3:RdX (v.res+(xR ib cb nx X (.slice (some ⟨cb,0,none⟩) size size) ev xv (CK v.I start size 0) (.int .u64 0)+x)) sv ((e.drop 12).take 12):=ds.addR.addR
  refine Bh _ _ _ _ _ (JM (p:=0) (n:=4) ds3 w (by omega) (by omega) (by omega) ?_)
  rw[ex.fr]
  simp only[nn,nf,wn,wx,c5]
  refine Al _ _ _ _ _ _ (Da ?_)
  simp only[c6,AU]
  refine Bh _ _ _ _ _ (JM (p:=4) (n:=2) ds3 w (by omega) (by omega) (by omega) ?_)
  refine Bh _ _ _ _ _ (JM (p:=8) (n:=4) ds3 w (by omega) (by omega) (by omega) ?_)
  refine Bh _ _ _ _ _ (JM (p:=6) (n:=2) ds3 w (by omega) (by omega) (by omega) ?_)
  rw[ex.ln,ex.st,ex.hi]
  simp only[c7,c8,c9,c10,Cq,nf,wn]
  refine Al _ _ _ _ _ _ (Da ?_)
  unfold Nm
  simp only[c11,AU]
  exact ACq (i:=0) ok hsz h1 h0 hlen (by omega) hs hsl c hb w fun h ok2 w=>hrec 0 _ _ (.inr ⟨rfl,rfl,ok2,w⟩) (by omega)
 ·unfold NL
  have c1:(AD .lss (.int .u64 ((1:Nat):Int)) (.int .u64 ((1:Nat):Int)))=fun k=>k (.bool false):=funext fun k=>by rw[AT];rfl
  simp only[c1,AU]
  exact K h' ok2 w
end
end
section
variable {h:H} {k:Value→Prop} {kt Q:Kt} {x y r:Res} {v:VS}
attribute [local irreducible] AK Az AQ BB Ae AY AH AM VS.cells XN.cells CK
def mjL (e:Bs):Nat:=if leL e 0 4≠0 then leL e 0 4/256 &&& 255 else leL e 4 4/256 &&& 4095
def mnL (e:Bs):Nat:=if leL e 0 4≠0 then leL e 0 4 &&& 255 else leL e 4 4 &&& 255 ||| leL e 4 4/4096 &&& 1048320
inductive ContR (I:Bs) (nb:Nat):XN→Bs→Bs→Bs→XN→List Nat→Prop
 | dev {X:XN} {e rest:Bs}:kindL X.mode=3∨kindL X.mode=4→X.size=0→X.flags &&& 524288=0→ContR I nb X e rest [] {X with major:=mjL e,minor:=mnL e} []
 | pipe {X:XN} {e rest:Bs}:kindL X.mode=5∨kindL X.mode=6→X.size=0→X.flags &&& 524288=0→ContR I nb X e rest [] X []
 | inline {X:XN} {e rest:Bs}:kindL X.mode=1∨kindL X.mode=2∨kindL X.mode=7→X.inl=true→X.size≤e.length+rest.length→X.size≤I.length→ContR I nb X e rest ((e++rest).take X.size) X []
 | ext {X:XN} {e rest:Bs} {start len:Nat}:kindL X.mode=1∨kindL X.mode=2∨kindL X.mode=7→X.inl=false→X.flags &&& 524288≠0→Ext1 e start len→(len-1)*4096<X.size→0<len→len≤32768→start+len≤nb→X.size≤len*4096→X.blk<100000→ContR I nb X e rest ((I.drop (start*4096)).take X.size) {X with blk:=X.blk+len} ((List.range len).map (start + ·))
 | empty {X:XN} {e rest:Bs}:kindL X.mode=1∨kindL X.mode=2→X.inl=false→X.flags &&& 524288=0→X.size=0→ContR I nb X e rest [] X []
section
variable {X X':XN} {ev xv bv rv:Value} {ib:Nat} {b rest o' C:Bs} {cl:List Nat}
theorem YM (ok:v.OK x){cv:Value}(hs:X.size=0)(hf:X.flags &&& 524288=0)(hfl:X.flags<4294967296)(w:AN (v.res+(pts ib (.cells ⟨X.cells cv ev xv⟩ 81 (0,0))+x)) h)(K:Q (.tuple #[]) h):KX Q (Pt v.vb) (Pt ib) h:=by
 have e1:decide ((X.size:Int)=0)=true:=A04 (by omega)
 have e2:decide (((X.flags &&& 524288:Nat):Int)=0)=true:=A04 (by omega)
 unfold KX
 simp (disch:=omega) only[go_sem,AF w,e1,e2]
 exact Al _ _ _ _ _ _ (Da K)
set_option maxRecDepth 20000 in
theorem Vd (ok:v.OK x){x3 x18:Value}{e:Bs}(d:RdX x bv e)(he:e.length=60)(hs:X.size=0)(hf:X.flags &&& 524288=0)(hfl:X.flags<4294967296)(w:AN (v.res+(pts ib (.cells ⟨X.cells (.slice none 0 0) ev xv⟩ 81 (0,0))+x)) h)
  (K:∀ h,AN (v.res+(pts ib (.cells ⟨{X with major:=mjL e,minor:=mnL e}.cells (.slice none 0 0) ev xv⟩ 81 (0,0))+x)) h→Q (.tuple #[]) h):IU Q (Pt v.vb) (Pt ib) x3 bv x18 (.bool true) h:=by
 have d3:RdX (v.res+(pts ib (.cells ⟨X.cells (.slice none 0 0) ev xv⟩ 81 (0,0))+x)) bv e:=d.addR.addR
 have l0:leL e 0 4<4294967296:=Ag
 have l4:leL e 4 4<4294967296:=Ag
 unfold IU
 rw[Ak]
 refine Bh _ _ _ _ _ (JM (p:=0) (n:=4) d3 w (by omega) (by omega) (by omega) ?_)
 refine Bh _ _ _ _ _ (JM (p:=4) (n:=4) d3 w (by omega) (by omega) (by omega) ?_)
 rw[A3]
 have ha:∀ z,leL e 0 4/256 &&& z≤leL e 0 4/256:=fun z=>B20
 have ha2:∀ z,leL e 0 4 &&& z≤leL e 0 4:=fun z=>B20
 have ha3:∀ z,leL e 4 4/256 &&& z≤leL e 4 4/256:=fun z=>B20
 have ha4:∀ z,leL e 4 4 &&& z≤leL e 4 4:=fun z=>B20
 have ha5:leL e 4 4/4096 &&& 1048320≤leL e 4 4/4096:=B20
 have q1:=ha 255
 have q2:=ha2 255
 have q3:=ha3 4095
 have q4:=ha4 255
 have q5:leL e 4 4 &&& 255 ||| leL e 4 4/4096 &&& 1048320<4294967296:=B01 (n:=32) (by omega) (by omega)
 have sh12:∀ a:Nat,(AD .shr (.int .u64 (a:Nat)) (.int .u64 12))=fun k=>k (.int .u64 ((a/4096:Nat):Int)):=fun a=>funext fun k=>EC (s:=12)
 refine AX (fun hc=>?_) (fun hc=>?_)
 ·have e0:leL e 0 4≠0:=by omega
  simp (disch:=omega) only[go_sem,AF w]
  refine AL w _ XN.set16 rfl (by rw[XN.size_];omega) rfl fun h w=>?_
  refine AL w _ XN.set17 rfl (by rw[XN.size_];omega) rfl fun h w=>?_
  have em:mjL e=leL e 0 4/256 &&& 255:=A03 e0
  have en:mnL e=leL e 0 4 &&& 255:=A03 e0
  rw[em,en] at K
  exact YM (X:={X with major:=leL e 0 4/256 &&& 255,minor:=leL e 0 4 &&& 255}) ok hs hf hfl w (K h w)
 ·have e0:¬leL e 0 4≠0:=by omega
  simp (disch:=omega) only[go_sem,AF w,sh12]
  refine AL w _ XN.set16 rfl (by rw[XN.size_];omega) rfl fun h w=>?_
  refine AL w _ XN.set17 rfl (by rw[XN.size_];omega) rfl fun h w=>?_
  have em:mjL e=leL e 4 4/256 &&& 4095:=A05 e0
  have en:mnL e=leL e 4 4 &&& 255 ||| leL e 4 4/4096 &&& 1048320:=A05 e0
  rw[em,en] at K
  exact YM (X:={X with major:=leL e 4 4/256 &&& 4095,minor:=leL e 4 4 &&& 255 ||| leL e 4 4/4096 &&& 1048320}) ok hs hf hfl w (K h w)
theorem Zd {I:Bs}{start size:Nat}:CK I start size 0=List.replicate size 0:=by
 unfold CK;simp
theorem Ze {I:Bs}{start size len:Nat}(h:size≤len*4096):CK I start size len=(I.drop (start*4096)).take size:=by
 unfold CK
 rw[Nat.min_eq_right h,A87];simp
theorem Cb:AG TP 48=some (.int .u64 0):=by kernel_rfl
set_option maxRecDepth 20000 in
theorem AFm {e:Bs}(ok:v.OK x)(d:RdX x bv e)(he:e.length=60)(dr:RdX x rv rest)(hrl:rest.length<100000)(hin:X.inl=true)(hsz:X.size≤e.length+rest.length)(hsi:X.size≤v.I.length)(w:AN (v.res+(pts ib (.cells ⟨X.cells (.slice none 0 0) ev xv⟩ 81 (0,0))+x)) h)
  (K:∀ cv y h,RdX y cv ((e++rest).take X.size)→AN (v.res+(pts ib (.cells ⟨X.cells cv ev xv⟩ 81 (0,0))+(y+x))) h→Q (.tuple #[]) h):EX Q (Pt v.vb) (Pt ib) rv bv (.bool false) h:=by
 obtain⟨ia,ic,hi⟩:=ok.rd.len
 have hg:=ok.big
 have e1:decide ((X.size:Int)≤(v.I.length:Int))=true:=A04 (by omega)
 have e2:decide ((X.size:Int)>(v.I.length:Int))=false:=A08 (by omega)
 unfold EX
 rw[AU]
 simp (disch:=omega) only[go_sem,AF w]
 rw[hi]
 simp (disch:=omega) only[go_sem,AF w]
 rw[e1]
 refine Al _ _ _ _ _ _ (Da ?_)
 simp (disch:=omega) only[go_sem,AF w,hi]
 rw[e2,AU,hin,Ak]
 refine CZ (l:=[]) w (by omega) rfl rfl fun eb h w=>?_
 refine BU (BufV.own' (n:=0) (all:=[]) (c:=0) (bs:=[]) (A07 _) rfl rfl) w (d.addR.addR.rd w.right) (by simp;omega) fun v1 r1 h b1 w=>?_
 rw[A34] at b1
 refine BU b1 w (dr.addR.addR.rd w.right) (by omega) fun v2 r2 h b2 w=>?_
 obtain⟨a2,c2,hv2⟩:=b2.len
 have w:AN (v.res+(pts ib (.cells ⟨X.cells (.slice none 0 0) ev xv⟩ 81 (0,0))+(r2+x))) h:=w.cast (by ac_rfl)
 rw[hv2]
 refine AL w _ XN.set18 rfl (by rw[XN.size_];omega) rfl fun h w=>?_
 have hl2:(e++rest).length=e.length+rest.length:=A01
 have e3:decide ((X.size:Int)≤((e++rest).length:Int))=true:=A04 (by omega)
 simp (disch:=omega) only[go_sem,AF w]
 rw[e3]
 refine Al _ _ _ _ _ _ (Da ?_)
 simp (disch:=omega) only[go_sem,AF w]
 refine XT ?_
 rw[A30 (by omega),←hv2]
 refine b2.rdX.slice (i:=0) (j:=X.size) rfl BA (A39 _) (by omega) fun cv dc=>?_
 obtain⟨ca,cc,hcv⟩:=dc.len
 rw[A68] at dc
 refine AL w ⟨X.cells cv ev xv⟩ (by rw[hcv];exact XN.set18) (by rw[hcv];rfl) (by rw[XN.size_];omega) (by rw[hcv];rfl) fun h w=>K cv r2 h dc w
set_option maxRecDepth 20000 in
theorem AFA {e:Bs}{start len:Nat}(ok:v.OK x)(d:RdX x bv e)(ex:Ext1 e start len)(hin:X.inl=false)(hf:X.flags &&& 524288≠0)(hfl:X.flags<4294967296)(h1:(len-1)*4096<X.size)(h0:0<len)(hlen:len≤32768)(hs:start+len≤v.nb)(hsl:X.size≤len*4096)(c:Clm ((List.range len).map (start + ·)) v.ow o')(hb:X.blk<100000)
  (w:AN (v.res+(pts ib (.cells ⟨X.cells (.slice none 0 0) ev xv⟩ 81 (0,0))+x)) h)
  (K:∀ cv y h,RdX y cv ((v.I.drop (start*4096)).take X.size)→(v.own o').OK x→AN ((v.own o').res+(pts ib (.cells ⟨{X with blk:=X.blk+len}.cells cv ev xv⟩ 81 (0,0))+(y+x))) h→Q (.tuple #[]) h):EX Q (Pt v.vb) (Pt ib) rv bv (.bool false) h:=by
 obtain⟨ia,ic,hi⟩:=ok.rd.len
 have hg:=ok.big
 have hil:=ok.len
 have hxs:X.size≤v.I.length:=by omega
 have hci:start*4096+X.size≤v.I.length:=by omega
 have e1:decide ((X.size:Int)≤(v.I.length:Int))=true:=A04 (by omega)
 have e2:decide ((X.size:Int)>(v.I.length:Int))=false:=A08 (by omega)
 have e4:decide (((X.flags &&& 524288:Nat):Int)≠0)=true:=A04 (by omega)
 unfold EX
 rw[AU]
 simp (disch:=omega) only[go_sem,AF w]
 rw[hi]
 simp (disch:=omega) only[go_sem]
 rw[e1]
 refine Al _ _ _ _ _ _ (Da ?_)
 simp (disch:=omega) only[go_sem,AF w,hi]
 rw[e2,AU,hin,AU,e4,Ak]
 refine ER w (by omega) fun cb h w=>?_
 have w:AN (v.res+(pts ib (.cells ⟨X.cells (.slice none 0 0) ev xv⟩ 81 (0,0))+(buf cb (List.replicate X.size 0)+x))) h:=w.cast (by ac_rfl)
 refine AL w _ XN.set18 rfl (by rw[XN.size_];omega) rfl fun h w=>?_
 refine Ah w Cb rfl fun nx h w=>?_
 refine AL w ⟨[.int .u64 0]⟩ rfl rfl (by simp) rfl fun h w=>?_
 have hr0:List.replicate X.size (0:UInt8)=CK v.I start X.size 0:=Zd.symm
 rw[hr0] at w
 have k1:∀ N V P C X:Res,N+(V+(P+(C+X)))=V+(P+(C+N)+X):=by intros;ac_rfl
 refine Zi _ _ _ _ _ _ _ (AIK (nx:=nx) (cb:=cb) ok ex rfl h1 h0 hlen hs hsl c hb d (w.cast (k1 _ _ _ _ _)) fun h ok2 w=>?_)
 rw[Ze hsl] at w
 have hcl:((v.I.drop (start*4096)).take X.size).length=X.size:=by simp;omega
 have wx:∀ k,AB false 1 (Pt nx) h k=k (.int .u64 (len:Nat)):=fun k=>by
  rw[AF w];rfl
 have e5:decide ((len:Int)≤(((X.size+4096-1)/4096:Nat):Int))=true:=A04 (by omega)
 rw[wx]
 have w:AN ((v.own o').res+(xR ib cb nx {X with blk:=X.blk+len} (.slice (some ⟨cb,0,none⟩) X.size X.size) ev xv ((v.I.drop (start*4096)).take X.size) (.int .u64 (len:Nat))+x)) h:=w
 simp (disch:=omega) only[go_sem,AF w]
 rw[e5]
 refine Al _ _ _ _ _ _ (Da ?_)
 have dc:RdX (buf cb ((v.I.drop (start*4096)).take X.size)+pts nx (.cells ⟨[.int .u64 (len:Nat)]⟩ 48 (0,0))) (.slice (some ⟨cb,0,none⟩) X.size X.size) ((v.I.drop (start*4096)).take X.size):=by
  exact .ofBuf hcl
 exact K _ _ h dc ok2 (w.cast (by unfold xR;ac_rfl))
set_option maxRecDepth 20000 in
theorem AE5 {e:Bs}(ok:v.OK x)(hk:kindL X.mode≠7)(hm:X.mode<65536)(hin:X.inl=false)(hf:X.flags &&& 524288=0)(hfl:X.flags<4294967296)(h0:X.size=0)
  (w:AN (v.res+(pts ib (.cells ⟨X.cells (.slice none 0 0) ev xv⟩ 81 (0,0))+x)) h) (K:Q (.tuple #[]) h):EX Q (Pt v.vb) (Pt ib) rv bv (.bool false) h:=by
 obtain⟨ia,ic,hi⟩:=ok.rd.len
 have hg:=ok.big
 have e1:decide ((X.size:Int)≤(v.I.length:Int))=true:=A04 (by omega)
 have e2:decide ((X.size:Int)>(v.I.length:Int))=false:=A08 (by omega)
 have e4:decide (((X.flags &&& 524288:Nat):Int)≠0)=false:=A08 (by omega)
 have e5:decide ((X.size:Int)=0)=true:=A04 (by omega)
 have e6:decide ((kindL X.mode:Int)=7)=false:=A08 (by omega)
 unfold EX
 rw[AU]
 simp (disch:=omega) only[go_sem,AF w]
 rw[hi]
 simp (disch:=omega) only[go_sem]
 rw[e1]
 refine Al _ _ _ _ _ _ (Da ?_)
 simp (disch:=omega) only[go_sem,AF w,hi]
 rw[e2,AU,hin,AU,e4,AU]
 refine E9 _ _ _ (YT hm ?_)
 simp (disch:=omega) only[go_sem,AF w]
 rw[e6,AU,e5]
 exact Al _ _ _ _ _ _ (Da K)
theorem ABd (hs:X.size=0)(hf:X.flags &&& 524288=0)(hfl:X.flags<4294967296)(w:AN (v.res+(pts ib (.cells ⟨X.cells (.slice none 0 0) ev xv⟩ 81 (0,0))+x)) h)(K:Q (.tuple #[]) h):EX Q (Pt v.vb) (Pt ib) rv bv (.bool true) h:=by
 have e1:decide ((X.size:Int)=0)=true:=A04 (by omega)
 have e2:decide (((X.flags &&& 524288:Nat):Int)=0)=true:=A04 (by omega)
 unfold EX
 rw[Ak]
 simp (disch:=omega) only[go_sem,AF w,e1,e2]
 exact Al _ _ _ _ _ _ (Da K)
set_option maxRecDepth 20000 in
theorem AIL (ok:v.OK x)(db:RdX x bv b)(hb:b.length=256)(dr:RdX x rv rest)(hrl:rest.length<100000)(cr:ContR v.I v.nb X ((b.drop 40).take 60) rest C X' cl)(c:Clm cl v.ow o')(hm:X.mode<65536)(hfl:X.flags<4294967296)
  (w:AN (v.res+(pts ib (.cells ⟨X.cells (.slice none 0 0) ev xv⟩ 81 (0,0))+x)) h)
  (K:∀ cv y h,RdX y cv C→(v.own o').OK x→AN ((v.own o').res+(pts ib (.cells ⟨X'.cells cv ev xv⟩ 81 (0,0))+(y+x))) h→Q (.tuple #[]) h):ADh (Pt v.vb) (Pt ib) bv rv h Q:=by
 have hel:((b.drop 40).take 60).length=60:=by simp;omega
 have nilK:∀ {X':XN} {h:H},o'=v.ow→(∀ cv y h,RdX y cv []→(v.own o').OK x→AN ((v.own o').res+(pts ib (.cells ⟨X'.cells cv ev xv⟩ 81 (0,0))+(y+x))) h→Q (.tuple #[]) h)→AN (v.res+(pts ib (.cells ⟨X'.cells (.slice none 0 0) ev xv⟩ 81 (0,0))+x)) h→Q (.tuple #[]) h:=by
  intro X' h he K w
  subst he
  exact K (.slice none 0 0) 0 h (.inl ⟨none,0,rfl,rfl⟩) ok (by rw[Res.zero_add];exact w)
 unfold ADh
 refine db.slice (i:=40) (j:=100) Ec Ec (by omega) (by omega) fun ev' de=>?_
 rw[A49] at de
 simp (disch:=omega) only[go_sem,AF w]
 refine E9 _ _ _ (YT hm ?_)
 rw[Aa]
 refine AX (fun h3=>?_) (fun h3=>?_)
 ·have hk:kindL X.mode=3:=by omega
  cases cr with
  | dev _ hs hf=>
   cases c
   exact Vd ok de hel hs hf hfl w fun h w=>nilK rfl K w
  | pipe hk2 _ _=>omega
  | inline hk2 _ _ _=>omega
  | ext hk2 _ _ _ _ _ _ _ _ _=>omega
  | empty hk2 _ _ _=>omega
 ·rw[Aa]
  by_cases h4:kindL X.mode=4
  ·have e4:decide ((kindL X.mode:Int)=4)=true:=A04 (by omega)
   rw[e4]
   cases cr with
   | dev _ hs hf=>
    cases c
    exact Vd ok de hel hs hf hfl w fun h w=>nilK rfl K w
   | pipe hk2 _ _=>omega
   | inline hk2 _ _ _=>omega
   | ext hk2 _ _ _ _ _ _ _ _ _=>omega
   | empty hk2 _ _ _=>omega
  ·have e4:decide ((kindL X.mode:Int)=4)=false:=A08 (by omega)
   rw[e4]
   unfold IU
   rw[AU,Aa]
   refine AX (fun h5=>?_) (fun h5=>?_)
   ·cases cr with
    | dev hk2 _ _=>omega
    | pipe _ hs hf=>
     cases c
     exact ABd hs hf hfl w (nilK rfl K w)
    | inline hk2 _ _ _=>omega
    | ext hk2 _ _ _ _ _ _ _ _ _=>omega
    | empty hk2 _ _ _=>omega
   ·rw[Aa]
    by_cases h6:kindL X.mode=6
    ·have e6:decide ((kindL X.mode:Int)=6)=true:=A04 (by omega)
     rw[e6]
     cases cr with
     | dev hk2 _ _=>omega
     | pipe _ hs hf=>
      cases c
      exact ABd hs hf hfl w (nilK rfl K w)
     | inline hk2 _ _ _=>omega
     | ext hk2 _ _ _ _ _ _ _ _ _=>omega
     | empty hk2 _ _ _=>omega
    ·have e6:decide ((kindL X.mode:Int)=6)=false:=A08 (by omega)
     rw[e6]
     cases cr with
     | dev hk2 _ _=>omega
     | pipe hk2 _ _=>omega
     | inline hk2 hin hsz hsi=>
      cases c
      exact AFm ok de hel dr hrl hin hsz hsi w fun cv y h d w=>K cv y h d ok w
     | ext hk2 hin hf ex g1 g2 g3 g4 g5 g6=>exact AFA ok de ex hin hf hfl g1 g2 g3 g4 g5 c g6 w K
     | empty hk2 hin hf hs=>
      cases c
      exact AE5 (e:=[]) ok (by omega) hm hin hf hfl hs w (nilK rfl K w)
end
end
section
set_option maxRecDepth 100000
def Ii (Q:Kt)(r1:R2)(x0 x1 x4 x5 x8 q9 t0 a1 t1:Value)(h:H):Prop:=
 AD .lss t1 t0 fun t2=>AK t2
 (AI (.slice 2) q9 t1 fun t3=>AB true 2 t3 h fun t4=>AQ (AG TP 86) 86 h fun a4 h=>AJ 2 a4 t4 h fun h=>AC 0 a4 fun t5=>AB false 1 t5 h fun t6=>AD .eql t6 (.string ⟨#[115,121,115,116,101,109,46,100,97,116,97]⟩) fun t7=>AK t7
 (AC 1 a4 fun t8=>AB false 1 t8 h fun t9=>AC 21 x8 fun v1=>AB false 1 v1 h fun v2=>Call TP 65 [x0,v2,(.string ⟨#[100,97,116,97,32,116,104,97,116,32,105,115,32,110,111,116,32,105,110,108,105,110,101,32,105,110,32,105,110,111,100,101]⟩),x1] h fun v4 h=>AD .add t1 (.int .i64 1) fun w1=>r1 t9 w1 h)
 (AC 20 x8 fun v5=>AB false 1 v5 h fun v6=>AB true 2 a4 h fun v7=>AH (.arr 2) 86 (AG TP 86) 2 1 [(0,v7)] h fun v8 h=>AM 86 (AG TP 86) 2 40 v6 v8 h fun v9 h=>AC 20 x8 fun w0=>AJ 1 w0 v9 h fun h=>AD .add t1 (.int .i64 1) fun w1=>r1 a1 w1 h))
 (AB false 1 x5 h fun w3=>Call TP 179 [x0,x8,w3,a1] h fun w5 h=>AC 7 x8 fun w6=>AB false 1 w6 h fun w7=>AD .and w7 (.int .u64 262144) fun w8=>AD .neq w8 (.int .u64 0) fun w9=>AK w9
 (AC 6 x8 fun y1=>AB false 1 y1 h fun y2=>AC 22 x8 fun y3=>AB false 1 y3 h fun y4=>AD .eql y2 y4 fun y5=>Call TP 65 [x0,y5,(.string ⟨#[98,108,111,99,107,115,32,111,102,32,105,110,111,100,101]⟩),x1] h fun y7 h=>AB true 23 x8 h fun z7=>AJ 23 x4 z7 h fun h=>AB true 23 x4 h fun v=>Q v h)
 (AC 6 x8 fun y9=>AB false 1 y9 h fun z0=>AC 22 x8 fun z1=>AB false 1 z1 h fun z2=>AD .mul z2 (.int .u64 8) fun z3=>AD .eql z0 z3 fun z4=>Call TP 65 [x0,z4,(.string ⟨#[115,101,99,116,111,114,115,32,111,102,32,105,110,111,100,101]⟩),x1] h fun z6 h=>AB true 23 x8 h fun z7=>AJ 23 x4 z7 h fun h=>AB true 23 x4 h fun v=>Q v h))
def KV (Q:Kt)(x0 x1 x4 x5 x8 q9 t0 a1 t1:Value)(h:H):Prop:=Bx (fun r1 a1 t1 h=>Ii Q r1 x0 x1 x4 x5 x8 q9 t0 a1 t1 h) a1 t1 h
def P0 (Q:Kt)(r2:R1)(x0 x1 x4 x5 x6 x8 o7 o8 o9:Value)(h:H):Prop:=
 AD .lss o9 o8 fun p0=>AK p0
 (AI (.slice 2) o7 o9 fun p1=>AB true 2 p1 h fun p2=>AQ (AG TP 60) 60 h fun a0 h=>AJ 2 a0 p2 h fun h=>AC 1 a0 fun p4=>AB false 1 p4 h fun p5=>AD .lss p5 (.int .i64 1000000000) fun p6=>Call TP 65 [x0,p6,(.string ⟨#[110,97,110,111,115,101,99,111,110,100,115,32,111,102,32,105,110,111,100,101]⟩),x1] h fun p8 h=>AD .add o9 (.int .i64 1) fun p9=>r2 p9 h)
 (AC 7 x8 fun q0=>AB false 1 q0 h fun q1=>AD .and q1 (.int .u64 268435456) fun q2=>AD .neq q2 (.int .u64 0) fun q3=>AC 21 x8 fun q4=>AJ 1 q4 q3 h fun h=>AB false 1 x5 h fun q6=>AB false 1 x6 h fun q7=>Call TP 178 [x0,x8,q6,q7] h fun q8 h=>Ab q8 fun t0=>KV Q x0 x1 x4 x5 x8 q8 t0 (.slice none 0 0) (.int .i64 0) h)
def RE (Q:Kt)(x0 x1 x4 x5 x6 x8 o7 o8 o9:Value)(h:H):Prop:=A1 (fun r2 o9 h=>P0 Q r2 x0 x1 x4 x5 x6 x8 o7 o8 o9 h) o9 h
def Gj (Q:Kt)(x0 x1 x4 x5 x6 x8:Value)(h:H):Prop:=
 AC 1 x8 fun m7=>AB false 1 m7 h fun m8=>Call TP 45 [m8] h fun m9 h=>AD .neq m9 (.int .u64 0) fun n0=>Call TP 65 [x0,n0,(.string ⟨#[107,105,110,100,32,111,102,32,105,110,111,100,101]⟩),x1] h fun n2 h=>AB false 1 x5 h fun n4=>Call TP 66 [n4,(.int .u64 20),(.int .u64 4)] h fun n5 h=>AD .eql n5 (.int .u64 0) fun n6=>Call TP 65 [x0,n6,(.string ⟨#[100,101,108,101,116,101,100,32,105,110,111,100,101]⟩),x1] h fun n8 h=>AC 8 x8 fun n9=>AB true 2 n9 h fun o0=>AC 10 x8 fun o1=>AB true 2 o1 h fun o2=>AC 12 x8 fun o3=>AB true 2 o3 h fun o4=>AC 14 x8 fun o5=>AB true 2 o5 h fun o6=>AH (.arr 2) 60 (AG TP 60) 2 4 [(0,o0),(1,o2),(2,o4),(3,o6)] h fun o7 h=>Ab o7 fun o8=>RE Q x0 x1 x4 x5 x6 x8 o7 o8 (.int .i64 0) h
def LV (Q:Kt)(x0 x1 x4 x5 x6 x8 d4 g1 g8 i4 i6 j2 j4 j9 k4 k9 m4:Value)(h:H):Prop:=
 Ae (.struct [(0,1),(1,1),(2,1),(3,1),(4,1),(5,1),(6,1),(7,1),(8,2),(10,2),(12,2),(14,2),(16,1),(17,1),(18,1),(19,1),(20,1),(21,1),(22,1)]) (AG TP 81) [(0,x1),(1,d4),(2,g1),(3,g8),(4,i4),(5,i6),(6,j2),(7,j4),(8,j9),(9,k4),(10,k9),(11,m4)] fun m5=>AJ 23 x8 m5 h fun h=>Gj Q x0 x1 x4 x5 x6 x8 h
def IW (Q:Kt)(x0 x1 x4 x5 x6 x8 d4 g1 g8 i4 i6 j2 j4 j9 k4 k9:Value)(h:H):Prop:=
 Bj TP (.func (.func 176) #[] #[x6,x5]) [(.int .u64 144)] h fun m1 h=>Bj TP (.func (.func 176) #[] #[x6,x5]) [(.int .u64 148)] h fun m3 h=>Call TP 177 [m1,m3] h fun m4 h=>LV Q x0 x1 x4 x5 x6 x8 d4 g1 g8 i4 i6 j2 j4 j9 k4 k9 m4 h
def KJ (Q:Kt)(x0 x1 x4 x5 x6 x8 d4 g1 g8 i4 i6 j2 j4 j9 k4 k5:Value)(h:H):Prop:=
 Call TP 66 [k5,(.int .u64 16),(.int .u64 4)] h fun k6 h=>Bj TP (.func (.func 176) #[] #[x6,x5]) [(.int .u64 136)] h fun k8 h=>Call TP 177 [k6,k8] h fun k9 h=>IW Q x0 x1 x4 x5 x6 x8 d4 g1 g8 i4 i6 j2 j4 j9 k4 k9 h
def Kl (Q:Kt)(x0 x1 x4 x5 x6 x8 d4 g1 g8 i4 i6 j2 j4 j9 k1 k5:Value)(h:H):Prop:=
 Bj TP (.func (.func 176) #[] #[x6,x5]) [(.int .u64 132)] h fun k3 h=>((AB false 1 x5 h fun v=>v=k5)∧Call TP 177 [k1,k3] h fun k4 h=>((AB false 1 x5 h fun v=>v=k5)∧KJ Q x0 x1 x4 x5 x6 x8 d4 g1 g8 i4 i6 j2 j4 j9 k4 k5 h))
def Nq (Q:Kt)(x0 x1 x4 x5 x6 x8 d4 g1 g8 i4 i6 j2 j4 j6 j8 k0 k5:Value)(h:H):Prop:=
 Call TP 177 [j6,j8] h fun j9 h=>((AB false 1 x5 h fun v=>v=k0)∧(AB false 1 x5 h fun v=>v=k5)∧Call TP 66 [k0,(.int .u64 12),(.int .u64 4)] h fun k1 h=>((AB false 1 x5 h fun v=>v=k5)∧Kl Q x0 x1 x4 x5 x6 x8 d4 g1 g8 i4 i6 j2 j4 j9 k1 k5 h))
def M7 (Q:Kt)(x0 x1 x4 x5 x6 x8 d4 g1 g8 i4 i6 j2 j4 j6 k0 k5:Value)(h:H):Prop:=
 Bj TP (.func (.func 176) #[] #[x6,x5]) [(.int .u64 140)] h fun j8 h=>((AB false 1 x5 h fun v=>v=k0)∧(AB false 1 x5 h fun v=>v=k5)∧Nq Q x0 x1 x4 x5 x6 x8 d4 g1 g8 i4 i6 j2 j4 j6 j8 k0 k5 h)
def Np (Q:Kt)(x0 x1 x4 x5 x6 x8 d4 g1 g8 i4 i6 j2 j4 j5 k0 k5:Value)(h:H):Prop:=
 Call TP 66 [j5,(.int .u64 8),(.int .u64 4)] h fun j6 h=>((AB false 1 x5 h fun v=>v=k0)∧(AB false 1 x5 h fun v=>v=k5)∧M7 Q x0 x1 x4 x5 x6 x8 d4 g1 g8 i4 i6 j2 j4 j6 k0 k5 h)
def M2 (Q:Kt)(x0 x1 x4 x5 x6 x8 d4 g1 g8 i4 i6 j2 j3 j5 k0 k5:Value)(h:H):Prop:=
 Call TP 66 [j3,(.int .u64 32),(.int .u64 4)] h fun j4 h=>((AB false 1 x5 h fun v=>v=j5)∧(AB false 1 x5 h fun v=>v=k0)∧(AB false 1 x5 h fun v=>v=k5)∧Np Q x0 x1 x4 x5 x6 x8 d4 g1 g8 i4 i6 j2 j4 j5 k0 k5 h)
def Ml (Q:Kt)(x0 x1 x4 x5 x6 x8 d4 g1 g8 i4 i6 i8 i9 j3 j5 k0 k5:Value)(h:H):Prop:=
 Call TP 66 [i9,(.int .u64 116),(.int .u64 2)] h fun j0 h=>((AB false 1 x5 h fun v=>v=j3)∧(AB false 1 x5 h fun v=>v=j5)∧(AB false 1 x5 h fun v=>v=k0)∧(AB false 1 x5 h fun v=>v=k5)∧AD .shl j0 (.int .u64 32) fun j1=>AD .or i8 j1 fun j2=>M2 Q x0 x1 x4 x5 x6 x8 d4 g1 g8 i4 i6 j2 j3 j5 k0 k5 h)
def Jl (Q:Kt)(x0 x1 x4 x5 x6 x8 d4 g1 g8 i4 i6 i7 i9 j3 j5 k0 k5:Value)(h:H):Prop:=
 Call TP 66 [i7,(.int .u64 28),(.int .u64 4)] h fun i8 h=>((AB false 1 x5 h fun v=>v=i9)∧(AB false 1 x5 h fun v=>v=j3)∧(AB false 1 x5 h fun v=>v=j5)∧(AB false 1 x5 h fun v=>v=k0)∧(AB false 1 x5 h fun v=>v=k5)∧Ml Q x0 x1 x4 x5 x6 x8 d4 g1 g8 i4 i6 i8 i9 j3 j5 k0 k5 h)
def Jg (Q:Kt)(x0 x1 x4 x5 x6 x8 d4 g1 g8 i4 i5 i7 i9 j3 j5 k0 k5:Value)(h:H):Prop:=
 Call TP 66 [i5,(.int .u64 26),(.int .u64 2)] h fun i6 h=>((AB false 1 x5 h fun v=>v=i7)∧(AB false 1 x5 h fun v=>v=i9)∧(AB false 1 x5 h fun v=>v=j3)∧(AB false 1 x5 h fun v=>v=j5)∧(AB false 1 x5 h fun v=>v=k0)∧(AB false 1 x5 h fun v=>v=k5)∧Jl Q x0 x1 x4 x5 x6 x8 d4 g1 g8 i4 i6 i7 i9 j3 j5 k0 k5 h)
def Jw (Q:Kt)(x0 x1 x4 x5 x6 x8 d4 g1 g8 i0 i1 i5 i7 i9 j3 j5 k0 k5:Value)(h:H):Prop:=
 Call TP 66 [i1,(.int .u64 108),(.int .u64 4)] h fun i2 h=>((AB false 1 x5 h fun v=>v=i5)∧(AB false 1 x5 h fun v=>v=i7)∧(AB false 1 x5 h fun v=>v=i9)∧(AB false 1 x5 h fun v=>v=j3)∧(AB false 1 x5 h fun v=>v=j5)∧(AB false 1 x5 h fun v=>v=k0)∧(AB false 1 x5 h fun v=>v=k5)∧AD .shl i2 (.int .u64 32) fun i3=>AD .or i0 i3 fun i4=>Jg Q x0 x1 x4 x5 x6 x8 d4 g1 g8 i4 i5 i7 i9 j3 j5 k0 k5 h)
def Jc (Q:Kt)(x0 x1 x4 x5 x6 x8 d4 g1 g8 g9 i1 i5 i7 i9 j3 j5 k0 k5:Value)(h:H):Prop:=
 Call TP 66 [g9,(.int .u64 4),(.int .u64 4)] h fun i0 h=>((AB false 1 x5 h fun v=>v=i1)∧(AB false 1 x5 h fun v=>v=i5)∧(AB false 1 x5 h fun v=>v=i7)∧(AB false 1 x5 h fun v=>v=i9)∧(AB false 1 x5 h fun v=>v=j3)∧(AB false 1 x5 h fun v=>v=j5)∧(AB false 1 x5 h fun v=>v=k0)∧(AB false 1 x5 h fun v=>v=k5)∧Jw Q x0 x1 x4 x5 x6 x8 d4 g1 g8 i0 i1 i5 i7 i9 j3 j5 k0 k5 h)
def Jd (Q:Kt)(x0 x1 x4 x5 x6 x8 d4 g1 g3 g4 g9 i1 i5 i7 i9 j3 j5 k0 k5:Value)(h:H):Prop:=
 Call TP 66 [g4,(.int .u64 122),(.int .u64 2)] h fun g5 h=>((AB false 1 x5 h fun v=>v=g9)∧(AB false 1 x5 h fun v=>v=i1)∧(AB false 1 x5 h fun v=>v=i5)∧(AB false 1 x5 h fun v=>v=i7)∧(AB false 1 x5 h fun v=>v=i9)∧(AB false 1 x5 h fun v=>v=j3)∧(AB false 1 x5 h fun v=>v=j5)∧(AB false 1 x5 h fun v=>v=k0)∧(AB false 1 x5 h fun v=>v=k5)∧AD .shl g5 (.int .u64 16) fun g6=>AD .or g3 g6 fun g7=>AV .u32 g7 fun g8=>Jc Q x0 x1 x4 x5 x6 x8 d4 g1 g8 g9 i1 i5 i7 i9 j3 j5 k0 k5 h)
def Ju (Q:Kt)(x0 x1 x4 x5 x6 x8 d4 g1 g2 g4 g9 i1 i5 i7 i9 j3 j5 k0 k5:Value)(h:H):Prop:=
 Call TP 66 [g2,(.int .u64 24),(.int .u64 2)] h fun g3 h=>((AB false 1 x5 h fun v=>v=g4)∧(AB false 1 x5 h fun v=>v=g9)∧(AB false 1 x5 h fun v=>v=i1)∧(AB false 1 x5 h fun v=>v=i5)∧(AB false 1 x5 h fun v=>v=i7)∧(AB false 1 x5 h fun v=>v=i9)∧(AB false 1 x5 h fun v=>v=j3)∧(AB false 1 x5 h fun v=>v=j5)∧(AB false 1 x5 h fun v=>v=k0)∧(AB false 1 x5 h fun v=>v=k5)∧Jd Q x0 x1 x4 x5 x6 x8 d4 g1 g3 g4 g9 i1 i5 i7 i9 j3 j5 k0 k5 h)
def Jb (Q:Kt)(x0 x1 x4 x5 x6 x8 d4 d6 d7 g2 g4 g9 i1 i5 i7 i9 j3 j5 k0 k5:Value)(h:H):Prop:=
 Call TP 66 [d7,(.int .u64 120),(.int .u64 2)] h fun d8 h=>((AB false 1 x5 h fun v=>v=g2)∧(AB false 1 x5 h fun v=>v=g4)∧(AB false 1 x5 h fun v=>v=g9)∧(AB false 1 x5 h fun v=>v=i1)∧(AB false 1 x5 h fun v=>v=i5)∧(AB false 1 x5 h fun v=>v=i7)∧(AB false 1 x5 h fun v=>v=i9)∧(AB false 1 x5 h fun v=>v=j3)∧(AB false 1 x5 h fun v=>v=j5)∧(AB false 1 x5 h fun v=>v=k0)∧(AB false 1 x5 h fun v=>v=k5)∧AD .shl d8 (.int .u64 16) fun d9=>AD .or d6 d9 fun g0=>AV .u32 g0 fun g1=>Ju Q x0 x1 x4 x5 x6 x8 d4 g1 g2 g4 g9 i1 i5 i7 i9 j3 j5 k0 k5 h)
def Jh (Q:Kt)(x0 x1 x4 x5 x6 x8 d4 d5 d7 g2 g4 g9 i1 i5 i7 i9 j3 j5 k0 k5:Value)(h:H):Prop:=
 Call TP 66 [d5,(.int .u64 2),(.int .u64 2)] h fun d6 h=>((AB false 1 x5 h fun v=>v=d7)∧(AB false 1 x5 h fun v=>v=g2)∧(AB false 1 x5 h fun v=>v=g4)∧(AB false 1 x5 h fun v=>v=g9)∧(AB false 1 x5 h fun v=>v=i1)∧(AB false 1 x5 h fun v=>v=i5)∧(AB false 1 x5 h fun v=>v=i7)∧(AB false 1 x5 h fun v=>v=i9)∧(AB false 1 x5 h fun v=>v=j3)∧(AB false 1 x5 h fun v=>v=j5)∧(AB false 1 x5 h fun v=>v=k0)∧(AB false 1 x5 h fun v=>v=k5)∧Jb Q x0 x1 x4 x5 x6 x8 d4 d6 d7 g2 g4 g9 i1 i5 i7 i9 j3 j5 k0 k5 h)
def Iw (Q:Kt)(x0 x1 x4 x5 x6:Value)(h:H):Prop:=
 AB false 1 x5 h fun d2=>AB false 1 x5 h fun d5=>AB false 1 x5 h fun d7=>AB false 1 x5 h fun g2=>AB false 1 x5 h fun g4=>AB false 1 x5 h fun g9=>AB false 1 x5 h fun i1=>AB false 1 x5 h fun i5=>AB false 1 x5 h fun i7=>AB false 1 x5 h fun i9=>AB false 1 x5 h fun j3=>AB false 1 x5 h fun j5=>AB false 1 x5 h fun k0=>AB false 1 x5 h fun k5=>((Call TP 66 [d2,(.int .u64 0),(.int .u64 2)] h fun d3 h=>((AB false 1 x5 h fun v=>v=d5)∧(AB false 1 x5 h fun v=>v=d7)∧(AB false 1 x5 h fun v=>v=g2)∧(AB false 1 x5 h fun v=>v=g4)∧(AB false 1 x5 h fun v=>v=g9)∧(AB false 1 x5 h fun v=>v=i1)∧(AB false 1 x5 h fun v=>v=i5)∧(AB false 1 x5 h fun v=>v=i7)∧(AB false 1 x5 h fun v=>v=i9)∧(AB false 1 x5 h fun v=>v=j3)∧(AB false 1 x5 h fun v=>v=j5)∧(AB false 1 x5 h fun v=>v=k0)∧(AB false 1 x5 h fun v=>v=k5)∧AV .u16 d3 fun d4=>((Call TP 66 [d5,(.int .u64 2),(.int .u64 2)] h fun d6 h=>((AB false 1 x5 h fun v=>v=d7)∧(AB false 1 x5 h fun v=>v=g2)∧(AB false 1 x5 h fun v=>v=g4)∧(AB false 1 x5 h fun v=>v=g9)∧(AB false 1 x5 h fun v=>v=i1)∧(AB false 1 x5 h fun v=>v=i5)∧(AB false 1 x5 h fun v=>v=i7)∧(AB false 1 x5 h fun v=>v=i9)∧(AB false 1 x5 h fun v=>v=j3)∧(AB false 1 x5 h fun v=>v=j5)∧(AB false 1 x5 h fun v=>v=k0)∧(AB false 1 x5 h fun v=>v=k5)∧((Call TP 66 [d7,(.int .u64 120),(.int .u64 2)] h fun d8 h=>((AB false 1 x5 h fun v=>v=g2)∧(AB false 1 x5 h fun v=>v=g4)∧(AB false 1 x5 h fun v=>v=g9)∧(AB false 1 x5 h fun v=>v=i1)∧(AB false 1 x5 h fun v=>v=i5)∧(AB false 1 x5 h fun v=>v=i7)∧(AB false 1 x5 h fun v=>v=i9)∧(AB false 1 x5 h fun v=>v=j3)∧(AB false 1 x5 h fun v=>v=j5)∧(AB false 1 x5 h fun v=>v=k0)∧(AB false 1 x5 h fun v=>v=k5)∧AD .shl d8 (.int .u64 16) fun d9=>AD .or d6 d9 fun g0=>AV .u32 g0 fun g1=>((Call TP 66 [g2,(.int .u64 24),(.int .u64 2)] h fun g3 h=>((AB false 1 x5 h fun v=>v=g4)∧(AB false 1 x5 h fun v=>v=g9)∧(AB false 1 x5 h fun v=>v=i1)∧(AB false 1 x5 h fun v=>v=i5)∧(AB false 1 x5 h fun v=>v=i7)∧(AB false 1 x5 h fun v=>v=i9)∧(AB false 1 x5 h fun v=>v=j3)∧(AB false 1 x5 h fun v=>v=j5)∧(AB false 1 x5 h fun v=>v=k0)∧(AB false 1 x5 h fun v=>v=k5)∧((Call TP 66 [g4,(.int .u64 122),(.int .u64 2)] h fun g5 h=>((AB false 1 x5 h fun v=>v=g9)∧(AB false 1 x5 h fun v=>v=i1)∧(AB false 1 x5 h fun v=>v=i5)∧(AB false 1 x5 h fun v=>v=i7)∧(AB false 1 x5 h fun v=>v=i9)∧(AB false 1 x5 h fun v=>v=j3)∧(AB false 1 x5 h fun v=>v=j5)∧(AB false 1 x5 h fun v=>v=k0)∧(AB false 1 x5 h fun v=>v=k5)∧AD .shl g5 (.int .u64 16) fun g6=>AD .or g3 g6 fun g7=>AV .u32 g7 fun g8=>((Call TP 66 [g9,(.int .u64 4),(.int .u64 4)] h fun i0 h=>((AB false 1 x5 h fun v=>v=i1)∧(AB false 1 x5 h fun v=>v=i5)∧(AB false 1 x5 h fun v=>v=i7)∧(AB false 1 x5 h fun v=>v=i9)∧(AB false 1 x5 h fun v=>v=j3)∧(AB false 1 x5 h fun v=>v=j5)∧(AB false 1 x5 h fun v=>v=k0)∧(AB false 1 x5 h fun v=>v=k5)∧((Call TP 66 [i1,(.int .u64 108),(.int .u64 4)] h fun i2 h=>((AB false 1 x5 h fun v=>v=i5)∧(AB false 1 x5 h fun v=>v=i7)∧(AB false 1 x5 h fun v=>v=i9)∧(AB false 1 x5 h fun v=>v=j3)∧(AB false 1 x5 h fun v=>v=j5)∧(AB false 1 x5 h fun v=>v=k0)∧(AB false 1 x5 h fun v=>v=k5)∧AD .shl i2 (.int .u64 32) fun i3=>AD .or i0 i3 fun i4=>((Call TP 66 [i5,(.int .u64 26),(.int .u64 2)] h fun i6 h=>((AB false 1 x5 h fun v=>v=i7)∧(AB false 1 x5 h fun v=>v=i9)∧(AB false 1 x5 h fun v=>v=j3)∧(AB false 1 x5 h fun v=>v=j5)∧(AB false 1 x5 h fun v=>v=k0)∧(AB false 1 x5 h fun v=>v=k5)∧((Call TP 66 [i7,(.int .u64 28),(.int .u64 4)] h fun i8 h=>((AB false 1 x5 h fun v=>v=i9)∧(AB false 1 x5 h fun v=>v=j3)∧(AB false 1 x5 h fun v=>v=j5)∧(AB false 1 x5 h fun v=>v=k0)∧(AB false 1 x5 h fun v=>v=k5)∧((Call TP 66 [i9,(.int .u64 116),(.int .u64 2)] h fun j0 h=>((AB false 1 x5 h fun v=>v=j3)∧(AB false 1 x5 h fun v=>v=j5)∧(AB false 1 x5 h fun v=>v=k0)∧(AB false 1 x5 h fun v=>v=k5)∧AD .shl j0 (.int .u64 32) fun j1=>AD .or i8 j1 fun j2=>((Call TP 66 [j3,(.int .u64 32),(.int .u64 4)] h fun j4 h=>((AB false 1 x5 h fun v=>v=j5)∧(AB false 1 x5 h fun v=>v=k0)∧(AB false 1 x5 h fun v=>v=k5)∧((Call TP 66 [j5,(.int .u64 8),(.int .u64 4)] h fun j6 h=>((AB false 1 x5 h fun v=>v=k0)∧(AB false 1 x5 h fun v=>v=k5)∧((Bj TP (.func (.func 176) #[] #[x6,x5]) [(.int .u64 140)] h fun j8 h=>((AB false 1 x5 h fun v=>v=k0)∧(AB false 1 x5 h fun v=>v=k5)∧((Call TP 177 [j6,j8] h fun j9 h=>((AB false 1 x5 h fun v=>v=k0)∧(AB false 1 x5 h fun v=>v=k5)∧((Call TP 66 [k0,(.int .u64 12),(.int .u64 4)] h fun k1 h=>((AB false 1 x5 h fun v=>v=k5)∧((Bj TP (.func (.func 176) #[] #[x6,x5]) [(.int .u64 132)] h fun k3 h=>((AB false 1 x5 h fun v=>v=k5)∧((Call TP 177 [k1,k3] h fun k4 h=>((AB false 1 x5 h fun v=>v=k5)∧((Call TP 66 [k5,(.int .u64 16),(.int .u64 4)] h fun k6 h=>((Bj TP (.func (.func 176) #[] #[x6,x5]) [(.int .u64 136)] h fun k8 h=>((Call TP 177 [k6,k8] h fun k9 h=>((Bj TP (.func (.func 176) #[] #[x6,x5]) [(.int .u64 144)] h fun m1 h=>((Bj TP (.func (.func 176) #[] #[x6,x5]) [(.int .u64 148)] h fun m3 h=>((Call TP 177 [m1,m3] h fun m4 h=>Ae (.struct [(0,1),(1,1),(2,1),(3,1),(4,1),(5,1),(6,1),(7,1),(8,2),(10,2),(12,2),(14,2),(16,1),(17,1),(18,1),(19,1),(20,1),(21,1),(22,1)]) (AG TP 81) [(0,x1),(1,d4),(2,g1),(3,g8),(4,i4),(5,i6),(6,j2),(7,j4),(8,j9),(9,k4),(10,k9),(11,m4)] fun m5=>AQ (AG TP 81) 81 h fun x8 h=>AJ 23 x8 m5 h fun h=>Gj Q x0 x1 x4 x5 x6 x8 h)
 ∧ (AQ (AG TP 81) 81 h fun x8 h=>Call TP 177 [m1,m3] h fun m4 h=>LV Q x0 x1 x4 x5 x6 x8 d4 g1 g8 i4 i6 j2 j4 j9 k4 k9 m4 h)))
 ∧ (AQ (AG TP 81) 81 h fun x8 h=>Bj TP (.func (.func 176) #[] #[x6,x5]) [(.int .u64 148)] h fun m3 h=>Call TP 177 [m1,m3] h fun m4 h=>LV Q x0 x1 x4 x5 x6 x8 d4 g1 g8 i4 i6 j2 j4 j9 k4 k9 m4 h)))
 ∧ (AQ (AG TP 81) 81 h fun x8 h=>IW Q x0 x1 x4 x5 x6 x8 d4 g1 g8 i4 i6 j2 j4 j9 k4 k9 h)))
 ∧ (AQ (AG TP 81) 81 h fun x8 h=>Call TP 177 [k6,k8] h fun k9 h=>IW Q x0 x1 x4 x5 x6 x8 d4 g1 g8 i4 i6 j2 j4 j9 k4 k9 h)))
 ∧ (AQ (AG TP 81) 81 h fun x8 h=>Bj TP (.func (.func 176) #[] #[x6,x5]) [(.int .u64 136)] h fun k8 h=>Call TP 177 [k6,k8] h fun k9 h=>IW Q x0 x1 x4 x5 x6 x8 d4 g1 g8 i4 i6 j2 j4 j9 k4 k9 h)))
 ∧ (AQ (AG TP 81) 81 h fun x8 h=>((AB false 1 x5 h fun v=>v=k5)∧KJ Q x0 x1 x4 x5 x6 x8 d4 g1 g8 i4 i6 j2 j4 j9 k4 k5 h)))))
 ∧ (AQ (AG TP 81) 81 h fun x8 h=>((AB false 1 x5 h fun v=>v=k5)∧Call TP 177 [k1,k3] h fun k4 h=>((AB false 1 x5 h fun v=>v=k5)∧KJ Q x0 x1 x4 x5 x6 x8 d4 g1 g8 i4 i6 j2 j4 j9 k4 k5 h))))))
 ∧ (AQ (AG TP 81) 81 h fun x8 h=>((AB false 1 x5 h fun v=>v=k5)∧Kl Q x0 x1 x4 x5 x6 x8 d4 g1 g8 i4 i6 j2 j4 j9 k1 k5 h)))))
 ∧ (AQ (AG TP 81) 81 h fun x8 h=>((AB false 1 x5 h fun v=>v=k0)∧(AB false 1 x5 h fun v=>v=k5)∧Call TP 66 [k0,(.int .u64 12),(.int .u64 4)] h fun k1 h=>((AB false 1 x5 h fun v=>v=k5)∧Kl Q x0 x1 x4 x5 x6 x8 d4 g1 g8 i4 i6 j2 j4 j9 k1 k5 h))))))
 ∧ (AQ (AG TP 81) 81 h fun x8 h=>((AB false 1 x5 h fun v=>v=k0)∧(AB false 1 x5 h fun v=>v=k5)∧Nq Q x0 x1 x4 x5 x6 x8 d4 g1 g8 i4 i6 j2 j4 j6 j8 k0 k5 h)))))
 ∧ (AQ (AG TP 81) 81 h fun x8 h=>((AB false 1 x5 h fun v=>v=k0)∧(AB false 1 x5 h fun v=>v=k5)∧M7 Q x0 x1 x4 x5 x6 x8 d4 g1 g8 i4 i6 j2 j4 j6 k0 k5 h)))))
 ∧ (AQ (AG TP 81) 81 h fun x8 h=>((AB false 1 x5 h fun v=>v=j5)∧(AB false 1 x5 h fun v=>v=k0)∧(AB false 1 x5 h fun v=>v=k5)∧Np Q x0 x1 x4 x5 x6 x8 d4 g1 g8 i4 i6 j2 j4 j5 k0 k5 h)))))
 ∧ (AQ (AG TP 81) 81 h fun x8 h=>((AB false 1 x5 h fun v=>v=j3)∧(AB false 1 x5 h fun v=>v=j5)∧(AB false 1 x5 h fun v=>v=k0)∧(AB false 1 x5 h fun v=>v=k5)∧M2 Q x0 x1 x4 x5 x6 x8 d4 g1 g8 i4 i6 j2 j3 j5 k0 k5 h)))))
 ∧ (AQ (AG TP 81) 81 h fun x8 h=>((AB false 1 x5 h fun v=>v=i9)∧(AB false 1 x5 h fun v=>v=j3)∧(AB false 1 x5 h fun v=>v=j5)∧(AB false 1 x5 h fun v=>v=k0)∧(AB false 1 x5 h fun v=>v=k5)∧Ml Q x0 x1 x4 x5 x6 x8 d4 g1 g8 i4 i6 i8 i9 j3 j5 k0 k5 h)))))
 ∧ (AQ (AG TP 81) 81 h fun x8 h=>((AB false 1 x5 h fun v=>v=i7)∧(AB false 1 x5 h fun v=>v=i9)∧(AB false 1 x5 h fun v=>v=j3)∧(AB false 1 x5 h fun v=>v=j5)∧(AB false 1 x5 h fun v=>v=k0)∧(AB false 1 x5 h fun v=>v=k5)∧Jl Q x0 x1 x4 x5 x6 x8 d4 g1 g8 i4 i6 i7 i9 j3 j5 k0 k5 h)))))
 ∧ (AQ (AG TP 81) 81 h fun x8 h=>((AB false 1 x5 h fun v=>v=i5)∧(AB false 1 x5 h fun v=>v=i7)∧(AB false 1 x5 h fun v=>v=i9)∧(AB false 1 x5 h fun v=>v=j3)∧(AB false 1 x5 h fun v=>v=j5)∧(AB false 1 x5 h fun v=>v=k0)∧(AB false 1 x5 h fun v=>v=k5)∧Jg Q x0 x1 x4 x5 x6 x8 d4 g1 g8 i4 i5 i7 i9 j3 j5 k0 k5 h)))))
 ∧ (AQ (AG TP 81) 81 h fun x8 h=>((AB false 1 x5 h fun v=>v=i1)∧(AB false 1 x5 h fun v=>v=i5)∧(AB false 1 x5 h fun v=>v=i7)∧(AB false 1 x5 h fun v=>v=i9)∧(AB false 1 x5 h fun v=>v=j3)∧(AB false 1 x5 h fun v=>v=j5)∧(AB false 1 x5 h fun v=>v=k0)∧(AB false 1 x5 h fun v=>v=k5)∧Jw Q x0 x1 x4 x5 x6 x8 d4 g1 g8 i0 i1 i5 i7 i9 j3 j5 k0 k5 h)))))
 ∧ (AQ (AG TP 81) 81 h fun x8 h=>((AB false 1 x5 h fun v=>v=g9)∧(AB false 1 x5 h fun v=>v=i1)∧(AB false 1 x5 h fun v=>v=i5)∧(AB false 1 x5 h fun v=>v=i7)∧(AB false 1 x5 h fun v=>v=i9)∧(AB false 1 x5 h fun v=>v=j3)∧(AB false 1 x5 h fun v=>v=j5)∧(AB false 1 x5 h fun v=>v=k0)∧(AB false 1 x5 h fun v=>v=k5)∧Jc Q x0 x1 x4 x5 x6 x8 d4 g1 g8 g9 i1 i5 i7 i9 j3 j5 k0 k5 h)))))
 ∧ (AQ (AG TP 81) 81 h fun x8 h=>((AB false 1 x5 h fun v=>v=g4)∧(AB false 1 x5 h fun v=>v=g9)∧(AB false 1 x5 h fun v=>v=i1)∧(AB false 1 x5 h fun v=>v=i5)∧(AB false 1 x5 h fun v=>v=i7)∧(AB false 1 x5 h fun v=>v=i9)∧(AB false 1 x5 h fun v=>v=j3)∧(AB false 1 x5 h fun v=>v=j5)∧(AB false 1 x5 h fun v=>v=k0)∧(AB false 1 x5 h fun v=>v=k5)∧Jd Q x0 x1 x4 x5 x6 x8 d4 g1 g3 g4 g9 i1 i5 i7 i9 j3 j5 k0 k5 h)))))
 ∧ (AQ (AG TP 81) 81 h fun x8 h=>((AB false 1 x5 h fun v=>v=g2)∧(AB false 1 x5 h fun v=>v=g4)∧(AB false 1 x5 h fun v=>v=g9)∧(AB false 1 x5 h fun v=>v=i1)∧(AB false 1 x5 h fun v=>v=i5)∧(AB false 1 x5 h fun v=>v=i7)∧(AB false 1 x5 h fun v=>v=i9)∧(AB false 1 x5 h fun v=>v=j3)∧(AB false 1 x5 h fun v=>v=j5)∧(AB false 1 x5 h fun v=>v=k0)∧(AB false 1 x5 h fun v=>v=k5)∧Ju Q x0 x1 x4 x5 x6 x8 d4 g1 g2 g4 g9 i1 i5 i7 i9 j3 j5 k0 k5 h)))))
 ∧ (AQ (AG TP 81) 81 h fun x8 h=>((AB false 1 x5 h fun v=>v=d7)∧(AB false 1 x5 h fun v=>v=g2)∧(AB false 1 x5 h fun v=>v=g4)∧(AB false 1 x5 h fun v=>v=g9)∧(AB false 1 x5 h fun v=>v=i1)∧(AB false 1 x5 h fun v=>v=i5)∧(AB false 1 x5 h fun v=>v=i7)∧(AB false 1 x5 h fun v=>v=i9)∧(AB false 1 x5 h fun v=>v=j3)∧(AB false 1 x5 h fun v=>v=j5)∧(AB false 1 x5 h fun v=>v=k0)∧(AB false 1 x5 h fun v=>v=k5)∧Jb Q x0 x1 x4 x5 x6 x8 d4 d6 d7 g2 g4 g9 i1 i5 i7 i9 j3 j5 k0 k5 h)))))
 ∧ (AQ (AG TP 81) 81 h fun x8 h=>((AB false 1 x5 h fun v=>v=d5)∧(AB false 1 x5 h fun v=>v=d7)∧(AB false 1 x5 h fun v=>v=g2)∧(AB false 1 x5 h fun v=>v=g4)∧(AB false 1 x5 h fun v=>v=g9)∧(AB false 1 x5 h fun v=>v=i1)∧(AB false 1 x5 h fun v=>v=i5)∧(AB false 1 x5 h fun v=>v=i7)∧(AB false 1 x5 h fun v=>v=i9)∧(AB false 1 x5 h fun v=>v=j3)∧(AB false 1 x5 h fun v=>v=j5)∧(AB false 1 x5 h fun v=>v=k0)∧(AB false 1 x5 h fun v=>v=k5)∧Jh Q x0 x1 x4 x5 x6 x8 d4 d5 d7 g2 g4 g9 i1 i5 i7 i9 j3 j5 k0 k5 h)))))
 ∧ (AQ (AG TP 81) 81 h fun x8 h=>((AB false 1 x5 h fun v=>v=d2)∧(AB false 1 x5 h fun v=>v=d5)∧(AB false 1 x5 h fun v=>v=d7)∧(AB false 1 x5 h fun v=>v=g2)∧(AB false 1 x5 h fun v=>v=g4)∧(AB false 1 x5 h fun v=>v=g9)∧(AB false 1 x5 h fun v=>v=i1)∧(AB false 1 x5 h fun v=>v=i5)∧(AB false 1 x5 h fun v=>v=i7)∧(AB false 1 x5 h fun v=>v=i9)∧(AB false 1 x5 h fun v=>v=j3)∧(AB false 1 x5 h fun v=>v=j5)∧(AB false 1 x5 h fun v=>v=k0)∧(AB false 1 x5 h fun v=>v=k5)∧Call TP 66 [d2,(.int .u64 0),(.int .u64 2)] h fun d3 h=>((AB false 1 x5 h fun v=>v=d5)∧(AB false 1 x5 h fun v=>v=d7)∧(AB false 1 x5 h fun v=>v=g2)∧(AB false 1 x5 h fun v=>v=g4)∧(AB false 1 x5 h fun v=>v=g9)∧(AB false 1 x5 h fun v=>v=i1)∧(AB false 1 x5 h fun v=>v=i5)∧(AB false 1 x5 h fun v=>v=i7)∧(AB false 1 x5 h fun v=>v=i9)∧(AB false 1 x5 h fun v=>v=j3)∧(AB false 1 x5 h fun v=>v=j5)∧(AB false 1 x5 h fun v=>v=k0)∧(AB false 1 x5 h fun v=>v=k5)∧AV .u16 d3 fun d4=>Jh Q x0 x1 x4 x5 x6 x8 d4 d5 d7 g2 g4 g9 i1 i5 i7 i9 j3 j5 k0 k5 h))))
def AES (x0 x1:Value)(h:H)(Q:Kt):Prop:=
 AQ (AG TP 81) 81 h fun x4 h=>Call TP 128 [x0,x1] h fun a7 h=>AQ (AG TP 30) 30 h fun x5 h=>AJ 1 x5 a7 h fun h=>AQ (AG TP 48) 48 h fun x6 h=>AJ 1 x6 (.int .u64 0) h fun h=>AE x0 fun a9=>AC 7 a9 fun b0=>AB false 1 b0 h fun b1=>AD .gtr b1 (.int .u64 128) fun b2=>AK b2
 (AB false 1 x5 h fun b3=>Call TP 66 [b3,(.int .u64 128),(.int .u64 2)] h fun b4 h=>AJ 1 x6 b4 h fun h=>AB false 1 x6 h fun b6=>AD .add (.int .u64 128) b6 fun b7=>AE x0 fun b9=>AC 7 b9 fun c0=>AB false 1 c0 h fun c1=>AD .leq b7 c1 fun c2=>Az c2 true (AB false 1 x6 h fun c4=>AD .rem c4 (.int .u64 4) fun c5=>AD .eql c5 (.int .u64 0) fun c6=>Call TP 65 [x0,c6,(.string ⟨#[101,120,116,114,97,32,115,105,122,101,32,111,102,32,105,110,111,100,101]⟩),x1] h fun c9 h=>Iw Q x0 x1 x4 x5 x6 h) (Call TP 65 [x0,(.bool false),(.string ⟨#[101,120,116,114,97,32,115,105,122,101,32,111,102,32,105,110,111,100,101]⟩),x1] h fun c9 h=>Iw Q x0 x1 x4 x5 x6 h))
 (Iw Q x0 x1 x4 x5 x6 h)
def AGQ (Q:Kt)(r:RS):Nat→DJ:=tab [(131061,.lp [0,1,4,5,8,139,140] [11,141] fun s e l h=>Ii Q (u2 s) (e 0) (e 1) (e 4) (e 5) (e 8) (e 139) (e 140) (gl l 0) (gl l 1) h),
 (8181,.lp [0,1,4,5,6,8,117,118] [119] fun s e l h=>P0 Q (u1 s) (e 0) (e 1) (e 4) (e 5) (e 6) (e 8) (e 117) (e 118) (gl l 0) h),
 (254,.jn fun e h=>Gj Q (e 0) (e 1) (e 4) (e 5) (e 6) (e 8) h),
 (62,.jn fun e h=>Iw Q (e 0) (e 1) (e 4) (e 5) (e 6) h)]
theorem SL (x0 x1:Value)(h:H)(Q:Kt)(x:AES x0 x1 h Q):Call TP 126 [x0,x1] h Q:=Bb (AGQ Q) Tryz.func126 (by kernel_rfl) x
end
end Go.Proofs.YtollddkkdgoonaaGreatDoor
