/- A part of a proof over images that are written and read. No condition; a step. -/
import Derived.Test.YtollddkkdgoonaaGreatDoorM18
namespace Go.Proofs.YtollddkkdgoonaaGreatDoor
open Go
set_option linter.unusedVariables false
set_option linter.unusedSimpArgs false
set_option maxRecDepth 100000
section
variable {h:H} {k:Value→Prop} {kt Q:Kt} {x y z r A:Res} {v:VS}
attribute [local irreducible] AK Az AQ BB Ae AY AH AM VS.cells XN.cells
theorem AGT {x1:Value}(w:AN (v.res+x) h)(K:Q (.tuple #[]) h):Wv Q (Pt v.vb) x1 (.int .u64 0) h:=by
 unfold Wv
 refine Ba (fun m u h'=>h'=h∧((m=1∧u=.int .u64 0)∨(m=0∧u=.int .u64 ((1:Nat):Int)))) 1 ⟨rfl,.inl ⟨rfl,rfl⟩⟩ ?_
 rintro rec m u h' ⟨rfl,hh⟩ hrec
 unfold VQ Unf Ucm Ucg Ucl
 rw[AIw]
 refine AW w VS.g4 ?_
 rcases hh with⟨rfl,rfl⟩|⟨rfl,rfl⟩
 ·have c1:(AD .lss (.int .u64 0) (.int .u64 1))=fun k=>k (.bool true):=funext fun k=>by rw[AT];rfl
  have c2:(AD .mul (.int .u64 0) (.int .u64 32768))=fun k=>k (.int .u64 0):=funext fun k=>by rw[Bc];rfl
  have c3:(AD .gtr (.int .u64 0) (.int .u64 0))=fun k=>k (.bool false):=funext fun k=>by rw[Ao];rfl
  have c4:(AD .add (.int .u64 0) (.int .u64 1))=fun k=>k (.int .u64 ((1:Nat):Int)):=funext fun k=>by rw[A0];rfl
  simp only[c1,Ak]
  rw[AIw]
  refine AW w VS.g5 ?_
  simp only[c2,c3,SR]
  unfold Oc Unf Ucl Ucg
  simp only[c4,AU]
  exact hrec 0 _ _ ⟨rfl,.inr ⟨rfl,rfl⟩⟩ (by omega)
 ·have c1:(AD .lss (.int .u64 ((1:Nat):Int)) (.int .u64 1))=fun k=>k (.bool false):=funext fun k=>by rw[AT];rfl
  simp only[c1,AU]
  exact K
end
section
variable {h:H} {k:Value→Prop} {kt Q:Kt} {x y z r A:Res} {v:VS}
attribute [local irreducible] AK Az AQ BB Ae AY AH AM VS.cells XN.cells
theorem Sk {T:TypeId}{v u:Value}{n i:Nat}{kk:IntKind}{vs:List Value}{F:Value→Value→Prop}(d:Vec T 1 v n vs r)(w:AN (r+x) h)(hu:vs[i]? = some u)(K:∀ a,(AB false 1 a h fun v=>v=u)→F a u):AI (.slice 1) v (.int kk (i:Int)) fun a=>AB false 1 a h fun u=>F a u:=by
 have hl:=d.len.2
 have hi:i<vs.length:=(A02.1 hu).1
 cases d with
 | nil=>simp at hi
 | own hn hc=>
  rename_i b c all
  have:(⟨all⟩:Array Value)[i]? = some u:=by
   rw[A41] at hu
   split at hu
   ·simpa using hu
   ·cases hu
  rw[Cg (by omega),A29,AF w,this]
  exact K _ (by rw[AF w,this];exact rfl)
theorem ABQ {a b:Bool}:Bq .bool false false h (.bool a) (.bool b) k=k (.bool (a == b)):=by simp[Bq,GG]
def cntN (p:Nat→Bool)(n:Nat):Nat:=((List.range n).filter p).length
theorem Df (p:Nat→Bool)(n:Nat):cntN p (n+1)=if p n then cntN p n+1 else cntN p n:=by
 unfold cntN
 rw[List.range_succ,B08,A01]
 cases hp:p n<;>simp[hp]
theorem Nu (p:Nat→Bool)(n:Nat):cntN p n≤n:=by
 unfold cntN
 exact B28 (B38 _ _) (by rw[List.length_range];exact A07 _)
def mkB (nb:Nat)(ow:Bs)(i:Nat):Bool:=decide (nb≤i)||decide (ow.getD i 0≠0)
structure MarkOK (I:Bs) (nb ipg:Nat) (ow:Bs) (U:List Bool) (dirs:Nat) (sb:Bs):Prop where
 bb:leL (dscL I) 0 4<nb
 ib:leL (dscL I) 4 4<nb
 blk:∀ i,i<32768→bitL (blkL I (leL (dscL I) 0 4)) i=mkB nb ow i
 ino:∀ i,i<ipg→bitL (blkL I (leL (dscL I) 4 4)) i=U.getD (i+1) false
 fre:∀ i,i<ipg→U.getD (i+1) false=false→leL (rawL I (i+1)) 0 2=0∧leL (rawL I (i+1)) 26 2=0
 g12:leL (dscL I) 12 2=cntN (fun i=>!mkB nb ow i) 32768
 g14:leL (dscL I) 14 2=cntN (fun i=>decide (i<ipg) && !U.getD (i+1) false) 32768
 g16:leL (dscL I) 16 2=dirs
 s12:leL sb 12 4=cntN (fun i=>!mkB nb ow i) 32768
 s344:leL sb 344 4=0
 s16:leL sb 16 4=cntN (fun i=>decide (i<ipg) && !U.getD (i+1) false) 32768
 s84:leL sb 84 4=11
section
variable {N:Nat} {U:List Bool} {x1 x4 x5 x9 x10 x12 x13:Value} {sb bb ib:Bs} {dirs F E:Nat} {r4 r5:Res} {rec2:Value→Value→Value→H→Prop}
theorem AFb {rec3:Value→Value→Value→H→Prop}{i c1 c2:Nat}(ok:v.OK x)(hN:U.length=v.ipg+1)(hit:itL v.I*4096+v.ipg*256≤v.I.length)(hi:i<32768)(hc2:c2≤i)
  (hib:i<v.ipg→bitL ib i=U.getD (i+1) false) (hlib:4096≤ib.length) (hlib2:ib.length<1000000) (hfr:i<v.ipg→U.getD (i+1) false=false→leL (rawL v.I (i+1)) 0 2=0∧leL (rawL v.I (i+1)) 26 2=0)
  (d2:RdX x x13 ib) (a4:Vec 4 1 x4 (v.ipg+1) (bC U) r4) (w:AN (v.res+(r4+(y+x))) h)
  (K:rec3 (.int .u64 (c1:Nat)) (.int .u64 ((if decide (i<v.ipg) && !U.getD (i+1) false then c2+1 else c2:Nat):Nat)) (.int .u64 (i+1:Nat)) h) :
  Ln Q rec2 rec3 (Pt v.vb) x1 x4 x5 x9 x10 (.int .u64 ((0:Nat):Int)) x12 x13 (.int .u64 (c1:Nat)) (.int .u64 (c2:Nat)) (.int .u64 (i:Nat)) h:=by
 have hip:=ok.ipg
 have m1:∀ k:Value→Prop,AD .mul (.int .u64 ((0:Nat):Int)) (.int .u64 (v.ipg:Nat)) k=k (.int .u64 ((0:Nat):Int)):=fun k=>by rw[Qc,A92,CU (by omega)]
 have m2:∀ k:Value→Prop,AD .add (.int .u64 ((0:Nat):Int)) (.int .u64 (i:Nat)) k=k (.int .u64 (i:Nat)):=fun k=>by rw[AI5,A29,CU (by omega)]
 have m3:∀ k:Value→Prop,AD .add (.int .u64 (i:Nat)) (.int .u64 1) k=k (.int .u64 (i+1:Nat)):=fun k=>by rw[BN (n:=1),CU (by omega)]
 have m4:∀ k:Value→Prop,AD .add (.int .u64 (c2:Nat)) (.int .u64 1) k=k (.int .u64 (c2+1:Nat)):=fun k=>by rw[BN (n:=1),CU (by omega)]
 unfold Ln Unf Ucm Uld Ucl Ukp Uil Unt Ucg
 rw[AIw]
 refine AW w VS.g6 ?_
 simp only[m1,m2,m3]
 rw[AIw]
 refine AW w VS.g6 ?_
 rw[AT]
 refine AX (fun hc=>?_) (fun hc=>?_)
 ·have hlt:i<v.ipg:=by omega
  rw[A04 hlt,Bool.true_and] at K
  have w4:=w.cast (Kq1 _ _ _)
  refine Sk a4 w4 (NF (i:=i+1) (by omega)) fun a ha=>?_
  refine Sh (AEz d2.addR.addR.addR w (by omega) (by omega) ?_)
  refine⟨ha,?_⟩
  rw[ABQ,hib hlt,beq_self_eq_true]
  refine Al (Da ?_)
  refine Bu a4 w4 (NF (i:=i+1) (by omega)) ?_
  rw[F1]
  cases hu:U.getD (i+1) false with
  | true=>rw[hu] at K;rw[A91,AU];exact K
  | false=>
   rw[hu] at K
   obtain⟨f1,f2⟩:=hfr hlt hu
   have hrl:(rawL v.I (i+1)).length<1000000:=by unfold rawL;rw[A20];omega
   have w5:=w.cast (Kq2 _ _ _ _)
   have e0:∀ k:Value→Prop,AD .eql (.int .u64 ((0:Nat):Int)) (.int .u64 0) k=k (.bool true):=fun k=>by rw[Aa];rfl
   rw[B44,Ak]
   simp only[m4]
   refine Jj (AAg ok (by omega) (by omega) hit w5 fun bv d=>?_)
   refine DF (p:=0) (n:=2) d.addR.addR w5 (by decide) (by decide) hrl ?_
   rw[f1,e0,Cq]
   refine Jj (AAg ok (by omega) (by omega) hit w5 fun bv d=>?_)
   refine DF (p:=26) (n:=2) d.addR.addR w5 (by decide) (by decide) hrl ?_
   rw[f2,e0]
   refine Al (Da ?_)
   exact K
 ·rw[A08 (by omega),Bool.false_and] at K
  exact K
theorem AE9 {dirs:Nat}(ok:v.OK x)(hN:U.length=v.ipg+1)(hit:itL v.I*4096+v.ipg*256≤v.I.length)(mk:MarkOK v.I v.nb v.ipg v.ow U dirs sb)(hlen:v.nb*4096≤v.I.length)
  (d1:RdX x x12 (blkL v.I (leL (dscL v.I) 0 4))) (d2:RdX x x13 (blkL v.I (leL (dscL v.I) 4 4))) (a4:Vec 4 1 x4 (v.ipg+1) (bC U) r4) (a5:Vec 48 1 x5 1 (nC [dirs]) r5) (w:AN (v.res+(r4+(r5+(z+x)))) h)
  (K:rec2 (.int .u64 (cntN (fun i=>!mkB v.nb v.ow i) 32768:Nat)) (.int .u64 (cntN (fun i=>decide (i<v.ipg) && !U.getD (i+1) false) 32768:Nat)) (.int .u64 ((1:Nat):Int)) h) :
  Wh Q rec2 (Pt v.vb) x1 x4 x5 (.int .u64 ((0:Nat):Int)) (.int .u64 ((0:Nat):Int)) (.int .u64 ((0:Nat):Int)) x12 x13 (.int .u64 ((0:Nat):Int)) (.int .u64 ((0:Nat):Int)) (.int .u64 ((0:Nat):Int)) h:=by
 have hip:=ok.ipg
 have hnb:=ok.nb
 have how:=ok.ow
 have lb:∀ n,n<v.nb→(blkL v.I n).length=4096:=fun n hn=>by
  have:(n+1)*4096≤v.nb*4096:=A48 _ hn
  unfold blkL;rw[A20,A27];omega
 have lb1:=lb _ mk.bb
 have lb2:=lb _ mk.ib
 unfold Wh
 refine MA (fun m u0 u1 u2 h'=>h'=h∧∃ i,m+i=32768∧u0=.int .u64 (cntN (fun i=>!mkB v.nb v.ow i) i:Nat)∧u1=.int .u64 (cntN (fun i=>decide (i<v.ipg) && !U.getD (i+1) false) i:Nat)∧u2=.int .u64 (i:Nat)) 32768 ⟨rfl,0,rfl,rfl,rfl,rfl⟩ ?_
 rintro rec3 m u0 u1 u2 h' ⟨rfl,i,hi,rfl,rfl,rfl⟩ hrec
 have z0:∀ {op:BinOp},True:=fun {_}=>trivial
 have q1:=Nu (fun i=>!mkB v.nb v.ow i) i
 have q2:=Nu (fun i=>decide (i<v.ipg) && !U.getD (i+1) false) i
 unfold VB Ucm Unf Ucf Uil Ucl Uld Ukp
 rw[AT]
 refine AX (fun hc=>?_) (fun hc=>?_)
 ·have hlt:i<32768:=by omega
  have m1:∀ k:Value→Prop,AD .mul (.int .u64 ((0:Nat):Int)) (.int .u64 32768) k=k (.int .u64 ((0:Nat):Int)):=fun k=>by rw[Bc];rfl
  have m2:∀ k:Value→Prop,AD .add (.int .u64 ((0:Nat):Int)) (.int .u64 (i:Nat)) k=k (.int .u64 (i:Nat)):=fun k=>by rw[AI5,A29,CU (by omega)]
  have m5:∀ k:Value→Prop,AD .geq (.int .u64 (i:Nat)) (.int .u64 32768) k=k (.bool false):=fun k=>by rw[BD,A08 (by omega)]
  have m6:∀ k:Value→Prop,AD .lss (.int .u64 (i:Nat)) (.int .u64 32768) k=k (.bool true):=fun k=>by rw[AT,A04 (by omega)]
  have j2:∀ c1,c1=cntN (fun i=>!mkB v.nb v.ow i) (i+1)→Ln Q rec2 rec3 (Pt v.vb) x1 x4 x5 (.int .u64 ((0:Nat):Int)) (.int .u64 ((0:Nat):Int)) (.int .u64 ((0:Nat):Int)) x12 x13 (.int .u64 (c1:Nat)) (.int .u64 (cntN (fun i=>decide (i<v.ipg) && !U.getD (i+1) false) i:Nat)) (.int .u64 (i:Nat)) h':=fun c1 hc1=>by
   refine AFb (y:=r5+z) ok hN hit hlt q2 (mk.ino i) (by omega) (by omega) (mk.fre i) d2 a4 (w.cast (by ac_rfl)) ?_
   refine hrec (m-1) _ _ _ _ ⟨rfl,i+1,by omega,by rw[hc1],?_,rfl⟩ (by omega)
   rw[Df]
  have j4:Lo Q rec2 rec3 (Pt v.vb) x1 x4 x5 (.int .u64 ((0:Nat):Int)) (.int .u64 ((0:Nat):Int)) (.int .u64 ((0:Nat):Int)) x12 x13 (.int .u64 (cntN (fun i=>!mkB v.nb v.ow i) i:Nat)) (.int .u64 (cntN (fun i=>decide (i<v.ipg) && !U.getD (i+1) false) i:Nat)) (.int .u64 (i:Nat)) (.int .u64 (i:Nat)) (.bool (mkB v.nb v.ow i)) h':=by
   unfold Lo Unf Ucm Ucl
   rw[AIw]
   refine AW w VS.g5 ?_
   rw[m6,Ak]
   refine Sh (AEz d1.addR.addR.addR.addR w (by omega) (by omega) ?_)
   rw[ABQ,mk.blk i hlt,beq_self_eq_true]
   refine Al (Da ?_)
   unfold Tx Unt
   rw[F1]
   have cs:=Df (fun i=>!mkB v.nb v.ow i) i
   cases hm:mkB v.nb v.ow i with
   | true=>rw[hm] at cs;rw[A91,AU];exact j2 _ (by rw[cs];rfl)
   | false=>
    rw[hm] at cs
    rw[B44,Ak,BN (n:=1),CU (by omega)]
    exact j2 _ (by rw[cs];rfl)
  rw[AIw]
  refine AW w VS.g5 ?_
  simp only[m1,m2]
  rw[AIw]
  refine AW w VS.g5 ?_
  rw[m5,Cr,AIw]
  refine AW w VS.g1 ?_
  rw[BD]
  refine J2 (fun hb=>?_) (fun hb=>?_)
  ·have hib:i<v.nb:=by omega
   rw[AIw]
   refine AW w VS.g9 ?_
   rw[Cg hib,A29,AF w,G9]
   obtain⟨c,hcc⟩:∃ c,v.ow[i]? = some c:=⟨_,A00 (by omega)⟩
   rw[hcc,A80,Fi]
   have e2:∀ k:Value→Prop,AD .neq (bc c) (.int .u8 0) k=k (.bool (decide (c≠0))):=fun k=>by
    unfold bc;rw[A3]
    congr 2
    apply decide_eq_decide.2
    constructor
    ·intro hh hz;exact hh (by rw[hz];rfl)
    ·intro hh hz;exact hh (A97.1 (by simpa using hz))
   rw[e2]
   have:mkB v.nb v.ow i=decide (c≠0):=by
    unfold mkB
    rw[A08 (by omega),Bool.false_or,A10,hcc];rfl
   rw[←this]
   exact j4
  ·have:mkB v.nb v.ow i=true:=by
    unfold mkB
    rw[A04 (by omega),Bool.true_or]
   rw[this] at j4
   exact j4
 ·have:i=32768:=by omega
  subst this
  have g5:(.int .u64 ((0:Nat):Int):Value)=.int .u64 ((0:Nat):Int):=rfl
  refine G7 (UN (lo:=12) (n:=2) ok.mono.mono.mono (w.cast rfl) (by omega) (by omega) ?_)
  rw[mk.g12,Aa,A04 rfl]
  refine Al (Da ?_)
  refine G7 (UN (lo:=14) (n:=2) ok.mono.mono.mono (w.cast rfl) (by omega) (by omega) ?_)
  rw[mk.g14,Aa,A04 rfl]
  refine Al (Da ?_)
  refine Sk a5 (w.cast (Kq0 _ _ _ _)) (HZ (i:=0) (by simp)) fun a ha=>?_
  refine G7 (UN (lo:=16) (n:=2) ok.mono.mono.mono (w.cast rfl) (by omega) (by omega) ?_)
  refine⟨ha,?_⟩
  rw[mk.g16,show ([dirs].getD 0 0)=dirs from rfl,Aa,A04 rfl]
  refine Al (Da ?_)
  rw[AI5,A29,CU (by omega),AI5,A29,CU (by omega),BN (n:=1),CU (by omega)]
  exact K
end
end
section
variable {h:H} {k:Value→Prop} {kt Q:Kt} {x y z r A:Res} {v:VS}
attribute [local irreducible] AK Az AQ BB Ae AY AH AM VS.cells XN.cells
section
variable {N:Nat} {U:List Bool} {x4 x5 sv:Value} {sb:Bs} {dirs:Nat} {r4 r5:Res}
theorem AFn (ok:v.OK x)(d:RdX x sv sb)(hsb:sb.length=1024)(hN:U.length=v.ipg+1)(hit:itL v.I*4096+v.ipg*256≤v.I.length)(mk:MarkOK v.I v.nb v.ipg v.ow U dirs sb)
  (a4:Vec 4 1 x4 (v.ipg+1) (bC U) r4) (a5:Vec 48 1 x5 1 (nC [dirs]) r5) (w:AN (v.res+(r4+(r5+(z+x)))) h) (K:Q (.tuple #[]) h) :
  Ta Q (Pt v.vb) sv x4 x5 (.int .u64 0) (.int .u64 0) (.int .u64 0) h:=by
 have wa:=w.cast (ALG _ _ _ _ _)
 unfold Ta
 refine MA (fun m u0 u1 u2 h'=>h'=h∧((m=1∧u0=.int .u64 ((0:Nat):Int)∧u1=.int .u64 ((0:Nat):Int)∧u2=.int .u64 ((0:Nat):Int))∨(m=0∧u0=.int .u64 (cntN (fun i=>!mkB v.nb v.ow i) 32768:Nat)∧u1=.int .u64 (cntN (fun i=>decide (i<v.ipg) && !U.getD (i+1) false) 32768:Nat)∧u2=.int .u64 ((1:Nat):Int)))) 1 ⟨rfl,.inl ⟨rfl,rfl,rfl,rfl⟩⟩ ?_
 rintro rec2 m u0 u1 u2 h' ⟨rfl,hh⟩ hrec
 unfold VO Unf Ucm Ucl
 rw[AIw]
 refine AW w VS.g4 ?_
 rcases hh with⟨rfl,rfl,rfl,rfl⟩|⟨rfl,rfl,rfl,rfl⟩
 ·have c1:∀ k:Value→Prop,AD .lss (.int .u64 ((0:Nat):Int)) (.int .u64 1) k=k (.bool true):=fun k=>by rw[AT];rfl
  rw[c1,Ak]
  refine Su (AFM ok.mono (wa.cast (by ac_rfl:_=v.res+((r4+(r5+z))+x))) ?_)
  refine NG (ABw ok mk.bb wa fun bv d1=>?_)
  refine Ss (AFX ok.mono wa ?_)
  refine NG (ABw ok mk.ib wa fun bv2 d2=>?_)
  exact AE9 ok hN hit mk ok.len d1 d2 a4 a5 w (hrec 0 _ _ _ _ ⟨rfl,.inr ⟨rfl,rfl,rfl,rfl⟩⟩ (by omega))
 ·have c1:∀ k:Value→Prop,AD .lss (.int .u64 ((1:Nat):Int)) (.int .u64 1) k=k (.bool false):=fun k=>by rw[AT];rfl
  have q1:=Nu (fun i=>!mkB v.nb v.ow i) 32768
  rw[c1,AU]
  refine DF (p:=12) (n:=4) d.addR.addR wa (by decide) (by decide) (by omega) ?_
  refine DF (p:=344) (n:=4) d.addR.addR wa (by decide) (by decide) (by omega) ?_
  have c7:∀ k:Value→Prop,AD .shl (.int .u64 ((0:Nat):Int)) (.int .u64 32) k=k (.int .u64 ((0:Nat):Int)):=fun k=>by rw[Hm]
  rw[mk.s12,mk.s344,c7,V2 (by omega) (by omega),Nat.or_zero,Aa,A04 rfl]
  refine Al (Da ?_)
  refine DF (p:=16) (n:=4) d.addR.addR wa (by decide) (by decide) (by omega) ?_
  rw[mk.s16,Aa,A04 rfl]
  refine Al (Da ?_)
  exact AGT wa K
theorem s69 {os:List AA}{cs:List Value}(ok:v.OK x)(d:RdX x sv sb)(hsb:sb.length=1024)(hit:itL v.I*4096+v.ipg*256≤v.I.length)
  (hos:∀ o∈os,1≤o.X.num∧o.X.num≤v.ipg∧o.X.mode<65536) (dv:VecX 81 23 v.iv os.length cs x) (ov:OutV y cs os) (hn:os.length<1000000)
  (mk:MarkOK v.I v.nb v.ipg v.ow (mkU (usd 10 (List.replicate (v.ipg+1) false)) os) (cntD os) sb) (w:AN (v.res+x) h) (K:∀ z h,AN (v.res+(z+x)) h→Q (.tuple #[]) h) :
  f69 (Pt v.vb) sv h Q:=by
 have hip:=ok.ipg
 have hi1:=ok.ipg1
 have f1:∀ k:Value→Prop,AD .mul (.int .u64 1) (.int .u64 (v.ipg:Nat)) k=k (.int .u64 (v.ipg:Nat)):=fun k=>by
  rw[Bc,Int.one_mul,CU (by omega)]
 have main:∀ (x4 x5:Value) (r4 r5:Res) (h:H),Vec 4 1 x4 (v.ipg+1) (bC (List.replicate (v.ipg+1) false)) r4→Vec 48 1 x5 1 (nC [0]) r5→AN (v.res+(r4+(r5+x))) h→L7 Q (Pt v.vb) sv x4 x5 h:=by
  intro x4 x5 r4 r5 h a4 a5 w
  unfold L7
  have k1:∀ V R4 R5 X:Res,V+(R4+(R5+X))=R4+(V+(R5+X)):=by intros;ac_rfl
  refine AFa (x:=v.res+(r5+x)) d.addR.addR (by omega) mk.s84 a4 (by omega) (by omega) (w.cast (k1 _ _ _ _)) fun r4 h a4 w=>?_
  unfold PP Unf
  rw[AIw]
  refine AW w VS.g0 ?_
  obtain⟨⟨va,vc,hv⟩,_⟩:=dv.len
  rw[hv,Aw,←hv]
  have k2:∀ V R4 R5 X:Res,R4+(V+(R5+X))=V+(R4+(R5+(0+X))):=by intros;rw[Res.zero_add];ac_rfl
  refine AFs (z:=0) ok rfl hos dv ov hn a4 a5 (w.cast (k2 _ _ _ _)) fun r4 r5 z h a4 a5 w=>?_
  have hUl:(mkU (usd 10 (List.replicate (v.ipg+1) false)) os).length=v.ipg+1:=by rw[AAF,J0,A09]
  exact AFn ok d hsb hUl hit mk a4 a5 w (K _ _ (w.cast (ALG _ _ _ _ _)))
 unfold f69 Uff Uld Ukp
 rw[AIw]
 refine AW w VS.g4 ?_
 rw[AIw]
 refine AW w VS.g6 ?_
 rw[f1,BN (n:=1),CU (by omega),AIw]
 refine AW w VS.g4 ?_
 have rb:∀ n,bC (List.replicate n false)=List.replicate n (.bool false):=fun n=>by unfold bC;rw[B03]
 have rn:nC [0]=List.replicate 1 (.int .u64 0):=rfl
 have o4:∀ b,Vec 4 1 (.slice (some ⟨b,0,none⟩) (v.ipg+1) (v.ipg+1)) (v.ipg+1) (bC (List.replicate (v.ipg+1) false)) (pts b (.cells ⟨List.replicate (v.ipg+1) (.bool false)⟩ 4 (0,0))):=fun b=>by
  rw[rb];exact .own' (A07 _) (by simp) (by simp)
 have o5:∀ b,Vec 48 1 (.slice (some ⟨b,0,none⟩) 1 1) 1 (nC [0]) (pts b (.cells ⟨List.replicate 1 (.int .u64 0)⟩ 48 (0,0))):=fun b=>by
  rw[rn];exact .own' (A07 _) (by simp) (by simp)
 have k2:∀ B5 B4 V X:Res,B4+(B5+(V+X))=V+(B4+(B5+X)):=by intros;ac_rfl
 refine And.intro ?_ ?_
 ·refine C4 w Qw rfl (A07 _) (by omega) (by omega) fun b4 h w=>?_
  refine⟨AW w VS.g4 rfl,?_,?_⟩
  ·exact C4 (n:=1) (m:=1) w Cb rfl (A07 _) (by omega) (by omega) fun b5 h w=>main _ _ _ _ _ (o4 b4) (o5 b5) (w.cast (Kq7 _ _ _ _))
  ·exact C4 (n:=1) (m:=1) w Cb rfl (A07 _) (by omega) (by omega) fun b5 h w=>main _ _ _ _ _ (o4 b4) (o5 b5) (w.cast (Kq7 _ _ _ _))
 ·refine C4 (n:=1) (m:=1) w Cb rfl (A07 _) (by omega) (by omega) fun b5 h w=>?_
  refine⟨AW w VS.g4 rfl,AW w VS.g6 rfl,?_⟩
  exact C4 w Qw rfl (A07 _) (by omega) (by omega) fun b4 h w=>main _ _ _ _ _ (o4 b4) (o5 b5) (w.cast (k2 _ _ _ _))
end
end
section
variable {h:H} {k:Value→Prop} {kt Q:Kt} {x y z r A:Res} {v:VS}
def vC (img:Value)(nb gs pg ipg ib db:Nat)(ov:Value)(wd:Bool):List Value:=[.slice none 0 0,.int .u64 (nb:Nat),.slice none 0 0,img,.int .u64 (gs:Nat),.int .u64 (pg:Nat),.int .u64 (ipg:Nat),.int .u64 (ib:Nat),.int .u64 (db:Nat),ov,.bool wd]
theorem VS.cells_v {b ob nb ipg:Nat}{iv:Value}{I ow:Bs}:(VS.mk b ob (.slice none 0 0) iv I nb ipg ow).cells=⟨vC iv nb 1 32768 ipg 256 32 (.slice (some ⟨ob,0,none⟩) nb nb) false⟩:=rfl
attribute [local irreducible] AK Az AQ BB Ae AY AH AM VS.cells XN.cells
theorem Yx:AG TP 51=some (.agg ⟨vC (.slice none 0 0) 0 0 0 0 0 0 (.slice none 0 0) false⟩):=by kernel_rfl
theorem WQ:AG TP 5=some (.int .u8 0):=by kernel_rfl
structure SbOK (sb:Bs) (nb ipg:Nat):Prop where
 len:sb.length=1024
 s0:leL sb 0 4=ipg
 s4:leL sb 4 4=nb
 s20:leL sb 20 4=0
 s24:leL sb 24 4=2
 s32:leL sb 32 4=32768
 s40:leL sb 40 4=ipg
 s56:leL sb 56 2=61267
 s58:leL sb 58 2=1
 s76:leL sb 76 4=1
 s84:leL sb 84 4=11
 s88:leL sb 88 2=256
 s92:leL sb 92 4=520
 s96:leL sb 96 4=578∨leL sb 96 4=33346
 s100:leL sb 100 4=4170
 s336:leL sb 336 4=0
structure PH (I:Bs) (nb ipg:Nat) (o0 o':Bs) (S:TS) (os:List AA) (kk:Nat):Prop where
 len:I.length=nb*4096
 nb0:nb≤32768
 nb1:2≤nb
 ipg0:ipg≤32768
 ipg1:16≤ipg
 ipg16:ipg%16=0
 sb:SbOK ((I.drop 1024).take 1024) nb ipg
 grp:Clm (grpL I ipg) (List.replicate nb 0) o0
 walk:WalkOK I nb ipg o0 o' S os kk
 num:∀ o∈os,1≤o.X.num∧o.X.num≤ipg∧o.X.mode<65536
 mark:MarkOK I nb ipg o' (mkU (usd 10 (List.replicate (ipg+1) false)) os) (cntD os) ((I.drop 1024).take 1024)
section
variable {I o0 o':Bs} {S:TS} {os:List AA} {kk nb ipg b:Nat} {iv sv:Value}
theorem AFz {ev:Value}(g:PH I nb ipg o0 o' S os kk)(d:RdX x iv I)(ds:RdX x sv ((I.drop 1024).take 1024))(w:AN (pts b (.cells ⟨vC iv nb 0 32768 ipg 256 32 ev false⟩ 51 (0,0))+x) h)(hev:ev=.slice none 0 0)
  (K:∀ (v:VS) z y h cs,VecX 81 23 v.iv os.length cs z→OutV z cs os→v.OK (z+x)→v.vb=b→v.I=I→v.ipg=ipg→AN (v.res+(y+(z+x))) h→Q (Pt b) h) :
  Pn Q (Pt b) sv h:=by
 have hip:=g.ipg0
 have hnb:=g.nb0
 have hnb1:=g.nb1
 have hi1:=g.ipg1
 have hsl:((I.drop 1024).take 1024).length<1000000:=by rw[g.sb.len];decide
 subst hev
 have cg:∀ (gs:Nat) (ov:Value),(⟨vC iv nb gs 32768 ipg 256 32 ov false⟩:Array Value)[1]? = some (.int .u64 (nb:Nat))∧(⟨vC iv nb gs 32768 ipg 256 32 ov false⟩:Array Value)[2]? = some (.slice none 0 0)∧(⟨vC iv nb gs 32768 ipg 256 32 ov false⟩:Array Value)[4]? = some (.int .u64 (gs:Nat))∧(⟨vC iv nb gs 32768 ipg 256 32 ov false⟩:Array Value)[5]? = some (.int .u64 ((32768:Nat):Int))∧(⟨vC iv nb gs 32768 ipg 256 32 ov false⟩:Array Value)[6]? = some (.int .u64 (ipg:Nat)):=fun gs ov=>⟨rfl,rfl,rfl,rfl,rfl⟩
 have q1:∀ k:Value→Prop,AD .gtr (.int .i64 ((0:Nat):Int)) (.int .i64 0) k=k (.bool false):=fun k=>by rw[Ao];rfl
 have q2:∀ k:Value→Prop,AD .quo (.int .u64 ((nb+32768-1:Nat):Int)) (.int .u64 ((32768:Nat):Int)) k=k (.int .u64 ((1:Nat):Int)):=fun k=>by
  rw[QI (by omega),show (nb+32768-1)/32768=1 by omega,CU (by omega)]
 have q3:∀ k:Value→Prop,AD .mul (.int .u64 ((1:Nat):Int)) (.int .u64 (ipg:Nat)) k=k (.int .u64 (ipg:Nat)):=fun k=>by rw[Qc,B34,CU (by omega)]
 have q4:∀ k:Value→Prop,AD .and (.int .u64 ((1:Nat):Int)) (.int .u64 1) k=k (.int .u64 ((1:Nat):Int)):=fun k=>by
  have:=Qm (k:=k) (a:=1) (b:=1) (by omega) (by decide)
  exact this
 have q5:∀ k:Value→Prop,AD .eql (.int .u64 ((1:Nat):Int)) (.int .u64 1) k=k (.bool true):=fun k=>by rw[Aa];rfl
 unfold Pn Unf Ucm Uff Uld Ucl Ukp
 rw[AIw]
 refine AW w (cg 0 _).2.1 ?_
 rw[Aw,q1,AU,AIw]
 refine AW w (cg 0 _).1 ?_
 rw[AIw]
 refine AW w (cg 0 _).2.2.2.1 ?_
 rw[AI5,CU (by omega),Ra (n:=1) (by show (1:Int)≤_;omega),CU (by omega),AIw]
 refine AW w (cg 0 _).2.2.2.1 ?_
 rw[q2,AIw]
 refine AL w ⟨vC iv nb 1 32768 ipg 256 32 (.slice none 0 0) false⟩ rfl rfl (by show _≤11;omega) rfl fun h w=>?_
 rw[AIw]
 refine AW w (cg 1 _).2.2.1 ?_
 rw[AIw]
 refine AW w (cg 1 _).2.2.2.2 ?_
 rw[q3]
 refine DF (p:=0) (n:=4) ds.addR w (by decide) (by decide) hsl ⟨AW w (cg 1 _).2.2.1 rfl,AW w (cg 1 _).2.2.2.2 rfl,?_⟩
 rw[g.sb.s0,Aa,A04 rfl]
 refine DF (p:=0) (n:=4) ds.addR w (by decide) (by decide) hsl ⟨AW w (cg 1 _).2.2.1 rfl,AW w (cg 1 _).2.2.2.2 rfl,?_⟩
 refine Al (Da ?_)
 refine DF (p:=58) (n:=2) ds.addR w (by decide) (by decide) hsl ?_
 rw[g.sb.s58,q4,q5]
 refine DF (p:=58) (n:=2) ds.addR w (by decide) (by decide) hsl ?_
 refine Al (Da ?_)
 rw[AIw]
 refine AW w (cg 1 _).2.1 ?_
 rw[Aw,q1,AU,AIw]
 refine AW w (cg 1 _).1 ?_
 refine C4 w WQ rfl (A07 _) (by omega) (by omega) fun ob h w=>?_
 rw[AIw]
 refine AL (w.cast (Kq1 _ _ _)) ⟨vC iv nb 1 32768 ipg 256 32 (.slice (some ⟨ob,0,none⟩) nb nb) false⟩ rfl rfl (by show _≤11;omega) rfl fun h w=>?_
 let v:VS:=⟨b,ob,.slice none 0 0,iv,I,nb,ipg,List.replicate nb 0⟩
 have hres:pts b (.cells ⟨vC iv nb 1 32768 ipg 256 32 (.slice (some ⟨ob,0,none⟩) nb nb) false⟩ 51 (0,0))+(pts ob (.cells ⟨List.replicate nb (.int .u8 0)⟩ 5 (0,0))+x)=v.res+x:=by
  have:pts ob (.cells ⟨List.replicate nb (.int .u8 0)⟩ 5 (0,0))=buf ob (List.replicate nb 0):=by
   unfold buf bcs;rw[B03];rfl
  rw[this,←Res.assoc]
  show _=pts b (.cells (VS.cells ⟨b,ob,.slice none 0 0,iv,I,nb,ipg,List.replicate nb 0⟩) 51 (0,0))+buf ob (List.replicate nb 0)+x
  rw[VS.cells_v]
 have w:=w.cast hres
 have ok:v.OK x:=⟨d,by show nb*4096≤I.length;rw[g.len];exact A07 _,by show I.length<1099511627776;rw[g.len];omega,hnb,hnb1,A09 ..,hip,hi1,g.ipg16⟩
 refine AEL (s67 (v:=v) ok ds g.sb.len g.sb.s92 g.grp w fun h ok w=>?_)
 refine DF (p:=84) (n:=4) ds.addR w (by decide) (by decide) hsl ?_
 rw[g.sb.s84]
 refine AEI (s68 (v:=v.own o0) ok rfl g.walk w fun iv2 cs z h dv ov ok w=>?_)
 refine ACu (s69 (x:=z+x) (v:=((v.own o0).ino iv2).own o') ok.mono ds.addR g.sb.len g.walk.hit g.num dv.addL ov (by rw[g.walk.len];exact g.walk.nlt) g.mark w fun y h w=>?_)
 exact K _ z y h cs dv ov ok.mono rfl rfl rfl w
theorem PI {inc:Nat}(hi:inc=578∨inc=33346):(∀ k:Value→Prop,AD .and (.int .u64 (inc:Nat)) (.int .u64 128) k=k (.int .u64 ((0:Nat):Int)))∧(∀ k:Value→Prop,AD .andNot (.int .u64 (inc:Nat)) (.int .u64 33474) k=k (.int .u64 ((0:Nat):Int)))∧(∀ k:Value→Prop,AD .and (.int .u64 (inc:Nat)) (.int .u64 2) k=k (.int .u64 ((2:Nat):Int))):=by
 have an:∀ a b:Nat,a<18446744073709551616→b<18446744073709551616→∀ k:Value→Prop,AD .and (.int .u64 (a:Nat)) (.int .u64 (b:Nat)) k=k (.int .u64 (a &&& b:Nat)):=fun a b h1 h2 k=>Nv rfl h1 h2
 have nn:∀ k:Value→Prop,∀ a b:Nat,AD .andNot (.int .u64 (a:Nat)) (.int .u64 (b:Nat)) k=k (.int .u64 (IntKind.u64.wrap ((a%18446744073709551616 &&& (18446744073709551615-b%18446744073709551616):Nat):Int))):=fun k a b=>by
  unfold AD CT
  simp
  exact Iff.rfl
 rcases hi with rfl|rfl
 ·exact⟨fun k=>an 578 128 (by decide) (by decide) k,fun k=>nn k 578 33474,fun k=>an 578 2 (by decide) (by decide) k⟩
 ·exact⟨fun k=>an 33346 128 (by decide) (by decide) k,fun k=>nn k 33346 33474,fun k=>an 33346 2 (by decide) (by decide) k⟩
theorem AGc {inc:Nat}(g:PH I nb ipg o0 o' S os kk)(d:RdX x iv I)(ds:RdX x sv ((I.drop 1024).take 1024))(hinc:inc=578∨inc=33346)(w:AN (pts b (.cells ⟨vC iv nb 0 32768 ipg 256 32 (.slice none 0 0) false⟩ 51 (0,0))+x) h)
  (K:∀ (v:VS) z y h cs,VecX 81 23 v.iv os.length cs z→OutV z cs os→v.OK (z+x)→v.vb=b→v.I=I→v.ipg=ipg→AN (v.res+(y+(z+x))) h→Q (Pt b) h) :
  N8 Q iv (Pt b) sv (.int .u64 (inc:Nat)) (.int .u64 ((4170:Nat):Int)) h:=by
 have hip:=g.ipg0
 have hnb:=g.nb0
 have hnb1:=g.nb1
 have hi1:=g.ipg1
 have hlen:=g.len
 have hsl:((I.drop 1024).take 1024).length<1000000:=by rw[g.sb.len];decide
 obtain⟨_,b2,b3⟩:=PI hinc
 have q1:∀ k:Value→Prop,AD .neq (.int .u64 ((2:Nat):Int)) (.int .u64 0) k=k (.bool true):=fun k=>by rw[A3];rfl
 have q2:∀ k:Value→Prop,AD .and (.int .u64 ((4170:Nat):Int)) (.int .u64 1040) k=k (.int .u64 ((0:Nat):Int)):=fun k=>Qm (a:=4170) (b:=1040) (by decide) (by decide)
 have q3:∀ k:Value→Prop,AD .and (.int .u64 ((256:Nat):Int)) (.int .u64 ((255:Nat):Int)) k=k (.int .u64 ((0:Nat):Int)):=fun k=>Nv (a:=256) (b:=255) rfl (by decide) (by decide)
 have q4:∀ k:Value→Prop,AD .sub (.int .u64 ((256:Nat):Int)) (.int .u64 1) k=k (.int .u64 ((255:Nat):Int)):=fun k=>by rw[Bv];rfl
 have c1:(⟨vC iv nb 0 32768 ipg 256 32 (.slice none 0 0) false⟩:Array Value)[1]? = some (.int .u64 (nb:Nat)):=rfl
 have c5:(⟨vC iv nb 0 32768 ipg 256 32 (.slice none 0 0) false⟩:Array Value)[5]? = some (.int .u64 ((32768:Nat):Int)):=rfl
 have c6:(⟨vC iv nb 0 32768 ipg 256 32 (.slice none 0 0) false⟩:Array Value)[6]? = some (.int .u64 (ipg:Nat)):=rfl
 have c7:(⟨vC iv nb 0 32768 ipg 256 32 (.slice none 0 0) false⟩:Array Value)[7]? = some (.int .u64 ((256:Nat):Int)):=rfl
 have c8:(⟨vC iv nb 0 32768 ipg 256 32 (.slice none 0 0) false⟩:Array Value)[8]? = some (.int .u64 ((32:Nat):Int)):=rfl
 unfold N8 Ucl Ucg
 refine DF (p:=76) (n:=4) ds.addR w (by decide) (by decide) hsl ?_
 rw[g.sb.s76,Aa,A04 (by decide)]
 refine DF (p:=76) (n:=4) ds.addR w (by decide) (by decide) hsl ?_
 refine Al (Da ?_)
 refine DF (p:=24) (n:=4) ds.addR w (by decide) (by decide) hsl ?_
 rw[g.sb.s24,Aa,A04 (by decide)]
 refine DF (p:=24) (n:=4) ds.addR w (by decide) (by decide) hsl ?_
 refine Al (Da ?_)
 refine DF (p:=20) (n:=4) ds.addR w (by decide) (by decide) hsl ?_
 rw[g.sb.s20,Aa,A04 (by decide)]
 refine DF (p:=20) (n:=4) ds.addR w (by decide) (by decide) hsl ?_
 refine Al (Da ?_)
 rw[b2,Aa,A04 (by decide),Cq,b3,q1]
 refine Al (Da ?_)
 unfold So Ucl Unf Ucg
 rw[q2,Aa,A04 (by decide)]
 refine Al (Da ?_)
 rw[AIw]
 refine AW w c5 ?_
 rw[BD,A04 (by omega),Cq,AIw]
 refine AW w c5 ?_
 rw[BW,A04 (by omega),AIw]
 refine AW w c5 ?_
 refine Al (Da ?_)
 unfold TK Unf Ucg Ucl
 rw[AIw]
 refine AW w c6 ?_
 rw[BD,A04 (by omega),Cq,AIw]
 refine AW w c6 ?_
 rw[BW,A04 (by omega),AIw]
 refine AW w c6 ?_
 refine Al (Da ?_)
 unfold TW Unf Ucg Ucl
 rw[AIw]
 refine AW w c7 ?_
 rw[BD,A04 (by omega),Cq,AIw]
 refine AW w c7 ?_
 rw[BW,A04 (by omega),Cq,AIw]
 refine AW w c7 ?_
 rw[AIw]
 refine AW w c7 ?_
 rw[q4,q3,Aa,A04 (by decide),AIw]
 refine AW w c7 ?_
 refine Al (Da ?_)
 unfold OC Unf Ucg Ucl
 rw[AIw]
 refine AW w c8 ?_
 rw[BD,A04 (by omega),Cq,AIw]
 refine AW w c8 ?_
 rw[BW,A04 (by omega),AIw]
 refine AW w c8 ?_
 refine Al (Da ?_)
 unfold TU Unf Ucg Ucl
 rw[AIw]
 refine AW w c1 ?_
 rw[BD,A04 (by omega),Cq,AIw]
 refine AW w c1 ?_
 obtain⟨a,c,hv⟩:=d.len
 rw[hv,Aw,DO,CU (by omega),Rb (n:=4096) (by decide),CU (by omega),BW,A04 (by omega),AIw]
 refine AW w c1 ?_
 refine Al (Da ?_)
 exact AFz g d ds w rfl K
theorem s25 (g:PH I nb ipg o0 o' S os kk)(d:RdX x iv I)(w:AN x h)
  (K:∀ (v:VS) z y h cs,VecX 81 23 v.iv os.length cs z→OutV z cs os→v.OK (z+x)→v.I=I→v.ipg=ipg→AN (v.res+(y+(z+x))) h→Q (Pt v.vb) h):f25 iv h Q:=by
 have hnb1:=g.nb1
 have hnb:=g.nb0
 have hlen:=g.len
 have hsl:((I.drop 1024).take 1024).length<1000000:=by rw[g.sb.len];decide
 unfold f25 Ucm
 obtain⟨a,c,hv⟩:=d.len
 refine Au Yx rfl (rs:=vC iv 0 0 0 0 0 0 (.slice none 0 0) false) (by rw[hv];rfl) (BJ w fun b h w=>?_)
 have w:AN (pts b (.cells ⟨vC iv 0 0 0 0 0 0 (.slice none 0 0) false⟩ 51 (0,0))+x) h:=w
 unfold AH
 refine⟨_,#[],WQ,by decide,rfl,fun b2 h' e hb ho=>?_⟩
 have w:=w.ext e
 show Ab iv _
 rw[hv,Aw,←hv,BD,A04 (by omega),Ak]
 refine d.slice (i:=1024) (j:=2048) Ec Ec (by omega) (by omega) fun sv ds=>?_
 have e1:(I.take 2048).drop 1024=(I.drop 1024).take 1024:=by rw[A49]
 rw[e1] at ds
 have c7:∀ k:Value→Prop,AD .shl (.int .u64 ((0:Nat):Int)) (.int .u64 32) k=k (.int .u64 ((0:Nat):Int)):=fun k=>by rw[Hm]
 have q1:∀ k:Value→Prop,AD .neq (.int .u64 ((0:Nat):Int)) (.int .u64 0) k=k (.bool false):=fun k=>by rw[A3];rfl
 unfold Tj Ucl Uff Unf
 refine DF (p:=56) (n:=2) ds.addR w (by decide) (by decide) hsl ?_
 rw[g.sb.s56,Aa,A04 (by decide)]
 refine DF (p:=56) (n:=2) ds.addR w (by decide) (by decide) hsl ?_
 refine Al (Da ?_)
 refine DF (p:=4) (n:=4) ds.addR w (by decide) (by decide) hsl ?_
 refine DF (p:=336) (n:=4) ds.addR w (by decide) (by decide) hsl ?_
 rw[g.sb.s4,g.sb.s336,c7,V2 (by omega) (by omega),Nat.or_zero,AIw]
 refine AL w ⟨vC iv nb 0 0 0 0 0 (.slice none 0 0) false⟩ rfl rfl (by show _≤11;omega) rfl fun h w=>?_
 refine DF (p:=32) (n:=4) ds.addR w (by decide) (by decide) hsl ?_
 refine DF (p:=40) (n:=4) ds.addR w (by decide) (by decide) hsl ?_
 rw[g.sb.s32,g.sb.s40,AIw]
 refine AL w ⟨vC iv nb 0 32768 0 0 0 (.slice none 0 0) false⟩ rfl rfl (by show _≤11;omega) rfl fun h w=>?_
 rw[AIw]
 refine AL w ⟨vC iv nb 0 32768 ipg 0 0 (.slice none 0 0) false⟩ rfl rfl (by show _≤11;omega) rfl fun h w=>?_
 refine DF (p:=88) (n:=2) ds.addR w (by decide) (by decide) hsl ?_
 rw[g.sb.s88,AIw]
 refine AL w ⟨vC iv nb 0 32768 ipg 256 0 (.slice none 0 0) false⟩ rfl rfl (by show _≤11;omega) rfl fun h w=>?_
 rw[AIw]
 refine AL w ⟨vC iv nb 0 32768 ipg 256 32 (.slice none 0 0) false⟩ rfl rfl (by show _≤11;omega) rfl fun h w=>?_
 refine DF (p:=96) (n:=4) ds.addR w (by decide) (by decide) hsl ?_
 refine DF (p:=100) (n:=4) ds.addR w (by decide) (by decide) hsl ?_
 rw[(PI g.sb.s96).1,q1,AIw,g.sb.s100]
 refine AL w ⟨vC iv nb 0 32768 ipg 256 32 (.slice none 0 0) false⟩ rfl rfl (by show _≤11;omega) rfl fun h w=>?_
 rw[AIw]
 refine AW w (show (⟨vC iv nb 0 32768 ipg 256 32 (.slice none 0 0) false⟩:Array Value)[10]? = some (.bool false) from rfl) ?_
 rw[AU]
 refine AGc g d ds g.sb.s96 w fun v z y h cs dv ov ok hb hI hip w=>?_
 exact hb▸K v z y h cs dv ov ok hI hip w
end
end
section
variable {h:H} {k:Value→Prop} {kt Q:Kt} {x y z r:Res}
def RdV (sz:Nat)(v:Value)(n:Nat)(vs:List Value)(x:Res):Prop:=
 (∃ a c,v=.slice a 0 c∧n=0∧vs=[])∨∃ b o c all T fz y,v=.slice (some ⟨b,o,none⟩) n c∧x=pts b (.cells ⟨all⟩ T fz)+y∧o+n*sz≤all.length∧(all.drop o).take (n*sz)=vs∧n≤c
theorem RdV.addL {sz n:Nat}{v:Value}{vs:List Value}(d:RdV sz v n vs x):RdV sz v n vs (x+y):=by
 rcases d with d|⟨b,o,c,all,T,fz,z,h1,h2,h3⟩
 ·exact .inl d
 ·exact .inr ⟨b,o,c,all,T,fz,z+y,h1,by rw[h2,Res.assoc],h3⟩
theorem RdV.addR {sz n:Nat}{v:Value}{vs:List Value}(d:RdV sz v n vs x):RdV sz v n vs (y+x):=by rw[Res.comm];exact d.addL
theorem Vec.rdv {T:TypeId}{sz n:Nat}{v:Value}{vs:List Value}(d:Vec T sz v n vs r):RdV sz v n vs r:=by
 cases d with
 | nil=>exact .inl ⟨none,0,rfl,rfl,rfl⟩
 | own hn hc=>
  have:=A48 sz hn
  exact .inr ⟨_,0,_,_,T,_,0,rfl,(Res.add_zero _).symm,by omega,by rw[A68],hn⟩
theorem VecX.rdv {T:TypeId}{sz n:Nat}{v:Value}{vs:List Value}(d:VecX T sz v n vs x):RdV sz v n vs x:=by
 obtain⟨r,y,rfl,d⟩:=d
 exact d.rdv.addL
theorem RdV.len {sz n:Nat}{v:Value}{vs:List Value}(d:RdV sz v n vs x):(∃ a c,v=.slice a n c)∧vs.length=n*sz:=by
 rcases d with⟨a',c,h1,h2,h3⟩|⟨b,o,c,all,T,fz,y,h1,h2,h3,h4,h5⟩
 ·subst h2 h3;exact⟨⟨_,_,h1⟩,by simp⟩
 ·refine⟨⟨_,_,h1⟩,?_⟩
  rw[←h4,A20,A27];omega
theorem RdV.one_ {sz n:Nat}{v:Value}{vs:List Value}(d:RdV sz v n vs x):Value.oneCell' v=true:=by
 obtain⟨⟨a,c,hv⟩,_⟩:=d.len
 rw[hv];rfl
theorem PQ {b o n c i sz:Nat}{kk:IntKind}(hi:i<n):AI (.slice sz) (.slice (some ⟨b,o,none⟩) n c) (.int kk (i:Int)) k=k (.pointer (some ⟨b,o+i*sz,none⟩)):=by
 refine propext ⟨fun⟨kk',m,h1,a,l,c',h2,h3,h4,h5⟩=>?_,fun hk=>⟨kk,i,rfl,_,n,c,rfl,by omega,by omega,?_⟩⟩
 ·cases h1;cases h2;simpa[Bm] using h5
 ·simpa[Bm] using hk
theorem RdV.get {n i:Nat}{kk:IntKind}{v u:Value}{vs:List Value}(d:RdV 1 v n vs x)(w:AN x h)(hu:vs[i]? = some u)(K:k u):AI (.slice 1) v (.int kk (i:Int)) fun a=>AB false 1 a h k:=by
 have hl:=d.len.2
 have hi:i<vs.length:=(A02.1 hu).1
 rcases d with⟨a',c,h1,h2,h3⟩|⟨b,o,c,all,T,fz,y,h1,h2,h3,h4,h5⟩
 ·subst h3;simp at hi
 ·subst h1 h2
  rw[Cg (by omega),AF w]
  have:(⟨all⟩:Array Value)[o+i]? = some u:=by
   rw[←h4,A41] at hu
   split at hu
   ·rw[A53] at hu;simpa using hu
   ·cases hu
  rw[this];exact K
theorem RdV.two {n i:Nat}{kk:IntKind}{v u:Value}{vs:List Value}{F:Value→Value→Prop}(d:RdV 1 v n vs x)(w:AN x h)(hu:vs[i]? = some u)(K:∀ a,(AB false 1 a h fun v=>v=u)→F a u):AI (.slice 1) v (.int kk (i:Int)) fun a=>AB false 1 a h fun u=>F a u:=by
 have hl:=d.len.2
 have hi:i<vs.length:=(A02.1 hu).1
 rcases d with⟨a',c,h1,h2,h3⟩|⟨b,o,c,all,T,fz,y,h1,h2,h3,h4,h5⟩
 ·subst h3;simp at hi
 ·subst h1 h2
  have:(⟨all⟩:Array Value)[o+i]? = some u:=by
   rw[←h4,A41] at hu
   split at hu
   ·rw[A53] at hu;simpa using hu
   ·cases hu
  rw[Cg (by omega),AF w,this]
  exact K _ (by rw[AF w,this];exact rfl)
theorem RdV.agg {sz n i:Nat}{kk:IntKind}{v:Value}{vs:List Value}(d:RdV sz v n vs x)(w:AN x h)(hi:i<n)(K:k (.agg ⟨(vs.drop (i*sz)).take sz⟩)):AI (.slice sz) v (.int kk (i:Int)) fun a=>AB true sz a h k:=by
 rcases d with⟨a',c,h1,h2,h3⟩|⟨b,o,c,all,T,fz,y,h1,h2,h3,h4,h5⟩
 ·omega
 ·subst h1 h2
  have hm:i*sz+sz≤n*sz:=by
   have:(i+1)*sz≤n*sz:=A48 sz hi
   rw[A93,B34] at this;exact this
  rw[PQ hi,Am (o:=o+i*sz) (w.left.one) (by simp;omega)]
  have:(⟨all⟩:Array Value).extract (o+i*sz) (o+i*sz+sz)=⟨(vs.drop (i*sz)).take sz⟩:=by
   apply A56
   rw[←h4]
   simp only[B42,A44,A49,A95,A64]
   congr 1
   omega
  rw[this];exact K
theorem RdV.cell {sz n i j:Nat}{kk:IntKind}{v u:Value}{vs:List Value}(d:RdV sz v n vs x)(w:AN x h)(hi:i<n)(hj:j<sz)(hu:vs[i*sz+j]? = some u)(K:k u):AI (.slice sz) v (.int kk (i:Int)) fun a=>AC j a fun p=>AB false 1 p h k:=by
 rcases d with⟨a',c,h1,h2,h3⟩|⟨b,o,c,all,T,fz,y,h1,h2,h3,h4,h5⟩
 ·omega
 ·subst h1 h2
  have hm:i*sz+sz≤n*sz:=by
   have:(i+1)*sz≤n*sz:=A48 sz hi
   rw[A93,B34] at this;exact this
  rw[PQ hi]
  simp only[DW,Bm]
  rw[AF w]
  have:(⟨all⟩:Array Value)[o+i*sz+j]? = some u:=by
   rw[←h4,A41] at hu
   split at hu
   ·rw[A53,←B62] at hu;simpa using hu
   ·cases hu
  rw[this];exact K
theorem RdV.slice {sz n i j:Nat}{lo hi:Option Value}{v:Value}{vs:List Value}(d:RdV sz v n vs x)(hlo:Ay 0 lo=some i)(hhi:Ay n hi=some j)(h1:i≤j)(h2:j≤n)(K:∀ v',RdV sz v' (j-i) ((vs.take (j*sz)).drop (i*sz)) x→k v'):AZ (.slice sz) v lo hi k:=by
 rcases d with⟨a',c,e1,e2,e3⟩|⟨b,o,c,all,T,fz,y,e1,e2,e3,e4,e5⟩
 ·subst e1 e2 e3
  obtain rfl:j=0:=by omega
  obtain rfl:i=0:=by omega
  refine⟨.slice (if c=0 then a' else a'.map (·.add 0)) 0 c,?_,K _ (.inl ⟨_,c,rfl,rfl,by simp⟩)⟩
  simp only[A6,hlo,hhi]
  rw[A03 ⟨A07 _,A39 _⟩]
  simp
 ·subst e1
  have hj:j*sz≤n*sz:=A48 sz h2
  have hij:i*sz+(j-i)*sz=j*sz:=by rw[←A93];congr 1;omega
  refine⟨.slice (some ⟨b,if c=i then o else o+i*sz,none⟩) (j-i) (c-i),?_,K _ (.inr ⟨b,if c=i then o else o+i*sz,c-i,all,T,fz,y,rfl,e2,?_,?_,by omega⟩)⟩
  ·simp only[A6,hlo,hhi]
   rw[A03 ⟨h1,by omega⟩]
   by_cases hc:c=i
   ·rw[A03 hc,A03 hc]
   ·rw[A05 hc,A05 hc,A80,Bm]
  ·by_cases hc:c=i
   ·rw[A03 hc]
    have:j-i=0:=by omega
    rw[this];omega
   ·rw[A05 hc];omega
  ·by_cases hc:c=i
   ·have:j=i:=by omega
    subst this
    rw[A87,A92,B17,A49,A87,B17]
   ·rw[A05 hc,←e4,A95,A30 hj,A49,A64]
    congr 1
    omega
theorem RdV.src {sz n:Nat}{v:Value}{vs:List Value}(d:RdV sz v n vs x)(w:AN x h):srcLen v=some n∧BF sz n h v=some ⟨vs⟩:=by
 rcases d with⟨a',c,h1,h2,h3⟩|⟨b,o,c,all,T,fz,y,h1,h2,h3,h4,h5⟩
 ·subst h1 h2 h3;exact⟨rfl,Od (A92 _)⟩
 ·subst h1 h2
  refine⟨rfl,?_⟩
  unfold BF
  simp only[w.left.one,A86,A45,if_false]
  rw[A03 (by simpa using h3)]
  congr 1
  apply A56
  rw[←h4]
  simp only[B42,A44]
  congr 1
  omega
theorem CA {T:TypeId}{sz by_ n m:Nat}{z:Option Value}{zv v s:Value}{vs news:List Value}(d:Vec T sz v n vs r)(e:RdV sz s m news x)(w:AN (r+x) h)(hz:z=some zv)(hzs:zv.cells.size=sz)
  (hb:(n+m)*by_≤140737488355328) (hb2:n+m≤140737488355328) (hone:news.all Value.oneCell'=true)
  (K:∀ v r h,Vec T sz v (n+m) (vs++news) r→AN (r+x) h→kt v h):AM T z sz by_ v s h kt:=by
 obtain⟨s1,s2⟩:=e.src w.right
 exact⟨m,⟨news⟩,s1,s2,IP d w hz hzs hb hb2 hone e.len.2 K⟩
theorem Dg {T:TypeId}{sz:Nat}{z:Option Value}{zv:Value}{kt:Kt}(w:AN x h)(hz:z=some zv)(K:∀ v r h,Vec T sz v 0 [] r→AN (r+x) h→kt v h):AH (.arr sz) T z sz 0 [] h kt:=by
 refine⟨zv,#[],hz,by omega,?_,fun b h' e hb ho=>K _ _ h' (.own' (all:=[]) (A07 _) (by simp) (by simp)) (w.new e hb ho)⟩
 rw[A03 (by omega)];rfl
theorem Pi (l:List Bs):(strs l).all Value.oneCell'=true:=by
 unfold strs
 rw[List.all_map,B10]
 intro a _;rfl
end
section
set_option maxRecDepth 100000
def KL (Q:Kt)(r1:R1)(r2:R1)(a b c d f g i j k m n o:Value)(h:H):Prop:=
 AK o
 (AB true 18 d h fun a=>Ufl 0 f h fun b=>Ufl 1 f h fun f=>Uil c f h fun c=>Ucl 46 [a,b,c] h fun a h=>AJ 18 d a h fun h=>AD .add n (.int .i64 1) fun a=>r2 a h)
 (AD .add n (.int .i64 1) fun a=>r2 a h)
def We (Q:Kt)(r1:R1)(r2:R1)(a b c d f g i j k m:Value)(h:H):Prop:=
 Ucm .lss m k
 (AI (.slice 3) j m fun n=>AB true 3 n h fun n=>Umk 114 h fun o h=>AJ 3 o n h fun h=>Ufl 0 o h fun n=>Ucg .neq n (.string ⟨#[46]⟩) (Ufl 0 o h fun n=>Ucg .neq n (.string ⟨#[46,46]⟩) (Ufl 1 o h fun n=>Ab c fun p=>AV .u64 p fun p=>AD .lss n p fun n=>KL Q r1 r2 a b c d o f g i j k m n h) (KL Q r1 r2 a b c d o f g i j k m (.bool false) h)) (KL Q r1 r2 a b c d o f g i j k m (.bool false) h))
 (Ufl 0 b h fun a=>AB true 18 d h fun c=>AH (.arr 18) 63 (AG TP 63) 18 1 [(0,c)] h fun c h=>AM 63 (AG TP 63) 18 200 a c h fun a h=>AC 0 b fun b=>AJ 1 b a h fun h=>AD .add i (.int .i64 1) fun a=>r1 a h)
def Wj (Q:Kt)(r1:R1)(a b c d f g i j k m:Value)(h:H):Prop:=A1 (fun r2 m h=>We Q r1 r2 a b c d f g i j k m h) m h
def WX (Q:Kt)(r1:R1)(r3:R1)(a b c d f g i j k m n:Value)(h:H):Prop:=
 Ucm .lss n m
 (AI (.slice 2) k n fun a=>AB true 2 a h fun a=>Umk 86 h fun b h=>AJ 2 b a h fun h=>Ufl 15 f h fun a=>Ufl 0 b h fun c=>Ufl 1 b h fun b=>Ucl 16 [a,c,b] h fun a h=>AC 15 f fun b=>AJ 1 b a h fun h=>AD .add n (.int .i64 1) fun a=>r3 a h)
 (Ufl 19 d h fun d=>Ab d fun k=>Wj Q r1 a b c f g i j d k (.int .i64 0) h)
def ABJ (Q:Kt)(r1:R1)(a b c d f g i j k m n:Value)(h:H):Prop:=A1 (fun r3 n h=>WX Q r1 r3 a b c d f g i j k m n h) n h
def MW (Q:Kt)(r1:R1)(a b c d f g i j:Value)(h:H):Prop:=
 Ufl 20 d h fun k=>Ab k fun m=>ABJ Q r1 a b c d f g i j k m (.int .i64 0) h
def XX (Q:Kt)(r1:R1)(a b c d f g:Value)(h:H):Prop:=
 Ucm .lss g f
 (AI (.slice 23) d g fun i=>AB true 23 i h fun i=>Umk 81 h fun j h=>AJ 23 j i h fun h=>Ufl 1 j h fun i=>Ufl 2 j h fun k=>Ufl 3 j h fun m=>AC 8 j fun n=>AB true 2 n h fun n=>AC 10 j fun o=>AB true 2 o h fun o=>AC 12 j fun p=>AB true 2 p h fun p=>AC 14 j fun q=>AB true 2 q h fun q=>Ufl 16 j h fun t=>Ufl 17 j h fun u=>Ae (.struct [(0,1),(1,1),(2,1),(3,2),(5,2),(7,2),(9,2),(11,1),(12,1),(13,1),(14,1),(15,1),(16,1),(17,1)]) (AG TP 63) [(0,i),(1,k),(2,m),(3,n),(4,o),(5,p),(6,q),(7,t),(8,u)] fun i=>Umk 63 h fun k h=>AJ 18 k i h fun h=>Ufl 1 j h fun i=>Ucl 45 [i] h fun i h=>Ucm .eql i (.int .u64 1)
 (Ufl 18 j h fun i=>AC 13 k fun m=>AJ 1 m i h fun h=>MW Q r1 a b c j k d f g h)
 (Ucm .eql i (.int .u64 7)
 (Ufl 18 j h fun i=>HI i h fun i=>AC 14 k fun m=>AJ 1 m i h fun h=>MW Q r1 a b c j k d f g h)
 (MW Q r1 a b c j k d f g h)))
 (AB true 1 b h fun b=>AJ 1 a b h fun h=>AB true 1 a h fun a=>Q a h)
def WK (Q:Kt)(a b c d f g:Value)(h:H):Prop:=A1 (fun r1 g h=>XX Q r1 a b c d f g h) g h
def VM (Q:Kt)(r4:R1)(a b c d f g i:Value)(h:H):Prop:=
 Ucm .lss i g
 (AI (.slice 23) f i fun a=>AB true 23 a h fun a=>Umk 81 h fun b h=>AJ 23 b a h fun h=>Ufl 0 b h fun a=>AI (.slice 1) d a fun a=>AJ 1 a i h fun h=>AD .add i (.int .i64 1) fun a=>r4 a h)
 (Unf 0 a h fun a=>Ab a fun f=>WK Q b c d a f (.int .i64 0) h)
def ABO (Q:Kt)(a b c d f g i:Value)(h:H):Prop:=A1 (fun r4 i h=>VM Q r4 a b c d f g i h) i h
def f14 (a:Value)(h:H)(Q:Kt):Prop:=
 Umk 40 h fun b h=>Umk 40 h fun c h=>Unf 4 a h fun d=>Unf 6 a h fun f=>AD .mul d f fun d=>AD .add d (.int .u64 1) fun d=>AY (AG TP 3) 1 8 3 d d h fun d h=>Unf 0 a h fun f=>Ab f fun g=>ABO Q a b c d f g (.int .i64 0) h
def AHw (Q:Kt)(r:RS):Nat→DJ:=tab [(262568550,.jn fun e h=>KL Q (u1 (r 250)) (u1 (r 1025658)) (e 2) (e 3) (e 4) (e 9) (e 13) (e 44) (e 45) (e 46) (e 100) (e 101) (e 102) (e 121) h),
 (2051317,.lp [2,3,4,9,44,45,46,100,101] [102] fun s e l h=>We Q (u1 (r 250)) (u1 s) (e 2) (e 3) (e 4) (e 9) (e 44) (e 45) (e 46) (e 100) (e 101) (gl l 0) h),
 (1025653,.lp [2,3,4,8,9,44,45,46,84,85] [86] fun s e l h=>WX Q (u1 (r 250)) (u1 s) (e 2) (e 3) (e 4) (e 8) (e 9) (e 44) (e 45) (e 46) (e 84) (e 85) (gl l 0) h),
 (128206,.jn fun e h=>MW Q (u1 (r 250)) (e 2) (e 3) (e 4) (e 8) (e 9) (e 44) (e 45) (e 46) h),
 (501,.lp [2,3,4,44,45] [46] fun s e l h=>XX Q (u1 s) (e 2) (e 3) (e 4) (e 44) (e 45) (gl l 0) h),
 (245,.lp [0,2,3,4,28,29] [30] fun s e l h=>VM Q (u1 s) (e 0) (e 2) (e 3) (e 4) (e 28) (e 29) (gl l 0) h)]
theorem ABt {a:Value}{h:H}{Q:Kt}(x:f14 a h Q):Call TP 14 [a] h Q:=Bb (AHw Q) Tryz.func14 (by kernel_rfl) x
def Ls (Q:Kt)(a b c d f:Value)(h:H):Prop:=
 Ufl 16 a h fun g=>AZ (.slice 1) g (some c) none fun g=>AC 17 a fun i=>Uld i h fun j=>AZ (.slice 1) j (some c) none fun c=>AM 9 (AG TP 9) 1 16 d g h fun d h=>((Ukp i h j)∧AC 16 a fun g=>AM 3 (AG TP 3) 1 8 f c h fun c h=>AJ 1 g d h fun h=>AC 17 a fun d=>AJ 1 d c h fun h=>AB true 18 a h fun a=>AJ 18 b a h fun h=>AB true 18 b h fun a=>Q a h)
def LO (Q:Kt)(a b c d f g i j:Value)(h:H):Prop:=
 AH (.arr 1) 9 (AG TP 9) 1 1 [(0,a)] h fun a h=>AM 9 (AG TP 9) 1 16 i a h fun a h=>AH (.arr 1) 3 (AG TP 3) 1 1 [(0,b)] h fun b h=>AM 3 (AG TP 3) 1 8 j b h fun b h=>AK g
 (AD .add f (.int .i64 1) fun f=>Ls Q c d f a b h)
 (Ls Q c d f a b h)
def f46 (a b c:Value)(h:H)(Q:Kt):Prop:=
 BB 63 (a:Value).cells h fun a h=>Umk 63 h fun d h=>AB true 18 a h fun f=>Ucl 50 [f,b] h fun f h=>AO f 0 fun g=>AO f 1 fun f=>AC 16 a fun i=>Uld i h fun j=>AZ (.slice 1) j none (some g) fun k=>AC 17 a fun m=>Uld m h fun n=>AZ (.slice 1) n none (some g) fun o=>((AH (.arr 1) 9 (AG TP 9) 1 0 [] h fun p h=>((Ukp i h j)∧(Ukp m h n)∧((AM 9 (AG TP 9) 1 16 p k h fun i h=>((Ukp m h n)∧AH (.arr 1) 3 (AG TP 3) 1 0 [] h fun j h=>((Ukp m h n)∧AM 3 (AG TP 3) 1 8 j o h fun j h=>LO Q b c a d g f i j h)))
 ∧ (AH (.arr 1) 3 (AG TP 3) 1 0 [] h fun q h=>((Ukp i h j)∧(Ukp m h n)∧AM 9 (AG TP 9) 1 16 p k h fun i h=>((Ukp m h n)∧AM 3 (AG TP 3) 1 8 q o h fun j h=>LO Q b c a d g f i j h))))))
 ∧ (AH (.arr 1) 3 (AG TP 3) 1 0 [] h fun p h=>((Ukp i h j)∧(Ukp m h n)∧AH (.arr 1) 9 (AG TP 9) 1 0 [] h fun q h=>((Ukp i h j)∧(Ukp m h n)∧AM 9 (AG TP 9) 1 16 q k h fun i h=>((Ukp m h n)∧AM 3 (AG TP 3) 1 8 p o h fun j h=>LO Q b c a d g f i j h)))))
def AHa (Q:Kt)(r:RS):Nat→DJ:=tab [(126,.jn fun e h=>Ls Q (e 3) (e 6) (e 7) (e 9) (e 10) h),
 (30,.jn fun e h=>LO Q (e 1) (e 2) (e 3) (e 6) (e 7) (e 8) (e 9) (e 10) h)]
theorem AB4 {a b c:Value}{h:H}{Q:Kt}(x:f46 a b c h Q):Call TP 46 [a,b,c] h Q:=Bb (AHa Q) Tryz.func46 (by kernel_rfl) x
def Pc (Q:Kt)(a b c:Value)(h:H):Prop:=
 Ufl 16 b h fun d=>Ab d fun d=>Ucg .lss c d (Ufl 16 b h fun b=>Uil b c h fun b=>AD .eql b a fun a=>Q (.tuple #[c,a]) h) (Q (.tuple #[c,(.bool false)]) h)
def W8 (Q:Kt)(r1:R1)(a b c:Value)(h:H):Prop:=
 Ufl 16 b h fun d=>Ab d fun d=>Ucg .lss c d (Ufl 16 b h fun d=>Uil d c h fun d=>Ucm .lss d a
 (AD .add c (.int .i64 1) fun a=>r1 a h)
 (Pc Q a b c h)) (Pc Q a b c h)
def AA2 (Q:Kt)(a b c:Value)(h:H):Prop:=A1 (fun r1 c h=>W8 Q r1 a b c h) c h
def f50 (a b:Value)(h:H)(Q:Kt):Prop:=
 BB 63 (a:Value).cells h fun a h=>AA2 Q b a (.int .i64 0) h
def AHC (Q:Kt)(r:RS):Nat→DJ:=tab [(30,.jn fun e h=>Pc Q (e 1) (e 2) (e 6) h),
 (57,.lp [1,2] [6] fun s e l h=>W8 Q (u1 s) (e 1) (e 2) (gl l 0) h)]
theorem Xl {a b:Value}{h:H}{Q:Kt}(x:f50 a b h Q):Call TP 50 [a,b] h Q:=Bb (AHC Q) Tryz.func50 (by kernel_rfl) x
def f20 (a b:Value)(h:H)(Q:Kt):Prop:=
 BB 63 (a:Value).cells h fun a h=>AB true 18 a h fun c=>Ucl 50 [c,b] h fun b h=>AO b 0 fun c=>AO b 1 fun b=>Unt b
 (Q (.tuple #[(.int .i64 0),(.bool false)]) h)
 (Ufl 17 a h fun a=>Uil a c h fun a=>Q (.tuple #[a,(.bool true)]) h)
theorem ADr {a b:Value}{h:H}{Q:Kt}(x:f20 a b h Q):Call TP 20 [a,b] h Q:=Bb nT Tryz.func20 (by kernel_rfl) x
def Vh (Q:Kt)(r1:R2)(a b c d f:Value)(h:H):Prop:=
 Ucm .lss f c
 (Uil b f h fun b=>Ufl 0 a h fun c=>AI (.slice 18) c d fun c=>AB true 18 c h fun c=>Ucl 20 [c,b] h fun b h=>AO b 0 fun c=>AO b 1 fun b=>Ufl 0 a h fun a=>AI (.slice 18) a d fun a=>AB true 18 a h fun a=>Ucl 31 [a] h fun a h=>Ucf .neq a (.int .u16 16384) (Unt b
 (Q (.tuple #[(.int .i64 0),(.bool false)]) h)
 (AD .add f (.int .i64 1) fun a=>r1 c a h)) (Q (.tuple #[(.int .i64 0),(.bool false)]) h))
 (Q (.tuple #[d,(.bool true)]) h)
def ABI (Q:Kt)(a b c d f:Value)(h:H):Prop:=Bx (fun r1 d f h=>Vh Q r1 a b c d f h) d f h
def f15 (a b:Value)(h:H)(Q:Kt):Prop:=
 BB 40 (a:Value).cells h fun a h=>Ab b fun c=>ABI Q a b c (.int .i64 0) (.int .i64 0) h
def AHr (Q:Kt)(r:RS):Nat→DJ:=tab [(117,.lp [2,11,12] [6,13] fun s e l h=>Vh Q (u2 s) (e 2) (e 11) (e 12) (gl l 0) (gl l 1) h)]
theorem ACJ {a b:Value}{h:H}{Q:Kt}(x:f15 a b h Q):Call TP 15 [a,b] h Q:=Bb (AHr Q) Tryz.func15 (by kernel_rfl) x
def f31 (a:Value)(h:H)(Q:Kt):Prop:=
 BB 63 (a:Value).cells h fun a h=>Ufl 0 a h fun a=>AD .and a (.int .u16 61440) fun a=>Q a h
theorem AB9 {a:Value}{h:H}{Q:Kt}(x:f31 a h Q):Call TP 31 [a] h Q:=Bb nT Tryz.func31 (by kernel_rfl) x
def f27 (a:Value)(h:H)(Q:Kt):Prop:=
 Ucm .lss a (.int .i64 10)
 (AD .add (.int .i64 48) a fun a=>AV .u8 a fun a=>AH (.arr 1) 5 (AG TP 5) 1 1 [(0,a)] h fun a h=>HI a h fun a=>Q a h)
 (AD .quo a (.int .i64 10) fun b=>AD .rem a (.int .i64 10) fun a=>AD .add (.int .i64 48) a fun a=>AV .u8 a fun a=>((Ucl 27 [b] h fun b h=>AH (.arr 1) 5 (AG TP 5) 1 1 [(0,a)] h fun a h=>HI a h fun a=>AD .add b a fun a=>Q a h)
 ∧ (AH (.arr 1) 5 (AG TP 5) 1 1 [(0,a)] h fun a h=>HI a h fun c=>Ucl 27 [b] h fun b h=>((HI a h fun a=>a=c)∧AD .add b c fun a=>Q a h))))
theorem Mw {a:Value}{h:H}{Q:Kt}(x:f27 a h Q):Call TP 27 [a] h Q:=Bb nT Tryz.func27 (by kernel_rfl) x
def Vf (Q:Kt)(r1:R1)(a b c:Value)(h:H):Prop:=
 Ucm .lss c b
 (Uil a c h fun a=>Ab a fun a=>Ucm .gtr a (.int .i64 2147483647)
 (Q (.bool false) h)
 (AD .add c (.int .i64 1) fun a=>r1 a h))
 (Q (.bool true) h)
def ABR (Q:Kt)(a b c:Value)(h:H):Prop:=A1 (fun r1 c h=>Vf Q r1 a b c h) c h
def f26 (a:Value)(h:H)(Q:Kt):Prop:=
 Ab a fun b=>Ucm .gtr b (.int .i64 2147483647)
 (Q (.bool false) h)
 (Ab a fun b=>ABR Q a b (.int .i64 0) h)
def AHg (Q:Kt)(r:RS):Nat→DJ:=tab [(117,.lp [8,9] [10] fun s e l h=>Vf Q (u1 s) (e 8) (e 9) (gl l 0) h)]
theorem AC8 {a:Value}{h:H}{Q:Kt}(x:f26 a h Q):Call TP 26 [a] h Q:=Bb (AHg Q) Tryz.func26 (by kernel_rfl) x
def ACf (Q:Kt)(r1:R1)(a b c d f:Value)(h:H):Prop:=
 Ucm .lss f d
 (AI (.slice 23) c f fun b=>AB true 23 b h fun b=>Umk 81 h fun c h=>AJ 23 c b h fun h=>Ufl 0 c h fun b=>AV .i64 b fun b=>AD .sub b (.int .i64 12) fun b=>Ucg .geq b (.int .i64 0) (Ab a fun d=>Ucf .geq b d (Ufl 18 c h fun c=>HI c h fun c=>Uil a b h fun a=>HI a h fun a=>Ucm .neq c a
 (Q (.bool false) h)
 (AD .add f (.int .i64 1) fun a=>r1 a h)) (Q (.bool false) h)) (AD .add f (.int .i64 1) fun a=>r1 a h))
 (Ufl 0 b h fun b=>Ab b fun b=>Ab a fun a=>AD .add a (.int .i64 2) fun a=>AD .eql b a fun a=>Q a h)
def ACt (Q:Kt)(a b c d f:Value)(h:H):Prop:=A1 (fun r1 f h=>ACf Q r1 a b c d f h) f h
def ABk (Q:Kt)(r2:R1)(a b c d f g:Value)(h:H):Prop:=
 Ucm .lss g f
 (Uil d g h fun a=>AB true 1 c h fun b=>Ucl 27 [g] h fun d h=>((AB true 1 c h fun a=>a=b)∧AH (.arr 1) 9 (AG TP 9) 1 1 [(0,d)] h fun d h=>((AB true 1 c h fun a=>a=b)∧Ucl 15 [b,d] h fun b h=>AO b 0 fun d=>AO b 1 fun b=>LH .not b fun b=>Az b false (Ufl 0 c h fun b=>AI (.slice 18) b d fun b=>Ufl 13 b h fun b=>HI b h fun b=>HI a h fun a=>Ucm .neq b a
 (Q (.bool false) h)
 (AD .add g (.int .i64 1) fun a=>r2 a h)) (Q (.bool false) h))))
 (Unf 0 b h fun b=>Ab b fun d=>ACt Q a c b d (.int .i64 0) h)
def ADH (Q:Kt)(a b c d f g:Value)(h:H):Prop:=A1 (fun r2 g h=>ABk Q r2 a b c d f g h) g h
def ADF (Q:Kt)(r3:R2)(a b c d f g:Value)(h:H):Prop:=
 Ucm .lss g d
 (Uil c g h fun a=>Ucl 27 [g] h fun b h=>AD .add (.string ⟨#[47]⟩) b fun b=>Ab a fun c=>Ae (.struct [(0,1),(1,1),(2,1),(3,1),(4,1),(5,3),(8,3),(11,3),(14,3),(17,1),(18,1),(19,1)]) (AG TP 28) [(1,c)] fun c=>Ae (.struct [(0,1),(1,1),(2,1),(3,20),(23,1)]) (AG TP 32) [(0,(.int .i64 0)),(1,b),(3,c)] fun b=>Ae (.struct [(0,1),(1,1),(2,1),(3,20),(23,1)]) (AG TP 32) [(0,(.int .i64 1)),(4,a)] fun a=>AH (.arr 24) 32 (AG TP 32) 24 2 [(0,b),(1,a)] h fun a h=>AM 32 (AG TP 32) 24 232 f a h fun a h=>AD .add g (.int .i64 1) fun b=>r3 a b h)
 (Ucl 13 [b,(.int .i64 0),f] h fun b h=>AO b 0 fun c=>AO b 1 fun b=>Unt b
 (Q (.bool false) h)
 (Ucl 14 [c] h fun b h=>Umk 40 h fun d h=>AJ 1 d b h fun h=>Ab a fun b=>ADH Q a c d a b (.int .i64 0) h))
def ADN (Q:Kt)(a b c d f g:Value)(h:H):Prop:=Bx (fun r3 f g h=>ADF Q r3 a b c d f g h) f g h
def AEJ (Q:Kt)(a b:Value)(h:H):Prop:=
 AH (.arr 24) 32 (AG TP 32) 24 0 [] h fun c h=>Ab a fun d=>ADN Q a b a d c (.int .i64 0) h
def AEX (Q:Kt)(r4:R2)(a b c d f g:Value)(h:H):Prop:=
 Ucm .lss g d
 (Uil c g h fun a=>Ab a fun a=>AD .add f a fun a=>AD .add g (.int .i64 1) fun b=>r4 a b h)
 (Ab a fun c=>Ucf .gtr c (.int .i64 60) (Ucm .gtr f (.int .i64 300000)
 (Q (.bool true) h)
 (AEJ Q a b h)) (Q (.bool true) h))
def AEw (Q:Kt)(a b c d f g:Value)(h:H):Prop:=Bx (fun r4 f g h=>AEX Q r4 a b c d f g h) f g h
def f6 (a b:Value)(h:H)(Q:Kt):Prop:=
 Ucl 26 [a] h fun c h=>Unt c
 (Q (.bool true) h)
 (Ab a fun c=>AEw Q a b a c (.int .i64 0) (.int .i64 0) h)
end
end Go.Proofs.YtollddkkdgoonaaGreatDoor
