/- A part of a proof over images that are written and read. No condition; a step. -/
import Derived.Test.YtollddkkdgoonaaGreatDoorM14
namespace Go.Proofs.YtollddkkdgoonaaGreatDoor
open Go
set_option linter.unusedVariables false
set_option linter.unusedSimpArgs false
set_option maxRecDepth 100000
section
variable {h:H} {k:Value→Prop} {kt Q:Kt} {x y r:Res}
theorem Nv {kk:IntKind}{a b:Nat}(hk:kk.signed=false)(ha:a<2^kk.bits)(hb:b<2^kk.bits):AD .and (.int kk (a:Int)) (.int kk (b:Int)) k=k (.int kk ((a &&& b:Nat):Int)):=My ha hb hk
@[go_sem] theorem Qm {a b:Nat}(ha:a<18446744073709551616)(hb:(OfNat.ofNat b:Int)<18446744073709551616):AD .and (.int .u64 (a:Int)) (.int .u64 (no_index (OfNat.ofNat b:Int))) k=k (.int .u64 ((a &&& b:Nat):Int)):=Nv rfl ha (B29.1 hb)
structure VS where
 vb:Nat
 ob:Nat
 iv:Value
 img:Value
 I:Bs
 nb:Nat
 ipg:Nat
 ow:Bs
def VS.cells (v:VS):Array Value:=⟨[v.iv,.int .u64 (v.nb:Nat),.slice none 0 0,v.img,.int .u64 1,.int .u64 32768,.int .u64 (v.ipg:Nat),.int .u64 256,.int .u64 32,.slice (some ⟨v.ob,0,none⟩) v.nb v.nb,.bool false]⟩
abbrev VS.res (v:VS):Res:=pts v.vb (.cells v.cells 51 (0,0))+buf v.ob v.ow
structure VS.OK (v:VS) (x:Res):Prop where
 rd:RdX x v.img v.I
 len:v.nb*4096≤v.I.length
 big:v.I.length<1099511627776
 nb:v.nb≤32768
 nb1:2≤v.nb
 ow:v.ow.length=v.nb
 ipg:v.ipg≤32768
 ipg1:16≤v.ipg
 ipg16:v.ipg%16=0
def VS.clm (v:VS)(n:Nat):VS:={v with ow:=setL v.ow n [1]}
theorem VS.OK.clm {v:VS}(ok:v.OK x){n:Nat}(hn:n<v.nb):(v.clm n).OK x:=⟨ok.rd,ok.len,ok.big,ok.nb,ok.nb1,by show (setL v.ow n [1]).length=_;rw[AS (by have:=ok.ow;simp;omega)];exact ok.ow,ok.ipg,ok.ipg1,ok.ipg16⟩
theorem VS.OK.mono {v:VS}(ok:v.OK x):v.OK (y+x):=⟨ok.rd.addR,ok.len,ok.big,ok.nb,ok.nb1,ok.ow,ok.ipg,ok.ipg1,ok.ipg16⟩
@[go_sem] theorem VS.g0 {v:VS}:v.cells[0]? = some v.iv:=rfl
@[go_sem] theorem VS.g1 {v:VS}:v.cells[1]? = some (.int .u64 (v.nb:Nat)):=rfl
@[go_sem] theorem VS.g2 {v:VS}:v.cells[2]? = some (.slice none 0 0):=rfl
@[go_sem] theorem VS.g3 {v:VS}:v.cells[3]? = some v.img:=rfl
@[go_sem] theorem VS.g4 {v:VS}:v.cells[4]? = some (.int .u64 1):=rfl
@[go_sem] theorem VS.g5 {v:VS}:v.cells[5]? = some (.int .u64 32768):=rfl
@[go_sem] theorem VS.g6 {v:VS}:v.cells[6]? = some (.int .u64 (v.ipg:Nat)):=rfl
@[go_sem] theorem VS.g7 {v:VS}:v.cells[7]? = some (.int .u64 256):=rfl
@[go_sem] theorem VS.g8 {v:VS}:v.cells[8]? = some (.int .u64 32):=rfl
@[go_sem] theorem VS.g9 {v:VS}:v.cells[9]? = some (.slice (some ⟨v.ob,0,none⟩) v.nb v.nb):=rfl
@[go_sem] theorem VS.g10 {v:VS}:v.cells[10]? = some (.bool false):=rfl
theorem VS.clm_res {v:VS}{n:Nat}:(v.clm n).res=pts v.vb (.cells v.cells 51 (0,0))+buf v.ob (setL v.ow n [1]):=rfl
attribute [local irreducible] VS.cells
section
variable {v:VS}
theorem Uk {n:Nat}{s:Bs}(ok:v.OK x)(hn:v.ow[n]? = some 0)(w:AN (v.res+x) h)(hs:s.length<100)(K:∀ h,(v.clm n).OK x→AN ((v.clm n).res+x) h→Q (.tuple #[]) h):ADm (Pt v.vb) (.int .u64 (n:Nat)) (str s) h Q:=by
 have hlt:n<v.nb:=by
  rcases A66 n v.ow.length with h1|h1
  ·have:=ok.ow;omega
  ·rw[A40 h1] at hn;cases hn
 have hb:=ok.nb
 have e1:decide ((n:Int)≥(v.nb:Int))=false:=A08 (by omega)
 unfold ADm Unf Ucm Ucl Uil
 simp (disch:=omega) only[go_sem,AF w]
 rw[e1]
 simp only[go_sem]
 simp (disch:=omega) only[go_sem,AF w,Cg,A29]
 simp only[G9,hn,A80,go_sem]
 have e2:(AD .eql (bc 0) (.int .u8 0))=fun k=>k (.bool true):=funext fun k=>by unfold bc;rw[Aa];rfl
 rw[e2]
 rw[show (.string ⟨#[98,108,111,99,107,32,117,115,101,100,32,116,119,105,99,101,32,98,121,32]⟩:Value)=str [98,108,111,99,107,32,117,115,101,100,32,116,119,105,99,101,32,98,121,32] from rfl]
 simp (disch:=(simp only[A19,A61];omega)) only[go_sem]
 refine Al (Da ?_)
 simp (disch:=omega) only[go_sem,AF w,Cg,A29]
 have w2:AN (buf v.ob v.ow+(pts v.vb (.cells v.cells 51 (0,0))+x)) h:=w.cast (by unfold VS.res;ac_rfl)
 refine CM (c:=1) w2 (by have:=ok.ow;omega) fun h w=>K h (ok.clm hlt) (w.cast ?_)
 rw[VS.clm_res]
 ac_rfl
def blkL (I:Bs)(n:Nat):Bs:=(I.drop (n*4096)).take 4096
theorem ABw {n:Nat}(ok:v.OK x)(hn:n<v.nb)(w:AN (v.res+(y+x)) h)(K:∀ bv,RdX x bv (blkL v.I n)→Q bv h):AB0 (Pt v.vb) (.int .u64 (n:Nat)) h Q:=by
 have hb:=ok.nb
 have hl:=ok.len
 have hg:=ok.big
 obtain⟨ia,ic,hi⟩:=ok.rd.len
 have e1:decide ((n:Int)≥(v.nb:Int))=false:=A08 (by omega)
 have k1:n*4096≤(n+1)*4096:=A48 _ (Nat.le_succ n)
 have k2:(n+1)*4096≤v.I.length:=B28 (A48 _ hn) hl
 have e2:decide ((((n+1)*4096:Nat):Int)>(v.I.length:Int))=false:=A08 (by omega)
 unfold AB0 Unf Ucf Ucm Ucl
 simp (disch:=omega) only[go_sem,AF w]
 rw[e1]
 simp (disch:=omega) only[go_sem,AF w]
 rw[hi]
 simp (disch:=omega) only[go_sem]
 rw[e2]
 unfold Rr Unf
 simp (disch:=omega) only[go_sem,AF w]
 refine ok.rd.slice (i:=n*4096) (j:=(n+1)*4096) BA BA k1 k2 fun bv d=>K bv ?_
 rw[A49,show (n+1)*4096-n*4096=4096 by omega] at d
 exact d
def dscL (I:Bs):Bs:=(I.drop 4096).take 32
theorem AHf (ok:v.OK x)(w:AN (v.res+(y+x)) h)(K:∀ bv,RdX x bv (dscL v.I)→Q bv h):AEC (Pt v.vb) (.int .u64 ((0:Nat):Int)) h Q:=by
 have hl:=ok.len
 have hg:=ok.big
 have hn1:=ok.nb1
 obtain⟨ia,ic,hi⟩:=ok.rd.len
 have f2:(AD .add (.int .u64 4096) (.int .u64 ((0*32:Nat):Int)))=fun k=>k (.int .u64 ((4096:Nat):Int)):=funext fun k=>by rw[A0];rfl
 have f3:(AD .add (.int .u64 ((4096:Nat):Int)) (.int .u64 32))=fun k=>k (.int .u64 ((4128:Nat):Int)):=funext fun k=>by rw[A0];rfl
 have e2:decide (((4128:Nat):Int)>(v.I.length:Int))=false:=A08 (by omega)
 unfold AEC Unf Ucm Ucl
 simp (disch:=omega) only[go_sem,AF w]
 simp only[f2,f3]
 rw[hi]
 simp (disch:=omega) only[go_sem,AF w]
 rw[e2,←hi]
 simp only[go_sem]
 refine ok.rd.slice (i:=4096) (j:=4128) BA BA (by omega) (by omega) fun bv d=>K bv ?_
 rw[A49] at d
 exact d
theorem UN {lo n:Nat}{hv:Value}(ok:v.OK x)(w:AN (v.res+x) h)(hn:n≤7)(hlo:lo<1000)(K:Q (.int .u64 (leL (dscL v.I) lo n:Nat)) h):AB6 (Pt v.vb) (.int .u64 ((0:Nat):Int)) (.int .u64 (lo:Nat)) (.int .u64 (n:Nat)) hv h Q:=by
 unfold AB6 Ucl Unf
 refine AAH (AHf (y:=0) ok (w.cast (by rw[Res.zero_add])) fun bv d=>?_)
 refine Bh (JM d.addR w hn (by omega) (by simp[dscL];omega) ?_)
 simp (disch:=omega) only[go_sem,AF w]
 unfold NY Ucl
 rw[AU]
 exact K
theorem AFM (ok:v.OK x)(w:AN (v.res+x) h)(K:Q (.int .u64 (leL (dscL v.I) 0 4:Nat)) h):ACr (Pt v.vb) (.int .u64 ((0:Nat):Int)) h Q:=by
 unfold ACr Ucl
 exact G7 (UN (lo:=0) (n:=4) ok w (by omega) (by omega) K)
theorem AFX (ok:v.OK x)(w:AN (v.res+x) h)(K:Q (.int .u64 (leL (dscL v.I) 4 4:Nat)) h):ABg (Pt v.vb) (.int .u64 ((0:Nat):Int)) h Q:=by
 unfold ABg Ucl
 exact G7 (UN (lo:=4) (n:=4) ok w (by omega) (by omega) K)
theorem AGm (ok:v.OK x)(w:AN (v.res+x) h)(K:Q (.int .u64 (leL (dscL v.I) 8 4:Nat)) h):AEP (Pt v.vb) (.int .u64 ((0:Nat):Int)) h Q:=by
 unfold AEP Ucl
 exact G7 (UN (lo:=8) (n:=4) ok w (by omega) (by omega) K)
end
end
section
variable {h:H} {k:Value→Prop} {kt Q:Kt} {x y r:Res} {v:VS}
attribute [local irreducible] VS.cells
inductive Clm:List Nat→Bs→Bs→Prop
 | nil {o:Bs}:Clm [] o o
 | cons {n:Nat} {l:List Nat} {o o':Bs}:o[n]? = some 0→Clm l (setL o n [1]) o'→Clm (n::l) o o'
theorem Clm.append:∀ {l m:List Nat} {o o':Bs},Clm (l++m) o o'→∃ o1,Clm l o o1∧Clm m o1 o'
 | [],_,_,_,c=>⟨_,.nil,c⟩
 | _::_,_,_,_,.cons h1 h2=>by
  obtain⟨o1,h3,h4⟩:=h2.append
  exact⟨o1,.cons h1 h3,h4⟩
def VS.own (v:VS)(o:Bs):VS:={v with ow:=o}
theorem Clm.len:∀ {l:List Nat} {o o':Bs},Clm l o o'→o'.length=o.length
 | _,_,_,.nil=>rfl
 | _,_,_,.cons (n:=n) (o:=o) h1 h2=>by
  rw[h2.len]
  refine AS ?_
  rcases A66 n o.length with h|h
  ·simp;omega
  ·rw[A40 h] at h1;cases h1
theorem VS.OK.own {o:Bs}(ok:v.OK x)(hl:o.length=v.ow.length):(v.own o).OK x:=⟨ok.rd,ok.len,ok.big,ok.nb,ok.nb1,hl.trans ok.ow,ok.ipg,ok.ipg1,ok.ipg16⟩
def AH5:Bs:=[98,108,111,99,107,32,98,105,116,109,97,112]
def grpL (I:Bs)(ipg:Nat):List Nat:=[0,1]++([leL (dscL I) 0 4,leL (dscL I) 4 4]++(List.range (ipg/16)).map (leL (dscL I) 8 4 + ·))
theorem AHh {v:Value}(K:Q (.bool true) h):ADQ v (.int .u64 ((0:Nat):Int)) h Q:=by
 unfold ADQ Ucm Ucl Ucf
 have f1:(AD .eql (.int .u64 ((0:Nat):Int)) (.int .u64 0))=fun k=>k (.bool true):=funext fun k=>by rw[Aa];rfl
 simp only[f1,go_sem]
 exact K
theorem AGs {rec1:Value→H→Prop}{x1 x4 x5:Value}{o':Bs}:∀ (m j:Nat) (v:VS) (h:H),j+m=v.ipg/16→v.OK x→Clm ((List.range m).map (leL (dscL v.I) 8 4+j + ·)) v.ow o'→AN (v.res+x) h→(∀ h,AN ((v.own o').res+x) h→rec1 (.int .u64 ((1:Nat):Int)) h)→
  YJ Q rec1 (Pt v.vb) x1 x4 x5 (.int .u64 (v.ipg/16:Nat)) (.int .u64 ((0:Nat):Int)) (.int .u64 (j:Nat)) h:=by
 intro m j v h hj ok c w K
 unfold YJ
 refine Ba (fun m u h'=>∃ j ow,m+j=v.ipg/16∧u=.int .u64 (j:Nat)∧ow.length=v.ow.length∧Clm ((List.range m).map (leL (dscL v.I) 8 4+j + ·)) ow o'∧AN ((v.own ow).res+x) h') m ⟨j,v.ow,by omega,rfl,rfl,c,w⟩ ?_
 rintro rec m u h' ⟨j,ow,hmj,rfl,hl,c,w⟩ hrec
 have hi:=ok.ipg
 have ok1:(v.own ow).OK x:=ok.own hl
 have hd:leL (dscL v.I) 8 4<4294967296:=Ag
 unfold X1 Ucm Ucl
 simp (disch:=omega) only[go_sem]
 refine AX (fun hc=>?_) (fun hc=>?_)
 ·have hm:m=(m-1)+1:=by omega
  rw[hm,List.range_succ_eq_map,A33,B05] at c
  cases c with
  | cons h1 h2=>
   refine SH (AGm (v:=v.own ow) ok1 w ?_)
   rw[show (v.own ow).I=v.I from rfl]
   simp (disch:=omega) only[go_sem]
   refine Gn (Uk (v:=v.own ow) (n:=leL (dscL v.I) 8 4+j) (s:=[105,110,111,100,101,32,116,97,98,108,101]) ok1 h1 w (by decide) fun h ok2 w=>?_)
   refine hrec (m-1) _ _ ⟨j+1,setL ow (leL (dscL v.I) 8 4+j) [1],by omega,rfl,?_,?_,w⟩ (by omega)
   ·exact (ok2.ow.trans ok.ow.symm)
   ·refine Eq.mp ?_ h2
    congr 1
    refine A72 fun a _=>?_
    simp only[Function.comp]
    omega
 ·have hm:m=0:=by omega
  subst hm
  cases c
  exact K h' w
theorem AFc {x1 x4 x5:Value}{o':Bs}{rec1:Value→H→Prop}(ok:v.OK x)(c:Clm ([leL (dscL v.I) 0 4,leL (dscL v.I) 4 4]++(List.range (v.ipg/16)).map (leL (dscL v.I) 8 4 + ·)) v.ow o')(w:AN (v.res+x) h)(K:∀ h,AN ((v.own o').res+x) h→rec1 (.int .u64 ((1:Nat):Int)) h) :
  N4 Q rec1 (Pt v.vb) x1 x4 x5 (.int .u64 (v.ipg/16:Nat)) (.int .u64 ((0:Nat):Int)) h:=by
 cases c with
 | cons h1 c=>
  cases c with
  | cons h2 c=>
   unfold N4 Ucl
   refine Su (AFM ok w ?_)
   refine Gn (Uk (n:=leL (dscL v.I) 0 4) (s:=AH5) ok h1 w (by decide) fun h ok1 w=>?_)
   refine Ss (AFX (v:=v.clm _) ok1 w ?_)
   refine Gn (Uk (v:=v.clm _) (n:=leL (dscL v.I) 4 4) (s:=[105,110,111,100,101,32,98,105,116,109,97,112]) ok1 h2 w (by decide) fun h ok2 w=>?_)
   exact AGs (v.ipg/16) 0 ((v.clm _).clm _) h (by show 0+v.ipg/16=v.ipg/16;omega) ok2 (by show Clm (List.map (leL (dscL v.I) 8 4+0 + ·) _) _ _;exact c) w fun h w=>K h w
theorem s67 {sv:Value}{sb o':Bs}(ok:v.OK x)(d:RdX x sv sb)(hsl:sb.length=1024)(hc:leL sb 92 4=520)(c:Clm (grpL v.I v.ipg) v.ow o')(w:AN (v.res+x) h)(K:∀ h,(v.own o').OK x→AN ((v.own o').res+x) h→Q (.tuple #[]) h):f67 (Pt v.vb) sv h Q:=by
 have hi:=ok.ipg
 have h16:=ok.ipg16
 have hlen:=c.len
 unfold f67 Unf Ucl Ucm
 have f1:(AD .mul (.int .u64 1) (.int .u64 32))=fun k=>k (.int .u64 ((32:Nat):Int)):=funext fun k=>by rw[Bc];rfl
 have f2:(AD .add (.int .u64 ((32:Nat):Int)) (.int .u64 4096))=fun k=>k (.int .u64 ((4128:Nat):Int)):=funext fun k=>by rw[A0];rfl
 have f3:(AD .sub (.int .u64 ((4128:Nat):Int)) (.int .u64 1))=fun k=>k (.int .u64 ((4127:Nat):Int)):=funext fun k=>by rw[Bv];rfl
 have f4:(AD .quo (.int .u64 ((4127:Nat):Int)) (.int .u64 4096))=fun k=>k (.int .u64 ((1:Nat):Int)):=funext fun k=>by rw[M5 (by decide)];rfl
 simp (disch:=omega) only[go_sem,AF w,f1]
 rw[show ((32+4096-1)/4096:Nat)=1 from rfl]
 refine Bh (JM (p:=92) (n:=4) d.addR w (by omega) (by omega) (by omega) ?_)
 rw[hc]
 have f5:(AD .and (.int .u64 ((520:Nat):Int)) (.int .u64 16))=fun k=>k (.int .u64 ((0:Nat):Int)):=funext fun k=>by
  rw[Qm (by decide) (by decide)];rfl
 have f6:(AD .neq (.int .u64 ((0:Nat):Int)) (.int .u64 0))=fun k=>k (.bool false):=funext fun k=>by rw[A3];rfl
 simp only[f5,f6,go_sem]
 unfold Tz Unf
 have e4:((v.ipg*256+4096-1)/4096)=v.ipg/16:=by omega
 simp (disch:=omega) only[go_sem,AF w,e4]
 obtain⟨o1,c1,c2⟩:=Clm.append c
 unfold ABP
 refine Ba (fun m u h'=>(m=1∧u=.int .u64 0∧h'=h)∨(m=0∧u=.int .u64 ((1:Nat):Int)∧AN ((v.own o').res+x) h')) 1 (.inl ⟨rfl,rfl,rfl⟩) ?_
 rintro rec m u h' hh hrec
 rcases hh with⟨rfl,rfl,rfl⟩|⟨rfl,rfl,w⟩
 ·unfold SM Unf Ucm Ucl
  have g1:(AD .lss (.int .u64 0) (.int .u64 1))=fun k=>k (.bool true):=funext fun k=>by rw[AT];rfl
  have g2:(AD .mul (.int .u64 0) (.int .u64 32768))=fun k=>k (.int .u64 ((0:Nat):Int)):=funext fun k=>by rw[Bc];rfl
  simp (disch:=omega) only[go_sem,AF w]
  simp only[g1,g2,Ak]
  refine Zb (AHh ?_)
  rw[Ak]
  unfold ABE
  refine Ba (fun m u h'=>(m=2∧u=.int .u64 0∧AN (v.res+x) h')∨(m=1∧u=.int .u64 ((1:Nat):Int)∧AN ((v.clm 0).res+x) h')∨(m=0∧u=.int .u64 ((2:Nat):Int)∧AN ((v.own o1).res+x) h')) 2 (.inl ⟨rfl,rfl,w⟩) ?_
  rintro rec3 m u h' hh hrec3
  have q1:(AD .add (.int .u64 1) (.int .u64 ((1:Nat):Int)))=fun k=>k (.int .u64 ((2:Nat):Int)):=funext fun k=>by rw[A0];rfl
  have q2:(AD .add (.int .u64 ((2:Nat):Int)) (.int .u64 0))=fun k=>k (.int .u64 ((2:Nat):Int)):=funext fun k=>by rw[A0];rfl
  unfold YO Ucm Ucl
  simp only[q1,q2]
  cases c1 with
  | cons h1 c1=>
   cases c1 with
   | cons h2 c1=>
    cases c1
    rcases hh with⟨rfl,rfl,w⟩|⟨rfl,rfl,w⟩|⟨rfl,rfl,w⟩
    ·have g1:(AD .lss (.int .u64 0) (.int .u64 ((2:Nat):Int)))=fun k=>k (.bool true):=funext fun k=>by rw[AT];rfl
     have g2:(AD .add (.int .u64 ((0:Nat):Int)) (.int .u64 0))=fun k=>k (.int .u64 ((0:Nat):Int)):=funext fun k=>by rw[A0];rfl
     have g3:(AD .add (.int .u64 0) (.int .u64 1))=fun k=>k (.int .u64 ((1:Nat):Int)):=funext fun k=>by rw[A0];rfl
     simp only[g1,g2,g3,Ak]
     exact Gn (Uk (n:=0) (s:=[115,117,112,101,114,98,108,111,99,107]) ok h1 w (by decide) fun h ok1 w=>hrec3 1 _ _ (.inr (.inl ⟨rfl,rfl,w⟩)) (by omega))
    ·have g1:(AD .lss (.int .u64 ((1:Nat):Int)) (.int .u64 ((2:Nat):Int)))=fun k=>k (.bool true):=funext fun k=>by rw[AT];rfl
     have g2:(AD .add (.int .u64 ((0:Nat):Int)) (.int .u64 ((1:Nat):Int)))=fun k=>k (.int .u64 ((1:Nat):Int)):=funext fun k=>by rw[A0];rfl
     have g3:(AD .add (.int .u64 ((1:Nat):Int)) (.int .u64 1))=fun k=>k (.int .u64 ((2:Nat):Int)):=funext fun k=>by rw[A0];rfl
     simp only[g1,g2,g3,Ak]
     have hl0:0<v.nb:=by have:=ok.nb1;omega
     exact Gn (Uk (v:=v.clm 0) (n:=1) (s:=[115,117,112,101,114,98,108,111,99,107]) (ok.clm hl0) h2 w (by decide) fun h ok1 w=>hrec3 0 _ _ (.inr (.inr ⟨rfl,rfl,w⟩)) (by omega))
    ·have g1:(AD .lss (.int .u64 ((2:Nat):Int)) (.int .u64 ((2:Nat):Int)))=fun k=>k (.bool false):=funext fun k=>by rw[AT];rfl
     simp only[g1,AU]
     have hl1:(setL (setL v.ow 0 [1]) 1 [1]).length=v.ow.length:=by
      have:=ok.ow
      have:=ok.nb1
      rw[AS (by rw[AS (by simp;omega)];simp;omega),AS (by simp;omega)]
     exact AFc (v:=v.own (setL (setL v.ow 0 [1]) 1 [1])) (ok.own hl1) c2 w fun h w=>hrec 0 _ _ (.inr ⟨rfl,rfl,w⟩) (by omega)
 ·unfold SM Unf Ucm Ucl
  have g1:(AD .lss (.int .u64 ((1:Nat):Int)) (.int .u64 1))=fun k=>k (.bool false):=funext fun k=>by rw[AT];rfl
  have w:AN ((v.own o').res+x) h':=w
  have hpt:AB false 1 (.pointer (some ⟨(v.own o').vb,4,none⟩)) h'=U3 (some (.int .u64 1)):=by
   funext k
   rw[AF w,VS.g4]
  show AE (Pt (v.own o').vb) _
  simp (disch:=omega) only[go_sem,hpt,g1]
  exact K h' (ok.own hlen) w
end
section
variable {h:H} {k:Value→Prop} {kt Q:Kt} {x y r:Res} {v:VS}
attribute [local irreducible] VS.cells
def itL (I:Bs):Nat:=leL (dscL I) 8 4
def rawL (I:Bs)(n:Nat):Bs:=(I.drop (itL I*4096+(n-1)*256)).take 256
theorem AAg {n:Nat}(ok:v.OK x)(h1:1≤n)(h2:n≤v.ipg)(hit:itL v.I*4096+v.ipg*256≤v.I.length)(w:AN (v.res+(y+x)) h)(K:∀ bv,RdX x bv (rawL v.I n)→Q bv h):ACm (Pt v.vb) (.int .u64 (n:Nat)) h Q:=by
 have hi:=ok.ipg
 have hg:=ok.big
 obtain⟨ia,ic,hv⟩:=ok.rd.len
 have e1:decide ((n:Int)<1)=false:=A08 (by omega)
 have e2:decide ((n:Int)>((1*v.ipg:Nat):Int))=false:=A08 (by omega)
 have e3:(n-1)/v.ipg=0:=Nat.div_eq_of_lt (by omega)
 have e4:(n-1)%v.ipg=n-1:=A23 (by omega)
 have f1:(AD .mul (.int .u64 1) (.int .u64 (v.ipg:Nat)))=fun k=>k (.int .u64 ((1*v.ipg:Nat):Int)):=funext fun k=>by
  rw[Bc,←CU (show 1*v.ipg<18446744073709551616 by omega)];rfl
 have k1:itL v.I*4096+(n-1)*256≤itL v.I*4096+(n-1)*256+256:=by omega
 have k2:itL v.I*4096+(n-1)*256+256≤v.I.length:=by omega
 have e5:decide (((itL v.I*4096+(n-1)*256+256:Nat):Int)>(v.I.length:Int))=false:=A08 (by omega)
 unfold ACm Ucf Unf Ucm Ucl
 simp (disch:=omega) only[go_sem,AF w,f1]
 rw[e1]
 simp (disch:=omega) only[go_sem,AF w,f1]
 rw[e2]
 unfold RJ Unf Uff Uld Ucl Ukp Ucm
 simp (disch:=omega) only[go_sem,AF w,e3,e4]
 refine SH (AGm ok.mono w ?_)
 rw[show leL (dscL v.I) 8 4=itL v.I from rfl]
 simp (disch:=omega) only[go_sem,AF w]
 refine⟨trivial,?_⟩
 rw[hv]
 simp (disch:=omega) only[go_sem]
 rw[e5,←hv]
 simp only[go_sem]
 refine ok.rd.slice (i:=itL v.I*4096+(n-1)*256) (j:=itL v.I*4096+(n-1)*256+256) BA BA k1 k2 fun bv d=>K bv ?_
 rw[A49,A62] at d
 exact d
def kindL (m:Nat):Nat:=
 if m &&& 61440=32768 then 1 else if m &&& 61440=16384 then 2 else if m &&& 61440=8192 then 3 else if m &&& 61440=24576 then 4 else if m &&& 61440=4096 then 5 else if m &&& 61440=49152 then 6 else if m &&& 61440=40960 then 7 else 0
theorem YT {m:Nat}(hm:m<65536)(K:Q (.int .u64 (kindL m:Nat)) h):f45 (.int .u16 (m:Nat)) h Q:=by
 unfold f45 Ucm
 rw[Jk hm (by decide)]
 unfold kindL at K
 simp only[go_sem]
 have st:∀ (a c:Nat) (A B:Prop),(m &&& 61440=a→A)→(¬m &&& 61440=a→B)→AK (.bool (decide (((m &&& 61440:Nat):Int)=((a:Nat):Int)))) A B:=fun a c A B h1 h2=>AX (fun e=>h1 (by omega)) (fun e=>h2 (by omega))
 refine st 32768 0 _ _ (fun e=>?_) (fun e=>?_)
 ·rw[A03 e] at K;exact K
 rw[A05 e] at K
 refine st 16384 0 _ _ (fun e=>?_) (fun e=>?_)
 ·rw[A03 e] at K;exact K
 rw[A05 e] at K
 refine st 8192 0 _ _ (fun e=>?_) (fun e=>?_)
 ·rw[A03 e] at K;exact K
 rw[A05 e] at K
 refine st 24576 0 _ _ (fun e=>?_) (fun e=>?_)
 ·rw[A03 e] at K;exact K
 rw[A05 e] at K
 refine st 4096 0 _ _ (fun e=>?_) (fun e=>?_)
 ·rw[A03 e] at K;exact K
 rw[A05 e] at K
 refine st 49152 0 _ _ (fun e=>?_) (fun e=>?_)
 ·rw[A03 e] at K;exact K
 rw[A05 e] at K
 refine st 40960 0 _ _ (fun e=>?_) (fun e=>?_)
 ·rw[A03 e] at K;exact K
 rw[A05 e] at K
 exact K
theorem Jo:AG TP 60=some (.agg ⟨[.int .i64 0,.int .i64 0]⟩):=by kernel_rfl
def ZM (lo ex:Nat):List Int:=[(if lo<2147483648 then (lo:Int) else (lo:Int)-4294967296)+((ex%4*4294967296:Nat):Int),((ex/4:Nat):Int)]
theorem VR {lo:Nat}(hl:lo<4294967296):IntKind.i32.wrap (lo:Int)=if lo<2147483648 then (lo:Int) else (lo:Int)-4294967296:=by
 unfold IntKind.wrap
 simp only[IntKind.signed,IntKind.bits]
 by_cases h1:lo<2147483648
 ·simp[h1];omega
 ·simp[h1];omega
theorem Lm {z:Int}(h1 : -9223372036854775808≤z)(h2:z<9223372036854775808):IntKind.i64.wrap z=z:=by
 unfold IntKind.wrap
 simp only[IntKind.signed,IntKind.bits]
 simp
 omega
def Fd (lo ex:Nat):Value:=.agg ⟨(ZM lo ex).map (.int .i64 ·)⟩
theorem AIR {lo ex:Nat}(h1:lo<4294967296)(h2:ex<4294967296)(w:AN x h)(K:∀ y h,AN (y+x) h→Q (Fd lo ex) h):AER (.int .u64 (lo:Nat)) (.int .u64 (ex:Nat)) h Q:=by
 unfold AER Umk
 refine Ah w Jo rfl fun b h w=>?_
 have hs : -2147483648≤(if lo<2147483648 then (lo:Int) else (lo:Int)-4294967296)∧(if lo<2147483648 then (lo:Int) else (lo:Int)-4294967296)<2147483648:=by
  by_cases h3:lo<2147483648<;>simp[h3]<;>omega
 have e3:ex &&& 3=ex%4:=Nat.and_two_pow_sub_one_eq_mod ex 2
 have f1:∀ z:Int,-2147483648≤z→z<2147483648→(AD .add (.int .i64 z) (.int .i64 ((ex%4*4294967296:Nat):Int)))=fun k=>k (.int .i64 (z+((ex%4*4294967296:Nat):Int))):=fun z h4 h5=>funext fun k=>by
  rw[A0,Lm (by omega) (by omega)]
 have f2:(AD .shl (.int .i64 ((ex%4:Nat):Int)) (.int .u64 32))=fun k=>k (.int .i64 ((ex%4*4294967296:Nat):Int)):=funext fun k=>by
  refine (Ez (s:=32) (by decide)).trans ?_
  rw[Ci (by omega)]
 have f3:(AD .shr (.int .u64 (ex:Nat)) (.int .u64 2))=fun k=>k (.int .u64 ((ex/4:Nat):Int)):=funext fun k=>EC (s:=2)
 have e6:IntKind.i64.wrap (if lo<2147483648 then (lo:Int) else (lo:Int)-4294967296)=(if lo<2147483648 then (lo:Int) else (lo:Int)-4294967296):=Lm (by omega) (by omega)
 simp (disch:=omega) only[go_sem,e3,VR h1,e6]
 simp only[f2,f1 _ hs.1 hs.2,f3]
 simp (disch:=omega) only[go_sem]
 refine Au Jo rfl (rs:=[.int .i64 ((if lo<2147483648 then (lo:Int) else (lo:Int)-4294967296)+((ex%4*4294967296:Nat):Int)),.int .i64 ((ex/4:Nat):Int)]) rfl ?_
 refine AL w ⟨(ZM lo ex).map (.int .i64 ·)⟩ rfl rfl (by simp) rfl fun h w=>?_
 rw[Am w.left.one (by simp[ZM])]
 exact K _ h w
def bitL (b:Bs)(i:Nat):Bool:=decide ((b.getD (i/8) 0).toNat/2^(i%8)%2=1)
theorem AC4 {kk k':IntKind}{a s:Nat}:AD .shr (.int kk (a:Int)) (.int k' (s:Int)) k=k (.int kk ((a/2^(min s kk.bits):Nat):Int)):=EC (s:=s)
theorem AEz {bv:Value}{b:Bs}{i:Nat}(d:RdX x bv b)(w:AN x h)(hi:i/8<b.length)(hb:i<1000000)(K:Q (.bool (bitL b i)) h):ADz bv (.int .u64 (i:Nat)) h Q:=by
 unfold ADz Uil
 simp (disch:=omega) only[go_sem]
 have hg:=A00 hi
 refine d.get w hg ?_
 have h8:b[i/8].toNat<256:=b[i/8].toNat_lt
 unfold bc
 rw[AC4,show min (i%8) IntKind.u8.bits=i%8 from A30 (by show i%8≤8;omega)]
 have h9:b[i/8].toNat/2^(i%8)<256:=B06 (B67 _ _) h8
 have f1:(AD .and (.int .u8 ((b[i/8].toNat/2^(i%8):Nat):Int)) (.int .u8 1))=fun k=>k (.int .u8 ((b[i/8].toNat/2^(i%8)%2:Nat):Int)):=funext fun k=>by
  have:=Nv (k:=k) (kk:=.u8) (b:=1) rfl h9 (by decide)
  rw[Nat.and_one_is_mod] at this
  exact this
 rw[f1]
 simp only[go_sem]
 have e:bitL b i=decide (((b[i/8].toNat/2^(i%8)%2:Nat):Int)=1):=by
  unfold bitL
  rw[A10,hg,B52]
  exact decide_eq_decide.2 (by omega)
 rw[←e]
 exact K
end
section
variable {h:H} {k:Value→Prop} {kt Q:Kt} {x y r:Res}
theorem orp {a b i:Nat}(h:a<2^i):a ||| b*2^i=a+b*2^i:=by
 rw[Nat.or_comm,←Nat.shiftLeft_eq,←Nat.shiftLeft_add_eq_or_of_lt h,B54]
theorem ID (a b c d:UInt8):GY a b c d=IT [a,b,c,d]:=by
 have ha:=a.toNat_lt;have hb:=b.toNat_lt;have hc:=c.toNat_lt;have hd:=d.toNat_lt
 unfold GY
 have e1:=orp (a:=a.toNat) (b:=b.toNat) (i:=8) (by omega)
 have e2:=orp (a:=a.toNat+b.toNat*2^8) (b:=c.toNat) (i:=16) (by omega)
 have e3:=orp (a:=a.toNat+b.toNat*2^8+c.toNat*2^16) (b:=d.toNat) (i:=24) (by omega)
 simp only[Nat.reducePow] at e1 e2 e3
 rw[e1,e2,e3]
 simp only[IT]
 omega
theorem Ru:∀ (l:Bs) (hh:Nat),l≠[]→C9 hh l=C9 (Lh hh (IT (l.take 4))) (l.drop 4)
 | [],_,h=>absurd rfl h
 | [a],hh,_=>by simp only[C9,B12,List.take_nil,B48,List.drop_nil,ID,IT];rfl
 | [a,b],hh,_=>by simp only[C9,B12,List.take_nil,B48,List.drop_nil,ID,IT];rfl
 | [a,b,c],hh,_=>by simp only[C9,B12,List.take_nil,B48,List.drop_nil,ID,IT];rfl
 | a::b::c::d::l,hh,_=>by simp only[C9,B12,B17,B48,A68,ID]
theorem ACX {v:Value}{bs:Bs}{hh:Nat}(w:AN x h)(d:RdX x v bs)(hl:bs.length<1000000)(h0:hh<4294967296)(K:Q (.int .u32 (C9 hh bs:Nat)) h):QS Q v (.int .u32 (hh:Nat)) (.int .i64 ((0:Nat):Int)) h:=by
 unfold QS
 refine DE (fun m v5 v7 h'=>∃ i hv,m=bs.length-i∧v5=.int .u32 (hv:Nat)∧v7=.int .i64 (i:Nat)∧hv<4294967296∧i<bs.length+4∧h'=h∧C9 hv (bs.drop i)=C9 hh bs) bs.length ⟨0,hh,rfl,rfl,rfl,h0,by omega,rfl,rfl⟩ ?_
 rintro rec m v5 v7 h' ⟨i,hv,rfl,rfl,rfl,hv0,hi4,rfl,he⟩ hrec
 obtain⟨a,c,hvv⟩:=d.len
 unfold QM Ucm Ucl
 have hx:hv*65536%4294967296 ^^^ hv/65536<4294967296:=B07 (n:=32) (by omega) (by omega)
 have hle:leL bs i 4<4294967296:=Ag
 rw[hvv]
 simp (disch:=omega) only[go_sem]
 rw[←hvv]
 refine AX (fun hc=>?_) (fun hc=>?_)
 ·refine Bh (JM (n:=4) d w (by omega) (by omega) (by omega) ?_)
  simp (disch:=omega) only[go_sem]
  refine hrec (bs.length-(i+4)) _ _ _ ⟨i+4,Lh hv (leL bs i 4),rfl,rfl,rfl,Gz hv0 hle,by omega,rfl,?_⟩ (by omega)
  have hne:bs.drop i≠[]:=by
   intro e
   have:=A76 List.length e
   simp at this
   omega
  rw[←he,Ru _ _ hne,A64]
  rfl
 ·have:bs.drop i=[]:=A59 (by omega)
  rw[this,C9] at he
  rw[he]
  exact K
theorem AHm {nv v:Value}{nm bs:Bs}(w:AN x h)(dn:RdX x nv nm)(d:RdX x v bs)(hl:bs.length<1000000)(hn:nm.length<1000000)(K:Q (.int .u32 (hashX nm bs:Nat)) h):AB8 nv v h Q:=by
 obtain⟨na,nc,hnv⟩:=dn.len
 unfold AB8 Xd
 rw[hnv,Aw,←hnv]
 refine DE (fun m v5 v6 h'=>∃ i,m=nm.length-i∧i≤nm.length∧v5=.int .u32 ((nm.take i).foldl JW 0:Nat)∧v6=.int .i64 (i:Nat)∧h'=h) nm.length ⟨0,rfl,A39 _,rfl,rfl,rfl⟩ ?_
 rintro rec m v5 v6 h' ⟨i,rfl,hi,rfl,rfl,rfl⟩ hrec
 have hlt:=H2 (nm.take i) 0 (by omega)
 unfold Q5 Ucm Uil
 simp (disch:=omega) only[go_sem]
 refine AX (fun hc=>?_) (fun hc=>?_)
 ·obtain⟨u,hu⟩:∃ u,nm[i]? = some u:=⟨_,A00 (by omega)⟩
  have hub:=u.toNat_lt
  have hx:(nm.take i).foldl JW 0*32%4294967296 ^^^ (nm.take i).foldl JW 0/134217728<4294967296:=B07 (n:=32) (by omega) (by omega)
  refine dn.get w hu ?_
  simp (disch:=omega) only[go_sem,bc]
  refine hrec (nm.length-(i+1)) _ _ _ ⟨i+1,rfl,by omega,?_,rfl,rfl⟩ (by omega)
  rw[A85,hu]
  simp[B19,JW]
 ·have:i=nm.length:=by omega
  subst this
  rw[A38] at *
  exact ACX w d hl hlt K
def pfxL:Nat→Option Bs
 | 0=>some []
 | 1=>some [117,115,101,114,46]
 | 2=>some [115,121,115,116,101,109,46,112,111,115,105,120,95,97,99,108,95,97,99,99,101,115,115]
 | 3=>some [115,121,115,116,101,109,46,112,111,115,105,120,95,97,99,108,95,100,101,102,97,117,108,116]
 | 4=>some [116,114,117,115,116,101,100,46]
 | 6=>some [115,101,99,117,114,105,116,121,46]
 | 7=>some [115,121,115,116,101,109,46]
 | 8=>some [115,121,115,116,101,109,46,114,105,99,104,97,99,108]
 | _=>none
theorem AHS {n:Nat}{p:Bs}(hp:pfxL n=some p)(K:Q (.tuple #[str p,.bool true]) h):AEU (.int .u64 (n:Nat)) h Q:=by
 unfold AEU Ucm
 simp only[go_sem]
 have h9:n<9:=by
  rcases A66 n 9 with h1|h1
  ·exact h1
  ·unfold pfxL at hp
   split at hp<;>first|omega|cases hp
 have:n=0∨n=1∨n=2∨n=3∨n=4∨n=5∨n=6∨n=7∨n=8:=by omega
 rcases this with rfl|rfl|rfl|rfl|rfl|rfl|rfl|rfl|rfl<;>cases hp<;>exact K
end
section
variable {h:H} {k:Value→Prop} {kt Q:Kt} {x y r:Res}
attribute [local irreducible] AK Az AQ BB Ae AY AH AM
theorem Vo {b o n c:Nat}{l:List Value}{bs:Bs}{T:TypeId}{fz:Nat×Nat}(w:AN x h)[CO b x (.cells ⟨l⟩ T fz)](hn:o+n≤l.length)(hb:(l.drop o).take n=bs.map bc):HI (.slice (some ⟨b,o,none⟩) n c) h k=k (str bs):=by
 have hv:J5 h (.slice (some ⟨b,o,none⟩) n c)=some (str bs):=by
  unfold J5
  simp only[w.find (b:=b),A86,A45,if_false]
  rw[A03 (by simpa using hn)]
  have:((⟨l⟩:Array Value).extract o (o+n)).toList=bs.map bc:=by
   rw[←hb];simp[A44]
  have hb2:∀ l:Bs,DU (l.map bc)=some l:=by
   intro l
   induction l with
   | nil=>rfl
   | cons a l ih=>simp[DU,bc,ih]
  rw[this,hb2]
 exact propext ⟨fun⟨v,a,b⟩=>by rw[hv] at a;cases a;exact b,fun a=>⟨_,hv,a⟩⟩
theorem RdX.str {v:Value}{bs:Bs}(d:RdX x v bs)(w:AN x h)(K:k (str bs)):HI v h k:=by
 rcases d with⟨a',c',h1,h2⟩|⟨b,o,c',all,T,fz,y,h1,h2,h3,h4,h5⟩
 ·subst h1 h2
  exact⟨_,WH,K⟩
 ·subst h1 h2
  rw[Vo w h3 h4]
  exact K
theorem RdX.mono {v:Value}{bs:Bs}(d:RdX x v bs):RdX (y+x) v bs:=d.addR
inductive AttrR (b all:Bs) (ins:Bool):Nat→Nat→List (Bs×Bs)→Prop
 | stop {at' low:Nat}:at'+4≤b.length→leL b at' 4=0→all.length-b.length+at'+4≤low→AttrR b all ins at' low []
 | step {at' low:Nat} {p:Bs} {rest:List (Bs×Bs)}:leL b at' 4≠0→at'+16+leL b at' 1≤b.length→leL b (at'+4) 4=0→pfxL (leL b (at'+1) 1)=some p→leL b (at'+2) 2+leL b (at'+8) 4≤all.length →
   (ins=true∧leL b (at'+12) 4=0∨leL b (at'+12) 4=hashX ((b.drop (at'+16)).take (leL b at' 1)) ((all.drop (leL b (at'+2) 2)).take (leL b (at'+8) 4)))→(0<leL b (at'+8) 4→leL b (at'+2) 2%4=0)→
   AttrR b all ins (at'+(16+leL b at' 1+3)/4*4) (if 0<leL b (at'+8) 4 then min low (leL b (at'+2) 2) else low) rest →
   AttrR b all ins at' low ((p++(b.drop (at'+16)).take (leL b at' 1),(all.drop (leL b (at'+2) 2)).take (leL b (at'+8) 4))::rest)
inductive AtV (x:Res):List Value→List (Bs×Bs)→Prop
 | nil:AtV x [] []
 | cons {nm bs:Bs} {v:Value} {cs:List Value} {l:List (Bs×Bs)}:RdX x v bs→AtV x cs l→AtV x ([str nm,v]++cs) ((nm,bs)::l)
theorem AtV.mono:∀ {cs:List Value} {l:List (Bs×Bs)},AtV x cs l→AtV (y+x) cs l
 | _,_,.nil=>.nil
 | _,_,.cons d a=>.cons d.addR a.mono
theorem AtV.snoc {nm bs:Bs}{v:Value}:∀ {cs:List Value} {l:List (Bs×Bs)},AtV x cs l→RdX x v bs→AtV x (cs++[str nm,v]) (l++[(nm,bs)])
 | _,_,.nil,d=>.cons d .nil
 | _,_,.cons d a,e=>.cons d (a.snoc e)
theorem Il:AG TP 86=some (.agg ⟨[str [],.slice none 0 0]⟩):=by kernel_rfl
theorem ZG {n:Nat}{p:Bs}(hp:pfxL n=some p):p.length<100:=by
 unfold pfxL at hp
 split at hp<;>cases hp<;>decide
section
variable {ib:Nat} {ic:Array Value} {nv x0 bv av v:Value} {b all:Bs} {ins:Bool} {at' low n:Nat} {cs:List Value} {done:List (Bs×Bs)}
theorem XT {kk:IntKind}{a c:Nat}(K:k (.int kk (min a c:Nat))):NW (.int kk (a:Int)) (.int kk (c:Int)) k:=by
 refine⟨kk,a,c,rfl,rfl,?_⟩
 have e:(if (c:Int)<(a:Int) then (c:Int) else (a:Int))=((min a c:Nat):Int):=by
  by_cases hc:(c:Int)<(a:Int)
  ·rw[A03 hc];omega
  ·rw[A05 hc];omega
 rw[e];exact K
theorem AD4 {rec1:Value→Value→Value→H→Prop}{x1 x2 x3 x4 x14 tv vv:Value}{p text val:Bs}{len lw:Nat}(d:Vec 86 2 v n cs r)(A:AtV y cs done)(dt:RdX (y+x) tv text)(dv:RdX y vv val)(w:AN (r+(y+x)) h)(hn:n≤1000000)(hp:p.length<100)(ht:text.length<1000)(hat:at'<1000000)(hl:len<1000)
  (K:∀ v r h,Vec 86 2 v (n+1) (cs++[str (p++text),vv]) r→AtV y (cs++[str (p++text),vv]) (done++[(p++text,val)])→AN (r+(y+x)) h→rec1 v (.int .u64 (at'+(16+len+3)/4*4:Nat)) (.int .u64 (lw:Nat)) h) :
  Ew Q rec1 x0 x1 x2 x3 x4 v (.int .u64 (at':Nat)) (.int .u64 (lw:Nat)) x14 (.int .u64 (len:Nat)) (str p) tv vv h:=by
 obtain⟨va,vc,rfl⟩:=dv.len
 unfold Ew
 refine dt.addR.str w ?_
 rw[H9 (by omega)]
 refine Au Il rfl (rs:=[str (p++text),.slice va val.length vc]) rfl ?_
 refine CW d w Il rfl rfl (by omega) (by omega) rfl fun b h w=>?_
 refine B0 d w Il rfl rfl rfl (by omega) (by omega) fun v r h d w=>?_
 have f1:(AD .add (.int .u64 16) (.int .u64 (len:Nat)))=fun k=>k (.int .u64 ((16+len:Nat):Int)):=funext fun k=>by
  rw[A0,←CU (show 16+len<18446744073709551616 by omega)];rfl
 simp (disch:=omega) only[go_sem,f1]
 exact K v r h d (A.snoc dv) w
theorem AEB (db:RdX x bv b)(da:RdX x av all)(hbl:b.length≤all.length)(hal:all.length<100000){l:List (Bs×Bs)}(A:AttrR b all ins 0 all.length l)(w:AN (pts ib (.cells ic 81 (0,0))+x) h)(hnum:ic[0]? = some nv)
  (K:∀ v cs r y h,Vec 86 2 v l.length cs r→AtV y cs l→AN (r+(y+(pts ib (.cells ic 81 (0,0))+x))) h→Q v h) :
  Qs Q x0 (Pt ib) bv av (.bool ins) (.int .u64 (all.length-b.length:Nat)) (.slice none 0 0) (.int .u64 ((0:Nat):Int)) (.int .u64 (all.length:Nat)) h:=by
 obtain⟨ba,bcc,hb⟩:=db.len
 obtain⟨aa,ac,ha⟩:=da.len
 unfold Qs
 refine MA (fun m u0 u1 u2 h'=>∃ at' low v n cs r y done rest,m=b.length+1000-at'∧u0=v∧u1=.int .u64 (at':Nat)∧u2=.int .u64 (low:Nat)∧Vec 86 2 v n cs r∧AtV y cs done∧AttrR b all ins at' low rest∧done++rest=l∧n=done.length∧n≤at'∧at'<b.length+500∧low≤all.length∧AN (r+(y+(pts ib (.cells ic 81 (0,0))+x))) h')
  (b.length+1000) ⟨0,all.length,.slice none 0 0,0,[],0,0,[],l,by omega,rfl,rfl,rfl,.nil,.nil,A,rfl,rfl,A39 _,by omega,A07 _,by rw[Res.zero_add,Res.zero_add];exact w⟩ ?_
 rintro rec m u0 u1 u2 h' ⟨at',low,v,n,cs,r,y,done,rest,rfl,rfl,rfl,rfl,d,av',A,hl,rfl,hn,hat,hlow,w⟩ hrec
 have dbx:RdX (r+(y+(pts ib (.cells ic 81 (0,0))+x))) bv b:=db.addR.addR.addR
 have wl:AB false 1 (.pointer (some ⟨ib,0,none⟩)) h'=U3 (some nv):=funext fun k=>by
  rw[AF (w.cast (show r+(y+(pts ib (.cells ic 81 (0,0))+x))=pts ib (.cells ic 81 (0,0))+(r+(y+x)) by ac_rfl)),hnum]
 unfold QA Ucg Ucl Ucm
 rw[hb]
 simp (disch:=omega) only[go_sem]
 rw[←hb]
 cases A with
 | stop h1 h2 h3=>
  have e1:decide (((at'+4:Nat):Int)≤(b.length:Int))=true:=A04 (by omega)
  rw[e1,Cq]
  refine Bh (JM (n:=4) dbx w (by omega) (by omega) (by omega) ?_)
  rw[h2]
  have f1:(AD .neq (.int .u64 ((0:Nat):Int)) (.int .u64 0))=fun k=>k (.bool false):=funext fun k=>by rw[A3];rfl
  simp only[f1,AU]
  unfold Nw Ucg Unf Ucl
  rw[hb]
  simp (disch:=omega) only[go_sem]
  have e2:decide (((all.length-b.length+at'+4:Nat):Int)≤(low:Int))=true:=A04 (by omega)
  rw[e1,Cq,e2]
  simp (disch:=omega) only[go_sem,wl]
  refine Al (Da ?_)
  rw[A22] at hl
  subst hl
  exact K _ cs r y h' d av' w
 | step g1 g2 g3 g4 g5 g6 g7 A'=>
  rename_i p rest
  have l1:leL b at' 1<256:=Ag
  have l2:leL b (at'+1) 1<256:=Ag
  have l3:leL b (at'+2) 2<65536:=Ag
  have l4:leL b (at'+8) 4<4294967296:=Ag
  have l5:leL b (at'+12) 4<4294967296:=Ag
  have e1:decide (((at'+4:Nat):Int)≤(b.length:Int))=true:=A04 (by omega)
  rw[e1,Cq]
  refine Bh (JM (n:=4) dbx w (by omega) (by omega) (by omega) ?_)
  have f1:(AD .neq (.int .u64 (leL b at' 4:Nat)) (.int .u64 0))=fun k=>k (.bool true):=funext fun k=>by rw[A3,A04 (by omega)]
  simp only[f1,Ak]
  unfold P9 Ucm Unf Ucl Uff Uld Ukp Ucf
  have e2:decide (((at'+16:Nat):Int)>(b.length:Int))=false:=A08 (by omega)
  rw[hb]
  simp (disch:=omega) only[go_sem]
  rw[e2,←hb,AU]
  refine Bh (JM (n:=1) dbx w (by omega) (by omega) (by omega) ?_)
  refine Bh (JM (n:=1) dbx w (by omega) (by omega) (by omega) ?_)
  refine Bh (JM (n:=2) dbx w (by omega) (by omega) (by omega) ?_)
  refine Bh (JM (n:=4) dbx w (by omega) (by omega) (by omega) ?_)
  simp (disch:=omega) only[go_sem,wl]
  refine Bh (JM (n:=4) dbx w (by omega) (by omega) (by omega) ?_)
  rw[g3]
  refine⟨by rw[wl];rfl,?_⟩
  have f2:(AD .eql (.int .u64 ((0:Nat):Int)) (.int .u64 0))=fun k=>k (.bool true):=funext fun k=>by rw[Aa];rfl
  simp only[f2]
  refine Al (Da ?_)
  refine Y1 (AHS g4 ?_)
  simp (disch:=omega) only[go_sem,wl]
  refine Al (Da ?_)
  have e3:decide (((at'+16+leL b at' 1:Nat):Int)>(b.length:Int))=false:=A08 (by omega)
  have e4:decide (((leL b (at'+2) 2+leL b (at'+8) 4:Nat):Int)>(all.length:Int))=false:=A08 (by omega)
  have e5:decide (((leL b (at'+2) 2+leL b (at'+8) 4:Nat):Int)<(leL b (at'+2) 2:Int))=false:=A08 (by omega)
  rw[ha]
  simp (disch:=omega) only[go_sem]
  rw[e3,Cr,e4,Cr,e5,←ha]
  unfold LY Unf Ucl
  simp (disch:=omega) only[go_sem]
  have dbp:RdX (y+(pts ib (.cells ic 81 (0,0))+x)) bv b:=db.addR.addR
  refine dbp.slice (i:=at'+16) (j:=at'+16+leL b at' 1) BA BA (by omega) (by omega) fun tv dt=>?_
  rw[A49,A62] at dt
  refine CZ (l:=[]) w (by omega) rfl rfl fun eb h w=>?_
  refine da.slice (i:=leL b (at'+2) 2) (j:=leL b (at'+2) 2+leL b (at'+8) 4) BA BA (by omega) (by omega) fun sv ds=>?_
  rw[A49,A62] at ds
  have hvl:((all.drop (leL b (at'+2) 2)).take (leL b (at'+8) 4)).length=leL b (at'+8) 4:=by simp;omega
  have htl:((b.drop (at'+16)).take (leL b at' 1)).length=leL b at' 1:=by simp;omega
  refine BU (BufV.own' (n:=0) (all:=[]) (c:=0) (bs:=[]) (A07 _) rfl rfl) w (ds.addR.addR.addR.rd w.right) (by rw[hvl];simp;omega) fun vv vr h bv' w=>?_
  rw[A34] at bv'
  have w:AN (r+((vr+y)+(pts ib (.cells ic 81 (0,0))+x))) h:=w.cast (by ac_rfl)
  have wl:AB false 1 (.pointer (some ⟨ib,0,none⟩)) h=U3 (some nv):=funext fun k=>by
   rw[AF (w.cast (show r+((vr+y)+(pts ib (.cells ic 81 (0,0))+x))=pts ib (.cells ic 81 (0,0))+(r+((vr+y)+x)) by ac_rfl)),hnum]
  have dbx:RdX (r+((vr+y)+(pts ib (.cells ic 81 (0,0))+x))) bv b:=db.addR.addR.addR
  have dt':RdX (vr+y+(pts ib (.cells ic 81 (0,0))+x)) tv ((b.drop (at'+16)).take (leL b at' 1)):=by rw[Res.assoc];exact dt.addR
  have dv':RdX (vr+y) vv ((all.drop (leL b (at'+2) 2)).take (leL b (at'+8) 4)):=bv'.rdX.addL
  have fin:∀ lw,lw=(if 0<leL b (at'+8) 4 then min low (leL b (at'+2) 2) else low)→Ew Q rec x0 (Pt ib) bv av (.bool ins) u0 (.int .u64 (at':Nat)) (.int .u64 (lw:Nat)) (.int .u64 (all.length-b.length:Nat)) (.int .u64 (leL b at' 1:Nat)) (str p) tv vv h:=by
   intro lw hlw
   refine AD4 d av'.mono dt' dv' w (by omega) (ZG g4) (by omega) (by omega) (by omega) fun v r h d av' w=>?_
   refine hrec (b.length+1000-(at'+(16+leL b at' 1+3)/4*4)) _ _ _ _ ⟨at'+(16+leL b at' 1+3)/4*4,lw,v,_,_,r,_,_,rest,rfl,rfl,rfl,rfl,d,av',by rw[hlw];exact A',by rw[←hl];simp,by simp,by omega,by omega,by rw[hlw];split<;>omega,w⟩ (by omega)
  have tail:AK (.bool (decide ((leL b (at'+8) 4:Int)>0))) (AD .rem (.int .u64 (leL b (at'+2) 2:Nat)) (.int .u64 4) fun x169=>AD .eql x169 (.int .u64 0) fun x170=>AE (Pt ib) fun x172=>AC 0 x172 fun x173=>AB false 1 x173 h fun x174=>Call TP 65 [x0,x170,(.string ⟨#[112,108,97,99,101,32,111,102,32,97,32,118,97,108,117,101,32,111,102,32,105,110,111,100,101]⟩),x174] h fun x175 h=>NW (.int .u64 (low:Nat)) (.int .u64 (leL b (at'+2) 2:Nat)) fun x178=>Ew Q rec x0 (Pt ib) bv av (.bool ins) u0 (.int .u64 (at':Nat)) x178 (.int .u64 (all.length-b.length:Nat)) (.int .u64 (leL b at' 1:Nat)) (str p) tv vv h)
    (Ew Q rec x0 (Pt ib) bv av (.bool ins) u0 (.int .u64 (at':Nat)) (.int .u64 (low:Nat)) (.int .u64 (all.length-b.length:Nat)) (.int .u64 (leL b at' 1:Nat)) (str p) tv vv h):=by
   refine AX (fun hc=>?_) (fun hc=>?_)
   ·have h0:0<leL b (at'+8) 4:=by omega
    have f3:(AD .rem (.int .u64 (leL b (at'+2) 2:Nat)) (.int .u64 4))=fun k=>k (.int .u64 ((0:Nat):Int)):=funext fun k=>by
     rw[LI (by decide)]
     have:=g7 h0
     simp[this]
    simp (disch:=omega) only[f3,f2,go_sem,wl]
    refine Al (Da ?_)
    exact XT (fin _ (by rw[A03 h0]))
   ·exact fin low (by rw[A05 (by omega)])
  refine Bh (JM (n:=4) dbx w (by omega) (by omega) (by omega) ?_)
  have main:∀ c:Bool,(c=true→leL b (at'+12) 4=hashX ((b.drop (at'+16)).take (leL b at' 1)) ((all.drop (leL b (at'+2) 2)).take (leL b (at'+8) 4)))→LM Q rec x0 (Pt ib) bv av (.bool ins) u0 (.int .u64 (at':Nat)) (.int .u64 (low:Nat)) (.int .u64 (all.length-b.length:Nat)) (.int .u64 (leL b at' 1:Nat)) (.int .u64 (leL b (at'+2) 2:Nat)) (.int .u64 (leL b (at'+8) 4:Nat)) (str p) tv vv (.int .u64 (leL b (at'+12) 4:Nat)) (.bool c) h:=by
   intro c hc
   unfold LM Uff Uld Ucl Ukp Ucm Unf
   cases c with
   | false=>
    rw[AU,Ao]
    exact tail
   | true=>
    rw[Ak]
    have hh:=hc rfl
    have nf:∀ k:Value→Prop,(AE (Pt ib) fun x161=>AC 0 x161 k)=k (.pointer (some ⟨ib,0,none⟩)):=fun k=>by simp only[go_sem]
    rw[nf,wl]
    show Call TP 212 _ _ _
    refine AAc (AHm w dt'.addR dv'.addL.addR (by rw[hvl];omega) (by rw[htl];omega) ?_)
    rw[←hh]
    refine⟨by rw[wl];rfl,?_⟩
    have e8:decide ((leL b (at'+12) 4:Int)=(leL b (at'+12) 4:Int))=true:=A04 rfl
    rw[DO,CU (by omega),Aa,e8]
    refine Al (Da ?_)
    rw[Ao]
    exact tail
  cases hins:ins with
  | false=>
   subst hins
   rw[show (!false)=true from rfl,PD]
   refine main true fun _=>?_
   rcases g6 with⟨g,_⟩|g
   ·cases g
   ·exact g
  | true=>
   subst hins
   rw[show (!true)=false from rfl,Cr,A3]
   refine main _ fun e=>?_
   have:=of_decide_eq_true e
   rcases g6 with⟨_,g⟩|g
   ·omega
   ·exact g
theorem AHX (db:RdX x bv b)(da:RdX x av all)(hbl:b.length≤all.length)(hal:all.length<100000){l:List (Bs×Bs)}(A:AttrR b all ins 0 all.length l)(w:AN (pts ib (.cells ic 81 (0,0))+x) h)(hnum:ic[0]? = some nv)
  (K:∀ v cs r y h,Vec 86 2 v l.length cs r→AtV y cs l→AN (r+(y+(pts ib (.cells ic 81 (0,0))+x))) h→Q v h) :
  ACc x0 (Pt ib) bv av (.bool ins) h Q:=by
 obtain⟨ba,bcc,hb⟩:=db.len
 obtain⟨aa,ac,ha⟩:=da.len
 unfold ACc
 rw[hb,ha]
 simp (disch:=omega) only[go_sem]
 rw[←hb,←ha]
 exact AEB db da hbl hal A w hnum K
end
end
section
variable {h:H} {k:Value→Prop} {kt Q:Kt} {x y r:Res}
attribute [local irreducible] AK Az AQ BB Ae AY AH AM VS.cells
def VecX (T:TypeId)(sz:Nat)(v:Value)(n:Nat)(vs:List Value)(x:Res):Prop:=∃ r y,x=r+y∧Vec T sz v n vs r
theorem Vec.vx {T:TypeId}{sz n:Nat}{v:Value}{vs:List Value}(d:Vec T sz v n vs r):VecX T sz v n vs r:=⟨r,0,(Res.add_zero _).symm,d⟩
theorem VecX.addL {T:TypeId}{sz n:Nat}{v:Value}{vs:List Value}(d:VecX T sz v n vs x):VecX T sz v n vs (x+y):=by
 obtain⟨r,z,rfl,d⟩:=d
 exact⟨r,z+y,Res.assoc _ _ _,d⟩
theorem VecX.addR {T:TypeId}{sz n:Nat}{v:Value}{vs:List Value}(d:VecX T sz v n vs x):VecX T sz v n vs (y+x):=by rw[Res.comm];exact d.addL
theorem VecX.len {T:TypeId}{sz n:Nat}{v:Value}{vs:List Value}(d:VecX T sz v n vs x):(∃ a c,v=.slice a n c)∧vs.length=n*sz:=by
 obtain⟨r,y,_,d⟩:=d
 exact d.len
theorem VecX.agg {T:TypeId}{sz n i:Nat}{kk:IntKind}{v:Value}{vs:List Value}(d:VecX T sz v n vs x)(w:AN x h)(hi:i<n)(K:k (.agg ⟨(vs.drop (i*sz)).take sz⟩)):AI (.slice sz) v (.int kk (i:Int)) fun a=>AB true sz a h k:=by
 obtain⟨r,y,rfl,d⟩:=d
 exact M8 d w hi K
theorem Vec.cap {T:TypeId}{sz n n' c:Nat}{a:Option Addr}{v:Value}{vs:List Value}(d:Vec T sz v n vs r)(hv:v=.slice a n' c):n≤c:=by
 cases d with
 | nil=>exact A39 _
 | own hn _=>cases hv;exact hn
theorem VecX.cell {T:TypeId}{sz n i j:Nat}{kk:IntKind}{v u:Value}{vs:List Value}(d:VecX T sz v n vs x)(w:AN x h)(hi:i<n)(_hj:j<sz)(hu:vs[i*sz+j]? = some u)(K:k u):AI (.slice sz) v (.int kk (i:Int)) fun a=>AC j a fun p=>AB false 1 p h k:=by
 obtain⟨r,y,rfl,d⟩:=d
 cases d with
 | nil=>omega
 | own hn hc=>
  rename_i b c all
  refine⟨kk,i,rfl,_,n,c,rfl,by omega,by omega,?_⟩
  have h1:=A48 sz (show i+1≤n by omega)
  rw[A93,B34] at h1
  rw[A77,Bm,A29]
  have hf:∀ k:Value→Prop,AC j (.pointer (some ⟨b,i*sz,none⟩)) k=k (.pointer (some ⟨b,i*sz+j,none⟩)):=fun k=>by simp only[go_sem]
  show AC j (.pointer (some ⟨b,i*sz,none⟩)) _
  rw[hf,AF w]
  have:(⟨all⟩:Array Value)[i*sz+j]? = some u:=by
   rw[A41] at hu
   split at hu
   ·simpa using hu
   ·cases hu
  rw[this];exact K
theorem AtV.name:∀ {cs:List Value} {l:List (Bs×Bs)} {i:Nat} {p:Bs×Bs},AtV x cs l→l[i]? = some p→cs[i*2+0]? = some (str p.1)∧∃ v,cs[i*2+1]? = some v∧RdX x v p.2
 | _,_,0,p,.cons d a,e=>by
  simp only[A51,A26] at e
  subst e
  exact⟨rfl,_,rfl,d⟩
 | _,_,i+1,p,.cons (nm:=nm) (v:=v) (cs:=cs) d a,e=>by
  have:=a.name (i:=i) (p:=p) (by simpa using e)
  rw[show (i+1)*2+0=(i*2+0)+2 by omega,show (i+1)*2+1=(i*2+1)+2 by omega]
  exact this
 | _,_,_,_,.nil,e=>by simp at e
section
variable {ib:Nat} {ic:Array Value} {nv x0 bv v:Value} {b:Bs} {cs:List Value} {l:List (Bs×Bs)}
def NoDup2 (l:List (Bs×Bs)):Prop:=∀ (i j:Nat) (p q:Bs×Bs),l[i]? = some p→l[j]? = some q→j<i→p.1≠q.1
def XaR (b:Bs)(l:List (Bs×Bs)):Prop:=b.length=256∧leL b 104 4=0∧(leL b 152 4≠3925999616∧l=[]∨leL b 152 4=3925999616∧AttrR (b.drop 156) (b.drop 156) true 0 100 l)
theorem ADg (d:VecX 86 2 v l.length cs x)(A:AtV y cs l)(hnd:NoDup2 l)(w:AN x h)(hn:l.length<1000000)(wl:AB false 1 (.pointer (some ⟨ib,0,none⟩)) h=U3 (some nv))(K:Q v h):In Q x0 (Pt ib) v h:=by
 obtain⟨⟨a,c,hv⟩,_⟩:=d.len
 unfold In Wg
 rw[hv,Aw,←hv]
 refine Ba (fun m u h'=>∃ i,m=l.length-i∧i≤l.length∧u=.int .i64 (i:Nat)∧h'=h) l.length ⟨0,rfl,A39 _,rfl,rfl⟩ ?_
 rintro rec m u h' ⟨i,rfl,hi,rfl,rfl⟩ hrec
 unfold QF Ucm
 simp (disch:=omega) only[go_sem]
 refine AX (fun hc=>?_) (fun hc=>K)
 have hic:i≤c:=by
  obtain⟨r,y',rfl,d⟩:=d
  have:=d.cap hv
  omega
 have hsl:∃ a',A6 (.slice 2) v none (some (.int .i64 (i:Nat)))=some (.slice a' i c):=by
  rw[hv]
  refine⟨if c=0 then a else a.map (·.add (0*2)),?_⟩
  have e1:Ay l.length (some (.int .i64 (i:Int)))=some i:=BA
  have e2:Ay 0 none=some 0:=rfl
  simp only[A6,e1,e2]
  rw[A03 ⟨A39 _,hic⟩,B35,B35]
 obtain⟨a',hsl⟩:=hsl
 refine⟨_,hsl,?_⟩
 show Ab (.slice a' i c) _
 rw[Aw]
 unfold W9
 refine Ba (fun m u h''=>∃ j,m=i-j∧j≤i∧u=.int .i64 (j:Nat)∧h''=h') i ⟨0,rfl,A39 _,rfl,rfl⟩ ?_
 rintro rec2 m u h'' ⟨j,rfl,hj,rfl,rfl⟩ hrec2
 unfold Qt Ucm Ufl Unf Ucl
 simp (disch:=omega) only[go_sem]
 refine AX (fun hc2=>?_) (fun hc2=>?_)
 ·obtain⟨p,hp⟩:∃ p,l[i]? = some p:=⟨_,A00 (by omega)⟩
  obtain⟨q,hq⟩:∃ q,l[j]? = some q:=⟨_,A00 (by omega)⟩
  refine d.cell w (by omega) (by omega) (A.name hp).1 ?_
  refine d.cell w (by omega) (by omega) (A.name hq).1 ?_
  have e1:decide (p.1≠q.1)=true:=A04 (hnd i j p q hp hq (by omega))
  rw[Fq,e1,wl]
  refine Al (Da ?_)
  exact hrec2 (i-(j+1)) _ _ ⟨j+1,rfl,by omega,rfl,rfl⟩ (by omega)
 ·exact hrec (l.length-(i+1)) _ _ ⟨i+1,rfl,by omega,rfl,rfl⟩ (by omega)
theorem AIN {v:VS}(ok:v.OK x)(db:RdX x bv b)(xa:XaR b l)(hnd:NoDup2 l)(hl:l.length<1000000)(w:AN (v.res+(pts ib (.cells ic 81 (0,0))+x)) h)(hnum:ic[0]? = some nv)
  (K:∀ lv cs y h,VecX 86 2 lv l.length cs y→AtV y cs l→AN (v.res+(pts ib (.cells ic 81 (0,0))+(y+x))) h→Q lv h):ACN (Pt v.vb) (Pt ib) bv (.int .u64 ((24:Nat):Int)) h Q:=by
 obtain⟨hbl,hx0,hx⟩:=xa
 have tail:∀ (lv:Value) (cs:List Value) (y:Res) (h:H),VecX 86 2 lv l.length cs y→AtV y cs l→AN (v.res+(pts ib (.cells ic 81 (0,0))+(y+x))) h→(Call TP 66 [bv,.int .u64 104,.int .u64 4] h fun x41 h=>AE (Pt v.vb) fun x43=>AC 10 x43 fun x44=>AB false 1 x44 h fun x45=>AK x45 (Call TP 66 [bv,.int .u64 118,.int .u64 2] h fun x48 h=>AD .shl x48 (.int .u64 32) fun x49=>AD .or x41 x49 fun x50=>Ga Q (Pt v.vb) (Pt ib) lv x50 h)
    (Ga Q (Pt v.vb) (Pt ib) lv x41 h)):=by
  intro lv cs y h d A w
  refine Bh (JM (p:=104) (n:=4) db.addR.addR.addR w (by omega) (by omega) (by omega) ?_)
  rw[hx0]
  simp (disch:=omega) only[go_sem,AF w]
  unfold Ga Ucm Ucl Unf Uff Uld Ukp Ucg
  have f1:(AD .neq (.int .u64 ((0:Nat):Int)) (.int .u64 0))=fun k=>k (.bool false):=funext fun k=>by rw[A3];rfl
  simp only[f1,AU]
  have wl:AB false 1 (.pointer (some ⟨ib,0,none⟩)) h=U3 (some nv):=funext fun k=>by rw[AF w,hnum]
  exact ADg d.addL.addR.addR A hnd w hl wl (K lv cs y h d A w)
 unfold ACN Unf Ucg Ucl
 have f1:(AD .add (.int .u64 128) (.int .u64 ((24:Nat):Int)))=fun k=>k (.int .u64 ((152:Nat):Int)):=funext fun k=>by rw[A0];rfl
 have f2:(AD .add (.int .u64 ((152:Nat):Int)) (.int .u64 4))=fun k=>k (.int .u64 ((156:Nat):Int)):=funext fun k=>by rw[A0];rfl
 simp (disch:=omega) only[f1,go_sem,AF w]
 have e3:decide ((256:Int)≥((152+4:Nat):Int))=true:=by decide
 rw[e3,Cq]
 refine Bh (JM (p:=152) (n:=4) db.addR.addR w (by omega) (by omega) (by omega) ?_)
 rw[Aa]
 unfold Nr Ucl Unf
 refine AX (fun hc=>?_) (fun hc=>?_)
 ·rcases hx with⟨e,_⟩|⟨e,A⟩
  ·omega
  ·simp only[f1,f2]
   refine db.slice (i:=156) (j:=256) BA (by rw[hbl];rfl) (by omega) (by omega) fun sv ds=>?_
   rw[←hbl,A38] at ds
   have hdl:(b.drop 156).length=100:=by simp;omega
   have w':AN (pts ib (.cells ic 81 (0,0))+(v.res+x)) h:=w.cast (Res.left_comm _ _ _)
   refine AAV (AHX ds.addR ds.addR (A07 _) (by omega) (by rw[hdl];exact A) w' hnum fun lv cs r y h d A w=>?_)
   exact tail lv cs (r+y) h d.vx.addL A.mono (w.cast (by ac_rfl))
 ·rcases hx with⟨e,rfl⟩|⟨e,_⟩
  ·exact tail _ [] 0 h Vec.nil.vx .nil (w.cast (by rw[Res.zero_add]))
  ·exact absurd (by rw[e];rfl) hc
end
end
section
variable {h:H} {k:Value→Prop} {kt Q:Kt} {x y r:Res} {v:VS}
attribute [local irreducible] AK Az AQ BB Ae AY AH AM VS.cells
structure XN where
 num:Nat
 mode:Nat
 uid:Nat
 gid:Nat
 size:Nat
 links:Nat
 sec:Nat
 flags:Nat
 at_:Nat×Nat
 ct:Nat×Nat
 mt:Nat×Nat
 cr:Nat×Nat
 major:Nat
 minor:Nat
 inl:Bool
 blk:Nat
def BY (p:Nat×Nat):List Value:=(ZM p.1 p.2).map (.int .i64 ·)
def XN.cells (X:XN)(cv ev xv:Value):List Value:=
 [.int .u64 (X.num:Nat),.int .u16 (X.mode:Nat),.int .u32 (X.uid:Nat),.int .u32 (X.gid:Nat),.int .u64 (X.size:Nat),.int .u64 (X.links:Nat),.int .u64 (X.sec:Nat),.int .u64 (X.flags:Nat)]++(BY X.at_++BY X.ct++BY X.mt++BY X.cr) ++
 [.int .u32 (X.major:Nat),.int .u32 (X.minor:Nat),cv,ev,xv,.bool X.inl,.int .u64 (X.blk:Nat)]
section
variable {X:XN} {cv ev xv:Value}
@[go_sem] theorem XN.g0:(⟨X.cells cv ev xv⟩:Array Value)[0]? = some (.int .u64 (X.num:Nat)):=rfl
@[go_sem] theorem XN.g1:(⟨X.cells cv ev xv⟩:Array Value)[1]? = some (.int .u16 (X.mode:Nat)):=rfl
@[go_sem] theorem XN.g4:(⟨X.cells cv ev xv⟩:Array Value)[4]? = some (.int .u64 (X.size:Nat)):=rfl
@[go_sem] theorem XN.g5:(⟨X.cells cv ev xv⟩:Array Value)[5]? = some (.int .u64 (X.links:Nat)):=rfl
@[go_sem] theorem XN.g6:(⟨X.cells cv ev xv⟩:Array Value)[6]? = some (.int .u64 (X.sec:Nat)):=rfl
@[go_sem] theorem XN.g7:(⟨X.cells cv ev xv⟩:Array Value)[7]? = some (.int .u64 (X.flags:Nat)):=rfl
@[go_sem] theorem XN.g18:(⟨X.cells cv ev xv⟩:Array Value)[18]? = some cv:=rfl
@[go_sem] theorem XN.g19:(⟨X.cells cv ev xv⟩:Array Value)[19]? = some ev:=rfl
@[go_sem] theorem XN.g20:(⟨X.cells cv ev xv⟩:Array Value)[20]? = some xv:=rfl
@[go_sem] theorem XN.g21:(⟨X.cells cv ev xv⟩:Array Value)[21]? = some (.bool X.inl):=rfl
@[go_sem] theorem XN.g22:(⟨X.cells cv ev xv⟩:Array Value)[22]? = some (.int .u64 (X.blk:Nat)):=rfl
theorem XN.set16 {n:Nat}:Ai (⟨X.cells cv ev xv⟩:Array Value) 16 [.int .u32 (n:Nat)]=⟨{X with major:=n}.cells cv ev xv⟩:=rfl
theorem XN.set17 {n:Nat}:Ai (⟨X.cells cv ev xv⟩:Array Value) 17 [.int .u32 (n:Nat)]=⟨{X with minor:=n}.cells cv ev xv⟩:=rfl
theorem XN.set18 {u:Value}:Ai (⟨X.cells cv ev xv⟩:Array Value) 18 [u]=⟨X.cells u ev xv⟩:=rfl
theorem XN.set19 {u:Value}:Ai (⟨X.cells cv ev xv⟩:Array Value) 19 [u]=⟨X.cells cv u xv⟩:=rfl
theorem XN.set20 {u:Value}:Ai (⟨X.cells cv ev xv⟩:Array Value) 20 [u]=⟨X.cells cv ev u⟩:=rfl
theorem XN.set21 {b:Bool}:Ai (⟨X.cells cv ev xv⟩:Array Value) 21 [.bool b]=⟨{X with inl:=b}.cells cv ev xv⟩:=rfl
theorem XN.set22 {n:Nat}:Ai (⟨X.cells cv ev xv⟩:Array Value) 22 [.int .u64 (n:Nat)]=⟨{X with blk:=n}.cells cv ev xv⟩:=rfl
theorem XN.size_:(⟨X.cells cv ev xv⟩:Array Value).size=23:=rfl
end
attribute [local irreducible] XN.cells
theorem UT {b off n c:Nat}{all src:Bs}{s:Value}{T:TypeId}{kt:Kt}(w:AN (pts b (.cells (bcs all) T (0,0))+x) h)(d:RdX x s src)(hle:off+min src.length n≤all.length)
  (K:∀ h,AN (pts b (.cells (bcs (setL all off (src.take (min src.length n)))) T (0,0))+x) h→kt (.int .i64 (min src.length n:Nat)) h):DI 1 (.slice (some ⟨b,off,none⟩) n c) s h kt:=by
 have rd:=d.rd w.right
 have hl:(src.take (min src.length n)).length=min src.length n:=by simp
 refine⟨_,n,c,src.length,bcs (src.take (min src.length n)),rfl,rd.srcLen,?_,.inr ⟨_,bcs all,T,rfl,rfl,w.left.one,by rw[CH,CH,hl];exact hle,H6 _,?_⟩⟩
 ·exact rd.src _ (Nat.min_le_left _ _)
 ·simp only
  rw[Cc (by rw[hl];exact hle)]
  exact K _ w.set
def CK (I:Bs)(start size k:Nat):Bs:=(I.drop (start*4096)).take (min (k*4096) size)++List.replicate (size-min (k*4096) size) 0
theorem AAB {A Z m:Bs}{o:Nat}(ho:o=A.length)(_hm:m.length≤Z.length):setL (A++Z) o m=A++m++Z.drop m.length:=by
 subst ho
 unfold setL
 rw[B26,List.drop_append,A62,A59 (by omega),A34]
theorem ACl {I:Bs}{start size k:Nat}(h:start*4096+size≤I.length):(CK I start size k).length=size:=by
 unfold CK
 simp
 omega
theorem Zq {I:Bs}{start size k:Nat}(h:start*4096+size≤I.length)(hk:k*4096<size) :
  setL (CK I start size k) (k*4096) ((blkL I (start+k)).take (min (blkL I (start+k)).length (size-k*4096)))=CK I start size (k+1):=by
 have e1:min (k*4096) size=k*4096:=by omega
 have hb:(blkL I (start+k)).take (min (blkL I (start+k)).length (size-k*4096))=((I.drop (start*4096)).drop (k*4096)).take (min ((k+1)*4096) size-k*4096):=by
  unfold blkL
  rw[A64,A95,←A93,A20,A27]
  congr 1
  omega
 have hml:(((I.drop (start*4096)).drop (k*4096)).take (min ((k+1)*4096) size-k*4096)).length=min ((k+1)*4096) size-k*4096:=by
  simp;omega
 rw[hb]
 unfold CK
 rw[AAB (by simp;omega) (by rw[hml];simp;omega),hml,e1]
 have e2:(I.drop (start*4096)).take (k*4096)++((I.drop (start*4096)).drop (k*4096)).take (min ((k+1)*4096) size-k*4096)=(I.drop (start*4096)).take (min ((k+1)*4096) size):=by
  rw[←List.take_add]
  congr 1
  omega
 rw[e2]
 congr 1
 rw[List.drop_replicate]
 congr 1
 omega
attribute [local irreducible] CK
section
variable {X:XN} {ev xv nv x2 x10 x12:Value} {cb ib nx start len size:Nat} {C o':Bs}
abbrev xR (ib cb nx:Nat)(X:XN)(cv ev xv:Value)(C:Bs)(nv:Value):Res:=pts ib (.cells ⟨X.cells cv ev xv⟩ 81 (0,0))+(buf cb C+pts nx (.cells ⟨[nv]⟩ 48 (0,0)))
theorem ACq {rec1:Value→H→Prop}{i:Nat}(ok:v.OK x)(hsz:X.size=size)(h1:(len-1)*4096<size)(h0:0<len)(hlen:len≤32768)(hi:i<10)(hs:(start+len)≤v.nb)(hsl:size≤len*4096)(c:Clm ((List.range len).map (start + ·)) v.ow o')(hb:X.blk<100000)
  (w:AN (v.res+(xR ib cb nx X (.slice (some ⟨cb,0,none⟩) size size) ev xv (CK v.I start size 0) nv+x)) h)
  (K:∀ h,(v.own o').OK x→AN ((v.own o').res+(xR ib cb nx {X with blk:=X.blk+len} (.slice (some ⟨cb,0,none⟩) size size) ev xv (CK v.I start size len) (.int .u64 (len:Nat))+x)) h→rec1 (.int .u64 (i+1:Nat)) h) :
  Rq Q rec1 (Pt v.vb) (Pt ib) x2 (Pt nx) x10 x12 (.int .u64 (i:Nat)) (.int .u64 ((0:Nat):Int)) (.int .u64 (len:Nat)) (.int .u64 (start:Nat)) (.int .u64 ((0:Nat):Int)) h:=by
 have hnb:=ok.nb
 have hil:=ok.len
 have hlc:=c.len
 unfold Rq
 refine Ba (fun m u h'=>∃ j ow,m+j=len∧u=.int .u64 (j:Nat)∧ow.length=v.ow.length∧Clm ((List.range m).map (start+j + ·)) ow o'∧AN ((v.own ow).res+(xR ib cb nx {X with blk:=X.blk+j} (.slice (some ⟨cb,0,none⟩) size size) ev xv (CK v.I start size j) nv+x)) h') len ⟨0,v.ow,by omega,rfl,rfl,c,w⟩ ?_
 rintro rec m u h' ⟨j,ow,hmj,rfl,hl,c2,w⟩ hrec
 have ok1:(v.own ow).OK x:=ok.own hl
 unfold RR Ucm Ucl Unf Uff Uld Ukp
 simp (disch:=omega) only[go_sem]
 refine AX (fun hc=>?_) (fun hc=>?_)
 ·have hm:m=(m-1)+1:=by omega
  rw[hm,List.range_succ_eq_map,A33,B05] at c2
  cases c2 with
  | cons g1 g2=>
   refine Gn (Uk (v:=v.own ow) (n:=start+j) (s:=[99,111,110,116,101,110,116]) (ok1.mono (y:=xR ib cb nx {X with blk:=X.blk+j} (.slice (some ⟨cb,0,none⟩) size size) ev xv (CK v.I start size j) nv)) g1 w (by decide) fun h ok2 w=>?_)
   have ok3:((v.own ow).clm (start+j)).OK x:=ok1.clm (by show start+j<v.nb;omega)
   simp (disch:=omega) only[go_sem,AF w]
   refine AL w _ XN.set22 rfl (by rw[XN.size_];omega) rfl fun h w=>?_
   have hck:(CK v.I start size j).length=size:=ACl (by omega)
   simp (disch:=omega) only[go_sem,AF w]
   have e1:decide ((((0+j)*4096:Nat):Int)<(X.size:Int))=true:=A04 (by omega)
   rw[e1,Ak]
   have hnum:start+j<v.nb:=by omega
   refine NG (ABw (v:=(v.own ow).clm (start+j)) ok3 hnum w fun bv db=>?_)
   refine⟨by rw[AF w,XN.g18];rfl,?_⟩
   simp only[A29]
   have db:RdX x bv (blkL v.I (start+j)):=db
   have hbl:(blkL v.I (start+j)).length=4096:=by unfold blkL;simp;omega
   have k1:∀ V P C N X:Res,V+(P+(C+N)+X)=C+(V+(P+(N+X))):=by intros;ac_rfl
   refine UT (w.cast (k1 _ _ _ _ _)) db.addR.addR.addR (by rw[hck];omega) fun h w=>?_
   have hst:=Zq (I:=v.I) (start:=start) (size:=size) (k:=j) (by omega) (by omega)
   rw[hst] at w
   refine hrec (m-1) _ _ ⟨j+1,setL ow (start+j) [1],by omega,rfl,?_,?_,?_⟩ (by omega)
   ·exact (ok3.ow.trans ok.ow.symm)
   ·refine Eq.mp ?_ g2
    congr 1
    refine A72 fun a _=>?_
    simp only[Function.comp]
    omega
   ·exact w.cast (k1 _ _ _ _ _).symm
 ·have hm0:m=0:=by omega
  subst hm0
  have hj:j=len:=by omega
  subst hj
  cases c2
  have w:AN ((v.own o').res+(xR ib cb nx {X with blk:=X.blk+j} (.slice (some ⟨cb,0,none⟩) size size) ev xv (CK v.I start size j) nv+x)) h':=w
  simp only[A29]
  refine AL w ⟨[.int .u64 (j:Nat)]⟩ rfl rfl (by simp) rfl fun h w=>K h ok1 w
end
end
end Go.Proofs.YtollddkkdgoonaaGreatDoor
