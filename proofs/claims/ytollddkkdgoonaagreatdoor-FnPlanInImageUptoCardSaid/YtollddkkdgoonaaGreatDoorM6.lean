/- A part of a proof over images that are written and read. No condition; a step. -/
import Derived.Test.YtollddkkdgoonaaGreatDoorM5
namespace Go.Proofs.YtollddkkdgoonaaGreatDoor
open Go
set_option linter.unusedVariables false
set_option linter.unusedSimpArgs false
set_option maxRecDepth 100000
section
variable {h:H} {k:Value→Prop} {kt Q:Kt} {x y r:Res}
def CB (n:Nat):Nat:=(n+3)/4*4
theorem IQ {b o n c i:Nat}{kk:IntKind}(hi:(OfNat.ofNat i:Int)<(n:Int)):AI (.slice 1) (.slice (some ⟨b,o,none⟩) n c) (.int kk (no_index (OfNat.ofNat i:Int))) k=k (.pointer (some ⟨b,o+i,none⟩)):=Cg (B29.1 hi)
theorem O6 {l m m':Bs}{o:Nat}(h:o+m.length+m'.length≤l.length):setL (setL l o m) (o+m.length) m'=setL l o (m++m'):=by
 apply A60
 intro i
 rw[DN (by rw[AS (by omega)];omega),DN (by omega),DN (by simp;omega)]
 grind
theorem Dd {l m m':Bs}{o p:Nat}(hp:p=o+m.length)(h:o+m.length+m'.length≤l.length):setL (setL l o m) p m'=setL l o (m++m'):=by subst hp;exact O6 h
theorem AHy {b o n c m:Nat}{all:Bs}{T:TypeId}(w:AN (pts b (.cells (bcs all) T (0,0))+x) h)(hn:2≤n)(ho:o+n≤all.length)(K:∀ h,AN (pts b (.cells (bcs (setL all o (Aq m))) T (0,0))+x) h→Q (.tuple #[]) h) :
  AC0 (.slice (some ⟨b,o,none⟩) n c) (.int .u16 (m:Int)) h Q:=by
 unfold AC0
 simp (disch:=omega) only[go_sem,IQ,MZ]
 refine CM w (by omega) fun h w=>?_
 refine CM w (by rw[AS (by simp;omega)];omega) fun h w=>K h ?_
 have:=O6 (l:=all) (m:=[UInt8.ofNat m]) (m':=[UInt8.ofNat (m/256)]) (o:=o) (by simp;omega)
 simp only[A57,A82,A34] at this
 rw[A58,this] at w
 exact w
theorem ACG {b o n c m:Nat}{all:Bs}{T:TypeId}(w:AN (pts b (.cells (bcs all) T (0,0))+x) h)(hn:4≤n)(ho:o+n≤all.length)(K:∀ h,AN (pts b (.cells (bcs (setL all o (Ac m))) T (0,0))+x) h→Q (.tuple #[]) h) :
  VC (.slice (some ⟨b,o,none⟩) n c) (.int .u32 (m:Int)) h Q:=by
 unfold VC
 simp (disch:=omega) only[go_sem,IQ,MZ]
 refine CM w (by omega) fun h w=>?_
 refine CM w (by rw[AS (by simp;omega)];omega) fun h w=>?_
 rw[A58] at w
 rw[Dd (p:=o+1) (m:=[UInt8.ofNat m]) (m':=[UInt8.ofNat (m/256)]) (by simp) (by simp;omega)] at w
 refine CM w (by rw[AS (by simp;omega)];omega) fun h w=>?_
 rw[Dd (p:=o+2) (m:=[UInt8.ofNat m]++[UInt8.ofNat (m/256)]) (m':=[UInt8.ofNat (m/65536)]) (by simp) (by simp;omega)] at w
 refine CM w (by rw[AS (by simp;omega)];omega) fun h w=>K h ?_
 rw[Dd (p:=o+3) (m:=[UInt8.ofNat m]++[UInt8.ofNat (m/256)]++[UInt8.ofNat (m/65536)]) (m':=[UInt8.ofNat (m/16777216)]) (by simp) (by simp;omega)] at w
 exact w
abbrev xaC (nm:Bs)(ix:Nat)(v:Value):Array Value:=⟨[str nm,.int .u8 ix,v]⟩
theorem AGa {b ix:Nat}{nm:Bs}{v:Value}{T:TypeId}(w:AN x h)[CO b x (.cells (xaC nm ix v) T (0,0))](hn:nm.length<1000000)(K:Q (.int .i64 (CB nm.length+16:Nat)) h):ACZ (Pt b) h Q:=by
 unfold ACZ Unf
 simp (disch:=omega) only[go_sem,AF w]
 exact K
theorem AGS {b ix n c:Nat}{nm:Bs}{a:Option Addr}{T:TypeId}(w:AN x h)[CO b x (.cells (xaC nm ix (.slice a n c)) T (0,0))](hn:n<1000000)(K:Q (.int .i64 (CB n:Nat)) h):AD1 (Pt b) h Q:=by
 unfold AD1 Unf
 simp (disch:=omega) only[go_sem,AF w]
 exact K
end
section
variable {h:H} {k:Value→Prop} {kt Q:Kt} {x y r:Res}
def GY (a b c d:UInt8):Nat:=((a.toNat ||| b.toNat*256) ||| c.toNat*65536) ||| d.toNat*16777216
theorem FG (a b c d:UInt8):GY a b c d<4294967296:=by
 unfold GY
 have ha:=a.toNat_lt;have hb:=b.toNat_lt;have hc:=c.toNat_lt;have hd:=d.toNat_lt
 exact B01 (n:=32) (B01 (n:=32) (B01 (n:=32) (by omega) (by omega)) (by omega)) (by omega)
def Lh (hh w:Nat):Nat:=((hh*65536%4294967296) ^^^ (hh/65536)) ^^^ w
def JW (hh:Nat)(c:UInt8):Nat:=((hh*32%4294967296) ^^^ (hh/134217728)) ^^^ c.toNat
theorem Gz {hh w:Nat}(h1:hh<4294967296)(h2:w<4294967296):Lh hh w<4294967296:=by
 unfold Lh
 exact B07 (n:=32) (B07 (n:=32) (by omega) (by omega)) (by omega)
theorem Yi {hh:Nat}{c:UInt8}(h1:hh<4294967296):JW hh c<4294967296:=by
 unfold JW
 have:=c.toNat_lt
 exact B07 (n:=32) (B07 (n:=32) (by omega) (by omega)) (by omega)
def C9 (hh:Nat):Bs→Nat
 | a::b::c::d::l=>C9 (Lh hh (GY a b c d)) l
 | []=>hh
 | [a]=>Lh hh (GY a 0 0 0)
 | [a,b]=>Lh hh (GY a b 0 0)
 | [a,b,c]=>Lh hh (GY a b c 0)
def hashX (nm v:Bs):Nat:=C9 (nm.foldl JW 0) v
theorem H2:∀ (l:Bs) (hh:Nat),hh<4294967296→l.foldl JW hh<4294967296
 | [],_,h=>h
 | c::l,hh,h=>H2 l _ (Yi h)
theorem HA {b o:Nat}{l:List Value}{T:TypeId}{fz:Nat×Nat}{c:UInt8}(w:AN x h)[CO b x (.cells ⟨l⟩ T fz)](hc:l[o]? = some (bc c)):AB false 1 (.pointer (some ⟨b,o,none⟩)) h k=k (bc c):=by
 rw[AF w]
 have:(⟨l⟩:Array Value)[o]? = some (bc c):=by simpa using hc
 rw[this];rfl
theorem AFO {b o n c:Nat}{all:List Value}{T:TypeId}{fz:Nat×Nat}{a0 a1 a2 a3:UInt8}(w:AN x h)[CO b x (.cells ⟨all⟩ T fz)](hn:4≤n)(h0:all[o]? = some (bc a0))(h1:all[o+1]? = some (bc a1))(h2:all[o+2]? = some (bc a2))(h3:all[o+3]? = some (bc a3))
  (K:Q (.int .u32 (GY a0 a1 a2 a3:Nat)) h):ACF (.slice (some ⟨b,o,none⟩) n c) h Q:=by
 have ha:=a0.toNat_lt;have hb:=a1.toNat_lt;have hc:=a2.toNat_lt;have hd:=a3.toNat_lt
 have e1:a1.toNat*256%4294967296=a1.toNat*256:=A23 (by omega)
 have e2:a2.toNat*65536%4294967296=a2.toNat*65536:=A23 (by omega)
 have e3:a3.toNat*16777216%4294967296=a3.toNat*16777216:=A23 (by omega)
 have l1:a0.toNat ||| a1.toNat*256<4294967296:=B01 (n:=32) (by omega) (by omega)
 have l2:(a0.toNat ||| a1.toNat*256) ||| a2.toNat*65536<4294967296:=B01 (n:=32) l1 (by omega)
 unfold ACF Uil
 simp (disch:=omega) only[IQ,A58]
 rw[HA w h0]
 simp (disch:=omega) only[go_sem,bc]
 rw[HA w h1]
 simp (disch:=omega) only[go_sem,bc,e1]
 rw[HA w h2]
 simp (disch:=omega) only[go_sem,bc,e2]
 rw[HA w h3]
 simp (disch:=omega) only[go_sem,bc,e3]
 exact K
theorem Vn {kk kk':IntKind}{b o n c i j:Nat}(h1:i≤j)(h2:j≤c)(h3:i≠c):AZ (.slice 1) (.slice (some ⟨b,o,none⟩) n c) (some (.int kk (i:Int))) (some (.int kk' (j:Int))) k=k (.slice (some ⟨b,o+i,none⟩) (j-i) (c-i)):=by
 have hv:A6 (.slice 1) (.slice (some ⟨b,o,none⟩) n c) (some (.int kk (i:Int))) (some (.int kk' (j:Int)))=some (.slice (some ⟨b,o+i,none⟩) (j-i) (c-i)):=by
  simp only[A6,Dp]
  rw[A03 ⟨h1,h2⟩,A05 (fun h=>h3 h.symm),A67,A80,Bm]
 exact propext ⟨fun⟨v,a,b⟩=>by rw[hv] at a;cases a;exact b,fun a=>⟨_,hv,a⟩⟩
theorem SK:AG TP 238=some (.agg ⟨List.replicate 4 (.int .u8 0)⟩):=by kernel_rfl
theorem Uy {b n:Nat}(hn:0<n):AZ (.arr n 1) (Pt b) none none k=k (.slice (some ⟨b,0,none⟩) n n):=by
 have hv:A6 (.arr n 1) (Pt b) none none=some (.slice (some ⟨b,0,none⟩) n n):=by
  simp only[A6,Ay]
  rw[A03 ⟨A39 _,A07 _⟩,A05 (by omega)]
  rfl
 exact propext ⟨fun⟨v,a,b⟩=>by rw[hv] at a;cases a;exact b,fun a=>⟨_,hv,a⟩⟩
theorem Qj {hh:Nat}{l:Bs}{a0 a1 a2 a3:UInt8}(h1:0<l.length)(h2:l.length<4)(e0:(setL [0,0,0,0] 0 l)[0]? = some a0)(e1:(setL [0,0,0,0] 0 l)[1]? = some a1)(e2:(setL [0,0,0,0] 0 l)[2]? = some a2)(e3:(setL [0,0,0,0] 0 l)[3]? = some a3) :
  C9 hh l=Lh hh (GY a0 a1 a2 a3):=by
 match l,h1,h2 with
 | [a],_,_=>simp[setL] at e0 e1 e2 e3;subst e0 e1 e2 e3;rfl
 | [a,b],_,_=>simp[setL] at e0 e1 e2 e3;subst e0 e1 e2 e3;rfl
 | [a,b,c],_,_=>simp[setL] at e0 e1 e2 e3;subst e0 e1 e2 e3;rfl
 | a::b::c::d::l,_,h=>simp at h;omega
theorem AFp {v:Value}{bs:Bs}{hh:Nat}(w:AN x h)(d:RdX x v bs)(hl:bs.length<1000000)(h0:hh<4294967296)(K:∀ h,AN x h→Q (.int .u32 (C9 hh bs:Nat)) h):Ri Q v (.int .u32 (hh:Nat)) (.int .i64 ((0:Nat):Int)) h:=by
 unfold Ri
 refine DE (fun m v5 v7 h'=>∃ i hv,m=bs.length-i∧i%4=0∧i≤bs.length∧v5=.int .u32 (hv:Nat)∧v7=.int .i64 (i:Nat)∧hv<4294967296∧AN x h'∧C9 hv (bs.drop i)=C9 hh bs) bs.length ⟨0,hh,rfl,rfl,A39 _,rfl,rfl,h0,w,rfl⟩ ?_
 rintro rec m v5 v7 h' ⟨i,hv,rfl,hi4,hi,rfl,rfl,hv0,w,he⟩ hrec
 obtain⟨a,c,hvv⟩:=d.len
 unfold AJj Ucm Ucl Umk
 rw[hvv]
 simp (disch:=omega) only[go_sem]
 have hx:∀ z:Nat,hv*65536%4294967296 ^^^ hv/65536<4294967296:=fun _=>B07 (n:=32) (by omega) (by omega)
 have hx:=hx 0
 refine AX (fun hc=>?_) (fun hc=>?_)
 ·rcases d with⟨a',c',h1,h2⟩|⟨b,o,c',all,T,fz,y,h1,h2,h3,h4,h5⟩
  ·subst h2;simp at hc;omega
  ·rw[hvv] at h1
   simp only[Value.slice.injEq] at h1
   obtain⟨rfl,_,rfl⟩:=h1
   simp (disch:=omega) only[go_sem,Vn]
   subst h2
   have hg:∀ j,j<bs.length→all[o+j]? = (bs[j]?).map bc:=fun j hj=>by
    rw[←A21,←h4,A41,A03 hj,A53]
   obtain⟨a0,e0⟩:∃ a,bs[i]? = some a:=⟨_,A00 (by omega)⟩
   obtain⟨a1,e1⟩:∃ a,bs[i+1]? = some a:=⟨_,A00 (by omega)⟩
   obtain⟨a2,e2⟩:∃ a,bs[i+2]? = some a:=⟨_,A00 (by omega)⟩
   obtain⟨a3,e3⟩:∃ a,bs[i+3]? = some a:=⟨_,A00 (by omega)⟩
   have hw4:=FG a0 a1 a2 a3
   refine Tc (AFO (o:=o+i) w (by omega) ((hg i (by omega)).trans (by rw[e0];rfl)) ((by rw[show o+i+1=o+(i+1) by omega];exact (hg (i+1) (by omega)).trans (by rw[e1];rfl))) ((by rw[show o+i+2=o+(i+2) by omega];exact (hg (i+2) (by omega)).trans (by rw[e2];rfl))) ((by rw[show o+i+3=o+(i+3) by omega];exact (hg (i+3) (by omega)).trans (by rw[e3];rfl))) ?_)
   simp (disch:=omega) only[go_sem]
   refine hrec (bs.length-(i+4)) _ _ _ ⟨i+4,Lh hv (GY a0 a1 a2 a3),rfl,by omega,by omega,rfl,rfl,Gz hv0 hw4,w,?_⟩ (by omega)
   rw[←he]
   have hd:bs.drop i=a0::a1::a2::a3::bs.drop (i+4):=by
    rw[A50 (by omega),A50 (show i+1<bs.length by omega),A50 (show i+1+1<bs.length by omega),A50 (show i+1+1+1<bs.length by omega)]
    rw[A00 (by omega)] at e0 e1 e2 e3
    simp only[A26] at e0 e1 e2 e3
    rw[e0,e1,show bs[i+1+1]=a2 from e2,show bs[i+1+1+1]=a3 from e3]
   rw[hd,C9]
 ·refine AX (fun hr=>?_) (fun hr=>?_)
  ·have hie:bs.length/4*4=i:=by omega
   refine Ah w SK rfl fun lb h w=>?_
   rcases d with⟨a',c',h1,h2⟩|⟨b,o,c',all,T,fz,y,h1,h2,h3,h4,h5⟩
   ·subst h2;simp at hr
   ·rw[hvv] at h1
    simp only[Value.slice.injEq] at h1
    obtain⟨rfl,_,rfl⟩:=h1
    simp (disch:=omega) only[Uy,go_sem,hie]
    subst h2
    have hz:(⟨List.replicate 4 (.int .u8 0)⟩:Array Value)=bcs [0,0,0,0]:=rfl
    rw[hz] at w
    have hrl:(bs.drop i).length=bs.length-i:=by simp
    refine FN (src:=bs.drop i) w (.inr ⟨b,o+i,c-i,all,T,fz,y,by rw[hrl],rfl,by rw[hrl];omega,?_,by rw[hrl];omega⟩) (by rw[hrl];simp;omega) (by rw[hrl];omega) fun h w=>?_
    ·rw[hrl,←A64]
     rw[List.map_drop,←h4,A49]
    ·have hsl:(setL [0,0,0,0] 0 (bs.drop i)).length=4:=AS (by rw[hrl];simp;omega)
     obtain⟨a0,e0⟩:∃ a,(setL [0,0,0,0] 0 (bs.drop i))[0]? = some a:=⟨_,A00 (by omega)⟩
     obtain⟨a1,e1⟩:∃ a,(setL [0,0,0,0] 0 (bs.drop i))[1]? = some a:=⟨_,A00 (by omega)⟩
     obtain⟨a2,e2⟩:∃ a,(setL [0,0,0,0] 0 (bs.drop i))[2]? = some a:=⟨_,A00 (by omega)⟩
     obtain⟨a3,e3⟩:∃ a,(setL [0,0,0,0] 0 (bs.drop i))[3]? = some a:=⟨_,A00 (by omega)⟩
     have hw4:=FG a0 a1 a2 a3
     refine Tc (AFO (all:=(setL [0,0,0,0] 0 (bs.drop i)).map bc) w (by omega) (by rw[A21,e0];rfl) (by rw[A21,e1];rfl) (by rw[A21,e2];rfl) (by rw[A21,e3];rfl) ?_)
     simp (disch:=omega) only[go_sem]
     have:=Qj (hh:=hv) (by rw[hrl];omega) (by rw[hrl];omega) e0 e1 e2 e3
     rw[←he,this] at K
     exact K _ w.right
  ·have:bs.drop i=[]:=A59 (by omega)
   rw[this,C9] at he
   rw[he]
   exact K _ w
theorem AH9 {nm bs:Bs}{v:Value}(w:AN x h)(d:RdX x v bs)(hl:bs.length<1000000)(hn:nm.length<1000000)(K:∀ h,AN x h→Q (.int .u32 (hashX nm bs:Nat)) h):AB1 (str nm) v h Q:=by
 unfold AB1 YA
 refine DE (fun m v5 v6 h'=>∃ i,m=nm.length-i∧i≤nm.length∧v5=.int .u32 ((nm.take i).foldl JW 0:Nat)∧v6=.int .i64 (i:Nat)∧AN x h') nm.length ⟨0,rfl,A39 _,rfl,rfl,w⟩ ?_
 rintro rec m v5 v6 h' ⟨i,rfl,hi,rfl,rfl,w⟩ hrec
 have hlt:=H2 (nm.take i) 0 (by omega)
 unfold RH Ucm
 simp (disch:=omega) only[go_sem]
 refine AX (fun hc=>?_) (fun hc=>?_)
 ·obtain⟨u,hu⟩:∃ u,nm[i]? = some u:=⟨_,A00 (by omega)⟩
  have hub:=u.toNat_lt
  have hx:(nm.take i).foldl JW 0*32%4294967296 ^^^ (nm.take i).foldl JW 0/134217728<4294967296:=B07 (n:=32) (by omega) (by omega)
  rw[CD hu]
  simp (disch:=omega) only[go_sem,bc]
  refine hrec (nm.length-(i+1)) _ _ _ ⟨i+1,rfl,by omega,?_,rfl,w⟩ (by omega)
  rw[A85,hu]
  simp[B19,JW]
 ·have:i=nm.length:=by omega
  subst this
  rw[A38] at *
  exact AFp w d hl hlt K
end
section
variable {h:H} {k:Value→Prop} {kt Q:Kt} {x y r:Res}
def Nf (s p:Bs):Bool:=decide (p.length≤s.length∧s.take p.length=p)
theorem AIF {s p:Bs}(hs:s.length<9223372036854775808)(K:Q (.bool (Nf s p)) h):ACH (str s) (str p) h Q:=by
 unfold ACH Ucg
 simp (disch:=omega) only[go_sem]
 refine C3 (fun hc=>?_) (fun hc=>?_)
 ·have hle:p.length≤s.length:=by omega
  simp (disch:=omega) only[go_sem]
  have:Nf s p=decide (s.take p.length=p):=by unfold Nf;simp[hle]
  rw[this] at K;exact K
 ·have:Nf s p=false:=by
   unfold Nf
   simp only[decide_eq_false_iff_not]
   omega
  rw[this] at K;exact K
theorem AIQ {s p:Bs}(hs:s.length<9223372036854775808)(K:Q (.bool (Nf s p)) h):ABm (str s) (str p) h Q:=by
 unfold ABm Ucl
 exact Ym (AIF hs K)
def PX:List (Nat×Bs):=[(2,[115,121,115,116,101,109,46,112,111,115,105,120,95,97,99,108,95,97,99,99,101,115,115]),(3,[115,121,115,116,101,109,46,112,111,115,105,120,95,97,99,108,95,100,101,102,97,117,108,116]),
 (8,[115,121,115,116,101,109,46,114,105,99,104,97,99,108]),(7,[115,121,115,116,101,109,46]),(1,[117,115,101,114,46]),(4,[116,114,117,115,116,101,100,46]),(6,[115,101,99,117,114,105,116,121,46])]
def PXc:List Value:=PX.flatMap fun p=>[.int .u8 (p.1:Nat),str p.2]
def JX (x:Res):Prop:=∃ c T fz y,x=pts 4 (.cells c T fz)+y∧∀ i,i<14→c[i]? = PXc[i]?
theorem JX.addR (g:JX x):JX (y+x):=by
 obtain⟨c,T,fz,z,rfl,h⟩:=g
 exact⟨c,T,fz,y+z,Res.left_comm _ _ _,h⟩
theorem JX.addL (g:JX x):JX (x+y):=by rw[Res.comm];exact g.addR
def DB (nm:Bs):List (Nat×Bs)→Nat×Bs
 | []=>(0,nm)
 | (i,p)::l=>bif Nf nm p then (i,nm.drop p.length) else DB nm l
theorem AAx:AG TP 341=some (.agg ⟨[.int .u8 0,str []]⟩):=by kernel_rfl
theorem AEi:∀ i,i<7→∃ ix p,PX.drop i=(ix,p)::PX.drop (i+1)∧(PXc.take (i*2+2)).drop (i*2)=[.int .u8 (ix:Nat),str p]∧p.length<100∧ix<256:=by
 intro i hi
 have:i=0∨i=1∨i=2∨i=3∨i=4∨i=5∨i=6:=by omega
 rcases this with rfl|rfl|rfl|rfl|rfl|rfl|rfl<;>exact⟨_,_,rfl,rfl,by decide,by decide⟩
theorem Sw {len sz n:Nat}{cs:Array Value}{kk:IntKind}(hn:n<len):Ch true len sz (.agg cs) (.int kk (n:Int)) k=k (.agg (cs.extract (n*sz) (n*sz+sz))):=by
 unfold Ch
 refine propext ⟨fun⟨cs',kk',m,v,h1,h2,h3,h4,h5,h6⟩=>?_,fun hk=>⟨cs,kk,n,_,rfl,rfl,by omega,by omega,rfl,by simpa using hk⟩⟩
 cases h1;cases h2
 simp only[Pa,cond,A77,A26] at h5
 rw[h5];exact h6
theorem Am {b o n:Nat}{c:Array Value}{T:TypeId}{fz:Nat×Nat}(hb:h[b]? = some (.cells c T fz))(hn:o+n≤c.size):AB true n (.pointer (some ⟨b,o,none⟩)) h k=k (.agg (c.extract o (o+n))):=by
 unfold AB MM
 refine propext ⟨fun⟨p,v,h1,h2,h3⟩=>?_,fun hk=>⟨_,_,rfl,?_,hk⟩⟩
 ·cases h1
  simp only[cond,hb,A86,A45,if_false,A03 hn,A26] at h2
  rw[h2];exact h3
 ·simp only[cond,hb,A86,A45,if_false,A03 hn]
theorem AH1 {nm:Bs}(g:JX x)(w:AN x h)(hn:nm.length<9223372036854775808)(K:∀ h,AN x h→Q (.tuple #[.int .u8 ((DB nm PX).1:Nat),str (DB nm PX).2]) h):AB3 (str nm) h Q:=by
 obtain⟨c,T,fz,y,hx,hc⟩:=g
 have hb:h[4]? = some (.cells c T fz):=by
  have:=w
  rw[hx] at this
  exact this.left.one
 have hsz:14≤c.size:=by
  rcases A66 c.size 14 with hlt|hge
  ·have h1:=hc c.size hlt
   rw[Array.getElem?_eq_none (A07 _)] at h1
   have h2:PXc.length=14:=rfl
   have:=List.getElem?_eq_none_iff.1 h1.symm
   omega
  ·exact hge
 have hex:c.extract 0 (0+14)=⟨PXc⟩:=by
  apply B02
  intro i
  rw[Array.getElem?_extract]
  have h2:PXc.length=14:=rfl
  by_cases hi:i<14
  ·rw[A03 (by omega),A29,hc i hi];simp
  ·rw[A05 (by omega)]
   simp[A40 (show PXc.length≤i by omega)]
 unfold AB3
 rw[Am hb (by omega),hex]
 unfold XK
 refine Ba (fun m v7 h'=>∃ i,m=7-i∧i≤7∧v7=.int .i64 (i:Nat)∧AN x h'∧DB nm PX=DB nm (PX.drop i)) 7 ⟨0,rfl,by omega,rfl,w,rfl⟩ ?_
 rintro rec m v7 h' ⟨i,rfl,hi,rfl,w,he⟩ hrec
 unfold RG Ucm Umk Ufl Ucl
 simp (disch:=omega) only[go_sem]
 refine AX (fun hlt=>?_) (fun hlt=>?_)
 ·obtain⟨ix,p,h1,h2,h3,h4⟩:=AEi i (by omega)
  rw[Sw (by omega)]
  have hcell:(⟨PXc⟩:Array Value).extract (i*2) (i*2+2)=⟨[.int .u8 (ix:Nat),str p]⟩:=by
   apply A56
   rw[Array.toList_extract,A44,←A49,h2]
  rw[hcell]
  refine Ah w AAx rfl fun pb h w=>?_
  refine AL w ⟨[.int .u8 (ix:Nat),str p]⟩ rfl rfl (by simp) rfl fun h w=>?_
  simp (disch:=omega) only[go_sem,AF w]
  refine Z4 (AIQ hn ?_)
  rw[h1,DB] at he
  cases hp:Nf nm p with
  | true=>
   rw[hp] at he
   have hle:p.length≤nm.length:=by
    unfold Nf at hp
    simp only[A84] at hp
    exact hp.1
   simp (disch:=omega) only[go_sem,AF w]
   rw[he] at K
   exact K _ w.right
  | false=>
   rw[hp] at he
   simp (disch:=omega) only[go_sem]
   exact hrec (7-(i+1)) _ _ ⟨i+1,rfl,by omega,rfl,w.right,he⟩ (by omega)
 ·have:i=7:=by omega
  subst this
  have:PX.drop 7=[]:=rfl
  rw[this,DB] at he
  rw[he] at K
  exact K _ w
theorem AID {b:Nat}{a c:Value}{m m':Value}(w:AN (pts b (.cells ⟨[a,c,m,m']⟩ 284 (0,0))+x) h)(K:∀ h,AN (pts b (.cells ⟨[a,c,.int .i64 (96:Nat),.int .i64 (4060:Nat)]⟩ 284 (0,0))+x) h→Q (.tuple #[]) h):ACg (Pt b) h Q:=by
 unfold ACg Uff
 simp (disch:=omega) only[go_sem]
 refine AL w ⟨[a,c,.int .i64 (96:Nat),m']⟩ rfl rfl (by simp) rfl fun h w=>?_
 exact AL w ⟨[a,c,.int .i64 (96:Nat),.int .i64 (4060:Nat)]⟩ rfl rfl (by simp) rfl fun h w=>K h w
def Ku (set:Bool)(sec ns:Nat):Nat:=if set then if sec>15032385535 then 15032385535 else sec ||| (ns*17179869184%18446744073709551616) else 0
theorem Zf {set:Bool}{sec ns:Nat}(w:AN x h)(h1:sec<9223372036854775808)(h2:ns<1000000000)(K:∀ h,AN x h→Q (.int .u64 (Ku set sec ns:Nat)) h):ACx (.agg ⟨[.bool set,.int .i64 sec,.int .i64 ns]⟩) h Q:=by
 unfold ACx Ufl Unt Ucm
 refine BJ w fun b h w=>?_
 simp (disch:=omega) only[go_sem,AF w]
 cases set with
 | false=>
  simp only[go_sem,B44]
  exact K _ w.right
 | true=>
  simp only[A91,go_sem]
  refine AX (fun hc=>by omega) (fun _=>?_)
  refine AX (fun hc=>?_) (fun hc=>?_)
  ·have:Ku true sec ns=15032385535:=by unfold Ku;rw[A03 rfl,A03 (by omega)]
   rw[this] at K
   exact K _ w.right
  ·have:Ku true sec ns=sec ||| (ns*17179869184%18446744073709551616):=by unfold Ku;rw[A03 rfl,A05 (by omega)]
   rw[this] at K
   exact K _ w.right
end
section
variable {h:H} {k:Value→Prop} {kt Q:Kt} {x y r:Res}
structure XA where
 nm:Bs
 ix:Nat
 v:Value
 bs:Bs
abbrev XA.cells (a:XA):List Value:=[str a.nm,.int .u8 a.ix,a.v]
def xaCs (l:List XA):List Value:=l.flatMap XA.cells
def XA.need (a:XA):Nat:=CB a.nm.length+16+CB a.bs.length
theorem Gu:AG TP 291=some (.agg ⟨[str [],.int .u8 0,.slice none 0 0]⟩):=by kernel_rfl
theorem CW {T:TypeId}{sz n:Nat}{z:Option Value}{zv v:Value}{vs es:List Value}(d:Vec T sz v n vs r)(w:AN (r+x) h)(hz:z=some zv)(hzs:zv.cells.size=sz)(he:es.length=sz)(h0:0<sz)(hs2:sz≤1000)(ho:es.all Value.oneCell'=true)
  (K:∀ b h,AN (pts b (.cells ⟨es⟩ T (0,0))+(r+x)) h→kt (.slice (some ⟨b,0,none⟩) 1 1) h) :
  AH (.arr sz) T z sz 1 [(0,.agg ⟨es⟩)] h kt:=by
 refine⟨zv,⟨es⟩,hz,by omega,?_,fun b h' ex hb' ho'=>K b h' (w.new ex hb' ho')⟩
 have hm:(Ax zv.cells (1*sz)).size=sz:=by simp[Ax]
 rw[A05 (by omega)]
 obtain⟨ml,hml⟩:∃ ml,Ax zv.cells (1*sz)=⟨ml⟩:=⟨_,rfl⟩
 rw[hml] at hm ⊢
 have hml2:ml.length=sz:=by simpa using hm
 refine Es _ _ _ ?_
 have hl0:GE ml 0 es=es:=by
  have h1:=Fz (all:=ml) (news:=es) (o:=0) (by omega)
  rw[A2] at h1
  simp only[A29,B17,A34] at h1
  rw[A43 (by rw[JH];omega)] at h1
  exact h1
 unfold DC
 simp only[Br,Value.cells,he,hml2]
 rw[A05 (by omega)]
 simp only[DC,A92]
 rw[hl0]
theorem B0 {T:TypeId}{sz by_ n b:Nat}{z:Option Value}{zv v:Value}{vs es:List Value}(d:Vec T sz v n vs r)(w:AN (pts b (.cells ⟨es⟩ T (0,0))+(r+x)) h)(hz:z=some zv)(hzs:zv.cells.size=sz)(he:es.length=sz)(ho:es.all Value.oneCell'=true)
  (hb:(n+1)*by_≤140737488355328) (hb2:n+1≤140737488355328) (K:∀ v r h,Vec T sz v (n+1) (vs++es) r→AN (r+x) h→kt v h) :
  AM T z sz by_ v (.slice (some ⟨b,0,none⟩) 1 1) h kt:=by
 refine⟨1,⟨es⟩,rfl,?_,IP d (w.cast (Res.left_comm _ _ _)) hz hzs hb hb2 ho (by omega) fun v r h d w=>K v r h d (AN.left (y:=pts b (.cells ⟨es⟩ T (0,0))) (w.cast (by ac_rfl)))⟩
 unfold BF
 simp only[w.left.one,A86,A45,if_false]
 rw[A03 (by simp;omega)]
 congr 1
 apply A56
 simp[A44,←he]
structure XS where
 iv:Value
 il:List XA
 ir:Res
 bv:Value
 bl:List XA
 br:Res
 ileft:Nat
 bleft:Nat
abbrev XS.res (b:Nat)(s:XS):Res:=pts b (.cells ⟨[s.iv,s.bv,.int .i64 s.ileft,.int .i64 s.bleft]⟩ 284 (0,0))+(s.ir+s.br)
structure XS.OK (s:XS):Prop where
 i:Vec 291 3 s.iv s.il.length (xaCs s.il) s.ir
 b:Vec 291 3 s.bv s.bl.length (xaCs s.bl) s.br
 il:s.ileft≤96∧s.il.length+s.bl.length≤1000
 bl:s.bleft≤4060
theorem AH2 {sb:Nat}{s:XS}{nm bs:Bs}{v:Value}(g:JX x)(ok:s.OK)(w:AN (s.res sb+x) h)(hn:nm.length<100000)(d:RdX x v bs)(hb:bs.length<100000)(hfit:XA.need ⟨(DB nm PX).2,(DB nm PX).1,v,bs⟩≤s.ileft)(hcl:(DB nm PX).2.length≤nm.length)
  (K:∀ iv ir h,XS.OK {s with iv:=iv,il:=s.il++[⟨(DB nm PX).2,(DB nm PX).1,v,bs⟩],ir:=ir,ileft:=s.ileft-XA.need ⟨(DB nm PX).2,(DB nm PX).1,v,bs⟩} →
   AN (XS.res sb {s with iv:=iv,il:=s.il++[⟨(DB nm PX).2,(DB nm PX).1,v,bs⟩],ir:=ir,ileft:=s.ileft-XA.need ⟨(DB nm PX).2,(DB nm PX).1,v,bs⟩}+x) h→Q (.bool true) h) (hlen:s.il.length+s.bl.length<1000) :
  AC6 (Pt sb) (str nm) v h Q:=by
 obtain⟨a,c,hv⟩:=d.len
 have hil:=ok.il.1
 unfold XA.need at hfit K
 simp only at hfit K
 unfold AC6 Ucl Umk Unf Ucm Uff Uld Ukp
 refine Ye (AH1 g.addR w (by omega) fun h w=>?_)
 generalize hcx:DB nm PX=cx at *
 obtain⟨ix,rest⟩:=cx
 simp only at *
 simp (disch:=omega) only[go_sem]
 rw[hv] at *
 refine Au Gu rfl rfl (Ah w Gu rfl fun xb h w=>?_)
 refine AL w ⟨[str rest,.int .u8 ix,.slice a bs.length c]⟩ rfl rfl (by simp) rfl fun h w=>?_
 refine Tp (AGa (nm:=rest) (ix:=ix) (v:=.slice a bs.length c) (T:=291) w (by omega) ?_)
 refine TH (AGS (nm:=rest) (ix:=ix) (a:=a) (T:=291) w (by omega) ?_)
 have hu1:CB rest.length≤rest.length+3:=by unfold CB;omega
 have hu2:CB bs.length≤bs.length+3:=by unfold CB;omega
 simp (disch:=omega) only[go_sem,AF w,A04]
 rw[Am (w.find (b:=xb)) (by simp)]
 have hex:(⟨[str rest,.int .u8 ix,.slice a bs.length c]⟩:Array Value).extract 0 (0+3)=⟨[str rest,.int .u8 ix,.slice a bs.length c]⟩:=rfl
 rw[hex]
 refine CW (x:=pts sb (.cells ⟨[s.iv,s.bv,.int .i64 s.ileft,.int .i64 s.bleft]⟩ 284 (0,0))+(s.br+x)) ok.i (AN.right (x:=pts xb (.cells ⟨[str rest,.int .u8 ix,.slice a bs.length c]⟩ 291 (0,0))) (w.cast (by unfold XS.res;ac_rfl))) Gu rfl rfl (by omega) (by omega) rfl fun tb h w=>⟨Ad w rfl,?_⟩
 refine B0 ok.i w Gu rfl rfl rfl (by omega) (by omega) fun iv ir h dv w=>?_
 obtain⟨⟨a2,c2,hiv⟩,_⟩:=dv.len
 subst hiv
 refine AL w ⟨[.slice a2 (s.il.length+1) c2,s.bv,.int .i64 s.ileft,.int .i64 s.bleft]⟩ rfl rfl (by simp) rfl fun h w=>?_
 simp (disch:=omega) only[go_sem,AF w]
 refine AL w ⟨[.slice a2 (s.il.length+1) c2,s.bv,.int .i64 ((s.ileft-(CB rest.length+16+CB bs.length):Nat):Int),.int .i64 s.bleft]⟩ rfl rfl (by simp) rfl fun h w=>?_
 have hlt:s.ileft-(CB rest.length+16+CB bs.length)≤96:=by omega
 refine K (.slice a2 (s.il.length+1) c2) ir h ⟨?_,ok.b,⟨hlt,by simp;omega⟩,ok.bl⟩ (w.cast (by unfold XS.res;dsimp only;ac_rfl))
 have:xaCs (s.il++[⟨rest,ix,.slice a bs.length c,bs⟩])=xaCs s.il++[str rest,.int .u8 ix,.slice a bs.length c]:=by simp[xaCs]
 rw[this,A01]
 exact dv
end
section
variable {h:H} {k:Value→Prop} {kt Q:Kt} {x y r:Res}
theorem M8 {T:TypeId}{sz n i:Nat}{kk:IntKind}{v:Value}{vs:List Value}(d:Vec T sz v n vs r)(w:AN (r+x) h)(hi:i<n)(K:k (.agg ⟨(vs.drop (i*sz)).take sz⟩)):AI (.slice sz) v (.int kk (i:Int)) fun a=>AB true sz a h k:=by
 cases d with
 | nil=>omega
 | own hn hc=>
  rename_i b c all
  refine⟨kk,i,rfl,_,n,c,rfl,by omega,by omega,?_⟩
  have h1:=A48 sz (show i+1≤n by omega)
  rw[A93,B34] at h1
  have h2:=A48 sz hn
  rw[A77,Bm,A29]
  show AB true sz (.pointer (some ⟨b,i*sz,none⟩)) h k
  rw[Am w.left.one (by simp;omega)]
  have:(⟨all⟩:Array Value).extract (i*sz) (i*sz+sz)=⟨((all.take (n*sz)).drop (i*sz)).take sz⟩:=by
   apply A56
   rw[Array.toList_extract,A44]
   apply A60
   intro j
   grind
  rw[this];exact K
theorem TE:∀ (l:List XA) (i:Nat) (a:XA),l[i]? = some a→((xaCs l).drop (i*3)).take 3=a.cells
 | [],i,a,h=>by simp at h
 | b::l,0,a,h=>by simp at h;subst h;simp[xaCs]
 | b::l,i+1,a,h=>by
  have:=TE l i a (by simpa using h)
  rw[show (i+1)*3=i*3+3 by omega]
  have e:(xaCs (b::l)).drop (i*3+3)=(xaCs l).drop (i*3):=by
   unfold xaCs
   rw[B54,←A64]
   rfl
  rw[e];exact this
theorem UE {kk:IntKind}{b o n c l:Nat}(h1:l≤n)(h2:n≤c):AZ (.slice 1) (.slice (some ⟨b,o,none⟩) n c) (some (.int kk (l:Int))) none k=k (.slice (some ⟨b,if l=c then o else o+l,none⟩) (n-l) (c-l)):=by
 have hv:A6 (.slice 1) (.slice (some ⟨b,o,none⟩) n c) (some (.int kk (l:Int))) none=some (.slice (some ⟨b,if l=c then o else o+l,none⟩) (n-l) (c-l)):=by
  have hb:Ay 0 (some (.int kk (l:Int)))=some l:=by simp[Ay]
  unfold A6
  rw[hb]
  simp only[Ay]
  rw[A03 ⟨h1,h2⟩,A67]
  by_cases hl:l=c
  ·rw[A03 hl.symm,A03 hl]
  ·rw[A05 (fun h=>hl h.symm),A05 hl,A80,Bm]
 exact propext ⟨fun⟨v,a,b⟩=>by rw[hv] at a;cases a;exact b,fun a=>⟨_,hv,a⟩⟩
@[go_sem] theorem AEY {kk:IntKind}{b o n c l:Nat}(h1:(OfNat.ofNat l:Int)<(n:Int))(h2:n≤c):AZ (.slice 1) (.slice (some ⟨b,o,none⟩) n c) (some (.int kk (no_index (OfNat.ofNat l:Int)))) none k=k (.slice (some ⟨b,o+l,none⟩) (n-l) (c-l)):=
 Gc (l:=l) (Nat.le_of_lt (B29.1 h1)) h2 (by have:=B29.1 h1;omega)
theorem KB {l:Bs}{o:Nat}:setL l o []=l:=by simp[setL]
def HG (all:Bs)(o e t delta:Nat)(a:XA):Bs:=
 let t':=t-CB a.bs.length
 setL (setL (setL (setL (setL (setL (setL all (o+e) [UInt8.ofNat a.nm.length]) (o+e+1) [UInt8.ofNat a.ix]) (o+e+2) (Aq (t'+delta))) (o+e+8) (Ac a.bs.length)) (o+e+12) (Ac (hashX a.nm a.bs))) (o+e+16) a.nm) (o+t') a.bs
def Em (o delta:Nat):List XA→Nat→Nat→Bs→Bs
 | [],_,_,all=>all
 | a::l,e,t,all=>Em o delta l (e+16+CB a.nm.length) (t-CB a.bs.length) (HG all o e t delta a)
def D3 (l:List XA):Nat:=(l.map XA.need).sum
theorem Sb {m:Nat}(h:m<256):Value.int .u8 (m:Int)=bc (UInt8.ofNat m):=by rw[bc];simp;omega
theorem LQ {all:Bs}{o e t delta:Nat}{a:XA}(h1:o+e+16+CB a.nm.length≤all.length)(h2:CB a.bs.length≤t)(h3:o+t≤all.length):(HG all o e t delta a).length=all.length:=by
 have hu1:a.nm.length≤CB a.nm.length:=by unfold CB;omega
 have hu2:a.bs.length≤CB a.bs.length:=by unfold CB;omega
 have ll:∀ n,(Aq n).length=2:=fun _=>rfl
 have ll2:∀ n,(Ac n).length=4:=fun _=>rfl
 unfold HG
 simp only
 have e1:(setL all (o+e) [UInt8.ofNat a.nm.length]).length=all.length:=AS (by simp;omega)
 have e2:=(AS (l:=setL all (o+e) [UInt8.ofNat a.nm.length]) (m:=[UInt8.ofNat a.ix]) (o:=o+e+1) (by rw[e1];simp;omega)).trans e1
 have e3:=(AS (l:=setL (setL all (o+e) [UInt8.ofNat a.nm.length]) (o+e+1) [UInt8.ofNat a.ix]) (m:=Aq (t-CB a.bs.length+delta)) (o:=o+e+2) (by rw[e2,ll];omega)).trans e2
 have e4:=(AS (m:=Ac a.bs.length) (o:=o+e+8) (by rw[e3,ll2];omega)).trans e3
 have e5:=(AS (m:=Ac (hashX a.nm a.bs)) (o:=o+e+12) (by rw[e4,ll2];omega)).trans e4
 have e6:=(AS (m:=a.nm) (o:=o+e+16) (by rw[e5];omega)).trans e5
 exact (AS (m:=a.bs) (o:=o+(t-CB a.bs.length)) (by rw[e6];omega)).trans e6
attribute [irreducible] HG
theorem Gw {all:Bs}{o e t delta:Nat}{a:XA}:HG all o e t delta a=setL (setL (setL (setL (setL (setL (setL all (o+e) [UInt8.ofNat a.nm.length]) (o+e+1) [UInt8.ofNat a.ix]) (o+e+2) (Aq (t-CB a.bs.length+delta))) (o+e+8) (Ac a.bs.length)) (o+e+12) (Ac (hashX a.nm a.bs))) (o+e+16) a.nm) (o+(t-CB a.bs.length)) a.bs:=by
 unfold HG;rfl
theorem YL {b o t n l:Nat}{all src:Bs}{s:Value}{T:TypeId}(w:AN (pts b (.cells (bcs all) T (0,0))+x) h)(d:RdX x s src)(hl:l≤t)(htn:t≤n)(hs:src.length≤t-l)(hle:o+t≤all.length)
  (K:∀ h,AN (pts b (.cells (bcs (setL all (o+l) src)) T (0,0))+x) h→kt (.int .i64 (src.length:Nat)) h):DI 1 (.slice (some ⟨b,if l=n then o else o+l,none⟩) (t-l) (n-l)) s h kt:=by
 by_cases hln:l=n
 ·rw[A03 hln]
  have:src=[]:=A69.1 (by omega)
  subst this
  refine FN w d (by simp;omega) (by simp) fun h w=>K h ?_
  rw[KB] at w ⊢
  exact w
 ·rw[A05 hln]
  exact FN w d (by omega) hs K
theorem AEc {Q:Kt}{rec:Value→Value→Value→Value→H→Prop}{l:List XA}{rX:Res}{bb o n c delta i e t:Nat}{all:Bs}{T TX:TypeId}{a:XA}{xa:Option Addr}{xc:Nat}(dx:Vec TX 3 (.slice xa l.length xc) l.length (xaCs l) rX)
  (w:AN (pts bb (.cells (bcs all) T (0,0))+(rX+x)) h) (ha:l[i]? = some a) (hra:RdX x a.v a.bs) (hnl:a.nm.length<256) (hix:a.ix<256) (hbl:a.bs.length<100000) (hi:i<l.length) (hll:l.length≤1000)
  (ho:o+n≤all.length) (hnc:n≤c) (htn:t≤n) (hn2:n+delta<65536) (hne:e+(CB a.nm.length+16+CB a.bs.length)+4≤t)
  (K:∀ h,AN (pts bb (.cells (bcs (HG all o e t delta a)) T (0,0))+(rX+x)) h→rec (.int .u16 ((t-CB a.bs.length+delta:Nat):Int)) (.slice (some ⟨bb,o+(e+16+CB a.nm.length),none⟩) (n-(e+16+CB a.nm.length)) (c-(e+16+CB a.nm.length))) (.slice (some ⟨bb,o,none⟩) (t-CB a.bs.length) c) (.int .i64 ((i+1:Nat):Int)) h) :
  KU Q rec (.slice xa l.length xc) (.int .i64 (l.length:Int)) (.int .u16 ((t+delta:Nat):Int)) (.slice (some ⟨bb,o+e,none⟩) (n-e) (c-e)) (.slice (some ⟨bb,o,none⟩) t c) (.int .i64 (i:Int)) h:=by
 obtain⟨va,vc,hav⟩:=hra.len
 have hu1:a.nm.length≤CB a.nm.length∧CB a.nm.length≤a.nm.length+3:=by unfold CB;omega
 have hu2:a.bs.length≤CB a.bs.length∧CB a.bs.length≤a.bs.length+3:=by unfold CB;omega
 have hhx:hashX a.nm a.bs=hashX a.nm a.bs:=rfl
 have ll:∀ n,(Aq n).length=2:=fun _=>rfl
 have ll2:∀ n,(Ac n).length=4:=fun _=>rfl
 rw[Gw] at K
 unfold KU Ucm Umk Ucl Ufl
 simp (disch:=omega) only[go_sem,A04]
 refine M8 (i:=i) dx (w.cast (Res.left_comm _ _ _)) hi ?_
 rw[TE l i a ha]
 refine Ah w Gu rfl fun xb h w=>?_
 refine AL w (xaC a.nm a.ix a.v) rfl rfl (by simp) (by show List.all [str a.nm,.int .u8 a.ix,a.v] _=true;rw[hav];rfl) fun h w=>?_
 rw[hav] at w hra
 refine TH (AGS (nm:=a.nm) (ix:=a.ix) (a:=va) (T:=291) w (by omega) ?_)
 have e0:=AFr (m:=CB a.bs.length) (by omega)
 simp (disch:=omega) only[go_sem,AF w,IQ]
 have e1:(setL all (o+e) [UInt8.ofNat a.nm.length]).length=all.length:=AS (by simp;omega)
 have e2:=(AS (l:=setL all (o+e) [UInt8.ofNat a.nm.length]) (m:=[UInt8.ofNat a.ix]) (o:=o+e+1) (by rw[e1];simp;omega)).trans e1
 have e3:=(AS (m:=Aq (t-CB a.bs.length+delta)) (o:=o+e+2) (by rw[e2,ll];omega)).trans e2
 have e4:=(AS (m:=Ac a.bs.length) (o:=o+e+8) (by rw[e3,ll2];omega)).trans e3
 have e5:=(AS (m:=Ac (hashX a.nm a.bs)) (o:=o+e+12) (by rw[e4,ll2];omega)).trans e4
 have e6:=(AS (m:=a.nm) (o:=o+e+16) (by rw[e5];omega)).trans e5
 have hoff:t+delta-CB a.bs.length=t-CB a.bs.length+delta:=by omega
 rw[hoff,Sb hnl,A58]
 refine CM (w.cast (Res.left_comm _ _ _)) (by omega) fun h w=>?_
 simp (disch:=omega) only[go_sem,AF w]
 rw[Sb hix]
 refine CM w (by rw[e1];omega) fun h w=>?_
 refine AAw (AHy w (by omega) (by rw[e2];omega) fun h w=>?_)
 simp (disch:=omega) only[go_sem,AF w]
 refine Jx (ACG w (by omega) (by rw[e3];omega) fun h w=>?_)
 simp (disch:=omega) only[go_sem,AF w]
 refine Yp (AH9 w (hra.addR.addR.addR) (by omega) (by omega) fun h w=>?_)
 refine Jx (ACG w (by omega) (by rw[e4];omega) fun h w=>?_)
 simp (disch:=omega) only[go_sem,AF w]
 refine PL w (by rw[e5];omega) (by omega) fun h w=>?_
 refine Tp (AGa (nm:=a.nm) (ix:=a.ix) (v:=.slice va a.bs.length vc) (T:=291) w (by omega) ?_)
 simp (disch:=omega) only[Gc,UE,PF,go_sem,AF w]
 refine YL w hra.addR.addR (by omega) (by omega) (by omega) (by rw[e6];omega) fun h w=>?_
 have q1:o+e+(CB a.nm.length+16)=o+(e+16+CB a.nm.length):=by omega
 have q2:n-e-(CB a.nm.length+16)=n-(e+16+CB a.nm.length):=by omega
 have q3:c-e-(CB a.nm.length+16)=c-(e+16+CB a.nm.length):=by omega
 rw[q1,q2,q3]
 exact K _ (AN.right (x:=pts xb (.cells (xaC a.nm a.ix (.slice va a.bs.length vc)) 291 (0,0))) (w.cast (Res.left_comm _ _ _)))
theorem AGN {xv:Value}{l:List XA}{rX:Res}{bb o n c delta:Nat}{all0:Bs}{T TX:TypeId}(dx:Vec TX 3 xv l.length (xaCs l) rX)(w:AN (pts bb (.cells (bcs all0) T (0,0))+(rX+x)) h)(hrd:∀ a∈l,RdX x a.v a.bs∧a.nm.length<256∧a.ix<256∧a.bs.length<100000)
  (ho:o+n≤all0.length) (hnc:n≤c) (hneed:D3 l+4≤n) (hn2:n+delta<65536) (hll:l.length≤1000) (K:∀ h,AN (pts bb (.cells (bcs (Em o delta l 0 n all0)) T (0,0))+(rX+x)) h→Q (.tuple #[]) h) :
  ADD xv (.slice (some ⟨bb,o,none⟩) n c) (.int .u16 (delta:Int)) h Q:=by
 obtain⟨⟨xa,xc,hxv⟩,_⟩:=dx.len
 subst hxv
 unfold ADD
 simp (disch:=omega) only[go_sem]
 unfold V6
 refine AGj (fun m v6 v7 v8 v21 h'=>∃ i e t all,m=l.length-i∧i≤l.length∧v6=.int .u16 ((t+delta:Nat):Int)∧v7=.slice (some ⟨bb,o+e,none⟩) (n-e) (c-e)∧v8=.slice (some ⟨bb,o,none⟩) t c∧v21=.int .i64 (i:Nat)∧
   AN (pts bb (.cells (bcs all) T (0,0))+(rX+x)) h'∧all.length=all0.length∧e+D3 (l.drop i)+4≤t∧t≤n∧Em o delta (l.drop i) e t all=Em o delta l 0 n all0) l.length
  ⟨0,0,n,all0,rfl,A39 _,rfl,rfl,rfl,rfl,w,rfl,by simpa using hneed,A07 _,rfl⟩ ?_
 rintro rec m v6 v7 v8 v21 h' ⟨i,e,t,all,rfl,hi,rfl,rfl,rfl,rfl,w,hal,hne,htn,he⟩ hrec
 by_cases hlt:i<l.length
 ·obtain⟨a,ha⟩:∃ a,l[i]? = some a:=⟨_,A00 (by omega)⟩
  obtain⟨hra,hnl,hix,hbl⟩:=hrd a (A28 ha)
  have hdrop:l.drop i=a::l.drop (i+1):=by
   rw[A50 (by omega)]
   rw[A00 (by omega)] at ha
   rw[A14 ha]
  have hnd:D3 (l.drop i)=a.need+D3 (l.drop (i+1)):=by rw[hdrop];rfl
  unfold XA.need at hnd
  have hu2:a.bs.length≤CB a.bs.length:=by unfold CB;omega
  refine AEc dx w ha hra hnl hix hbl hlt hll (by omega) hnc htn hn2 (by omega) fun h w=>?_
  refine hrec (l.length-(i+1)) _ _ _ _ _ ⟨i+1,e+16+CB a.nm.length,t-CB a.bs.length,HG all o e t delta a,rfl,by omega,rfl,rfl,rfl,rfl,w,?_,by omega,by omega,?_⟩ (by omega)
  ·rw[LQ (by omega) (by omega) (by omega)];exact hal
  ·rw[←he,hdrop,Em]
 ·have:i=l.length:=by omega
  subst this
  unfold KU Ucm Umk Ucl Ufl
  simp (disch:=omega) only[go_sem,A08]
  rw[B15,Em] at he
  rw[he] at w
  exact K _ w
end
section
variable {h:H} {k:Value→Prop} {kt Q:Kt} {x y r:Res}
def I0 (l:List XA):Bs:=Em 4 0 l 0 100 (setL (List.replicate 104 0) 0 (Ac 3925999616))
theorem MS (o delta:Nat):∀ (l:List XA) (e t:Nat) (all:Bs),o+t≤all.length→e+D3 l+4≤t→(Em o delta l e t all).length=all.length
 | [],_,_,_,_,_=>rfl
 | a::l,e,t,all,h1,h2=>by
  have hn:D3 (a::l)=a.need+D3 l:=rfl
  unfold XA.need at hn
  have h3:=LQ (all:=all) (o:=o) (e:=e) (t:=t) (delta:=delta) (a:=a) (by omega) (by omega) h1
  rw[Em,MS o delta l _ _ _ (by rw[h3];omega) (by omega),h3]
theorem Wb {l:List XA}(h:D3 l≤96):(I0 l).length=104:=by
 unfold I0
 have h1:(setL (List.replicate 104 (0:UInt8)) 0 (Ac 3925999616)).length=104:=by rw[AS (by decide)];simp
 rw[MS _ _ _ _ _ _ (by rw[h1];omega) (by omega),h1]
theorem AEk {n:Nd}{nb sb:Nat}{s:XS}{v0:Value}(ok:s.OK)(w:AN (pts nb (.cells n.cells 197 (0,0))+(s.res sb+x)) h)(hil:s.il=[])(hbl:s.bl=[])(hx:n.xblk=0)
  (K:∀ h,AN (pts nb (.cells n.cells 197 (0,0))+(s.res sb+x)) h→Q .nilIface h):UW v0 (Pt nb) (Pt sb) h Q:=by
 obtain⟨⟨ia,ic,hi⟩,_⟩:=ok.i.len
 obtain⟨⟨ba,bcp,hb⟩,_⟩:=ok.b.len
 rw[hil] at hi
 rw[hbl] at hb
 unfold UW Uld Unf Ucm Uff Ucl
 refine BJ w fun cb h w=>?_
 simp (disch:=omega) only[go_sem,AF w,hi,Value.cells,A61,A08]
 unfold J4 Uld Unf Ucf
 simp (disch:=omega) only[go_sem,AF w,hb,Value.cells,A61,A08,hx]
 unfold LR
 simp only[go_sem]
 exact K _ w.right
theorem AFC {n:Nd}{nb sb:Nat}{s:XS}{v0:Value}(ok:s.OK)(w:AN (pts nb (.cells n.cells 197 (0,0))+(s.res sb+x)) h)(hil:s.il≠[])(hbl:s.bl=[])(hx:n.xblk=0)(hneed:D3 s.il≤96)
  (hrd:∀ a∈s.il,RdX x a.v a.bs∧a.nm.length<256∧a.ix<256∧a.bs.length<100000)
  (K:∀ xv xr h,BufV xv (I0 s.il) xr→AN (pts nb (.cells (Nd.cells {n with xin:=xv}) 197 (0,0))+(xr+(s.res sb+x))) h→Q .nilIface h):UW v0 (Pt nb) (Pt sb) h Q:=by
 obtain⟨⟨ia,ic,hi⟩,_⟩:=ok.i.len
 obtain⟨⟨ba,bcp,hb⟩,_⟩:=ok.b.len
 rw[hbl] at hb
 have hpos:0<s.il.length:=A99.2 hil
 have hlen:=ok.il.2
 unfold UW Uld Unf Ucm Uff Ucl
 refine BJ w fun cb h w=>?_
 simp (disch:=omega) only[go_sem,AF w,hi,Value.cells,A04]
 refine ER (n:=104) w (by omega) fun mb h w=>?_
 refine AL w (Nd.cells {n with xin:=.slice (some ⟨mb,0,none⟩) 104 104}) rfl rfl (by simp) rfl fun h w=>?_
 simp (disch:=omega) only[go_sem,AF w]
 refine Jx (ACG (m:=3925999616) w (by omega) (by simp) fun h w=>?_)
 simp (disch:=omega) only[go_sem,AF w,hi]
 have h1:(setL (List.replicate 104 (0:UInt8)) 0 (Ac 3925999616)).length=104:=by rw[AS (by decide)];simp
 refine Sc (AGN (rX:=s.ir) (l:=s.il) (delta:=0) (n:=100) (bb:=mb) (all0:=setL (List.replicate 104 0) 0 (Ac 3925999616)) (T:=5)
  (x:=pts nb (.cells (Nd.cells {n with xin:=.slice (some ⟨mb,0,none⟩) 104 104}) 197 (0,0))+(pts cb (.cells (Pt sb).cells 287 (0,0))+(pts sb (.cells ⟨[s.iv,s.bv,.int .i64 s.ileft,.int .i64 s.bleft]⟩ 284 (0,0))+(s.br+x)))) (hi▸ok.i) (w.cast (by unfold XS.res;ac_rfl))
  (fun a ha=>⟨(hrd a ha).1.addR.addR.addR.addR,(hrd a ha).2⟩) (by rw[h1];omega) (A07 _) (by omega) (by omega) (by omega) fun h w=>?_)
 unfold J4 Uld Unf Ucf
 simp (disch:=omega) only[go_sem,AF w,hb,Value.cells,A61,A08,hx]
 unfold LR
 simp only[go_sem]
 have hlB:=Wb hneed
 refine K (.slice (some ⟨mb,0,none⟩) 104 104) _ h (.own' (b:=mb) (all:=I0 s.il) (by rw[hlB];omega) hlB (by rw[←hlB,A38])) (AN.right (x:=pts cb (.cells (Pt sb).cells 287 (0,0))) (w.cast ?_))
 unfold XS.res I0
 ac_rfl
end
section
set_option maxRecDepth 100000
def OS (Q:Kt)(a b c d f:Value)(h:H):Prop:=
 AK f
 (Ucl 96 [a,(.string ⟨#[]⟩),c,d] h fun _ h=>Unf 0 b h fun b=>Uv 5 b h fun b h=>Ucl 57 [a,b] h fun b h=>AO b 0 fun _=>AO b 1 fun b=>Bq .iface true true h b .nilIface fun d=>AK d
 (Q (.tuple #[(.pointer none),b]) h)
 (Ucl 91 [a] h fun b h=>Bq .iface true true h b .nilIface fun d=>AK d
 (Q (.tuple #[(.pointer none),b]) h)
 (Unf 5 c h fun b=>AD .sub b (.int .u32 1) fun b=>AV .i64 b fun b=>Unf 1 a h fun d=>Ab d fun d=>Ucm .geq b d
 (Unf 1 a h fun b=>AH (.arr 1) 182 (AG TP 182) 1 1 [(0,c)] h fun d h=>AM 182 (AG TP 182) 1 8 b d h fun b h=>Uff 1 a fun a=>AJ 1 a b h fun h=>Q (.tuple #[c,.nilIface]) h)
 (Q (.tuple #[c,.nilIface]) h))))
 (Unf 5 c h fun b=>AD .sub b (.int .u32 1) fun b=>AV .i64 b fun b=>Unf 1 a h fun d=>Ab d fun d=>Ucm .geq b d
 (Unf 1 a h fun b=>AH (.arr 1) 182 (AG TP 182) 1 1 [(0,c)] h fun d h=>AM 182 (AG TP 182) 1 8 b d h fun b h=>Uff 1 a fun a=>AJ 1 a b h fun h=>Q (.tuple #[c,.nilIface]) h)
 (Q (.tuple #[c,.nilIface]) h))
def Ow (Q:Kt)(a b c d f g:Value)(h:H):Prop:=
 Ucl 156 [a,c,f] h fun f h=>Bq .iface true true h f .nilIface fun i=>AK i
 (Q (.tuple #[(.pointer none),f]) h)
 (Uff 0 c fun f=>AJ 1 f g h fun h=>Ucg .eql d (.int .u16 40960) (AD .gtr g (.int .i64 59) fun d=>OS Q a b c g d h) (OS Q a b c g (.bool false) h))
def AA3 (Q:Kt)(r1:R1)(a b c d f g i j k:Value)(h:H):Prop:=
 Ucm .lss k j
 (Uil i k h fun a=>Unf 19 b h fun b=>CC (some .string) (AG TP 30) false b a h fun b=>Ucl 155 [f,a,b] h fun a h=>Unt a
 (Ucl 94 [(.string "could not fit xattr".toUTF8)] h fun a h=>Q (.tuple #[(.pointer none),a]) h)
 (AD .add k (.int .i64 1) fun a=>r1 a h))
 (Ow Q a b c d f g h)
def AFU (Q:Kt)(a b c d f g i j k:Value)(h:H):Prop:=A1 (fun r1 k h=>AA3 Q r1 a b c d f g i j k h) k h
def ABV (Q:Kt)(r2:R1)(r3:R1)(a b c d f g i j k:Value)(h:H):Prop:=
 AD .sub k (.int .i64 1) fun a=>AD .sub k (.int .i64 1) fun b=>Uil i b h fun b=>Uil i k h fun c=>AI (.slice 1) i k fun d=>AJ 1 d b h fun h=>AI (.slice 1) i a fun a=>AJ 1 a c h fun h=>AD .sub k (.int .i64 1) fun a=>r3 a h
def AA1 (Q:Kt)(r2:R1)(r3:R1)(a b c d f g i j k:Value)(h:H):Prop:=
 Ucg .gtr k (.int .i64 0) (Uil i k h fun m=>AD .sub k (.int .i64 1) fun n=>Uil i n h fun n=>Ucm .lss m n
 (ABV Q r2 r3 a b c d f g i j k h)
 (AD .add j (.int .i64 1) fun a=>r2 a h)) (AD .add j (.int .i64 1) fun a=>r2 a h)
def AGd (Q:Kt)(r2:R1)(a b c d f g i j k:Value)(h:H):Prop:=A1 (fun r3 k h=>AA1 Q r2 r3 a b c d f g i j k h) k h
def ABb (Q:Kt)(r2:R1)(a b c d f g i j:Value)(h:H):Prop:=
 Ab i fun k=>Ucm .lss j k
 (AGd Q r2 a b c d f g i j j h)
 (Ab i fun j=>AFU Q a b c d f g i j (.int .i64 0) h)
def AEf (Q:Kt)(a b c d f g i j:Value)(h:H):Prop:=A1 (fun r2 j h=>ABb Q r2 a b c d f g i j h) j h
def ABe (Q:Kt)(r4:R1)(a b c d f g i j:Value)(h:H):Prop:=
 HM i h fun k h=>AO k 0 fun k=>AK k
 (Hb i h fun a=>AO a 0 fun a=>AH (.arr 1) 9 (AG TP 9) 1 1 [(0,a)] h fun a h=>AM 9 (AG TP 9) 1 16 j a h fun a h=>r4 a h)
 (AEf Q a b c d f g j (.int .i64 1) h)
def AFR (Q:Kt)(a b c d f g i j:Value)(h:H):Prop:=A1 (fun r4 j h=>ABe Q r4 a b c d f g i j h) j h
def YK (Q:Kt)(r5:R0)(a b c d f g i:Value)(h:H):Prop:=
 HM i h fun j h=>AO j 0 fun j=>AK j
 (Hb i h fun a=>AO a 0 fun c=>AO a 1 fun a=>Unf 19 b h fun d=>CC (some .string) (AG TP 30) true d c h fun d=>AO d 0 fun _=>AO d 1 fun d=>Unt d
 (Unf 19 b h fun b=>Gp (some .string) b c a h fun h=>r5 h)
 (r5 h))
 (Unf 19 b h fun i=>Ti i h fun i=>Ucm .neq i (.int .i64 0)
 (Unf 19 b h fun i=>D5 i h fun i h=>AFR Q a b c d f g i (.slice none 0 0) h)
 (Ow Q a b c d f g h))
def ABA (Q:Kt)(a b c d f g i:Value)(h:H):Prop:=Kv (fun r5 h=>YK Q r5 a b c d f g i h) h
def EM (Q:Kt)(a b c d f g i:Value)(h:H):Prop:=
 D5 f h fun f h=>ABA Q a b c d g i f h
def OF (Q:Kt)(a b c d f g i j:Value)(h:H):Prop:=
 Unf 15 c h fun k=>AZ (.slice 1) k none (some j) fun j=>Ucl 155 [g,(.string ⟨#[115,121,115,116,101,109,46,100,97,116,97]⟩),j] h fun j h=>Unt j
 (False )
 (Unf 14 c h fun j=>AD .or j (.int .u32 268435456) fun j=>Uff 14 c fun k=>AJ 1 k j h fun h=>EM Q a b c d f g i h)
def PW (Q:Kt)(a b c d f g i j:Value)(h:H):Prop:=
 AK j
 (Unf 1 b h fun j=>AY (AG TP 5) 1 1 5 j j h fun j h=>Uff 15 c fun k=>AJ 1 k j h fun h=>Unf 1 b h fun j=>Ucm .gtr j (.int .i64 60)
 (Unf 1 b h fun j=>AD .sub j (.int .i64 60) fun j=>OF Q a b c d f g i j h)
 (OF Q a b c d f g i (.int .i64 0) h))
 (EM Q a b c d f g i h)
def Oa (Q:Kt)(a b c d f:Value)(h:H):Prop:=
 Uff 16 c fun g=>AJ 1 g (.slice none 0 0) h fun h=>Umk 284 h fun g h=>Ucl 154 [g] h fun _ h=>Ucm .eql d (.int .u16 32768)
 (Unf 1 b h fun i=>Unf 1 b h fun j=>Ucm .gtr j (.int .i64 137438953472)
 (Ucl 94 [(.string "file too big".toUTF8)] h fun a h=>Q (.tuple #[(.pointer none),a]) h)
 (Unf 1 b h fun j=>Ucg .leq j (.int .i64 136) (Unf 9 a h fun j=>PW Q a b c d f g i j h) (PW Q a b c d f g i (.bool false) h)))
 (Ucm .eql d (.int .u16 40960)
 (Unf 6 c h fun i=>AD .or i (.int .u16 511) fun i=>Uff 6 c fun j=>AJ 1 j i h fun h=>Unf 0 b h fun i=>CL i fun i=>Ucm .leq i (.int .i64 59)
 (Unf 0 b h fun j=>CL j fun j=>AY (AG TP 5) 1 1 5 j j h fun j h=>Uff 15 c fun k=>AJ 1 k j h fun h=>Unf 15 c h fun j=>Unf 0 b h fun k=>DI 1 j k h fun _ h=>EM Q a b c d f g i h)
 (EM Q a b c d f g i h))
 (Ucm .eql d (.int .u16 16384)
 (EM Q a b c d f g (.int .i64 0) h)
 (Ucm .eql d (.int .u16 4096)
 (EM Q a b c d f g (.int .i64 0) h)
 (Ucm .eql d (.int .u16 49152)
 (EM Q a b c d f g (.int .i64 0) h)
 (Ucm .eql d (.int .u16 8192)
 (EM Q a b c d f g (.int .i64 0) h)
 (Ucm .eql d (.int .u16 24576)
 (EM Q a b c d f g (.int .i64 0) h)
 (Ucl 94 [(.string "invalid mode".toUTF8)] h fun a h=>Q (.tuple #[(.pointer none),a]) h)))))))
def MF (Q:Kt)(a b c d:Value)(h:H):Prop:=
 Gl h fun f h=>Unf 16 c h fun g=>Ab g fun g=>Ucm .gtr g (.int .i64 0)
 (Unf 16 c h fun g=>AZ (.slice 1) g (some (.int .i64 4)) none fun g=>Ucl 103 [g,f,(.int .u16 0)] h fun _ h=>Oa Q a b c d f h)
 (Oa Q a b c d f h)
def K7 (Q:Kt)(a b c d f:Value)(h:H):Prop:=
 Uff 6 c fun g=>AJ 1 g d h fun h=>Unf 3 b h fun d=>Uff 7 c fun g=>AJ 1 g d h fun h=>Unf 4 b h fun d=>Uff 8 c fun g=>AJ 1 g d h fun h=>Uff 14 c fun d=>AJ 1 d (.int .u32 262144) h fun h=>Uff 5 b fun d=>AB true 3 d h fun d=>Ucl 153 [d] h fun d h=>Uff 1 c fun g=>AJ 1 g d h fun h=>Uff 8 b fun d=>AB true 3 d h fun d=>Ucl 153 [d] h fun d h=>Uff 2 c fun g=>AJ 1 g d h fun h=>Uff 11 b fun d=>AB true 3 d h fun d=>Ucl 153 [d] h fun d h=>Uff 3 c fun g=>AJ 1 g d h fun h=>Uff 14 b fun d=>AB true 3 d h fun d=>Ucl 153 [d] h fun d h=>Uff 4 c fun g=>AJ 1 g d h fun h=>Unf 17 b h fun d=>Uff 12 c fun g=>AJ 1 g d h fun h=>Unf 18 b h fun d=>Uff 13 c fun g=>AJ 1 g d h fun h=>Uff 15 c fun d=>AJ 1 d (.slice none 0 0) h fun h=>Unf 19 b h fun d=>Bq .map true false h d (.map none) fun d=>AK d
 (Gl h fun d h=>Uff 19 b fun g=>AJ 1 g d h fun h=>MF Q a b c f h)
 (MF Q a b c f h)
def Ka (Q:Kt)(a b c d:Value)(h:H):Prop:=
 AD .and d (.int .u16 61440) fun f=>Unf 1 a h fun g=>Ab g fun g=>AD .add g (.int .i64 1) fun g=>AV .u32 g fun g=>Bq .ptr true false h c (.pointer none) fun i=>AK i
 (Ae (.struct [(0,1),(1,1),(2,1),(3,1),(4,1),(5,1),(6,1),(7,1),(8,1),(9,1),(10,1),(11,1),(12,1),(13,1),(14,1),(15,1),(16,1),(17,1)]) (AG TP 197) [(5,g)] fun c=>BB 197 (c:Value).cells h fun c h=>Ucm .eql f (.int .u16 16384)
 (Gl h fun g h=>Uff 17 c fun i=>AJ 1 i g h fun h=>Uff 9 c fun g=>AJ 1 g (.int .u32 1) h fun h=>K7 Q a b c d f h)
 (K7 Q a b c d f h))
 (Unf 14 c h fun g=>AD .and g (.int .u32 524288) fun g=>Ucm .neq g (.int .u32 0)
 (Ucl 94 [(.string "cannot overwrite file with non-inline data".toUTF8)] h fun a h=>Q (.tuple #[(.pointer none),a]) h)
 (K7 Q a b c d f h))
def f95 (a b c:Value)(h:H)(Q:Kt):Prop:=
 Unf 2 b h fun d=>AD .and d (.int .u16 61440) fun f=>Ucm .eql f (.int .u16 0)
 (AD .or d (.int .u16 32768) fun d=>Ka Q a b c d h)
 (Ka Q a b c d h)
def AIW (Q:Kt)(r:RS):Nat→DJ:=tab [(8589934586,.jn fun e h=>OS Q (e 0) (e 1) (e 2) (e 13) (e 378) h),
 (536870910,.jn fun e h=>Ow Q (e 0) (e 1) (e 2) (e 9) (e 12) (e 13) h),
 (68719476413,.lp [0,1,2,9,12,13,346,347] [348] fun s e l h=>AA3 Q (u1 s) (e 0) (e 1) (e 2) (e 9) (e 12) (e 13) (e 346) (e 347) (gl l 0) h),
 (17592185959570,.jn fun e h=>ABV Q (u1 (r 34359738202)) (u1 (r 2199023244946)) (e 0) (e 1) (e 2) (e 9) (e 12) (e 13) (e 19) (e 21) (e 22) h),
 (4398046489893,.lp [0,1,2,9,12,13,19,21] [22] fun s e l h=>AA1 Q (u1 (r 34359738202)) (u1 s) (e 0) (e 1) (e 2) (e 9) (e 12) (e 13) (e 19) (e 21) (gl l 0) h),
 (68719476405,.lp [0,1,2,9,12,13,19] [21] fun s e l h=>ABb Q (u1 s) (e 0) (e 1) (e 2) (e 9) (e 12) (e 13) (e 19) (gl l 0) h),
 (34359738197,.lp [0,1,2,9,12,13,298] [19] fun s e l h=>ABe Q (u1 s) (e 0) (e 1) (e 2) (e 9) (e 12) (e 13) (e 298) (gl l 0) h),
 (1073741813,.lp [0,1,2,9,12,13,265] [] fun s e l h=>YK Q (u0 s) (e 0) (e 1) (e 2) (e 9) (e 12) (e 13) (e 265) h),
 (134217726,.jn fun e h=>EM Q (e 0) (e 1) (e 2) (e 9) (e 11) (e 12) (e 13) h),
 (274877901550,.jn fun e h=>OF Q (e 0) (e 1) (e 2) (e 9) (e 11) (e 12) (e 13) (e 14) h),
 (17179868846,.jn fun e h=>PW Q (e 0) (e 1) (e 2) (e 9) (e 11) (e 12) (e 13) (e 189) h),
 (4194302,.jn fun e h=>Oa Q (e 0) (e 1) (e 2) (e 9) (e 11) h),
 (1048574,.jn fun e h=>MF Q (e 0) (e 1) (e 2) (e 9) h),
 (254,.jn fun e h=>K7 Q (e 0) (e 1) (e 2) (e 8) (e 9) h),
 (30,.jn fun e h=>Ka Q (e 0) (e 1) (e 2) (e 8) h)]
theorem V0 {a b c:Value}{h:H}{Q:Kt}(x:f95 a b c h Q):Call TP 95 [a,b,c] h Q:=Bb (AIW Q) Tryz.func95 (by kernel_rfl) x
end
section
variable {h:H} {k:Value→Prop} {kt Q:Kt} {x y r:Res}
theorem Ir {m ck:Nat}{es:Array MapEntry}(w:AN x h)[f:CO m x (.map es ck)](K:∀ b h,AN (pts b (.mapIter (some m) ck #[] ck)+x) h→kt (Pt b) h):D5 (.map (some m)) h kt:=
 ⟨es,ck,w.find,fun b h' e hb ho=>K b h' (w.new e hb ho)⟩
theorem RA {rr m ck:Nat}{seen:Array Nat}(w:AN x h)[CO rr x (.mapIter (some m) ck seen ck)][CO m x (.map #[] ck)](K:kt (.tuple #[.bool false]) h):HM (Pt rr) h kt:=
 ⟨rr,rfl,.inr ⟨m,ck,seen,#[],w.find,w.find,fun e he=>by simp at he,fun _=>K,fun e he=>by simp at he⟩⟩
theorem AAE {m ck:Nat}{es:Array MapEntry}(w:AN x h)[CO m x (.map es ck)](K:k (.int .i64 es.size)):Ti (.map (some m)) h k:=.inr ⟨m,es,ck,rfl,w.find,K⟩
theorem No (w:AN x h)(K:∀ b h,AN (pts b (.map #[] 0)+x) h→kt (.map (some b)) h):Gl h kt:=fun b h' e hb ho=>K b h' (w.new e hb ho)
theorem LW {ad ad':Nat→Nat}:∀ (L:List (Option Nd)),(∀ n,some n∈L→ad n.num=ad' n.num∧∀ mb es,n.dir=some (mb,es)→∀ e∈es,ad e.2=ad' e.2)→sumR ad L=sumR ad' L
 | [],_=>rfl
 | o::l,hh=>by
  rw[sumR,sumR,LW l fun n hn=>hh n (A16 _ hn)]
  congr 1
  cases o with
  | none=>rfl
  | some n=>
   obtain⟨h1,h2⟩:=hh n (A13 ..)
   show Nd.res ad n=Nd.res ad' n
   unfold Nd.res Nd.kr
   rw[h1]
   cases hd:n.dir with
   | none=>rfl
   | some me=>
    obtain⟨mb,es⟩:=me
    have:DP (fun c=>Pt (ad c)) es=DP (fun c=>Pt (ad' c)) es:=by
     unfold DP
     congr 1
     apply A72
     intro p hp
     have hm:p.1∈es:=(List.mem_zipIdx' hp).2▸Q3 _
     simp only[h2 mb es hd p.1 hm]
    simp only[CP,this]
theorem Dx {ad:Nat→Nat}(o:Option Nd):∀ L:List (Option Nd),sumR ad (L++[o])=ndR ad o+sumR ad L
 | []=>by simp[sumR]
 | a::l=>by rw[A82,sumR,Dx o l,sumR,Res.left_comm]
theorem AFy {s:WS}{ad:Nat→Nat}{L:List (Option Nd)}{tr:Res}{n:Nd}{nb:Nat}{v1 v13:Value}(ok:FOK s ad L tr)(w:AN (FR s ad L tr+(pts nb (.cells n.cells 197 (0,0))+x)) h)(hnum:n.num=L.length+1)(hlen:L.length<9999)
  (K:∀ inv tr' h,Vec 182 1 inv (L.length+1) (L.map (ptrO ad)++[Pt nb]) tr'→AN (WS.res {s with inv:=inv}+(tr'+sumR ad L)+(pts nb (.cells n.cells 197 (0,0))+x)) h→Q (.tuple #[Pt nb,.nilIface]) h) :
  OS Q (Pt s.wb) v1 (Pt nb) v13 (.bool false) h:=by
 obtain⟨⟨a,c,hv⟩,hvl⟩:=ok.vec.len
 unfold OS Ucl Unf Ucm Uff
 simp (disch:=omega) only[go_sem,AF w,hnum,hv,A79,A04]
 have dv:=ok.vec
 rw[hv] at dv
 refine EY (x:=s.res+(sumR ad L+(pts nb (.cells n.cells 197 (0,0))+x))) dv (w.cast (by unfold FR;ac_rfl)) Hi rfl rfl rfl (by omega) (by omega) fun inv tr' h dv w=>?_
 obtain⟨⟨a2,c2,hiv⟩,_⟩:=dv.len
 subst hiv
 refine AL w (WS.cells {s with inv:=.slice a2 (L.length+1) c2}) rfl rfl (by simp) rfl fun h w=>?_
 exact K _ tr' h dv (w.cast (by unfold WS.res;ac_rfl))
end
section
variable {h:H} {k:Value→Prop} {kt Q:Kt} {x y r:Res}
def Oj (l:List XA):Bs:=if l=[] then [] else I0 l
theorem AG9 {n:Nd}{nb sb:Nat}{s:XS}{v0:Value}(ok:s.OK)(w:AN (pts nb (.cells n.cells 197 (0,0))+(s.res sb+x)) h)(hbl:s.bl=[])(hx:n.xblk=0)(hxin:n.xin=.slice none 0 0)(hneed:D3 s.il≤96)
  (hrd:∀ a∈s.il,RdX x a.v a.bs∧a.nm.length<256∧a.ix<256∧a.bs.length<100000)
  (K:∀ xv xr h,BufV xv (Oj s.il) xr→AN (pts nb (.cells (Nd.cells {n with xin:=xv}) 197 (0,0))+(xr+(s.res sb+x))) h→Q .nilIface h):UW v0 (Pt nb) (Pt sb) h Q:=by
 by_cases hil:s.il=[]
 ·refine AEk ok w hil hbl hx fun h w=>K (.slice none 0 0) 0 h ?_ ?_
  ·unfold Oj;rw[A03 hil];exact .nil
  ·have:({n with xin:=.slice none 0 0}:Nd)=n:=by rw[←hxin]
   rw[this,Res.zero_add];exact w
 ·refine AFC ok w hil hbl hx hneed hrd fun xv xr h b w=>K xv xr h ?_ w
  unfold Oj;rw[A05 hil];exact b
theorem AFl {s:WS}{ad:Nat→Nat}{L:List (Option Nd)}{tr:Res}{n:Nd}{nb sb kd sz:Nat}{xs:XS}{v1:Value}(ok:FOK s ad L tr)(xok:xs.OK)(w:AN (FR s ad L tr+(pts nb (.cells n.cells 197 (0,0))+(xs.res sb+x))) h)(hnum:n.num=L.length+1)(hlen:L.length<9999)
  (hbl:xs.bl=[]) (hx:n.xblk=0) (hxin:n.xin=.slice none 0 0) (hneed:D3 xs.il≤96) (hrd:∀ a∈xs.il,RdX x a.v a.bs∧a.nm.length<256∧a.ix<256∧a.bs.length<100000) (hkd:kd≠40960) (hsz:sz<9223372036854775808)
  (K:∀ xv xr inv tr' h,BufV xv (Oj xs.il) xr→Vec 182 1 inv (L.length+1) (L.map (ptrO ad)++[Pt nb]) tr' →
   AN (WS.res {s with inv:=inv}+(tr'+sumR ad L)+(pts nb (.cells (Nd.cells {n with xin:=xv,size:=sz}) 197 (0,0))+(xr+(xs.res sb+x)))) h→Q (.tuple #[Pt nb,.nilIface]) h) :
  Ow Q (Pt s.wb) v1 (Pt nb) (.int .u16 (kd:Int)) (Pt sb) (.int .i64 (sz:Int)) h:=by
 unfold Ow Ucl Uff Ucg
 refine Zo (AG9 (x:=FR s ad L tr+x) xok (w.cast (by unfold FR WS.res XS.res;ac_rfl)) hbl hx hxin hneed (fun a ha=>⟨(hrd a ha).1.addR,(hrd a ha).2⟩) fun xv xr h bx w=>?_)
 simp (disch:=omega) only[go_sem]
 refine AL w (Nd.cells {n with xin:=xv,size:=sz}) rfl rfl (by simp) rfl fun h w=>?_
 simp (disch:=omega) only[go_sem,A08]
 refine AFy (x:=xr+(xs.res sb+x)) (n:={n with xin:=xv,size:=sz}) ok (w.cast (by unfold FR WS.res XS.res;ac_rfl)) hnum hlen fun inv tr' h dv w=>?_
 exact K xv xr inv tr' h bx dv w
theorem ABF {s:WS}{ad:Nat→Nat}{L:List (Option Nd)}{tr:Res}{n:Nd}{nb sb kd sz fb em fm:Nat}{fc:List Value}{xs:XS}(ok:FOK s ad L tr)(xok:xs.OK)
  (w:AN (FR s ad L tr+(pts nb (.cells n.cells 197 (0,0))+(xs.res sb+(pts fb (.cells ⟨fc⟩ 191 (0,0))+(pts em (.map #[] 0)+(pts fm (.map #[] 0)+x)))))) h) (hfc:fc[19]? = some (.map (some fm))) (hnum:n.num=L.length+1) (hlen:L.length<9999)
  (hbl:xs.bl=[]) (hx:n.xblk=0) (hxin:n.xin=.slice none 0 0) (hneed:D3 xs.il≤96) (hrd:∀ a∈xs.il,RdX x a.v a.bs∧a.nm.length<256∧a.ix<256∧a.bs.length<100000) (hkd:kd≠40960) (hsz:sz<9223372036854775808)
  (K:∀ xv xr inv tr' h,BufV xv (Oj xs.il) xr→Vec 182 1 inv (L.length+1) (L.map (ptrO ad)++[Pt nb]) tr' →
   AN (WS.res {s with inv:=inv}+(tr'+sumR ad L)+(pts nb (.cells (Nd.cells {n with xin:=xv,size:=sz}) 197 (0,0))+(xr+(pts fb (.cells ⟨fc⟩ 191 (0,0))+x)))) h→Q (.tuple #[Pt nb,.nilIface]) h) :
  EM Q (Pt s.wb) (Pt fb) (Pt nb) (.int .u16 (kd:Int)) (.map (some em)) (Pt sb) (.int .i64 (sz:Int)) h:=by
 unfold EM
 refine Ir (m:=em) w fun ib h w=>?_
 unfold ABA
 refine ABT (fun m h'=>m=0∧AN (pts ib (.mapIter (some em) 0 #[] 0)+(FR s ad L tr+(pts nb (.cells n.cells 197 (0,0))+(xs.res sb+(pts fb (.cells ⟨fc⟩ 191 (0,0))+(pts em (.map #[] 0)+(pts fm (.map #[] 0)+x))))))) h') 0 ⟨rfl,w⟩ ?_
 rintro rec m h' ⟨_,w⟩ hrec
 unfold YK Unf Unt Ucm
 refine RA (m:=em) w ?_
 simp (disch:=omega) only[go_sem]
 rw[AF w]
 have:(⟨fc⟩:Array Value)[19]? = some (.map (some fm)):=by simpa using hfc
 rw[this]
 simp only[go_sem]
 refine AAE (m:=fm) w ?_
 simp (disch:=omega) only[go_sem,A31,A61,A08]
 refine AFl (x:=pts ib (.mapIter (some em) 0 #[] 0)+(pts fb (.cells ⟨fc⟩ 191 (0,0))+(pts em (.map #[] 0)+(pts fm (.map #[] 0)+x)))) ok xok (w.cast (by unfold FR WS.res XS.res;ac_rfl)) hnum hlen hbl hx hxin hneed (fun a ha=>⟨(hrd a ha).1.addR.addR.addR.addR,(hrd a ha).2⟩) hkd hsz fun xv xr inv tr' h bx dv w=>?_
 refine K xv xr inv tr' h bx dv (AN.left (y:=xs.res sb+(pts ib (.mapIter (some em) 0 #[] 0)+(pts em (.map #[] 0)+pts fm (.map #[] 0)))) (w.cast ?_))
 unfold WS.res XS.res
 ac_rfl
end
end Go.Proofs.YtollddkkdgoonaaGreatDoor
