/- A part of a proof over images that are written and read. No condition; a step. -/
import Derived.Test.YtollddkkdgoonaaGreatDoorM16
namespace Go.Proofs.YtollddkkdgoonaaGreatDoor
open Go
set_option linter.unusedVariables false
set_option linter.unusedSimpArgs false
section
variable {h:H} {k:Value→Prop} {kt Q:Kt} {x y z r:Res} {v:VS}
attribute [local irreducible] AK Az AQ BB Ae AY AH AM VS.cells
theorem Cy:AG TP 81=some (.agg ⟨(XN.mk 0 0 0 0 0 0 0 0 (0,0) (0,0) (0,0) (0,0) 0 0 false 0).cells (.slice none 0 0) (.slice none 0 0) (.slice none 0 0)⟩):=by kernel_rfl
def If:XN:=⟨0,0,0,0,0,0,0,0,(0,0),(0,0),(0,0),(0,0),0,0,false,0⟩
def Iy (b:Bs)(n:Nat):XN:=
 ⟨n,leL b 0 2,leL b 2 2+leL b 120 2*65536,leL b 24 2+leL b 122 2*65536,leL b 4 4+leL b 108 4*4294967296,leL b 26 2,leL b 28 4+leL b 116 2*4294967296,leL b 32 4,
  (leL b 8 4,leL b 140 4),(leL b 12 4,leL b 132 4),(leL b 16 4,leL b 136 4),(leL b 144 4,leL b 148 4),0,0,false,0⟩
section
variable {bv:Value} {b:Bs} {p n m a c x4 x5 x6:Nat}
abbrev zR (x4 x5 x6:Nat)(bv:Value)(v:VS):Res:=pts x6 (.cells ⟨[.int .u64 ((24:Nat):Int)]⟩ 48 (0,0))+(pts x5 (.cells ⟨[bv]⟩ 30 (0,0))+(pts x4 (.cells ⟨If.cells (.slice none 0 0) (.slice none 0 0) (.slice none 0 0)⟩ 81 (0,0))+v.res))
theorem AW {b o:Nat}{cs:Array Value}{T:TypeId}{fz:Nat×Nat}{u:Value}(w:AN x h)[CO b x (.cells cs T fz)](hu:cs[o]? = some u)(K:k u):AB false 1 (.pointer (some ⟨b,o,none⟩)) h k:=by
 rw[AF w,hu];exact K
theorem DF (d:RdX x bv b)(w:AN x h)(hn:n≤7)(hp:p<1000)(hb:b.length<1000000)(K:Q (.int .u64 (leL b p n:Nat)) h):Call TP 66 [bv,.int .u64 (OfNat.ofNat p),.int .u64 (OfNat.ofNat n)] h Q:=
 Bh _ _ _ _ _ (JM d w hn (by omega) (by omega) K)
theorem Ie (w:AN (z+(y+x)) h)(h1:a<4294967296)(h2:c<4294967296)(K:∀ y h,AN (z+(y+x)) h→Q (Fd a c) h):Call TP 177 [.int .u64 (a:Nat),.int .u64 (c:Nat)] h Q:=
 Yn _ _ _ _ (AIR h1 h2 w fun y' h w=>K (y'+y) h (w.cast (by ac_rfl)))
theorem EE (w:AN (z+(y+x)) h)(K:∀ b h,AN ((pts b (.cells ⟨If.cells (.slice none 0 0) (.slice none 0 0) (.slice none 0 0)⟩ 81 (0,0))+z)+(y+x)) h→kt (Pt b) h):AQ (AG TP 81) 81 h kt:=
 Ah w Cy rfl fun b h w=>K b h (w.cast (Res.assoc _ _ _).symm)
theorem ACC (hm:m<65536)(K:k (.int .u16 (m:Nat))):AV .u16 (.int .u64 (m:Nat)) k:=by rw[DO,AFr hm];exact K
theorem ZR (hm:m<4294967296)(K:k (.int .u32 (m:Nat))):AV .u32 (.int .u64 (m:Nat)) k:=by rw[DO,JR hm];exact K
theorem Zy (hm:m<65536)(K:k (.int .u64 (m*65536:Nat))):AD .shl (.int .u64 (m:Nat)) (.int .u64 16) k:=by rw[XM,A23 (by omega)];exact K
theorem Zt (hm:m<4294967296)(K:k (.int .u64 (m*4294967296:Nat))):AD .shl (.int .u64 (m:Nat)) (.int .u64 32) k:=by rw[Hm,A23 (by omega)];exact K
theorem TO (ha:a<65536)(hc:c<65536)(K:k (.int .u64 (a+c*65536:Nat))):AD .or (.int .u64 (a:Nat)) (.int .u64 (c*65536:Nat)) k:=by
 rw[V2 (by omega) (by omega)]
 have:=orp (a:=a) (b:=c) (i:=16) ha
 simp only[Nat.reducePow] at this
 rw[this];exact K
theorem Tq (ha:a<4294967296)(hc:c<4294967296)(K:k (.int .u64 (a+c*4294967296:Nat))):AD .or (.int .u64 (a:Nat)) (.int .u64 (c*4294967296:Nat)) k:=by
 rw[V2 (by omega) (by omega)]
 have:=orp (a:=a) (b:=c) (i:=32) ha
 simp only[Nat.reducePow] at this
 rw[this];exact K
theorem AHM {kk:Kt}{x5 x6:Nat}(d:RdX x bv b)(w:AN x h)[CO x6 x (.cells ⟨[.int .u64 ((24:Nat):Int)]⟩ 48 (0,0))][CO x5 x (.cells ⟨[bv]⟩ 30 (0,0))](hp:p≤148)(hb:b.length<1000000)(K:kk (.int .u64 (leL b p 4:Nat)) h) :
  ACW (.int .u64 (OfNat.ofNat p)) (Pt x6) (Pt x5) h kk:=by
 unfold ACW
 have e:(.int .u64 (OfNat.ofNat p):Value)=.int .u64 (p:Nat):=rfl
 rw[e]
 have f1:(AD .add (.int .u64 128) (.int .u64 ((24:Nat):Int)))=fun k=>k (.int .u64 ((152:Nat):Int)):=funext fun k=>by rw[A0];rfl
 have e2:decide (((p+4:Nat):Int)>((152:Nat):Int))=false:=A08 (by omega)
 simp (disch:=omega) only[go_sem,AF w,f1]
 rw[e2,AU]
 exact Bh _ _ _ _ _ (JM (n:=4) d w (by omega) (by omega) (by omega) K)
theorem AGE:F9 TP 176=true:=by kernel_rfl
theorem JT {kk:Kt}{x5 x6:Nat}(d:RdX x bv b)(w:AN x h)[CO x6 x (.cells ⟨[.int .u64 ((24:Nat):Int)]⟩ 48 (0,0))][CO x5 x (.cells ⟨[bv]⟩ 30 (0,0))](hp:p≤148)(hb:b.length<1000000)(K:kk (.int .u64 (leL b p 4:Nat)) h) :
  Bj TP (.func (.func 176) #[] #[Pt x6,Pt x5]) [.int .u64 (OfNat.ofNat p)] h kk:=
 IF (l:=[.int .u64 (OfNat.ofNat p),Pt x6,Pt x5]) rfl AGE (ZI _ _ _ _ _ (AHM d w hp hb K))
def Fg (Q:Kt)(v:VS)(n:Nat)(b:Bs)(bv:Value)(x4 x5 x6:Nat)(x:Res):Prop:=∀ (x8:Nat) (y:Res) (h:H),AN ((pts x8 (.cells ⟨(Iy b n).cells (.slice none 0 0) (.slice none 0 0) (.slice none 0 0)⟩ 81 (0,0))+zR x4 x5 x6 bv v)+(y+x)) h→Gj Q (Pt v.vb) (.int .u64 (n:Nat)) (Pt x4) (Pt x5) (Pt x6) (Pt x8) h
abbrev bld (b:Bs)(n:Nat)(k:Value→Prop):Prop:=
 Ae (.struct [(0,1),(1,1),(2,1),(3,1),(4,1),(5,1),(6,1),(7,1),(8,2),(10,2),(12,2),(14,2),(16,1),(17,1),(18,1),(19,1),(20,1),(21,1),(22,1)]) (AG TP 81)
  [(0,.int .u64 (n:Nat)),(1,.int .u16 (leL b 0 2:Nat)),(2,.int .u32 (leL b 2 2+leL b 120 2*65536:Nat)),(3,.int .u32 (leL b 24 2+leL b 122 2*65536:Nat)),(4,.int .u64 (leL b 4 4+leL b 108 4*4294967296:Nat)),(5,.int .u64 (leL b 26 2:Nat)),(6,.int .u64 (leL b 28 4+leL b 116 2*4294967296:Nat)),(7,.int .u64 (leL b 32 4:Nat)),
   (8,Fd (leL b 8 4) (leL b 140 4)),(9,Fd (leL b 12 4) (leL b 132 4)),(10,Fd (leL b 16 4) (leL b 136 4)),(11,Fd (leL b 144 4) (leL b 148 4))] k
theorem XN.len {X:XN}{cv ev xv:Value}:(X.cells cv ev xv).length=23:=rfl
theorem Yf {m0 m1 m2 m3 m4 m5 m6 m7:Int}{a0 a1 a2 a3 b0 b1 b2 b3:Nat} :
  DC (Br (.struct [(0,1),(1,1),(2,1),(3,1),(4,1),(5,1),(6,1),(7,1),(8,2),(10,2),(12,2),(14,2),(16,1),(17,1),(18,1),(19,1),(20,1),(21,1),(22,1)])) (If.cells (.slice none 0 0) (.slice none 0 0) (.slice none 0 0))
   [(0,.int .u64 m0),(1,.int .u16 m1),(2,.int .u32 m2),(3,.int .u32 m3),(4,.int .u64 m4),(5,.int .u64 m5),(6,.int .u64 m6),(7,.int .u64 m7),(8,Fd a0 b0),(9,Fd a1 b1),(10,Fd a2 b2),(11,Fd a3 b3)]=some ([.int .u64 m0,.int .u16 m1,.int .u32 m2,.int .u32 m3,.int .u64 m4,.int .u64 m5,.int .u64 m6,.int .u64 m7]++(BY (a0,b0)++BY (a1,b1)++BY (a2,b2)++BY (a3,b3))++[.int .u32 0,.int .u32 0,.slice none 0 0,.slice none 0 0,.slice none 0 0,.bool false,.int .u64 0]):=by kernel_rfl
theorem WB {k:Value→Prop}(K:k (.agg ⟨(Iy b n).cells (.slice none 0 0) (.slice none 0 0) (.slice none 0 0)⟩)):bld b n k:=
 Au Cy rfl (rs:=(Iy b n).cells (.slice none 0 0) (.slice none 0 0) (.slice none 0 0)) Yf K
theorem ADO {x8:Nat}(K:Fg Q v n b bv x4 x5 x6 x)(w:AN ((pts x8 (.cells ⟨If.cells (.slice none 0 0) (.slice none 0 0) (.slice none 0 0)⟩ 81 (0,0))+zR x4 x5 x6 bv v)+(y+x)) h) :
  bld b n fun x95=>AJ 23 (Pt x8) x95 h fun h=>Gj Q (Pt v.vb) (.int .u64 (n:Nat)) (Pt x4) (Pt x5) (Pt x6) (Pt x8) h:=
 WB (AL w ⟨(Iy b n).cells (.slice none 0 0) (.slice none 0 0) (.slice none 0 0)⟩ (Ar (by rw[XN.size_];exact XN.len)) XN.size_ (by rw[XN.size_];omega) rfl fun h w=>K x8 y h w)
theorem AAl (K:Fg Q v n b bv x4 x5 x6 x)(w:AN (zR x4 x5 x6 bv v+(y+x)) h) :
  bld b n fun x95=>AQ (AG TP 81) 81 h fun x8 h=>AJ 23 x8 x95 h fun h=>Gj Q (Pt v.vb) (.int .u64 (n:Nat)) (Pt x4) (Pt x5) (Pt x6) x8 h:=
 WB (EE w fun x8 h w=>AL w ⟨(Iy b n).cells (.slice none 0 0) (.slice none 0 0) (.slice none 0 0)⟩ (Ar (by rw[XN.size_];exact XN.len)) XN.size_ (by rw[XN.size_];omega) rfl fun h w=>K x8 y h w)
end
end
section
variable {h:H} {Q:Kt} {x y:Res} {v:VS} {bv:Value} {b:Bs} {n x4 x5 x6:Nat}
attribute [local irreducible] AK Az AQ BB Ae AY AH AM VS.cells XN.cells AB AV AD Call leL
theorem et1 {x8:Nat}(d:RdX x bv b)(hbl:b.length<1000000)(K:Fg Q v n b bv x4 x5 x6 x)(w:AN ((pts x8 (.cells ⟨If.cells (.slice none 0 0) (.slice none 0 0) (.slice none 0 0)⟩ 81 (0,0))+zR x4 x5 x6 bv v)+(y+x)) h):LV Q (Pt v.vb) (.int .u64 (n:Nat)) (Pt x4) (Pt x5) (Pt x6) (Pt x8) (.int .u16 (leL b 0 2:Nat)) (.int .u32 (leL b 2 2+leL b 120 2*65536:Nat)) (.int .u32 (leL b 24 2+leL b 122 2*65536:Nat)) (.int .u64 (leL b 4 4+leL b 108 4*4294967296:Nat)) (.int .u64 (leL b 26 2:Nat)) (.int .u64 (leL b 28 4+leL b 116 2*4294967296:Nat)) (.int .u64 (leL b 32 4:Nat)) (Fd (leL b 8 4) (leL b 140 4)) (Fd (leL b 12 4) (leL b 132 4)) (Fd (leL b 16 4) (leL b 136 4)) (Fd (leL b 144 4) (leL b 148 4)) h:=by
 have hu:∀ a c:Nat,a<65536→c<65536→a+c*65536<4294967296:=fun a c _ _=>by omega
 unfold LV
 exact ADO K w
theorem et2 {x8:Nat}(d:RdX x bv b)(hbl:b.length<1000000)(K:Fg Q v n b bv x4 x5 x6 x)(w:AN ((pts x8 (.cells ⟨If.cells (.slice none 0 0) (.slice none 0 0) (.slice none 0 0)⟩ 81 (0,0))+zR x4 x5 x6 bv v)+(y+x)) h):IW Q (Pt v.vb) (.int .u64 (n:Nat)) (Pt x4) (Pt x5) (Pt x6) (Pt x8) (.int .u16 (leL b 0 2:Nat)) (.int .u32 (leL b 2 2+leL b 120 2*65536:Nat)) (.int .u32 (leL b 24 2+leL b 122 2*65536:Nat)) (.int .u64 (leL b 4 4+leL b 108 4*4294967296:Nat)) (.int .u64 (leL b 26 2:Nat)) (.int .u64 (leL b 28 4+leL b 116 2*4294967296:Nat)) (.int .u64 (leL b 32 4:Nat)) (Fd (leL b 8 4) (leL b 140 4)) (Fd (leL b 12 4) (leL b 132 4)) (Fd (leL b 16 4) (leL b 136 4)) h:=by
 have hu:∀ a c:Nat,a<65536→c<65536→a+c*65536<4294967296:=fun a c _ _=>by omega
 unfold IW
 refine JT (p:=144) d.addR.addR w (by decide) hbl ?_
 refine JT (p:=148) d.addR.addR w (by decide) hbl ?_
 refine Ie w Ag Ag fun y h w=>?_
 exact et1 d hbl K w
theorem et3 {x8:Nat}(d:RdX x bv b)(hbl:b.length<1000000)(K:Fg Q v n b bv x4 x5 x6 x)(w:AN ((pts x8 (.cells ⟨If.cells (.slice none 0 0) (.slice none 0 0) (.slice none 0 0)⟩ 81 (0,0))+zR x4 x5 x6 bv v)+(y+x)) h):KJ Q (Pt v.vb) (.int .u64 (n:Nat)) (Pt x4) (Pt x5) (Pt x6) (Pt x8) (.int .u16 (leL b 0 2:Nat)) (.int .u32 (leL b 2 2+leL b 120 2*65536:Nat)) (.int .u32 (leL b 24 2+leL b 122 2*65536:Nat)) (.int .u64 (leL b 4 4+leL b 108 4*4294967296:Nat)) (.int .u64 (leL b 26 2:Nat)) (.int .u64 (leL b 28 4+leL b 116 2*4294967296:Nat)) (.int .u64 (leL b 32 4:Nat)) (Fd (leL b 8 4) (leL b 140 4)) (Fd (leL b 12 4) (leL b 132 4)) bv h:=by
 have hu:∀ a c:Nat,a<65536→c<65536→a+c*65536<4294967296:=fun a c _ _=>by omega
 unfold KJ
 refine DF (p:=16) (n:=4) d.addR.addR w (by decide) (by decide) hbl ?_
 refine JT (p:=136) d.addR.addR w (by decide) hbl ?_
 refine Ie w Ag Ag fun y h w=>?_
 exact et2 d hbl K w
theorem et4 {x8:Nat}(d:RdX x bv b)(hbl:b.length<1000000)(K:Fg Q v n b bv x4 x5 x6 x)(w:AN ((pts x8 (.cells ⟨If.cells (.slice none 0 0) (.slice none 0 0) (.slice none 0 0)⟩ 81 (0,0))+zR x4 x5 x6 bv v)+(y+x)) h):Kl Q (Pt v.vb) (.int .u64 (n:Nat)) (Pt x4) (Pt x5) (Pt x6) (Pt x8) (.int .u16 (leL b 0 2:Nat)) (.int .u32 (leL b 2 2+leL b 120 2*65536:Nat)) (.int .u32 (leL b 24 2+leL b 122 2*65536:Nat)) (.int .u64 (leL b 4 4+leL b 108 4*4294967296:Nat)) (.int .u64 (leL b 26 2:Nat)) (.int .u64 (leL b 28 4+leL b 116 2*4294967296:Nat)) (.int .u64 (leL b 32 4:Nat)) (Fd (leL b 8 4) (leL b 140 4)) (.int .u64 (leL b 12 4:Nat)) bv h:=by
 have hu:∀ a c:Nat,a<65536→c<65536→a+c*65536<4294967296:=fun a c _ _=>by omega
 unfold Kl
 refine JT (p:=132) d.addR.addR w (by decide) hbl ?_
 refine And.intro (AW w (by rfl) rfl) ?_
 refine Ie w Ag Ag fun y h w=>?_
 refine And.intro (AW w (by rfl) rfl) ?_
 exact et3 d hbl K w
theorem et5 {x8:Nat}(d:RdX x bv b)(hbl:b.length<1000000)(K:Fg Q v n b bv x4 x5 x6 x)(w:AN ((pts x8 (.cells ⟨If.cells (.slice none 0 0) (.slice none 0 0) (.slice none 0 0)⟩ 81 (0,0))+zR x4 x5 x6 bv v)+(y+x)) h):Nq Q (Pt v.vb) (.int .u64 (n:Nat)) (Pt x4) (Pt x5) (Pt x6) (Pt x8) (.int .u16 (leL b 0 2:Nat)) (.int .u32 (leL b 2 2+leL b 120 2*65536:Nat)) (.int .u32 (leL b 24 2+leL b 122 2*65536:Nat)) (.int .u64 (leL b 4 4+leL b 108 4*4294967296:Nat)) (.int .u64 (leL b 26 2:Nat)) (.int .u64 (leL b 28 4+leL b 116 2*4294967296:Nat)) (.int .u64 (leL b 32 4:Nat)) (.int .u64 (leL b 8 4:Nat)) (.int .u64 (leL b 140 4:Nat)) bv bv h:=by
 have hu:∀ a c:Nat,a<65536→c<65536→a+c*65536<4294967296:=fun a c _ _=>by omega
 unfold Nq
 refine Ie w Ag Ag fun y h w=>?_
 refine And.intro (AW w (by rfl) rfl) ?_
 refine And.intro (AW w (by rfl) rfl) ?_
 refine DF (p:=12) (n:=4) d.addR.addR w (by decide) (by decide) hbl ?_
 refine And.intro (AW w (by rfl) rfl) ?_
 exact et4 d hbl K w
theorem et6 {x8:Nat}(d:RdX x bv b)(hbl:b.length<1000000)(K:Fg Q v n b bv x4 x5 x6 x)(w:AN ((pts x8 (.cells ⟨If.cells (.slice none 0 0) (.slice none 0 0) (.slice none 0 0)⟩ 81 (0,0))+zR x4 x5 x6 bv v)+(y+x)) h):M7 Q (Pt v.vb) (.int .u64 (n:Nat)) (Pt x4) (Pt x5) (Pt x6) (Pt x8) (.int .u16 (leL b 0 2:Nat)) (.int .u32 (leL b 2 2+leL b 120 2*65536:Nat)) (.int .u32 (leL b 24 2+leL b 122 2*65536:Nat)) (.int .u64 (leL b 4 4+leL b 108 4*4294967296:Nat)) (.int .u64 (leL b 26 2:Nat)) (.int .u64 (leL b 28 4+leL b 116 2*4294967296:Nat)) (.int .u64 (leL b 32 4:Nat)) (.int .u64 (leL b 8 4:Nat)) bv bv h:=by
 have hu:∀ a c:Nat,a<65536→c<65536→a+c*65536<4294967296:=fun a c _ _=>by omega
 unfold M7
 refine JT (p:=140) d.addR.addR w (by decide) hbl ?_
 refine And.intro (AW w (by rfl) rfl) ?_
 refine And.intro (AW w (by rfl) rfl) ?_
 exact et5 d hbl K w
theorem et7 {x8:Nat}(d:RdX x bv b)(hbl:b.length<1000000)(K:Fg Q v n b bv x4 x5 x6 x)(w:AN ((pts x8 (.cells ⟨If.cells (.slice none 0 0) (.slice none 0 0) (.slice none 0 0)⟩ 81 (0,0))+zR x4 x5 x6 bv v)+(y+x)) h):Np Q (Pt v.vb) (.int .u64 (n:Nat)) (Pt x4) (Pt x5) (Pt x6) (Pt x8) (.int .u16 (leL b 0 2:Nat)) (.int .u32 (leL b 2 2+leL b 120 2*65536:Nat)) (.int .u32 (leL b 24 2+leL b 122 2*65536:Nat)) (.int .u64 (leL b 4 4+leL b 108 4*4294967296:Nat)) (.int .u64 (leL b 26 2:Nat)) (.int .u64 (leL b 28 4+leL b 116 2*4294967296:Nat)) (.int .u64 (leL b 32 4:Nat)) bv bv bv h:=by
 have hu:∀ a c:Nat,a<65536→c<65536→a+c*65536<4294967296:=fun a c _ _=>by omega
 unfold Np
 refine DF (p:=8) (n:=4) d.addR.addR w (by decide) (by decide) hbl ?_
 refine And.intro (AW w (by rfl) rfl) ?_
 refine And.intro (AW w (by rfl) rfl) ?_
 exact et6 d hbl K w
theorem et8 {x8:Nat}(d:RdX x bv b)(hbl:b.length<1000000)(K:Fg Q v n b bv x4 x5 x6 x)(w:AN ((pts x8 (.cells ⟨If.cells (.slice none 0 0) (.slice none 0 0) (.slice none 0 0)⟩ 81 (0,0))+zR x4 x5 x6 bv v)+(y+x)) h):M2 Q (Pt v.vb) (.int .u64 (n:Nat)) (Pt x4) (Pt x5) (Pt x6) (Pt x8) (.int .u16 (leL b 0 2:Nat)) (.int .u32 (leL b 2 2+leL b 120 2*65536:Nat)) (.int .u32 (leL b 24 2+leL b 122 2*65536:Nat)) (.int .u64 (leL b 4 4+leL b 108 4*4294967296:Nat)) (.int .u64 (leL b 26 2:Nat)) (.int .u64 (leL b 28 4+leL b 116 2*4294967296:Nat)) bv bv bv bv h:=by
 have hu:∀ a c:Nat,a<65536→c<65536→a+c*65536<4294967296:=fun a c _ _=>by omega
 unfold M2
 refine DF (p:=32) (n:=4) d.addR.addR w (by decide) (by decide) hbl ?_
 refine And.intro (AW w (by rfl) rfl) ?_
 refine And.intro (AW w (by rfl) rfl) ?_
 refine And.intro (AW w (by rfl) rfl) ?_
 exact et7 d hbl K w
theorem et9 {x8:Nat}(d:RdX x bv b)(hbl:b.length<1000000)(K:Fg Q v n b bv x4 x5 x6 x)(w:AN ((pts x8 (.cells ⟨If.cells (.slice none 0 0) (.slice none 0 0) (.slice none 0 0)⟩ 81 (0,0))+zR x4 x5 x6 bv v)+(y+x)) h):Ml Q (Pt v.vb) (.int .u64 (n:Nat)) (Pt x4) (Pt x5) (Pt x6) (Pt x8) (.int .u16 (leL b 0 2:Nat)) (.int .u32 (leL b 2 2+leL b 120 2*65536:Nat)) (.int .u32 (leL b 24 2+leL b 122 2*65536:Nat)) (.int .u64 (leL b 4 4+leL b 108 4*4294967296:Nat)) (.int .u64 (leL b 26 2:Nat)) (.int .u64 (leL b 28 4:Nat)) bv bv bv bv bv h:=by
 have hu:∀ a c:Nat,a<65536→c<65536→a+c*65536<4294967296:=fun a c _ _=>by omega
 unfold Ml
 refine DF (p:=116) (n:=2) d.addR.addR w (by decide) (by decide) hbl ?_
 refine And.intro (AW w (by rfl) rfl) ?_
 refine And.intro (AW w (by rfl) rfl) ?_
 refine And.intro (AW w (by rfl) rfl) ?_
 refine And.intro (AW w (by rfl) rfl) ?_
 refine Zt (A94 Ag (by decide)) ?_
 refine Tq Ag (A94 Ag (by decide)) ?_
 exact et8 d hbl K w
theorem AGF {x8:Nat}(d:RdX x bv b)(hbl:b.length<1000000)(K:Fg Q v n b bv x4 x5 x6 x)(w:AN ((pts x8 (.cells ⟨If.cells (.slice none 0 0) (.slice none 0 0) (.slice none 0 0)⟩ 81 (0,0))+zR x4 x5 x6 bv v)+(y+x)) h):Jl Q (Pt v.vb) (.int .u64 (n:Nat)) (Pt x4) (Pt x5) (Pt x6) (Pt x8) (.int .u16 (leL b 0 2:Nat)) (.int .u32 (leL b 2 2+leL b 120 2*65536:Nat)) (.int .u32 (leL b 24 2+leL b 122 2*65536:Nat)) (.int .u64 (leL b 4 4+leL b 108 4*4294967296:Nat)) (.int .u64 (leL b 26 2:Nat)) bv bv bv bv bv bv h:=by
 have hu:∀ a c:Nat,a<65536→c<65536→a+c*65536<4294967296:=fun a c _ _=>by omega
 unfold Jl
 refine DF (p:=28) (n:=4) d.addR.addR w (by decide) (by decide) hbl ?_
 refine And.intro (AW w (by rfl) rfl) ?_
 refine And.intro (AW w (by rfl) rfl) ?_
 refine And.intro (AW w (by rfl) rfl) ?_
 refine And.intro (AW w (by rfl) rfl) ?_
 refine And.intro (AW w (by rfl) rfl) ?_
 exact et9 d hbl K w
theorem AF3 {x8:Nat}(d:RdX x bv b)(hbl:b.length<1000000)(K:Fg Q v n b bv x4 x5 x6 x)(w:AN ((pts x8 (.cells ⟨If.cells (.slice none 0 0) (.slice none 0 0) (.slice none 0 0)⟩ 81 (0,0))+zR x4 x5 x6 bv v)+(y+x)) h):Jg Q (Pt v.vb) (.int .u64 (n:Nat)) (Pt x4) (Pt x5) (Pt x6) (Pt x8) (.int .u16 (leL b 0 2:Nat)) (.int .u32 (leL b 2 2+leL b 120 2*65536:Nat)) (.int .u32 (leL b 24 2+leL b 122 2*65536:Nat)) (.int .u64 (leL b 4 4+leL b 108 4*4294967296:Nat)) bv bv bv bv bv bv bv h:=by
 have hu:∀ a c:Nat,a<65536→c<65536→a+c*65536<4294967296:=fun a c _ _=>by omega
 unfold Jg
 refine DF (p:=26) (n:=2) d.addR.addR w (by decide) (by decide) hbl ?_
 refine And.intro (AW w (by rfl) rfl) ?_
 refine And.intro (AW w (by rfl) rfl) ?_
 refine And.intro (AW w (by rfl) rfl) ?_
 refine And.intro (AW w (by rfl) rfl) ?_
 refine And.intro (AW w (by rfl) rfl) ?_
 refine And.intro (AW w (by rfl) rfl) ?_
 exact AGF d hbl K w
theorem AGB {x8:Nat}(d:RdX x bv b)(hbl:b.length<1000000)(K:Fg Q v n b bv x4 x5 x6 x)(w:AN ((pts x8 (.cells ⟨If.cells (.slice none 0 0) (.slice none 0 0) (.slice none 0 0)⟩ 81 (0,0))+zR x4 x5 x6 bv v)+(y+x)) h):Jw Q (Pt v.vb) (.int .u64 (n:Nat)) (Pt x4) (Pt x5) (Pt x6) (Pt x8) (.int .u16 (leL b 0 2:Nat)) (.int .u32 (leL b 2 2+leL b 120 2*65536:Nat)) (.int .u32 (leL b 24 2+leL b 122 2*65536:Nat)) (.int .u64 (leL b 4 4:Nat)) bv bv bv bv bv bv bv bv h:=by
 have hu:∀ a c:Nat,a<65536→c<65536→a+c*65536<4294967296:=fun a c _ _=>by omega
 unfold Jw
 refine DF (p:=108) (n:=4) d.addR.addR w (by decide) (by decide) hbl ?_
 refine And.intro (AW w (by rfl) rfl) ?_
 refine And.intro (AW w (by rfl) rfl) ?_
 refine And.intro (AW w (by rfl) rfl) ?_
 refine And.intro (AW w (by rfl) rfl) ?_
 refine And.intro (AW w (by rfl) rfl) ?_
 refine And.intro (AW w (by rfl) rfl) ?_
 refine And.intro (AW w (by rfl) rfl) ?_
 refine Zt (A94 Ag (by decide)) ?_
 refine Tq Ag (A94 Ag (by decide)) ?_
 exact AF3 d hbl K w
theorem AGO {x8:Nat}(d:RdX x bv b)(hbl:b.length<1000000)(K:Fg Q v n b bv x4 x5 x6 x)(w:AN ((pts x8 (.cells ⟨If.cells (.slice none 0 0) (.slice none 0 0) (.slice none 0 0)⟩ 81 (0,0))+zR x4 x5 x6 bv v)+(y+x)) h):Jc Q (Pt v.vb) (.int .u64 (n:Nat)) (Pt x4) (Pt x5) (Pt x6) (Pt x8) (.int .u16 (leL b 0 2:Nat)) (.int .u32 (leL b 2 2+leL b 120 2*65536:Nat)) (.int .u32 (leL b 24 2+leL b 122 2*65536:Nat)) bv bv bv bv bv bv bv bv bv h:=by
 have hu:∀ a c:Nat,a<65536→c<65536→a+c*65536<4294967296:=fun a c _ _=>by omega
 unfold Jc
 refine DF (p:=4) (n:=4) d.addR.addR w (by decide) (by decide) hbl ?_
 refine And.intro (AW w (by rfl) rfl) ?_
 refine And.intro (AW w (by rfl) rfl) ?_
 refine And.intro (AW w (by rfl) rfl) ?_
 refine And.intro (AW w (by rfl) rfl) ?_
 refine And.intro (AW w (by rfl) rfl) ?_
 refine And.intro (AW w (by rfl) rfl) ?_
 refine And.intro (AW w (by rfl) rfl) ?_
 refine And.intro (AW w (by rfl) rfl) ?_
 exact AGB d hbl K w
theorem AFS {x8:Nat}(d:RdX x bv b)(hbl:b.length<1000000)(K:Fg Q v n b bv x4 x5 x6 x)(w:AN ((pts x8 (.cells ⟨If.cells (.slice none 0 0) (.slice none 0 0) (.slice none 0 0)⟩ 81 (0,0))+zR x4 x5 x6 bv v)+(y+x)) h):Jd Q (Pt v.vb) (.int .u64 (n:Nat)) (Pt x4) (Pt x5) (Pt x6) (Pt x8) (.int .u16 (leL b 0 2:Nat)) (.int .u32 (leL b 2 2+leL b 120 2*65536:Nat)) (.int .u64 (leL b 24 2:Nat)) bv bv bv bv bv bv bv bv bv bv h:=by
 have hu:∀ a c:Nat,a<65536→c<65536→a+c*65536<4294967296:=fun a c _ _=>by omega
 unfold Jd
 refine DF (p:=122) (n:=2) d.addR.addR w (by decide) (by decide) hbl ?_
 refine And.intro (AW w (by rfl) rfl) ?_
 refine And.intro (AW w (by rfl) rfl) ?_
 refine And.intro (AW w (by rfl) rfl) ?_
 refine And.intro (AW w (by rfl) rfl) ?_
 refine And.intro (AW w (by rfl) rfl) ?_
 refine And.intro (AW w (by rfl) rfl) ?_
 refine And.intro (AW w (by rfl) rfl) ?_
 refine And.intro (AW w (by rfl) rfl) ?_
 refine And.intro (AW w (by rfl) rfl) ?_
 refine Zy Ag ?_
 refine TO Ag Ag ?_
 refine ZR (hu _ _ Ag Ag) ?_
 exact AGO d hbl K w
theorem AFj {x8:Nat}(d:RdX x bv b)(hbl:b.length<1000000)(K:Fg Q v n b bv x4 x5 x6 x)(w:AN ((pts x8 (.cells ⟨If.cells (.slice none 0 0) (.slice none 0 0) (.slice none 0 0)⟩ 81 (0,0))+zR x4 x5 x6 bv v)+(y+x)) h):Ju Q (Pt v.vb) (.int .u64 (n:Nat)) (Pt x4) (Pt x5) (Pt x6) (Pt x8) (.int .u16 (leL b 0 2:Nat)) (.int .u32 (leL b 2 2+leL b 120 2*65536:Nat)) bv bv bv bv bv bv bv bv bv bv bv h:=by
 have hu:∀ a c:Nat,a<65536→c<65536→a+c*65536<4294967296:=fun a c _ _=>by omega
 unfold Ju
 refine DF (p:=24) (n:=2) d.addR.addR w (by decide) (by decide) hbl ?_
 refine And.intro (AW w (by rfl) rfl) ?_
 refine And.intro (AW w (by rfl) rfl) ?_
 refine And.intro (AW w (by rfl) rfl) ?_
 refine And.intro (AW w (by rfl) rfl) ?_
 refine And.intro (AW w (by rfl) rfl) ?_
 refine And.intro (AW w (by rfl) rfl) ?_
 refine And.intro (AW w (by rfl) rfl) ?_
 refine And.intro (AW w (by rfl) rfl) ?_
 refine And.intro (AW w (by rfl) rfl) ?_
 refine And.intro (AW w (by rfl) rfl) ?_
 exact AFS d hbl K w
theorem AFx {x8:Nat}(d:RdX x bv b)(hbl:b.length<1000000)(K:Fg Q v n b bv x4 x5 x6 x)(w:AN ((pts x8 (.cells ⟨If.cells (.slice none 0 0) (.slice none 0 0) (.slice none 0 0)⟩ 81 (0,0))+zR x4 x5 x6 bv v)+(y+x)) h):Jb Q (Pt v.vb) (.int .u64 (n:Nat)) (Pt x4) (Pt x5) (Pt x6) (Pt x8) (.int .u16 (leL b 0 2:Nat)) (.int .u64 (leL b 2 2:Nat)) bv bv bv bv bv bv bv bv bv bv bv bv h:=by
 have hu:∀ a c:Nat,a<65536→c<65536→a+c*65536<4294967296:=fun a c _ _=>by omega
 unfold Jb
 refine DF (p:=120) (n:=2) d.addR.addR w (by decide) (by decide) hbl ?_
 refine And.intro (AW w (by rfl) rfl) ?_
 refine And.intro (AW w (by rfl) rfl) ?_
 refine And.intro (AW w (by rfl) rfl) ?_
 refine And.intro (AW w (by rfl) rfl) ?_
 refine And.intro (AW w (by rfl) rfl) ?_
 refine And.intro (AW w (by rfl) rfl) ?_
 refine And.intro (AW w (by rfl) rfl) ?_
 refine And.intro (AW w (by rfl) rfl) ?_
 refine And.intro (AW w (by rfl) rfl) ?_
 refine And.intro (AW w (by rfl) rfl) ?_
 refine And.intro (AW w (by rfl) rfl) ?_
 refine Zy Ag ?_
 refine TO Ag Ag ?_
 refine ZR (hu _ _ Ag Ag) ?_
 exact AFj d hbl K w
theorem AEh {x8:Nat}(d:RdX x bv b)(hbl:b.length<1000000)(K:Fg Q v n b bv x4 x5 x6 x)(w:AN ((pts x8 (.cells ⟨If.cells (.slice none 0 0) (.slice none 0 0) (.slice none 0 0)⟩ 81 (0,0))+zR x4 x5 x6 bv v)+(y+x)) h):Jh Q (Pt v.vb) (.int .u64 (n:Nat)) (Pt x4) (Pt x5) (Pt x6) (Pt x8) (.int .u16 (leL b 0 2:Nat)) bv bv bv bv bv bv bv bv bv bv bv bv bv h:=by
 have hu:∀ a c:Nat,a<65536→c<65536→a+c*65536<4294967296:=fun a c _ _=>by omega
 unfold Jh
 refine DF (p:=2) (n:=2) d.addR.addR w (by decide) (by decide) hbl ?_
 refine And.intro (AW w (by rfl) rfl) ?_
 refine And.intro (AW w (by rfl) rfl) ?_
 refine And.intro (AW w (by rfl) rfl) ?_
 refine And.intro (AW w (by rfl) rfl) ?_
 refine And.intro (AW w (by rfl) rfl) ?_
 refine And.intro (AW w (by rfl) rfl) ?_
 refine And.intro (AW w (by rfl) rfl) ?_
 refine And.intro (AW w (by rfl) rfl) ?_
 refine And.intro (AW w (by rfl) rfl) ?_
 refine And.intro (AW w (by rfl) rfl) ?_
 refine And.intro (AW w (by rfl) rfl) ?_
 refine And.intro (AW w (by rfl) rfl) ?_
 exact AFx d hbl K w
theorem AEO (d:RdX x bv b)(hbl:b.length<1000000)(K:Fg Q v n b bv x4 x5 x6 x)(w:AN (zR x4 x5 x6 bv v+(y+x)) h):Iw Q (Pt v.vb) (.int .u64 (n:Nat)) (Pt x4) (Pt x5) (Pt x6) h:=by
 have hu:∀ a c:Nat,a<65536→c<65536→a+c*65536<4294967296:=fun a c _ _=>by omega
 unfold Iw
 refine AW w (by rfl) ?_
 refine AW w (by rfl) ?_
 refine AW w (by rfl) ?_
 refine AW w (by rfl) ?_
 refine AW w (by rfl) ?_
 refine AW w (by rfl) ?_
 refine AW w (by rfl) ?_
 refine AW w (by rfl) ?_
 refine AW w (by rfl) ?_
 refine AW w (by rfl) ?_
 refine AW w (by rfl) ?_
 refine AW w (by rfl) ?_
 refine AW w (by rfl) ?_
 refine AW w (by rfl) ?_
 refine And.intro ?_ ?_
 ·skip
  refine DF (p:=0) (n:=2) d.addR.addR w (by decide) (by decide) hbl ?_
  refine And.intro (AW w (by rfl) rfl) ?_
  refine And.intro (AW w (by rfl) rfl) ?_
  refine And.intro (AW w (by rfl) rfl) ?_
  refine And.intro (AW w (by rfl) rfl) ?_
  refine And.intro (AW w (by rfl) rfl) ?_
  refine And.intro (AW w (by rfl) rfl) ?_
  refine And.intro (AW w (by rfl) rfl) ?_
  refine And.intro (AW w (by rfl) rfl) ?_
  refine And.intro (AW w (by rfl) rfl) ?_
  refine And.intro (AW w (by rfl) rfl) ?_
  refine And.intro (AW w (by rfl) rfl) ?_
  refine And.intro (AW w (by rfl) rfl) ?_
  refine And.intro (AW w (by rfl) rfl) ?_
  refine ACC Ag ?_
  refine And.intro ?_ ?_
  ·skip
   refine DF (p:=2) (n:=2) d.addR.addR w (by decide) (by decide) hbl ?_
   refine And.intro (AW w (by rfl) rfl) ?_
   refine And.intro (AW w (by rfl) rfl) ?_
   refine And.intro (AW w (by rfl) rfl) ?_
   refine And.intro (AW w (by rfl) rfl) ?_
   refine And.intro (AW w (by rfl) rfl) ?_
   refine And.intro (AW w (by rfl) rfl) ?_
   refine And.intro (AW w (by rfl) rfl) ?_
   refine And.intro (AW w (by rfl) rfl) ?_
   refine And.intro (AW w (by rfl) rfl) ?_
   refine And.intro (AW w (by rfl) rfl) ?_
   refine And.intro (AW w (by rfl) rfl) ?_
   refine And.intro (AW w (by rfl) rfl) ?_
   refine And.intro ?_ ?_
   ·skip
    refine DF (p:=120) (n:=2) d.addR.addR w (by decide) (by decide) hbl ?_
    refine And.intro (AW w (by rfl) rfl) ?_
    refine And.intro (AW w (by rfl) rfl) ?_
    refine And.intro (AW w (by rfl) rfl) ?_
    refine And.intro (AW w (by rfl) rfl) ?_
    refine And.intro (AW w (by rfl) rfl) ?_
    refine And.intro (AW w (by rfl) rfl) ?_
    refine And.intro (AW w (by rfl) rfl) ?_
    refine And.intro (AW w (by rfl) rfl) ?_
    refine And.intro (AW w (by rfl) rfl) ?_
    refine And.intro (AW w (by rfl) rfl) ?_
    refine And.intro (AW w (by rfl) rfl) ?_
    refine Zy Ag ?_
    refine TO Ag Ag ?_
    refine ZR (hu _ _ Ag Ag) ?_
    refine And.intro ?_ ?_
    ·skip
     refine DF (p:=24) (n:=2) d.addR.addR w (by decide) (by decide) hbl ?_
     refine And.intro (AW w (by rfl) rfl) ?_
     refine And.intro (AW w (by rfl) rfl) ?_
     refine And.intro (AW w (by rfl) rfl) ?_
     refine And.intro (AW w (by rfl) rfl) ?_
     refine And.intro (AW w (by rfl) rfl) ?_
     refine And.intro (AW w (by rfl) rfl) ?_
     refine And.intro (AW w (by rfl) rfl) ?_
     refine And.intro (AW w (by rfl) rfl) ?_
     refine And.intro (AW w (by rfl) rfl) ?_
     refine And.intro (AW w (by rfl) rfl) ?_
     refine And.intro ?_ ?_
     ·skip
      refine DF (p:=122) (n:=2) d.addR.addR w (by decide) (by decide) hbl ?_
      refine And.intro (AW w (by rfl) rfl) ?_
      refine And.intro (AW w (by rfl) rfl) ?_
      refine And.intro (AW w (by rfl) rfl) ?_
      refine And.intro (AW w (by rfl) rfl) ?_
      refine And.intro (AW w (by rfl) rfl) ?_
      refine And.intro (AW w (by rfl) rfl) ?_
      refine And.intro (AW w (by rfl) rfl) ?_
      refine And.intro (AW w (by rfl) rfl) ?_
      refine And.intro (AW w (by rfl) rfl) ?_
      refine Zy Ag ?_
      refine TO Ag Ag ?_
      refine ZR (hu _ _ Ag Ag) ?_
      refine And.intro ?_ ?_
      ·skip
       refine DF (p:=4) (n:=4) d.addR.addR w (by decide) (by decide) hbl ?_
       refine And.intro (AW w (by rfl) rfl) ?_
       refine And.intro (AW w (by rfl) rfl) ?_
       refine And.intro (AW w (by rfl) rfl) ?_
       refine And.intro (AW w (by rfl) rfl) ?_
       refine And.intro (AW w (by rfl) rfl) ?_
       refine And.intro (AW w (by rfl) rfl) ?_
       refine And.intro (AW w (by rfl) rfl) ?_
       refine And.intro (AW w (by rfl) rfl) ?_
       refine And.intro ?_ ?_
       ·skip
        refine DF (p:=108) (n:=4) d.addR.addR w (by decide) (by decide) hbl ?_
        refine And.intro (AW w (by rfl) rfl) ?_
        refine And.intro (AW w (by rfl) rfl) ?_
        refine And.intro (AW w (by rfl) rfl) ?_
        refine And.intro (AW w (by rfl) rfl) ?_
        refine And.intro (AW w (by rfl) rfl) ?_
        refine And.intro (AW w (by rfl) rfl) ?_
        refine And.intro (AW w (by rfl) rfl) ?_
        refine Zt (A94 Ag (by decide)) ?_
        refine Tq Ag (A94 Ag (by decide)) ?_
        refine And.intro ?_ ?_
        ·skip
         refine DF (p:=26) (n:=2) d.addR.addR w (by decide) (by decide) hbl ?_
         refine And.intro (AW w (by rfl) rfl) ?_
         refine And.intro (AW w (by rfl) rfl) ?_
         refine And.intro (AW w (by rfl) rfl) ?_
         refine And.intro (AW w (by rfl) rfl) ?_
         refine And.intro (AW w (by rfl) rfl) ?_
         refine And.intro (AW w (by rfl) rfl) ?_
         refine And.intro ?_ ?_
         ·skip
          refine DF (p:=28) (n:=4) d.addR.addR w (by decide) (by decide) hbl ?_
          refine And.intro (AW w (by rfl) rfl) ?_
          refine And.intro (AW w (by rfl) rfl) ?_
          refine And.intro (AW w (by rfl) rfl) ?_
          refine And.intro (AW w (by rfl) rfl) ?_
          refine And.intro (AW w (by rfl) rfl) ?_
          refine And.intro ?_ ?_
          ·skip
           refine DF (p:=116) (n:=2) d.addR.addR w (by decide) (by decide) hbl ?_
           refine And.intro (AW w (by rfl) rfl) ?_
           refine And.intro (AW w (by rfl) rfl) ?_
           refine And.intro (AW w (by rfl) rfl) ?_
           refine And.intro (AW w (by rfl) rfl) ?_
           refine Zt (A94 Ag (by decide)) ?_
           refine Tq Ag (A94 Ag (by decide)) ?_
           refine And.intro ?_ ?_
           ·skip
            refine DF (p:=32) (n:=4) d.addR.addR w (by decide) (by decide) hbl ?_
            refine And.intro (AW w (by rfl) rfl) ?_
            refine And.intro (AW w (by rfl) rfl) ?_
            refine And.intro (AW w (by rfl) rfl) ?_
            refine And.intro ?_ ?_
            ·skip
             refine DF (p:=8) (n:=4) d.addR.addR w (by decide) (by decide) hbl ?_
             refine And.intro (AW w (by rfl) rfl) ?_
             refine And.intro (AW w (by rfl) rfl) ?_
             refine And.intro ?_ ?_
             ·skip
              refine JT (p:=140) d.addR.addR w (by decide) hbl ?_
              refine And.intro (AW w (by rfl) rfl) ?_
              refine And.intro (AW w (by rfl) rfl) ?_
              refine And.intro ?_ ?_
              ·skip
               refine Ie w Ag Ag fun y h w=>?_
               refine And.intro (AW w (by rfl) rfl) ?_
               refine And.intro (AW w (by rfl) rfl) ?_
               refine And.intro ?_ ?_
               ·skip
                refine DF (p:=12) (n:=4) d.addR.addR w (by decide) (by decide) hbl ?_
                refine And.intro (AW w (by rfl) rfl) ?_
                refine And.intro ?_ ?_
                ·skip
                 refine JT (p:=132) d.addR.addR w (by decide) hbl ?_
                 refine And.intro (AW w (by rfl) rfl) ?_
                 refine And.intro ?_ ?_
                 ·skip
                  refine Ie w Ag Ag fun y h w=>?_
                  refine And.intro (AW w (by rfl) rfl) ?_
                  refine And.intro ?_ ?_
                  ·skip
                   refine DF (p:=16) (n:=4) d.addR.addR w (by decide) (by decide) hbl ?_
                   refine And.intro ?_ ?_
                   ·skip
                    refine JT (p:=136) d.addR.addR w (by decide) hbl ?_
                    refine And.intro ?_ ?_
                    ·skip
                     refine Ie w Ag Ag fun y h w=>?_
                     refine And.intro ?_ ?_
                     ·skip
                      refine JT (p:=144) d.addR.addR w (by decide) hbl ?_
                      refine And.intro ?_ ?_
                      ·skip
                       refine JT (p:=148) d.addR.addR w (by decide) hbl ?_
                       refine And.intro ?_ ?_
                       ·skip
                        refine Ie w Ag Ag fun y h w=>?_
                        exact AAl K w
                       refine EE w fun x8 h w=>?_
                       refine Ie w Ag Ag fun y h w=>?_
                       exact et1 d hbl K w
                      refine EE w fun x8 h w=>?_
                      refine JT (p:=148) d.addR.addR w (by decide) hbl ?_
                      refine Ie w Ag Ag fun y h w=>?_
                      exact et1 d hbl K w
                     refine EE w fun x8 h w=>?_
                     exact et2 d hbl K w
                    refine EE w fun x8 h w=>?_
                    refine Ie w Ag Ag fun y h w=>?_
                    exact et2 d hbl K w
                   refine EE w fun x8 h w=>?_
                   refine JT (p:=136) d.addR.addR w (by decide) hbl ?_
                   refine Ie w Ag Ag fun y h w=>?_
                   exact et2 d hbl K w
                  refine EE w fun x8 h w=>?_
                  refine And.intro (AW w (by rfl) rfl) ?_
                  exact et3 d hbl K w
                 refine EE w fun x8 h w=>?_
                 refine And.intro (AW w (by rfl) rfl) ?_
                 refine Ie w Ag Ag fun y h w=>?_
                 refine And.intro (AW w (by rfl) rfl) ?_
                 exact et3 d hbl K w
                refine EE w fun x8 h w=>?_
                refine And.intro (AW w (by rfl) rfl) ?_
                exact et4 d hbl K w
               refine EE w fun x8 h w=>?_
               refine And.intro (AW w (by rfl) rfl) ?_
               refine And.intro (AW w (by rfl) rfl) ?_
               refine DF (p:=12) (n:=4) d.addR.addR w (by decide) (by decide) hbl ?_
               refine And.intro (AW w (by rfl) rfl) ?_
               exact et4 d hbl K w
              refine EE w fun x8 h w=>?_
              refine And.intro (AW w (by rfl) rfl) ?_
              refine And.intro (AW w (by rfl) rfl) ?_
              exact et5 d hbl K w
             refine EE w fun x8 h w=>?_
             refine And.intro (AW w (by rfl) rfl) ?_
             refine And.intro (AW w (by rfl) rfl) ?_
             exact et6 d hbl K w
            refine EE w fun x8 h w=>?_
            refine And.intro (AW w (by rfl) rfl) ?_
            refine And.intro (AW w (by rfl) rfl) ?_
            refine And.intro (AW w (by rfl) rfl) ?_
            exact et7 d hbl K w
           refine EE w fun x8 h w=>?_
           refine And.intro (AW w (by rfl) rfl) ?_
           refine And.intro (AW w (by rfl) rfl) ?_
           refine And.intro (AW w (by rfl) rfl) ?_
           refine And.intro (AW w (by rfl) rfl) ?_
           exact et8 d hbl K w
          refine EE w fun x8 h w=>?_
          refine And.intro (AW w (by rfl) rfl) ?_
          refine And.intro (AW w (by rfl) rfl) ?_
          refine And.intro (AW w (by rfl) rfl) ?_
          refine And.intro (AW w (by rfl) rfl) ?_
          refine And.intro (AW w (by rfl) rfl) ?_
          exact et9 d hbl K w
         refine EE w fun x8 h w=>?_
         refine And.intro (AW w (by rfl) rfl) ?_
         refine And.intro (AW w (by rfl) rfl) ?_
         refine And.intro (AW w (by rfl) rfl) ?_
         refine And.intro (AW w (by rfl) rfl) ?_
         refine And.intro (AW w (by rfl) rfl) ?_
         refine And.intro (AW w (by rfl) rfl) ?_
         exact AGF d hbl K w
        refine EE w fun x8 h w=>?_
        refine And.intro (AW w (by rfl) rfl) ?_
        refine And.intro (AW w (by rfl) rfl) ?_
        refine And.intro (AW w (by rfl) rfl) ?_
        refine And.intro (AW w (by rfl) rfl) ?_
        refine And.intro (AW w (by rfl) rfl) ?_
        refine And.intro (AW w (by rfl) rfl) ?_
        refine And.intro (AW w (by rfl) rfl) ?_
        exact AF3 d hbl K w
       refine EE w fun x8 h w=>?_
       refine And.intro (AW w (by rfl) rfl) ?_
       refine And.intro (AW w (by rfl) rfl) ?_
       refine And.intro (AW w (by rfl) rfl) ?_
       refine And.intro (AW w (by rfl) rfl) ?_
       refine And.intro (AW w (by rfl) rfl) ?_
       refine And.intro (AW w (by rfl) rfl) ?_
       refine And.intro (AW w (by rfl) rfl) ?_
       refine And.intro (AW w (by rfl) rfl) ?_
       exact AGB d hbl K w
      refine EE w fun x8 h w=>?_
      refine And.intro (AW w (by rfl) rfl) ?_
      refine And.intro (AW w (by rfl) rfl) ?_
      refine And.intro (AW w (by rfl) rfl) ?_
      refine And.intro (AW w (by rfl) rfl) ?_
      refine And.intro (AW w (by rfl) rfl) ?_
      refine And.intro (AW w (by rfl) rfl) ?_
      refine And.intro (AW w (by rfl) rfl) ?_
      refine And.intro (AW w (by rfl) rfl) ?_
      refine And.intro (AW w (by rfl) rfl) ?_
      exact AGO d hbl K w
     refine EE w fun x8 h w=>?_
     refine And.intro (AW w (by rfl) rfl) ?_
     refine And.intro (AW w (by rfl) rfl) ?_
     refine And.intro (AW w (by rfl) rfl) ?_
     refine And.intro (AW w (by rfl) rfl) ?_
     refine And.intro (AW w (by rfl) rfl) ?_
     refine And.intro (AW w (by rfl) rfl) ?_
     refine And.intro (AW w (by rfl) rfl) ?_
     refine And.intro (AW w (by rfl) rfl) ?_
     refine And.intro (AW w (by rfl) rfl) ?_
     refine And.intro (AW w (by rfl) rfl) ?_
     exact AFS d hbl K w
    refine EE w fun x8 h w=>?_
    refine And.intro (AW w (by rfl) rfl) ?_
    refine And.intro (AW w (by rfl) rfl) ?_
    refine And.intro (AW w (by rfl) rfl) ?_
    refine And.intro (AW w (by rfl) rfl) ?_
    refine And.intro (AW w (by rfl) rfl) ?_
    refine And.intro (AW w (by rfl) rfl) ?_
    refine And.intro (AW w (by rfl) rfl) ?_
    refine And.intro (AW w (by rfl) rfl) ?_
    refine And.intro (AW w (by rfl) rfl) ?_
    refine And.intro (AW w (by rfl) rfl) ?_
    refine And.intro (AW w (by rfl) rfl) ?_
    exact AFj d hbl K w
   refine EE w fun x8 h w=>?_
   refine And.intro (AW w (by rfl) rfl) ?_
   refine And.intro (AW w (by rfl) rfl) ?_
   refine And.intro (AW w (by rfl) rfl) ?_
   refine And.intro (AW w (by rfl) rfl) ?_
   refine And.intro (AW w (by rfl) rfl) ?_
   refine And.intro (AW w (by rfl) rfl) ?_
   refine And.intro (AW w (by rfl) rfl) ?_
   refine And.intro (AW w (by rfl) rfl) ?_
   refine And.intro (AW w (by rfl) rfl) ?_
   refine And.intro (AW w (by rfl) rfl) ?_
   refine And.intro (AW w (by rfl) rfl) ?_
   refine And.intro (AW w (by rfl) rfl) ?_
   exact AFx d hbl K w
  refine EE w fun x8 h w=>?_
  refine And.intro (AW w (by rfl) rfl) ?_
  refine And.intro (AW w (by rfl) rfl) ?_
  refine And.intro (AW w (by rfl) rfl) ?_
  refine And.intro (AW w (by rfl) rfl) ?_
  refine And.intro (AW w (by rfl) rfl) ?_
  refine And.intro (AW w (by rfl) rfl) ?_
  refine And.intro (AW w (by rfl) rfl) ?_
  refine And.intro (AW w (by rfl) rfl) ?_
  refine And.intro (AW w (by rfl) rfl) ?_
  refine And.intro (AW w (by rfl) rfl) ?_
  refine And.intro (AW w (by rfl) rfl) ?_
  refine And.intro (AW w (by rfl) rfl) ?_
  refine And.intro (AW w (by rfl) rfl) ?_
  exact AEh d hbl K w
 refine EE w fun x8 h w=>?_
 refine And.intro (AW w (by rfl) rfl) ?_
 refine And.intro (AW w (by rfl) rfl) ?_
 refine And.intro (AW w (by rfl) rfl) ?_
 refine And.intro (AW w (by rfl) rfl) ?_
 refine And.intro (AW w (by rfl) rfl) ?_
 refine And.intro (AW w (by rfl) rfl) ?_
 refine And.intro (AW w (by rfl) rfl) ?_
 refine And.intro (AW w (by rfl) rfl) ?_
 refine And.intro (AW w (by rfl) rfl) ?_
 refine And.intro (AW w (by rfl) rfl) ?_
 refine And.intro (AW w (by rfl) rfl) ?_
 refine And.intro (AW w (by rfl) rfl) ?_
 refine And.intro (AW w (by rfl) rfl) ?_
 refine And.intro (AW w (by rfl) rfl) ?_
 refine DF (p:=0) (n:=2) d.addR.addR w (by decide) (by decide) hbl ?_
 refine And.intro (AW w (by rfl) rfl) ?_
 refine And.intro (AW w (by rfl) rfl) ?_
 refine And.intro (AW w (by rfl) rfl) ?_
 refine And.intro (AW w (by rfl) rfl) ?_
 refine And.intro (AW w (by rfl) rfl) ?_
 refine And.intro (AW w (by rfl) rfl) ?_
 refine And.intro (AW w (by rfl) rfl) ?_
 refine And.intro (AW w (by rfl) rfl) ?_
 refine And.intro (AW w (by rfl) rfl) ?_
 refine And.intro (AW w (by rfl) rfl) ?_
 refine And.intro (AW w (by rfl) rfl) ?_
 refine And.intro (AW w (by rfl) rfl) ?_
 refine And.intro (AW w (by rfl) rfl) ?_
 refine ACC Ag ?_
 exact AEh d hbl K w
end
section
variable {h:H} {k:Value→Prop} {kt Q:Kt} {x y z r:Res} {v:VS}
theorem XN.one {X:XN}{a1 a2 a3:Option Addr}{n1 n2 n3 c1 c2 c3:Nat}:(X.cells (.slice a1 n1 c1) (.slice a2 n2 c2) (.slice a3 n3 c3)).all Value.oneCell'=true:=rfl
attribute [local irreducible] AK Az AQ BB Ae AY AH AM VS.cells XN.cells
theorem Cj {b n:Nat}{l:List Value}{T:TypeId}{fz:Nat×Nat}(w:AN x h)[CO b x (.cells ⟨l⟩ T fz)](hn:l.length=n)(K:k (.agg ⟨l⟩)):AB true n (Pt b) h k:=by
 rw[Am (o:=0) (w.find (b:=b)) (by simp;omega)]
 have:(⟨l⟩:Array Value).extract 0 (0+n)=⟨l⟩:=by
  apply A56
  simp[A44,←hn]
 rw[this];exact K
section
variable {X X':XN} {xv rv bv:Value} {b rest C o':Bs} {cl:List Nat} {x4 x5 x6 x8 n:Nat}
abbrev fR (x4 x5 x6:Nat)(bv:Value):Res:=pts x6 (.cells ⟨[.int .u64 ((24:Nat):Int)]⟩ 48 (0,0))+(pts x5 (.cells ⟨[bv]⟩ 30 (0,0))+pts x4 (.cells ⟨If.cells (.slice none 0 0) (.slice none 0 0) (.slice none 0 0)⟩ 81 (0,0)))
def secOK (X:XN):Prop:=if X.flags &&& 262144≠0 then X.sec=X.blk else X.sec=X.blk*8
theorem Fj {I:Bs}{nb:Nat}{e:Bs}(cr:ContR I nb X e rest C X' cl):X'.flags=X.flags∧X'.sec=X.sec∧X'.mode=X.mode∧X'.size=X.size∧X'.links=X.links∧X'.num=X.num:=by
 cases cr<;>exact⟨rfl,rfl,rfl,rfl,rfl,rfl⟩
set_option maxRecDepth 20000 in
theorem AE8 {rec1:Value→Value→H→Prop}{x139:Value}{m:Nat}(ok:v.OK x)(db:RdX x bv b)(hb:b.length=256)(dr:RdX (y+x) rv rest)(hrl:rest.length<100000)(cr:ContR v.I v.nb X ((b.drop 40).take 60) rest C X' cl)(c:Clm cl v.ow o')(hm:X.mode<65536)(hfl:X.flags<4294967296)(hs:secOK X')(hbk:X'.blk<1000000)(hsec:X'.sec<18446744073709551616)(hxv:∃ a n c,xv=.slice a n c)
  (w:AN (v.res+(pts x8 (.cells ⟨X.cells (.slice none 0 0) (.slice none 0 0) xv⟩ 81 (0,0))+(fR x4 x5 x6 bv+(y+x)))) h)
  (K:∀ cv z h,RdX z cv C→(v.own o').OK x→AN ((v.own o').res+(z+(y+x))) h→Q (.agg ⟨X'.cells cv (.slice none 0 0) xv⟩) h) :
  Ii Q rec1 (Pt v.vb) (.int .u64 (n:Nat)) (Pt x4) (Pt x5) (Pt x8) x139 (.int .i64 (m:Nat)) rv (.int .i64 (m:Nat)) h:=by
 have cf:=Fj cr
 unfold Ii
 have e1:decide ((m:Int)<(m:Int))=false:=A08 (by omega)
 rw[AT,e1,AU]
 refine AW w (by rfl) ?_
 refine Zx _ _ _ _ _ _ (AIL ok.mono.mono db.addR.addR hb dr.addR hrl cr c hm hfl w fun cv y' h dcv ok2 w=>?_)
 have ok':(v.own o').OK x:=ok.own c.len
 have hfl':X'.flags<4294967296:=by rw[cf.1];exact hfl
 have hand:X'.flags &&& 262144≤X'.flags:=B20
 have fin:∀ h,AN ((v.own o').res+(pts x8 (.cells ⟨X'.cells cv (.slice none 0 0) xv⟩ 81 (0,0))+(y'+(fR x4 x5 x6 bv+(y+x))))) h→AB true 23 (Pt x8) h fun x187=>AJ 23 (Pt x4) x187 h fun h=>AB true 23 (Pt x4) h fun v=>Q v h:=by
  intro h w
  refine Cj w XN.len ?_
  refine AL w ⟨X'.cells cv (.slice none 0 0) xv⟩ (Ar (by rw[XN.size_];exact XN.len)) XN.size_ (by rw[XN.size_];omega) ?_ fun h w=>?_
  ·obtain⟨ca,cc,hcv⟩:=dcv.len
   obtain⟨xa,xn,xc,hxv⟩:=hxv
   show (X'.cells cv (.slice none 0 0) xv).all Value.oneCell'=true
   rw[hcv,hxv]
   exact XN.one
  ·refine Cj w XN.len ?_
   have k1:∀ V P8 Y' P6 P5 P4 Y X:Res,V+(P8+(Y'+((P6+(P5+P4))+(Y+X))))=V+((Y'+(P8+(P6+(P5+P4))))+(Y+X)):=by intros;ac_rfl
   refine K cv _ h ?_ ok' (w.cast (k1 _ _ _ _ _ _ _ _))
   exact dcv.addL
 simp (disch:=omega) only[go_sem,AF w]
 unfold secOK at hs
 refine AX (fun hc=>?_) (fun hc=>?_)
 ·rw[A03 (by omega)] at hs
  have e2:decide ((X'.sec:Int)=(X'.blk:Int))=true:=A04 (by omega)
  rw[e2]
  exact Al _ _ _ _ _ _ (Da (fin h w))
 ·rw[A05 (by omega)] at hs
  have e2:decide ((X'.sec:Int)=((X'.blk*8:Nat):Int))=true:=A04 (by omega)
  rw[e2]
  exact Al _ _ _ _ _ _ (Da (fin h w))
def sysd:Bs:=[115,121,115,116,101,109,46,100,97,116,97]
def xaOf (l:List (Bs×Bs)):List (Bs×Bs):=l.filter fun p=>decide (p.1≠sysd)
def restOf (l:List (Bs×Bs)):Bs:=l.foldl (fun r p=>if p.1=sysd then p.2 else r) []
theorem Om:∀ {cs:List Value} {l:List (Bs×Bs)} {i:Nat} {p:Bs×Bs},AtV x cs l→l[i]? = some p→∃ u,(cs.drop (i*2)).take 2=[str p.1,u]∧RdX x u p.2
 | _,_,0,p,.cons (v:=v) d a,e=>by
  simp only[A51,A26] at e
  subst e
  exact⟨v,rfl,d⟩
 | _,_,i+1,p,.cons d a,e=>by
  have:=Om a (i:=i) (p:=p) (by simpa using e)
  rw[show (i+1)*2=i*2+2 by omega]
  exact this
 | _,_,_,_,.nil,e=>by simp at e
theorem G4 {l:List (Bs×Bs)}{p:Bs×Bs}:xaOf (l++[p])=if p.1=sysd then xaOf l else xaOf l++[p]:=by
 unfold xaOf
 rw[B08]
 by_cases h:p.1=sysd<;>simp[h]
theorem JD {l:List (Bs×Bs)}{p:Bs×Bs}:restOf (l++[p])=if p.1=sysd then p.2 else restOf l:=by
 unfold restOf
 rw[B19];rfl
set_option maxRecDepth 20000 in
theorem ADy {lv:Value}{cs:List Value}{l:List (Bs×Bs)}(d:VecX 86 2 lv l.length cs y)(A:AtV y cs l)(hn:l.length<1000000)(hin:(∃ p∈l,p.1=sysd)→X.inl=true)
  (w:AN (v.res+(pts x8 (.cells ⟨X.cells (.slice none 0 0) (.slice none 0 0) (.slice none 0 0)⟩ 81 (0,0))+(fR x4 x5 x6 bv+(y+x)))) h)
  (K:∀ (rec1:Value→Value→H→Prop) rv xv cs r z h,RdX (z+y) rv (restOf l)→Vec 86 2 xv (xaOf l).length cs r→AtV y cs (xaOf l)→AN (v.res+(pts x8 (.cells ⟨X.cells (.slice none 0 0) (.slice none 0 0) xv⟩ 81 (0,0))+(fR x4 x5 x6 bv+((r+(z+y))+x)))) h→Ii Q rec1 (Pt v.vb) (.int .u64 (n:Nat)) (Pt x4) (Pt x5) (Pt x8) lv (.int .i64 (l.length:Nat)) rv (.int .i64 (l.length:Nat)) h) :
  KV Q (Pt v.vb) (.int .u64 (n:Nat)) (Pt x4) (Pt x5) (Pt x8) lv (.int .i64 (l.length:Nat)) (.slice none 0 0) (.int .i64 ((0:Nat):Int)) h:=by
 unfold KV
 refine DE (fun m u0 u1 h'=>∃ i rv xv cs r z,m=l.length-i∧i≤l.length∧u0=rv∧u1=.int .i64 (i:Nat)∧RdX y rv (restOf (l.take i))∧Vec 86 2 xv (xaOf (l.take i)).length cs r∧AtV y cs (xaOf (l.take i))∧AN (v.res+(pts x8 (.cells ⟨X.cells (.slice none 0 0) (.slice none 0 0) xv⟩ 81 (0,0))+(fR x4 x5 x6 bv+((r+(z+y))+x)))) h') l.length
  ⟨0,_,.slice none 0 0,[],0,0,rfl,A39 _,rfl,rfl,.inl ⟨none,0,rfl,by simp[restOf]⟩,.nil,.nil,by rw[Res.zero_add,Res.zero_add];exact w⟩ ?_
 rintro rec m u0 u1 h' ⟨i,rv,xv,cs',r,z,rfl,hi,rfl,rfl,dr,dx,A',w⟩ hrec
 rcases A66 i l.length with hlt|hge
 ·obtain⟨p,hp⟩:∃ p,l[i]? = some p:=⟨_,A00 hlt⟩
  obtain⟨u,hu,du⟩:=Om A hp
  obtain⟨ua,uc,huv⟩:=du.len
  have hxn:(xaOf (l.take i)).length≤i:=B28 (B38 _ _) (by simp;omega)
  have htk:l.take (i+1)=l.take i++[p]:=by rw[A85,hp];rfl
  have hpm:p∈l:=A28 hp
  unfold Ii
  have e1:decide ((i:Int)<(l.length:Int))=true:=A04 (by omega)
  rw[AT,e1,Ak]
  refine (d.addR.addR.addL.addR.addR.addR:VecX 86 2 lv l.length cs _).agg w hlt ?_
  rw[hu]
  refine Ah w Il rfl fun b14 h w=>?_
  refine AL w ⟨[str p.1,u]⟩ rfl rfl (by simp) (by rw[huv];rfl) fun h w=>?_
  rw[show (.string ⟨#[115,121,115,116,101,109,46,100,97,116,97]⟩:Value)=str sysd from rfl]
  have k1:∀ B V P F R Z Y X:Res,B+(V+(P+(F+((R+(Z+Y))+X))))=V+(P+(F+((R+((B+Z)+Y))+X))):=by intros;ac_rfl
  have f1:(AD .add (.int .i64 (i:Nat)) (.int .i64 1))=fun k=>k (.int .i64 (i+1:Nat)):=funext fun k=>by
   rw[BN (n:=1),Ci (by omega)]
  have w:AN (pts b14 (.cells ⟨[str p.1,u]⟩ 86 (0,0))+(v.res+(pts x8 (.cells ⟨X.cells (.slice none 0 0) (.slice none 0 0) xv⟩ 81 (0,0))+(fR x4 x5 x6 bv+((r+(z+y))+x))))) h:=w
  have g0:(⟨[str p.1,u]⟩:Array Value)[0]? = some (str p.1):=rfl
  have g1:(⟨[str p.1,u]⟩:Array Value)[1]? = some u:=rfl
  simp (disch:=omega) only[go_sem,AF w,g0,g1,f1]
  refine AX (fun hc=>?_) (fun hc=>?_)
  ·rw[hin ⟨p,hpm,hc⟩]
   refine Al _ _ _ _ _ _ (Da ?_)
   refine hrec (l.length-(i+1)) _ _ _ ⟨i+1,u,xv,cs',r,_,rfl,hlt,rfl,rfl,?_,?_,?_,w.cast (k1 _ _ _ _ _ _ _ _)⟩ (by omega)
   ·rw[htk,JD,A03 hc];exact du
   ·rw[htk,G4,A03 hc];exact dx
   ·rw[htk,G4,A03 hc];exact A'
  ·refine Cj w rfl ?_
   have k2:∀ B V P F R Z Y X:Res,B+(V+(P+(F+((R+(Z+Y))+X))))=R+(V+(P+(F+(((B+Z)+Y)+X)))):=by intros;ac_rfl
   refine CW dx (w.cast (k2 _ _ _ _ _ _ _ _)) Il rfl rfl (by omega) (by omega) (by rw[huv];rfl) fun b15 h w=>?_
   refine B0 dx w Il rfl rfl (by rw[huv];rfl) (by omega) (by omega) fun xv' r' h dx' w=>?_
   have k3:∀ V P F R Z Y X:Res,R+(V+(P+(F+((Z+Y)+X))))=V+(P+(F+((R+(Z+Y))+X))):=by intros;ac_rfl
   have w:=w.cast (k3 _ _ _ _ _ _ _)
   obtain⟨⟨a',c',hxv'⟩,_⟩:=dx'.len
   refine AL w ⟨X.cells (.slice none 0 0) (.slice none 0 0) xv'⟩ (by rw[hxv'];exact XN.set20) (by rw[hxv'];rfl) (by rw[XN.size_];omega) (by rw[hxv'];rfl) fun h w=>?_
   refine hrec (l.length-(i+1)) _ _ _ ⟨i+1,u0,xv',cs'++[str p.1,u],r',_,rfl,hlt,rfl,rfl,?_,?_,?_,w⟩ (by omega)
   ·rw[htk,JD,A05 hc];exact dr
   ·rw[htk,G4,A05 hc,A01];exact dx'
   ·rw[htk,G4,A05 hc];exact A'.snoc du
 ·have hil:i=l.length:=by omega
  subst hil
  rw[A38] at dr dx A'
  exact K rec u0 xv cs' r z h' dr.addR dx A' w
end
end
end Go.Proofs.YtollddkkdgoonaaGreatDoor
