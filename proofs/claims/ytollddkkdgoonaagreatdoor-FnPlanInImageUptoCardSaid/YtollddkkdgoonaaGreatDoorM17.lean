/- A part of a proof over images that are written and read. No condition; a step. -/
import Derived.Test.YtollddkkdgoonaaGreatDoorM16
namespace Go.Proofs.YtollddkkdgoonaaGreatDoor
open Go
set_option linter.unusedVariables false
set_option linter.unusedSimpArgs false
set_option maxRecDepth 100000
section
variable {h:H} {Q:Kt} {x y:Res} {v:VS} {bv:Value} {b:Bs} {n x4 x5 x6:Nat}
attribute [local irreducible] AK Az AQ BB Ae AY AH AM VS.cells XN.cells AB AV AD Call leL
theorem et1 {x8:Nat}(d:RdX x bv b)(hbl:b.length<1000000)(K:Fg Q v n b bv x4 x5 x6 x)(w:AN ((pts x8 (.cells ⟨If.cells (.slice none 0 0) (.slice none 0 0) (.slice none 0 0)⟩ 81 (0,0))+zR x4 x5 x6 bv v)+(y+x)) h):LV Q (Pt v.vb) (.int .u64 (n:Nat)) (Pt x4) (Pt x5) (Pt x6) (Pt x8) (.int .u16 (leL b 0 2:Nat)) (.int .u32 (leL b 2 2+leL b 120 2*65536:Nat)) (.int .u32 (leL b 24 2+leL b 122 2*65536:Nat)) (.int .u64 (leL b 4 4+leL b 108 4*4294967296:Nat)) (.int .u64 (leL b 26 2:Nat)) (.int .u64 (leL b 28 4+leL b 116 2*4294967296:Nat)) (.int .u64 (leL b 32 4:Nat)) (Fd (leL b 8 4) (leL b 140 4)) (Fd (leL b 12 4) (leL b 132 4)) (Fd (leL b 16 4) (leL b 136 4)) (Fd (leL b 144 4) (leL b 148 4)) h:=by
 have hu:∀ a c:Nat,a<65536→c<65536→a+c*65536<4294967296:=fun a c _ _=>by omega
 unfold LV
 exact ADO K w
theorem et2 {x8:Nat}(d:RdX x bv b)(hbl:b.length<1000000)(K:Fg Q v n b bv x4 x5 x6 x)(w:AN ((pts x8 (.cells ⟨If.cells (.slice none 0 0) (.slice none 0 0) (.slice none 0 0)⟩ 81 (0,0))+zR x4 x5 x6 bv v)+(y+x)) h):IW Q (Pt v.vb) (.int .u64 (n:Nat)) (Pt x4) (Pt x5) (Pt x6) (Pt x8) (.int .u16 (leL b 0 2:Nat)) (.int .u32 (leL b 2 2+leL b 120 2*65536:Nat)) (.int .u32 (leL b 24 2+leL b 122 2*65536:Nat)) (.int .u64 (leL b 4 4+leL b 108 4*4294967296:Nat)) (.int .u64 (leL b 26 2:Nat)) (.int .u64 (leL b 28 4+leL b 116 2*4294967296:Nat)) (.int .u64 (leL b 32 4:Nat)) (Fd (leL b 8 4) (leL b 140 4)) (Fd (leL b 12 4) (leL b 132 4)) (Fd (leL b 16 4) (leL b 136 4)) h:=by
 have hu:∀ a c:Nat,a<65536→c<65536→a+c*65536<4294967296:=fun a c _ _=>by omega
 unfold IW Ucl
 refine JT (p:=144) d.addR.addR w (by decide) hbl ?_
 refine JT (p:=148) d.addR.addR w (by decide) hbl ?_
 refine Ie w Ag Ag fun y h w=>?_
 exact et1 d hbl K w
theorem et3 {x8:Nat}(d:RdX x bv b)(hbl:b.length<1000000)(K:Fg Q v n b bv x4 x5 x6 x)(w:AN ((pts x8 (.cells ⟨If.cells (.slice none 0 0) (.slice none 0 0) (.slice none 0 0)⟩ 81 (0,0))+zR x4 x5 x6 bv v)+(y+x)) h):KJ Q (Pt v.vb) (.int .u64 (n:Nat)) (Pt x4) (Pt x5) (Pt x6) (Pt x8) (.int .u16 (leL b 0 2:Nat)) (.int .u32 (leL b 2 2+leL b 120 2*65536:Nat)) (.int .u32 (leL b 24 2+leL b 122 2*65536:Nat)) (.int .u64 (leL b 4 4+leL b 108 4*4294967296:Nat)) (.int .u64 (leL b 26 2:Nat)) (.int .u64 (leL b 28 4+leL b 116 2*4294967296:Nat)) (.int .u64 (leL b 32 4:Nat)) (Fd (leL b 8 4) (leL b 140 4)) (Fd (leL b 12 4) (leL b 132 4)) bv h:=by
 have hu:∀ a c:Nat,a<65536→c<65536→a+c*65536<4294967296:=fun a c _ _=>by omega
 unfold KJ Ucl
 refine DF (p:=16) (n:=4) d.addR.addR w (by decide) (by decide) hbl ?_
 refine JT (p:=136) d.addR.addR w (by decide) hbl ?_
 refine Ie w Ag Ag fun y h w=>?_
 exact et2 d hbl K w
theorem et4 {x8:Nat}(d:RdX x bv b)(hbl:b.length<1000000)(K:Fg Q v n b bv x4 x5 x6 x)(w:AN ((pts x8 (.cells ⟨If.cells (.slice none 0 0) (.slice none 0 0) (.slice none 0 0)⟩ 81 (0,0))+zR x4 x5 x6 bv v)+(y+x)) h):Kl Q (Pt v.vb) (.int .u64 (n:Nat)) (Pt x4) (Pt x5) (Pt x6) (Pt x8) (.int .u16 (leL b 0 2:Nat)) (.int .u32 (leL b 2 2+leL b 120 2*65536:Nat)) (.int .u32 (leL b 24 2+leL b 122 2*65536:Nat)) (.int .u64 (leL b 4 4+leL b 108 4*4294967296:Nat)) (.int .u64 (leL b 26 2:Nat)) (.int .u64 (leL b 28 4+leL b 116 2*4294967296:Nat)) (.int .u64 (leL b 32 4:Nat)) (Fd (leL b 8 4) (leL b 140 4)) (.int .u64 (leL b 12 4:Nat)) bv h:=by
 have hu:∀ a c:Nat,a<65536→c<65536→a+c*65536<4294967296:=fun a c _ _=>by omega
 unfold Kl Ukp Ucl
 refine JT (p:=132) d.addR.addR w (by decide) hbl ?_
 refine AIn w (by rfl) ?_
 refine Ie w Ag Ag fun y h w=>?_
 refine AIn w (by rfl) ?_
 exact et3 d hbl K w
theorem et5 {x8:Nat}(d:RdX x bv b)(hbl:b.length<1000000)(K:Fg Q v n b bv x4 x5 x6 x)(w:AN ((pts x8 (.cells ⟨If.cells (.slice none 0 0) (.slice none 0 0) (.slice none 0 0)⟩ 81 (0,0))+zR x4 x5 x6 bv v)+(y+x)) h):Nq Q (Pt v.vb) (.int .u64 (n:Nat)) (Pt x4) (Pt x5) (Pt x6) (Pt x8) (.int .u16 (leL b 0 2:Nat)) (.int .u32 (leL b 2 2+leL b 120 2*65536:Nat)) (.int .u32 (leL b 24 2+leL b 122 2*65536:Nat)) (.int .u64 (leL b 4 4+leL b 108 4*4294967296:Nat)) (.int .u64 (leL b 26 2:Nat)) (.int .u64 (leL b 28 4+leL b 116 2*4294967296:Nat)) (.int .u64 (leL b 32 4:Nat)) (.int .u64 (leL b 8 4:Nat)) (.int .u64 (leL b 140 4:Nat)) bv bv h:=by
 have hu:∀ a c:Nat,a<65536→c<65536→a+c*65536<4294967296:=fun a c _ _=>by omega
 unfold Nq Ucl Ukp
 refine Ie w Ag Ag fun y h w=>?_
 refine AIn w (by rfl) (AIn w (by rfl) ?_)
 refine DF (p:=12) (n:=4) d.addR.addR w (by decide) (by decide) hbl ?_
 refine AIn w (by rfl) ?_
 exact et4 d hbl K w
theorem et6 {x8:Nat}(d:RdX x bv b)(hbl:b.length<1000000)(K:Fg Q v n b bv x4 x5 x6 x)(w:AN ((pts x8 (.cells ⟨If.cells (.slice none 0 0) (.slice none 0 0) (.slice none 0 0)⟩ 81 (0,0))+zR x4 x5 x6 bv v)+(y+x)) h):M7 Q (Pt v.vb) (.int .u64 (n:Nat)) (Pt x4) (Pt x5) (Pt x6) (Pt x8) (.int .u16 (leL b 0 2:Nat)) (.int .u32 (leL b 2 2+leL b 120 2*65536:Nat)) (.int .u32 (leL b 24 2+leL b 122 2*65536:Nat)) (.int .u64 (leL b 4 4+leL b 108 4*4294967296:Nat)) (.int .u64 (leL b 26 2:Nat)) (.int .u64 (leL b 28 4+leL b 116 2*4294967296:Nat)) (.int .u64 (leL b 32 4:Nat)) (.int .u64 (leL b 8 4:Nat)) bv bv h:=by
 have hu:∀ a c:Nat,a<65536→c<65536→a+c*65536<4294967296:=fun a c _ _=>by omega
 unfold M7 Ukp
 refine JT (p:=140) d.addR.addR w (by decide) hbl ?_
 refine AIn w (by rfl) (AIn w (by rfl) ?_)
 exact et5 d hbl K w
theorem et7 {x8:Nat}(d:RdX x bv b)(hbl:b.length<1000000)(K:Fg Q v n b bv x4 x5 x6 x)(w:AN ((pts x8 (.cells ⟨If.cells (.slice none 0 0) (.slice none 0 0) (.slice none 0 0)⟩ 81 (0,0))+zR x4 x5 x6 bv v)+(y+x)) h):Np Q (Pt v.vb) (.int .u64 (n:Nat)) (Pt x4) (Pt x5) (Pt x6) (Pt x8) (.int .u16 (leL b 0 2:Nat)) (.int .u32 (leL b 2 2+leL b 120 2*65536:Nat)) (.int .u32 (leL b 24 2+leL b 122 2*65536:Nat)) (.int .u64 (leL b 4 4+leL b 108 4*4294967296:Nat)) (.int .u64 (leL b 26 2:Nat)) (.int .u64 (leL b 28 4+leL b 116 2*4294967296:Nat)) (.int .u64 (leL b 32 4:Nat)) bv bv bv h:=by
 have hu:∀ a c:Nat,a<65536→c<65536→a+c*65536<4294967296:=fun a c _ _=>by omega
 unfold Np Ucl Ukp
 refine DF (p:=8) (n:=4) d.addR.addR w (by decide) (by decide) hbl ?_
 refine AIn w (by rfl) (AIn w (by rfl) ?_)
 exact et6 d hbl K w
theorem et8 {x8:Nat}(d:RdX x bv b)(hbl:b.length<1000000)(K:Fg Q v n b bv x4 x5 x6 x)(w:AN ((pts x8 (.cells ⟨If.cells (.slice none 0 0) (.slice none 0 0) (.slice none 0 0)⟩ 81 (0,0))+zR x4 x5 x6 bv v)+(y+x)) h):M2 Q (Pt v.vb) (.int .u64 (n:Nat)) (Pt x4) (Pt x5) (Pt x6) (Pt x8) (.int .u16 (leL b 0 2:Nat)) (.int .u32 (leL b 2 2+leL b 120 2*65536:Nat)) (.int .u32 (leL b 24 2+leL b 122 2*65536:Nat)) (.int .u64 (leL b 4 4+leL b 108 4*4294967296:Nat)) (.int .u64 (leL b 26 2:Nat)) (.int .u64 (leL b 28 4+leL b 116 2*4294967296:Nat)) bv bv bv bv h:=by
 have hu:∀ a c:Nat,a<65536→c<65536→a+c*65536<4294967296:=fun a c _ _=>by omega
 unfold M2 Ucl Ukp
 refine DF (p:=32) (n:=4) d.addR.addR w (by decide) (by decide) hbl ?_
 refine AIn w (by rfl) (AIn w (by rfl) (AIn w (by rfl) ?_))
 exact et7 d hbl K w
theorem et9 {x8:Nat}(d:RdX x bv b)(hbl:b.length<1000000)(K:Fg Q v n b bv x4 x5 x6 x)(w:AN ((pts x8 (.cells ⟨If.cells (.slice none 0 0) (.slice none 0 0) (.slice none 0 0)⟩ 81 (0,0))+zR x4 x5 x6 bv v)+(y+x)) h):Ml Q (Pt v.vb) (.int .u64 (n:Nat)) (Pt x4) (Pt x5) (Pt x6) (Pt x8) (.int .u16 (leL b 0 2:Nat)) (.int .u32 (leL b 2 2+leL b 120 2*65536:Nat)) (.int .u32 (leL b 24 2+leL b 122 2*65536:Nat)) (.int .u64 (leL b 4 4+leL b 108 4*4294967296:Nat)) (.int .u64 (leL b 26 2:Nat)) (.int .u64 (leL b 28 4:Nat)) bv bv bv bv bv h:=by
 have hu:∀ a c:Nat,a<65536→c<65536→a+c*65536<4294967296:=fun a c _ _=>by omega
 unfold Ml Ucl Ukp
 refine DF (p:=116) (n:=2) d.addR.addR w (by decide) (by decide) hbl ?_
 refine AIn w (by rfl) (AIn w (by rfl) (AIn w (by rfl) (AIn w (by rfl) ?_)))
 refine Zt (A94 Ag (by decide)) ?_
 refine Tq Ag (A94 Ag (by decide)) ?_
 exact et8 d hbl K w
theorem AGF {x8:Nat}(d:RdX x bv b)(hbl:b.length<1000000)(K:Fg Q v n b bv x4 x5 x6 x)(w:AN ((pts x8 (.cells ⟨If.cells (.slice none 0 0) (.slice none 0 0) (.slice none 0 0)⟩ 81 (0,0))+zR x4 x5 x6 bv v)+(y+x)) h):Jl Q (Pt v.vb) (.int .u64 (n:Nat)) (Pt x4) (Pt x5) (Pt x6) (Pt x8) (.int .u16 (leL b 0 2:Nat)) (.int .u32 (leL b 2 2+leL b 120 2*65536:Nat)) (.int .u32 (leL b 24 2+leL b 122 2*65536:Nat)) (.int .u64 (leL b 4 4+leL b 108 4*4294967296:Nat)) (.int .u64 (leL b 26 2:Nat)) bv bv bv bv bv bv h:=by
 have hu:∀ a c:Nat,a<65536→c<65536→a+c*65536<4294967296:=fun a c _ _=>by omega
 unfold Jl Ucl Ukp
 refine DF (p:=28) (n:=4) d.addR.addR w (by decide) (by decide) hbl ?_
 refine AIn w (by rfl) (AIn w (by rfl) (AIn w (by rfl) (AIn w (by rfl) (AIn w (by rfl) ?_))))
 exact et9 d hbl K w
theorem AF3 {x8:Nat}(d:RdX x bv b)(hbl:b.length<1000000)(K:Fg Q v n b bv x4 x5 x6 x)(w:AN ((pts x8 (.cells ⟨If.cells (.slice none 0 0) (.slice none 0 0) (.slice none 0 0)⟩ 81 (0,0))+zR x4 x5 x6 bv v)+(y+x)) h):Jg Q (Pt v.vb) (.int .u64 (n:Nat)) (Pt x4) (Pt x5) (Pt x6) (Pt x8) (.int .u16 (leL b 0 2:Nat)) (.int .u32 (leL b 2 2+leL b 120 2*65536:Nat)) (.int .u32 (leL b 24 2+leL b 122 2*65536:Nat)) (.int .u64 (leL b 4 4+leL b 108 4*4294967296:Nat)) bv bv bv bv bv bv bv h:=by
 have hu:∀ a c:Nat,a<65536→c<65536→a+c*65536<4294967296:=fun a c _ _=>by omega
 unfold Jg Ucl Ukp
 refine DF (p:=26) (n:=2) d.addR.addR w (by decide) (by decide) hbl ?_
 refine AIn w (by rfl) (AIn w (by rfl) (AIn w (by rfl) (AIn w (by rfl) (AIn w (by rfl) (AIn w (by rfl) ?_)))))
 exact AGF d hbl K w
theorem AGB {x8:Nat}(d:RdX x bv b)(hbl:b.length<1000000)(K:Fg Q v n b bv x4 x5 x6 x)(w:AN ((pts x8 (.cells ⟨If.cells (.slice none 0 0) (.slice none 0 0) (.slice none 0 0)⟩ 81 (0,0))+zR x4 x5 x6 bv v)+(y+x)) h):Jw Q (Pt v.vb) (.int .u64 (n:Nat)) (Pt x4) (Pt x5) (Pt x6) (Pt x8) (.int .u16 (leL b 0 2:Nat)) (.int .u32 (leL b 2 2+leL b 120 2*65536:Nat)) (.int .u32 (leL b 24 2+leL b 122 2*65536:Nat)) (.int .u64 (leL b 4 4:Nat)) bv bv bv bv bv bv bv bv h:=by
 have hu:∀ a c:Nat,a<65536→c<65536→a+c*65536<4294967296:=fun a c _ _=>by omega
 unfold Jw Ucl Ukp
 refine DF (p:=108) (n:=4) d.addR.addR w (by decide) (by decide) hbl ?_
 refine AIn w (by rfl) (AIn w (by rfl) (AIn w (by rfl) (AIn w (by rfl) (AIn w (by rfl) (AIn w (by rfl) (AIn w (by rfl) ?_))))))
 refine Zt (A94 Ag (by decide)) ?_
 refine Tq Ag (A94 Ag (by decide)) ?_
 exact AF3 d hbl K w
theorem AGO {x8:Nat}(d:RdX x bv b)(hbl:b.length<1000000)(K:Fg Q v n b bv x4 x5 x6 x)(w:AN ((pts x8 (.cells ⟨If.cells (.slice none 0 0) (.slice none 0 0) (.slice none 0 0)⟩ 81 (0,0))+zR x4 x5 x6 bv v)+(y+x)) h):Jc Q (Pt v.vb) (.int .u64 (n:Nat)) (Pt x4) (Pt x5) (Pt x6) (Pt x8) (.int .u16 (leL b 0 2:Nat)) (.int .u32 (leL b 2 2+leL b 120 2*65536:Nat)) (.int .u32 (leL b 24 2+leL b 122 2*65536:Nat)) bv bv bv bv bv bv bv bv bv h:=by
 have hu:∀ a c:Nat,a<65536→c<65536→a+c*65536<4294967296:=fun a c _ _=>by omega
 unfold Jc Ucl Ukp
 refine DF (p:=4) (n:=4) d.addR.addR w (by decide) (by decide) hbl ?_
 refine AIn w (by rfl) (AIn w (by rfl) (AIn w (by rfl) (AIn w (by rfl) (AIn w (by rfl) (AIn w (by rfl) (AIn w (by rfl) (AIn w (by rfl) ?_)))))))
 exact AGB d hbl K w
theorem AFS {x8:Nat}(d:RdX x bv b)(hbl:b.length<1000000)(K:Fg Q v n b bv x4 x5 x6 x)(w:AN ((pts x8 (.cells ⟨If.cells (.slice none 0 0) (.slice none 0 0) (.slice none 0 0)⟩ 81 (0,0))+zR x4 x5 x6 bv v)+(y+x)) h):Jd Q (Pt v.vb) (.int .u64 (n:Nat)) (Pt x4) (Pt x5) (Pt x6) (Pt x8) (.int .u16 (leL b 0 2:Nat)) (.int .u32 (leL b 2 2+leL b 120 2*65536:Nat)) (.int .u64 (leL b 24 2:Nat)) bv bv bv bv bv bv bv bv bv bv h:=by
 have hu:∀ a c:Nat,a<65536→c<65536→a+c*65536<4294967296:=fun a c _ _=>by omega
 unfold Jd Ucl Ukp
 refine DF (p:=122) (n:=2) d.addR.addR w (by decide) (by decide) hbl ?_
 refine AIn w (by rfl) (AIn w (by rfl) (AIn w (by rfl) (AIn w (by rfl) (AIn w (by rfl) (AIn w (by rfl) (AIn w (by rfl) (AIn w (by rfl) (AIn w (by rfl) ?_))))))))
 refine Zy Ag ?_
 refine TO Ag Ag ?_
 refine ZR (hu _ _ Ag Ag) ?_
 exact AGO d hbl K w
theorem AFj {x8:Nat}(d:RdX x bv b)(hbl:b.length<1000000)(K:Fg Q v n b bv x4 x5 x6 x)(w:AN ((pts x8 (.cells ⟨If.cells (.slice none 0 0) (.slice none 0 0) (.slice none 0 0)⟩ 81 (0,0))+zR x4 x5 x6 bv v)+(y+x)) h):Ju Q (Pt v.vb) (.int .u64 (n:Nat)) (Pt x4) (Pt x5) (Pt x6) (Pt x8) (.int .u16 (leL b 0 2:Nat)) (.int .u32 (leL b 2 2+leL b 120 2*65536:Nat)) bv bv bv bv bv bv bv bv bv bv bv h:=by
 have hu:∀ a c:Nat,a<65536→c<65536→a+c*65536<4294967296:=fun a c _ _=>by omega
 unfold Ju Ucl Ukp
 refine DF (p:=24) (n:=2) d.addR.addR w (by decide) (by decide) hbl ?_
 refine AIn w (by rfl) (AIn w (by rfl) (AIn w (by rfl) (AIn w (by rfl) (AIn w (by rfl) (AIn w (by rfl) (AIn w (by rfl) (AIn w (by rfl) (AIn w (by rfl) (AIn w (by rfl) ?_)))))))))
 exact AFS d hbl K w
theorem AFx {x8:Nat}(d:RdX x bv b)(hbl:b.length<1000000)(K:Fg Q v n b bv x4 x5 x6 x)(w:AN ((pts x8 (.cells ⟨If.cells (.slice none 0 0) (.slice none 0 0) (.slice none 0 0)⟩ 81 (0,0))+zR x4 x5 x6 bv v)+(y+x)) h):Jb Q (Pt v.vb) (.int .u64 (n:Nat)) (Pt x4) (Pt x5) (Pt x6) (Pt x8) (.int .u16 (leL b 0 2:Nat)) (.int .u64 (leL b 2 2:Nat)) bv bv bv bv bv bv bv bv bv bv bv bv h:=by
 have hu:∀ a c:Nat,a<65536→c<65536→a+c*65536<4294967296:=fun a c _ _=>by omega
 unfold Jb Ucl Ukp
 refine DF (p:=120) (n:=2) d.addR.addR w (by decide) (by decide) hbl ?_
 refine AIn w (by rfl) (AIn w (by rfl) (AIn w (by rfl) (AIn w (by rfl) (AIn w (by rfl) (AIn w (by rfl) (AIn w (by rfl) (AIn w (by rfl) (AIn w (by rfl) (AIn w (by rfl) (AIn w (by rfl) ?_))))))))))
 refine Zy Ag ?_
 refine TO Ag Ag ?_
 refine ZR (hu _ _ Ag Ag) ?_
 exact AFj d hbl K w
theorem AEh {x8:Nat}(d:RdX x bv b)(hbl:b.length<1000000)(K:Fg Q v n b bv x4 x5 x6 x)(w:AN ((pts x8 (.cells ⟨If.cells (.slice none 0 0) (.slice none 0 0) (.slice none 0 0)⟩ 81 (0,0))+zR x4 x5 x6 bv v)+(y+x)) h):Jh Q (Pt v.vb) (.int .u64 (n:Nat)) (Pt x4) (Pt x5) (Pt x6) (Pt x8) (.int .u16 (leL b 0 2:Nat)) bv bv bv bv bv bv bv bv bv bv bv bv bv h:=by
 have hu:∀ a c:Nat,a<65536→c<65536→a+c*65536<4294967296:=fun a c _ _=>by omega
 unfold Jh Ucl Ukp
 refine DF (p:=2) (n:=2) d.addR.addR w (by decide) (by decide) hbl ?_
 refine AIn w (by rfl) (AIn w (by rfl) (AIn w (by rfl) (AIn w (by rfl) (AIn w (by rfl) (AIn w (by rfl) (AIn w (by rfl) (AIn w (by rfl) (AIn w (by rfl) (AIn w (by rfl) (AIn w (by rfl) (AIn w (by rfl) ?_)))))))))))
 exact AFx d hbl K w
theorem AEO (d:RdX x bv b)(hbl:b.length<1000000)(K:Fg Q v n b bv x4 x5 x6 x)(w:AN (zR x4 x5 x6 bv v+(y+x)) h):Iw Q (Pt v.vb) (.int .u64 (n:Nat)) (Pt x4) (Pt x5) (Pt x6) h:=by
 have hu:∀ a c:Nat,a<65536→c<65536→a+c*65536<4294967296:=fun a c _ _=>by omega
 unfold Iw Uld Ucl Ukp Umk
 refine AW w (by rfl) ?_
 refine AW w (by rfl) ?_
 refine AW w (by rfl) ?_
 refine AW w (by rfl) ?_
 refine AW w (by rfl) ?_
 refine AW w (by rfl) ?_
 refine AW w (by rfl) ?_
 refine AW w (by rfl) ?_
 refine AW w (by rfl) ?_
 refine AW w (by rfl) ?_
 refine AW w (by rfl) ?_
 refine AW w (by rfl) ?_
 refine AW w (by rfl) ?_
 refine AW w (by rfl) ?_
 refine And.intro ?_ ?_
 ·skip
  refine DF (p:=0) (n:=2) d.addR.addR w (by decide) (by decide) hbl ?_
  refine AIn w (by rfl) (AIn w (by rfl) (AIn w (by rfl) (AIn w (by rfl) (AIn w (by rfl) (AIn w (by rfl) (AIn w (by rfl) (AIn w (by rfl) (AIn w (by rfl) (AIn w (by rfl) (AIn w (by rfl) (AIn w (by rfl) (AIn w (by rfl) ?_))))))))))))
  refine ACC Ag ?_
  refine And.intro ?_ ?_
  ·skip
   refine DF (p:=2) (n:=2) d.addR.addR w (by decide) (by decide) hbl ?_
   refine AIn w (by rfl) (AIn w (by rfl) (AIn w (by rfl) (AIn w (by rfl) (AIn w (by rfl) (AIn w (by rfl) (AIn w (by rfl) (AIn w (by rfl) (AIn w (by rfl) (AIn w (by rfl) (AIn w (by rfl) (AIn w (by rfl) ?_)))))))))))
   refine And.intro ?_ ?_
   ·skip
    refine DF (p:=120) (n:=2) d.addR.addR w (by decide) (by decide) hbl ?_
    refine AIn w (by rfl) (AIn w (by rfl) (AIn w (by rfl) (AIn w (by rfl) (AIn w (by rfl) (AIn w (by rfl) (AIn w (by rfl) (AIn w (by rfl) (AIn w (by rfl) (AIn w (by rfl) (AIn w (by rfl) ?_))))))))))
    refine Zy Ag ?_
    refine TO Ag Ag ?_
    refine ZR (hu _ _ Ag Ag) ?_
    refine And.intro ?_ ?_
    ·skip
     refine DF (p:=24) (n:=2) d.addR.addR w (by decide) (by decide) hbl ?_
     refine AIn w (by rfl) (AIn w (by rfl) (AIn w (by rfl) (AIn w (by rfl) (AIn w (by rfl) (AIn w (by rfl) (AIn w (by rfl) (AIn w (by rfl) (AIn w (by rfl) (AIn w (by rfl) ?_)))))))))
     refine And.intro ?_ ?_
     ·skip
      refine DF (p:=122) (n:=2) d.addR.addR w (by decide) (by decide) hbl ?_
      refine AIn w (by rfl) (AIn w (by rfl) (AIn w (by rfl) (AIn w (by rfl) (AIn w (by rfl) (AIn w (by rfl) (AIn w (by rfl) (AIn w (by rfl) (AIn w (by rfl) ?_))))))))
      refine Zy Ag ?_
      refine TO Ag Ag ?_
      refine ZR (hu _ _ Ag Ag) ?_
      refine And.intro ?_ ?_
      ·skip
       refine DF (p:=4) (n:=4) d.addR.addR w (by decide) (by decide) hbl ?_
       refine AIn w (by rfl) (AIn w (by rfl) (AIn w (by rfl) (AIn w (by rfl) (AIn w (by rfl) (AIn w (by rfl) (AIn w (by rfl) (AIn w (by rfl) ?_)))))))
       refine And.intro ?_ ?_
       ·skip
        refine DF (p:=108) (n:=4) d.addR.addR w (by decide) (by decide) hbl ?_
        refine AIn w (by rfl) (AIn w (by rfl) (AIn w (by rfl) (AIn w (by rfl) (AIn w (by rfl) (AIn w (by rfl) (AIn w (by rfl) ?_))))))
        refine Zt (A94 Ag (by decide)) ?_
        refine Tq Ag (A94 Ag (by decide)) ?_
        refine And.intro ?_ ?_
        ·skip
         refine DF (p:=26) (n:=2) d.addR.addR w (by decide) (by decide) hbl ?_
         refine AIn w (by rfl) (AIn w (by rfl) (AIn w (by rfl) (AIn w (by rfl) (AIn w (by rfl) (AIn w (by rfl) ?_)))))
         refine And.intro ?_ ?_
         ·skip
          refine DF (p:=28) (n:=4) d.addR.addR w (by decide) (by decide) hbl ?_
          refine AIn w (by rfl) (AIn w (by rfl) (AIn w (by rfl) (AIn w (by rfl) (AIn w (by rfl) ?_))))
          refine And.intro ?_ ?_
          ·skip
           refine DF (p:=116) (n:=2) d.addR.addR w (by decide) (by decide) hbl ?_
           refine AIn w (by rfl) (AIn w (by rfl) (AIn w (by rfl) (AIn w (by rfl) ?_)))
           refine Zt (A94 Ag (by decide)) ?_
           refine Tq Ag (A94 Ag (by decide)) ?_
           refine And.intro ?_ ?_
           ·skip
            refine DF (p:=32) (n:=4) d.addR.addR w (by decide) (by decide) hbl ?_
            refine AIn w (by rfl) (AIn w (by rfl) (AIn w (by rfl) ?_))
            refine And.intro ?_ ?_
            ·skip
             refine DF (p:=8) (n:=4) d.addR.addR w (by decide) (by decide) hbl ?_
             refine AIn w (by rfl) (AIn w (by rfl) ?_)
             refine And.intro ?_ ?_
             ·skip
              refine JT (p:=140) d.addR.addR w (by decide) hbl ?_
              refine AIn w (by rfl) (AIn w (by rfl) ?_)
              refine And.intro ?_ ?_
              ·skip
               refine Ie w Ag Ag fun y h w=>?_
               refine AIn w (by rfl) (AIn w (by rfl) ?_)
               refine And.intro ?_ ?_
               ·skip
                refine DF (p:=12) (n:=4) d.addR.addR w (by decide) (by decide) hbl ?_
                refine AIn w (by rfl) ?_
                refine And.intro ?_ ?_
                ·skip
                 refine JT (p:=132) d.addR.addR w (by decide) hbl ?_
                 refine AIn w (by rfl) ?_
                 refine And.intro ?_ ?_
                 ·skip
                  refine Ie w Ag Ag fun y h w=>?_
                  refine AIn w (by rfl) ?_
                  refine And.intro ?_ ?_
                  ·skip
                   refine DF (p:=16) (n:=4) d.addR.addR w (by decide) (by decide) hbl ?_
                   refine And.intro ?_ ?_
                   ·skip
                    refine JT (p:=136) d.addR.addR w (by decide) hbl ?_
                    refine And.intro ?_ ?_
                    ·skip
                     refine Ie w Ag Ag fun y h w=>?_
                     refine And.intro ?_ ?_
                     ·skip
                      refine JT (p:=144) d.addR.addR w (by decide) hbl ?_
                      refine And.intro ?_ ?_
                      ·skip
                       refine JT (p:=148) d.addR.addR w (by decide) hbl ?_
                       refine And.intro ?_ ?_
                       ·skip
                        refine Ie w Ag Ag fun y h w=>?_
                        exact AAl K w
                       refine EE w fun x8 h w=>?_
                       refine Ie w Ag Ag fun y h w=>?_
                       exact et1 d hbl K w
                      refine EE w fun x8 h w=>?_
                      refine JT (p:=148) d.addR.addR w (by decide) hbl ?_
                      refine Ie w Ag Ag fun y h w=>?_
                      exact et1 d hbl K w
                     refine EE w fun x8 h w=>?_
                     exact et2 d hbl K w
                    refine EE w fun x8 h w=>?_
                    refine Ie w Ag Ag fun y h w=>?_
                    exact et2 d hbl K w
                   refine EE w fun x8 h w=>?_
                   refine JT (p:=136) d.addR.addR w (by decide) hbl ?_
                   refine Ie w Ag Ag fun y h w=>?_
                   exact et2 d hbl K w
                  refine EE w fun x8 h w=>?_
                  refine AIn w (by rfl) ?_
                  exact et3 d hbl K w
                 refine EE w fun x8 h w=>?_
                 refine AIn w (by rfl) ?_
                 refine Ie w Ag Ag fun y h w=>?_
                 refine AIn w (by rfl) ?_
                 exact et3 d hbl K w
                refine EE w fun x8 h w=>?_
                refine AIn w (by rfl) ?_
                exact et4 d hbl K w
               refine EE w fun x8 h w=>?_
               refine AIn w (by rfl) (AIn w (by rfl) ?_)
               refine DF (p:=12) (n:=4) d.addR.addR w (by decide) (by decide) hbl ?_
               refine AIn w (by rfl) ?_
               exact et4 d hbl K w
              refine EE w fun x8 h w=>?_
              refine AIn w (by rfl) (AIn w (by rfl) ?_)
              exact et5 d hbl K w
             refine EE w fun x8 h w=>?_
             refine AIn w (by rfl) (AIn w (by rfl) ?_)
             exact et6 d hbl K w
            refine EE w fun x8 h w=>?_
            refine AIn w (by rfl) (AIn w (by rfl) (AIn w (by rfl) ?_))
            exact et7 d hbl K w
           refine EE w fun x8 h w=>?_
           refine AIn w (by rfl) (AIn w (by rfl) (AIn w (by rfl) (AIn w (by rfl) ?_)))
           exact et8 d hbl K w
          refine EE w fun x8 h w=>?_
          refine AIn w (by rfl) (AIn w (by rfl) (AIn w (by rfl) (AIn w (by rfl) (AIn w (by rfl) ?_))))
          exact et9 d hbl K w
         refine EE w fun x8 h w=>?_
         refine AIn w (by rfl) (AIn w (by rfl) (AIn w (by rfl) (AIn w (by rfl) (AIn w (by rfl) (AIn w (by rfl) ?_)))))
         exact AGF d hbl K w
        refine EE w fun x8 h w=>?_
        refine AIn w (by rfl) (AIn w (by rfl) (AIn w (by rfl) (AIn w (by rfl) (AIn w (by rfl) (AIn w (by rfl) (AIn w (by rfl) ?_))))))
        exact AF3 d hbl K w
       refine EE w fun x8 h w=>?_
       refine AIn w (by rfl) (AIn w (by rfl) (AIn w (by rfl) (AIn w (by rfl) (AIn w (by rfl) (AIn w (by rfl) (AIn w (by rfl) (AIn w (by rfl) ?_)))))))
       exact AGB d hbl K w
      refine EE w fun x8 h w=>?_
      refine AIn w (by rfl) (AIn w (by rfl) (AIn w (by rfl) (AIn w (by rfl) (AIn w (by rfl) (AIn w (by rfl) (AIn w (by rfl) (AIn w (by rfl) (AIn w (by rfl) ?_))))))))
      exact AGO d hbl K w
     refine EE w fun x8 h w=>?_
     refine AIn w (by rfl) (AIn w (by rfl) (AIn w (by rfl) (AIn w (by rfl) (AIn w (by rfl) (AIn w (by rfl) (AIn w (by rfl) (AIn w (by rfl) (AIn w (by rfl) (AIn w (by rfl) ?_)))))))))
     exact AFS d hbl K w
    refine EE w fun x8 h w=>?_
    refine AIn w (by rfl) (AIn w (by rfl) (AIn w (by rfl) (AIn w (by rfl) (AIn w (by rfl) (AIn w (by rfl) (AIn w (by rfl) (AIn w (by rfl) (AIn w (by rfl) (AIn w (by rfl) (AIn w (by rfl) ?_))))))))))
    exact AFj d hbl K w
   refine EE w fun x8 h w=>?_
   refine AIn w (by rfl) (AIn w (by rfl) (AIn w (by rfl) (AIn w (by rfl) (AIn w (by rfl) (AIn w (by rfl) (AIn w (by rfl) (AIn w (by rfl) (AIn w (by rfl) (AIn w (by rfl) (AIn w (by rfl) (AIn w (by rfl) ?_)))))))))))
   exact AFx d hbl K w
  refine EE w fun x8 h w=>?_
  refine AIn w (by rfl) (AIn w (by rfl) (AIn w (by rfl) (AIn w (by rfl) (AIn w (by rfl) (AIn w (by rfl) (AIn w (by rfl) (AIn w (by rfl) (AIn w (by rfl) (AIn w (by rfl) (AIn w (by rfl) (AIn w (by rfl) (AIn w (by rfl) ?_))))))))))))
  exact AEh d hbl K w
 refine EE w fun x8 h w=>?_
 refine AIn w (by rfl) (AIn w (by rfl) (AIn w (by rfl) (AIn w (by rfl) (AIn w (by rfl) (AIn w (by rfl) (AIn w (by rfl) (AIn w (by rfl) (AIn w (by rfl) (AIn w (by rfl) (AIn w (by rfl) (AIn w (by rfl) (AIn w (by rfl) (AIn w (by rfl) ?_)))))))))))))
 refine DF (p:=0) (n:=2) d.addR.addR w (by decide) (by decide) hbl ?_
 refine AIn w (by rfl) (AIn w (by rfl) (AIn w (by rfl) (AIn w (by rfl) (AIn w (by rfl) (AIn w (by rfl) (AIn w (by rfl) (AIn w (by rfl) (AIn w (by rfl) (AIn w (by rfl) (AIn w (by rfl) (AIn w (by rfl) (AIn w (by rfl) ?_))))))))))))
 refine ACC Ag ?_
 exact AEh d hbl K w
end
section
variable {h:H} {k:Value→Prop} {kt Q:Kt} {x y z r:Res} {v:VS}
theorem XN.one {X:XN}{a1 a2 a3:Option Addr}{n1 n2 n3 c1 c2 c3:Nat}:(X.cells (.slice a1 n1 c1) (.slice a2 n2 c2) (.slice a3 n3 c3)).all Value.oneCell'=true:=rfl
attribute [local irreducible] AK Az AQ BB Ae AY AH AM VS.cells XN.cells
theorem Cj {b n:Nat}{l:List Value}{T:TypeId}{fz:Nat×Nat}(w:AN x h)[CO b x (.cells ⟨l⟩ T fz)](hn:l.length=n)(K:k (.agg ⟨l⟩)):AB true n (Pt b) h k:=by
 rw[Am (o:=0) (w.find (b:=b)) (by simp;omega)]
 have:(⟨l⟩:Array Value).extract 0 (0+n)=⟨l⟩:=by
  apply A56
  simp[A44,←hn]
 rw[this];exact K
section
variable {X X':XN} {xv rv bv:Value} {b rest C o':Bs} {cl:List Nat} {x4 x5 x6 x8 n:Nat}
abbrev fR (x4 x5 x6:Nat)(bv:Value):Res:=pts x6 (.cells ⟨[.int .u64 ((24:Nat):Int)]⟩ 48 (0,0))+(pts x5 (.cells ⟨[bv]⟩ 30 (0,0))+pts x4 (.cells ⟨If.cells (.slice none 0 0) (.slice none 0 0) (.slice none 0 0)⟩ 81 (0,0)))
def secOK (X:XN):Prop:=if X.flags &&& 262144≠0 then X.sec=X.blk else X.sec=X.blk*8
theorem Fj {I:Bs}{nb:Nat}{e:Bs}(cr:ContR I nb X e rest C X' cl):X'.flags=X.flags∧X'.sec=X.sec∧X'.mode=X.mode∧X'.size=X.size∧X'.links=X.links∧X'.num=X.num:=by
 cases cr<;>exact⟨rfl,rfl,rfl,rfl,rfl,rfl⟩
theorem AE8 {rec1:Value→Value→H→Prop}{x139:Value}{m:Nat}(ok:v.OK x)(db:RdX x bv b)(hb:b.length=256)(dr:RdX (y+x) rv rest)(hrl:rest.length<100000)(cr:ContR v.I v.nb X ((b.drop 40).take 60) rest C X' cl)(c:Clm cl v.ow o')(hm:X.mode<65536)(hfl:X.flags<4294967296)(hs:secOK X')(hbk:X'.blk<1000000)(hsec:X'.sec<18446744073709551616)(hxv:∃ a n c,xv=.slice a n c)
  (w:AN (v.res+(pts x8 (.cells ⟨X.cells (.slice none 0 0) (.slice none 0 0) xv⟩ 81 (0,0))+(fR x4 x5 x6 bv+(y+x)))) h)
  (K:∀ cv z h,RdX z cv C→(v.own o').OK x→AN ((v.own o').res+(z+(y+x))) h→Q (.agg ⟨X'.cells cv (.slice none 0 0) xv⟩) h) :
  Ii Q rec1 (Pt v.vb) (.int .u64 (n:Nat)) (Pt x4) (Pt x5) (Pt x8) x139 (.int .i64 (m:Nat)) rv (.int .i64 (m:Nat)) h:=by
 have cf:=Fj cr
 unfold Ii Ucm Umk Ufl Ucl Uld
 have e1:decide ((m:Int)<(m:Int))=false:=A08 (by omega)
 rw[AT,e1,AU]
 refine AW w (by rfl) ?_
 refine Zx (AIL ok.mono.mono db.addR.addR hb dr.addR hrl cr c hm hfl w fun cv y' h dcv ok2 w=>?_)
 have ok':(v.own o').OK x:=ok.own c.len
 have hfl':X'.flags<4294967296:=by rw[cf.1];exact hfl
 have hand:X'.flags &&& 262144≤X'.flags:=B20
 have fin:∀ h,AN ((v.own o').res+(pts x8 (.cells ⟨X'.cells cv (.slice none 0 0) xv⟩ 81 (0,0))+(y'+(fR x4 x5 x6 bv+(y+x))))) h→AB true 23 (Pt x8) h fun x187=>AJ 23 (Pt x4) x187 h fun h=>AB true 23 (Pt x4) h fun v=>Q v h:=by
  intro h w
  refine Cj w XN.len ?_
  refine AL w ⟨X'.cells cv (.slice none 0 0) xv⟩ (Ar (by rw[XN.size_];exact XN.len)) XN.size_ (by rw[XN.size_];omega) ?_ fun h w=>?_
  ·obtain⟨ca,cc,hcv⟩:=dcv.len
   obtain⟨xa,xn,xc,hxv⟩:=hxv
   show (X'.cells cv (.slice none 0 0) xv).all Value.oneCell'=true
   rw[hcv,hxv]
   exact XN.one
  ·refine Cj w XN.len ?_
   have k1:∀ V P8 Y' P6 P5 P4 Y X:Res,V+(P8+(Y'+((P6+(P5+P4))+(Y+X))))=V+((Y'+(P8+(P6+(P5+P4))))+(Y+X)):=by intros;ac_rfl
   refine K cv _ h ?_ ok' (w.cast (k1 _ _ _ _ _ _ _ _))
   exact dcv.addL
 simp (disch:=omega) only[go_sem,AF w]
 unfold secOK at hs
 refine AX (fun hc=>?_) (fun hc=>?_)
 ·rw[A03 (by omega)] at hs
  have e2:decide ((X'.sec:Int)=(X'.blk:Int))=true:=A04 (by omega)
  rw[e2]
  exact Al (Da (fin h w))
 ·rw[A05 (by omega)] at hs
  have e2:decide ((X'.sec:Int)=((X'.blk*8:Nat):Int))=true:=A04 (by omega)
  rw[e2]
  exact Al (Da (fin h w))
def sysd:Bs:=[115,121,115,116,101,109,46,100,97,116,97]
def xaOf (l:List (Bs×Bs)):List (Bs×Bs):=l.filter fun p=>decide (p.1≠sysd)
def restOf (l:List (Bs×Bs)):Bs:=l.foldl (fun r p=>if p.1=sysd then p.2 else r) []
theorem Om:∀ {cs:List Value} {l:List (Bs×Bs)} {i:Nat} {p:Bs×Bs},AtV x cs l→l[i]? = some p→∃ u,(cs.drop (i*2)).take 2=[str p.1,u]∧RdX x u p.2
 | _,_,0,p,.cons (v:=v) d a,e=>by
  simp only[A51,A26] at e
  subst e
  exact⟨v,rfl,d⟩
 | _,_,i+1,p,.cons d a,e=>by
  have:=Om a (i:=i) (p:=p) (by simpa using e)
  rw[show (i+1)*2=i*2+2 by omega]
  exact this
 | _,_,_,_,.nil,e=>by simp at e
theorem G4 {l:List (Bs×Bs)}{p:Bs×Bs}:xaOf (l++[p])=if p.1=sysd then xaOf l else xaOf l++[p]:=by
 unfold xaOf
 rw[B08]
 by_cases h:p.1=sysd<;>simp[h]
theorem JD {l:List (Bs×Bs)}{p:Bs×Bs}:restOf (l++[p])=if p.1=sysd then p.2 else restOf l:=by
 unfold restOf
 rw[B19];rfl
theorem ADy {lv:Value}{cs:List Value}{l:List (Bs×Bs)}(d:VecX 86 2 lv l.length cs y)(A:AtV y cs l)(hn:l.length<1000000)(hin:(∃ p∈l,p.1=sysd)→X.inl=true)
  (w:AN (v.res+(pts x8 (.cells ⟨X.cells (.slice none 0 0) (.slice none 0 0) (.slice none 0 0)⟩ 81 (0,0))+(fR x4 x5 x6 bv+(y+x)))) h)
  (K:∀ (rec1:Value→Value→H→Prop) rv xv cs r z h,RdX (z+y) rv (restOf l)→Vec 86 2 xv (xaOf l).length cs r→AtV y cs (xaOf l)→AN (v.res+(pts x8 (.cells ⟨X.cells (.slice none 0 0) (.slice none 0 0) xv⟩ 81 (0,0))+(fR x4 x5 x6 bv+((r+(z+y))+x)))) h→Ii Q rec1 (Pt v.vb) (.int .u64 (n:Nat)) (Pt x4) (Pt x5) (Pt x8) lv (.int .i64 (l.length:Nat)) rv (.int .i64 (l.length:Nat)) h) :
  KV Q (Pt v.vb) (.int .u64 (n:Nat)) (Pt x4) (Pt x5) (Pt x8) lv (.int .i64 (l.length:Nat)) (.slice none 0 0) (.int .i64 ((0:Nat):Int)) h:=by
 unfold KV
 refine DE (fun m u0 u1 h'=>∃ i rv xv cs r z,m=l.length-i∧i≤l.length∧u0=rv∧u1=.int .i64 (i:Nat)∧RdX y rv (restOf (l.take i))∧Vec 86 2 xv (xaOf (l.take i)).length cs r∧AtV y cs (xaOf (l.take i))∧AN (v.res+(pts x8 (.cells ⟨X.cells (.slice none 0 0) (.slice none 0 0) xv⟩ 81 (0,0))+(fR x4 x5 x6 bv+((r+(z+y))+x)))) h') l.length
  ⟨0,_,.slice none 0 0,[],0,0,rfl,A39 _,rfl,rfl,.inl ⟨none,0,rfl,by simp[restOf]⟩,.nil,.nil,by rw[Res.zero_add,Res.zero_add];exact w⟩ ?_
 rintro rec m u0 u1 h' ⟨i,rv,xv,cs',r,z,rfl,hi,rfl,rfl,dr,dx,A',w⟩ hrec
 rcases A66 i l.length with hlt|hge
 ·obtain⟨p,hp⟩:∃ p,l[i]? = some p:=⟨_,A00 hlt⟩
  obtain⟨u,hu,du⟩:=Om A hp
  obtain⟨ua,uc,huv⟩:=du.len
  have hxn:(xaOf (l.take i)).length≤i:=B28 (B38 _ _) (by simp;omega)
  have htk:l.take (i+1)=l.take i++[p]:=by rw[A85,hp];rfl
  have hpm:p∈l:=A28 hp
  unfold Ii Ucm Umk Ufl Ucl Uld
  have e1:decide ((i:Int)<(l.length:Int))=true:=A04 (by omega)
  rw[AT,e1,Ak]
  refine (d.addR.addR.addL.addR.addR.addR:VecX 86 2 lv l.length cs _).agg w hlt ?_
  rw[hu]
  refine Ah w Il rfl fun b14 h w=>?_
  refine AL w ⟨[str p.1,u]⟩ rfl rfl (by simp) (by rw[huv];rfl) fun h w=>?_
  rw[show (.string ⟨#[115,121,115,116,101,109,46,100,97,116,97]⟩:Value)=str sysd from rfl]
  have k1:∀ B V P F R Z Y X:Res,B+(V+(P+(F+((R+(Z+Y))+X))))=V+(P+(F+((R+((B+Z)+Y))+X))):=by intros;ac_rfl
  have f1:(AD .add (.int .i64 (i:Nat)) (.int .i64 1))=fun k=>k (.int .i64 (i+1:Nat)):=funext fun k=>by
   rw[BN (n:=1),Ci (by omega)]
  have w:AN (pts b14 (.cells ⟨[str p.1,u]⟩ 86 (0,0))+(v.res+(pts x8 (.cells ⟨X.cells (.slice none 0 0) (.slice none 0 0) xv⟩ 81 (0,0))+(fR x4 x5 x6 bv+((r+(z+y))+x))))) h:=w
  have g0:(⟨[str p.1,u]⟩:Array Value)[0]? = some (str p.1):=rfl
  have g1:(⟨[str p.1,u]⟩:Array Value)[1]? = some u:=rfl
  simp (disch:=omega) only[go_sem,AF w,g0,g1,f1]
  refine AX (fun hc=>?_) (fun hc=>?_)
  ·rw[hin ⟨p,hpm,hc⟩]
   refine Al (Da ?_)
   refine hrec (l.length-(i+1)) _ _ _ ⟨i+1,u,xv,cs',r,_,rfl,hlt,rfl,rfl,?_,?_,?_,w.cast (k1 _ _ _ _ _ _ _ _)⟩ (by omega)
   ·rw[htk,JD,A03 hc];exact du
   ·rw[htk,G4,A03 hc];exact dx
   ·rw[htk,G4,A03 hc];exact A'
  ·refine Cj w rfl ?_
   have k2:∀ B V P F R Z Y X:Res,B+(V+(P+(F+((R+(Z+Y))+X))))=R+(V+(P+(F+(((B+Z)+Y)+X)))):=by intros;ac_rfl
   refine CW dx (w.cast (k2 _ _ _ _ _ _ _ _)) Il rfl rfl (by omega) (by omega) (by rw[huv];rfl) fun b15 h w=>?_
   refine B0 dx w Il rfl rfl (by rw[huv];rfl) (by omega) (by omega) fun xv' r' h dx' w=>?_
   have k3:∀ V P F R Z Y X:Res,R+(V+(P+(F+((Z+Y)+X))))=V+(P+(F+((R+(Z+Y))+X))):=by intros;ac_rfl
   have w:=w.cast (k3 _ _ _ _ _ _ _)
   obtain⟨⟨a',c',hxv'⟩,_⟩:=dx'.len
   refine AL w ⟨X.cells (.slice none 0 0) (.slice none 0 0) xv'⟩ (by rw[hxv'];exact XN.set20) (by rw[hxv'];rfl) (by rw[XN.size_];omega) (by rw[hxv'];rfl) fun h w=>?_
   refine hrec (l.length-(i+1)) _ _ _ ⟨i+1,u0,xv',cs'++[str p.1,u],r',_,rfl,hlt,rfl,rfl,?_,?_,?_,w⟩ (by omega)
   ·rw[htk,JD,A05 hc];exact dr
   ·rw[htk,G4,A05 hc,A01];exact dx'
   ·rw[htk,G4,A05 hc];exact A'.snoc du
 ·have hil:i=l.length:=by omega
  subst hil
  rw[A38] at dr dx A'
  exact K rec u0 xv cs' r z h' dr.addR dx A' w
end
end
section
variable {h:H} {k:Value→Prop} {kt Q:Kt} {x y z r:Res} {v:VS}
theorem XN.times {X:XN}{cv ev xv:Value}:(⟨X.cells cv ev xv⟩:Array Value).extract 8 (8+2)=⟨BY X.at_⟩∧(⟨X.cells cv ev xv⟩:Array Value).extract 10 (10+2)=⟨BY X.ct⟩∧(⟨X.cells cv ev xv⟩:Array Value).extract 12 (12+2)=⟨BY X.mt⟩∧(⟨X.cells cv ev xv⟩:Array Value).extract 14 (14+2)=⟨BY X.cr⟩:=⟨rfl,rfl,rfl,rfl⟩
attribute [local irreducible] AK Az AQ BB Ae AY AH AM VS.cells XN.cells
theorem QK {kt:Kt}{p0 p1 p2 p3:Nat×Nat}(w:AN x h)(K:∀ b h,AN (pts b (.cells ⟨BY p0++(BY p1++(BY p2++BY p3))⟩ 60 (0,0))+x) h→kt (.slice (some ⟨b,0,none⟩) 4 4) h) :
  AH (.arr 2) 60 (AG TP 60) 2 4 [(0,.agg ⟨BY p0⟩),(1,.agg ⟨BY p1⟩),(2,.agg ⟨BY p2⟩),(3,.agg ⟨BY p3⟩)] h kt:=by
 unfold AH
 refine⟨_,⟨BY p0++(BY p1++(BY p2++BY p3))⟩,Jo,by omega,?_,fun b h' ex hb' ho'=>K b h' (w.new ex hb' ho')⟩
 rw[A05 (by omega)]
 have hm:Ax (Value.agg ⟨[.int .i64 0,.int .i64 0]⟩).cells (4*2)=⟨List.replicate 8 (.int .i64 0)⟩:=by kernel_rfl
 rw[hm]
 refine Es _ _ _ ?_
 rfl
theorem AtV.addL {cs:List Value}{l:List (Bs×Bs)}(a:AtV x cs l):AtV (x+y) cs l:=by rw[Res.comm];exact a.mono
section
variable {X X':XN} {bv:Value} {b C o':Bs} {cl:List Nat} {l:List (Bs×Bs)} {x4 x5 x6 x8 n tb:Nat}
def inoX1 (b:Bs)(n:Nat):XN:={Iy b n with inl:=decide (leL b 32 4 &&& 268435456≠0)}
structure InoOK (I:Bs) (nb:Nat) (b:Bs) (n:Nat) (X':XN) (C:Bs) (l:List (Bs×Bs)) (cl:List Nat):Prop where
 len:b.length=256
 ex:leL b 128 2=24
 kind:kindL (leL b 0 2)≠0
 del:leL b 20 4=0
 ns:leL b 140 4<4000000000∧leL b 132 4<4000000000∧leL b 136 4<4000000000∧leL b 148 4<4000000000
 xa:XaR b l
 nd:NoDup2 l
 ll:l.length<1000000
 inl:(∃ p∈l,p.1=sysd)→(inoX1 b n).inl=true
 rl:(restOf l).length<100000
 con:ContR I nb (inoX1 b n) ((b.drop 40).take 60) (restOf l) C X' cl
 sec:secOK X'
 blk:X'.blk<1000000
theorem AFF (ok:v.OK x)(db:RdX x bv b)(io:InoOK v.I v.nb b n X' C l cl)(c:Clm cl v.ow o')
  (w:AN (v.res+(pts x8 (.cells ⟨(Iy b n).cells (.slice none 0 0) (.slice none 0 0) (.slice none 0 0)⟩ 81 (0,0))+(fR x4 x5 x6 bv+(y+x)))) h)
  (K:∀ cv xv cs z h,RdX z cv C→VecX 86 2 xv (xaOf l).length cs z→AtV z cs (xaOf l)→(v.own o').OK x→AN ((v.own o').res+(z+x)) h→Q (.agg ⟨X'.cells cv (.slice none 0 0) xv⟩) h) :
  AC 7 (Pt x8) fun x130=>AB false 1 x130 h fun x131=>AD .and x131 (.int .u64 268435456) fun x132=>AD .neq x132 (.int .u64 0) fun x133=>AC 21 (Pt x8) fun x134=>AJ 1 x134 x133 h fun h=>AB false 1 (Pt x5) h fun x136=>AB false 1 (Pt x6) h fun x137=>Call TP 178 [Pt v.vb,Pt x8,x136,x137] h fun x138 h=>Ab x138 fun x140=>KV Q (Pt v.vb) (.int .u64 (n:Nat)) (Pt x4) (Pt x5) (Pt x8) x138 x140 (.slice none 0 0) (.int .i64 0) h:=by
 have l32:leL b 32 4<4294967296:=Ag
 have lmo:leL b 0 2<65536:=Ag
 have l28:leL b 28 4<4294967296:=Ag
 have l116:leL b 116 2<65536:=Ag
 have hfl:(Iy b n).flags=leL b 32 4:=rfl
 simp (disch:=omega) only[go_sem,AF w]
 refine AL w ⟨(inoX1 b n).cells (.slice none 0 0) (.slice none 0 0) (.slice none 0 0)⟩ ?_ rfl (by rw[XN.size_];omega) rfl fun h w=>?_
 ·have e:decide (((leL b 32 4 &&& 268435456:Nat):Int)≠0)=decide (leL b 32 4 &&& 268435456≠0):=decide_eq_decide.2 (by omega)
  rw[hfl,e]
  exact XN.set21
 refine AW w (by rfl) ?_
 refine AW w (by rfl) ?_
 have hnum:(⟨(inoX1 b n).cells (.slice none 0 0) (.slice none 0 0) (.slice none 0 0)⟩:Array Value)[0]? = some (.int .u64 (n:Nat)):=XN.g0
 refine AAZ (AIN ok.mono.mono db.addR.addR io.xa io.nd io.ll w hnum fun lv cs y' h d A w=>?_)
 obtain⟨⟨la,lc,hlv⟩,_⟩:=d.len
 rw[hlv,Aw,←hlv]
 have k1:∀ V P F Y' Y X:Res,V+(P+(Y'+(F+(Y+X))))=V+(P+(F+((Y'+Y)+X))):=by intros;ac_rfl
 refine ADy d.addL A.addL io.ll io.inl (w.cast (k1 _ _ _ _ _ _)) fun rec1 rv xv cs r z h dr dx A w=>?_
 obtain⟨⟨xa,xc,hxv⟩,_⟩:=dx.len
 have cf:=Fj io.con
 refine AE8 ok db io.len dr.addR.addL io.rl io.con c lmo l32 io.sec io.blk (by rw[cf.2.1];show leL b 28 4+leL b 116 2*4294967296<18446744073709551616;omega) ⟨_,_,_,hxv⟩ w fun cv z' h dcv ok' w=>?_
 exact K cv xv cs _ h dcv.addL dx.vx.addL.addR A.mono.mono.mono ok' (w.cast (Kq2 _ _ _ _))
theorem AGI {X:XN}(hns:X.at_.2<4000000000∧X.ct.2<4000000000∧X.mt.2<4000000000∧X.cr.2<4000000000)(i:Nat)(hi:i<4):∃ a c:Int,((BY X.at_++(BY X.ct++(BY X.mt++BY X.cr))).drop (i*2)).take 2=[.int .i64 a,.int .i64 c]∧c<1000000000:=by
 have:i=0∨i=1∨i=2∨i=3:=by omega
 rcases this with rfl|rfl|rfl|rfl<;>refine⟨_,_,rfl,?_⟩<;>omega
theorem AB5 {X:XN}(ok:v.OK x)(hns:X.at_.2<4000000000∧X.ct.2<4000000000∧X.mt.2<4000000000∧X.cr.2<4000000000)
  (w:AN (v.res+(pts x8 (.cells ⟨X.cells (.slice none 0 0) (.slice none 0 0) (.slice none 0 0)⟩ 81 (0,0))+(fR x4 x5 x6 bv+((pts tb (.cells ⟨BY X.at_++(BY X.ct++(BY X.mt++BY X.cr))⟩ 60 (0,0))+y)+x)))) h)
  (K:∀ y h,AN (v.res+(pts x8 (.cells ⟨X.cells (.slice none 0 0) (.slice none 0 0) (.slice none 0 0)⟩ 81 (0,0))+(fR x4 x5 x6 bv+(y+x)))) h →
   AC 7 (Pt x8) fun x130=>AB false 1 x130 h fun x131=>AD .and x131 (.int .u64 268435456) fun x132=>AD .neq x132 (.int .u64 0) fun x133=>AC 21 (Pt x8) fun x134=>AJ 1 x134 x133 h fun h=>AB false 1 (Pt x5) h fun x136=>AB false 1 (Pt x6) h fun x137=>Call TP 178 [Pt v.vb,Pt x8,x136,x137] h fun x138 h=>Ab x138 fun x140=>KV Q (Pt v.vb) (.int .u64 (n:Nat)) (Pt x4) (Pt x5) (Pt x8) x138 x140 (.slice none 0 0) (.int .i64 0) h) :
  RE Q (Pt v.vb) (.int .u64 (n:Nat)) (Pt x4) (Pt x5) (Pt x6) (Pt x8) (.slice (some ⟨tb,0,none⟩) 4 4) (.int .i64 ((4:Nat):Int)) (.int .i64 ((0:Nat):Int)) h:=by
 unfold RE
 refine Ba (fun m u h'=>∃ i y,m=4-i∧i≤4∧u=.int .i64 (i:Nat)∧AN (v.res+(pts x8 (.cells ⟨X.cells (.slice none 0 0) (.slice none 0 0) (.slice none 0 0)⟩ 81 (0,0))+(fR x4 x5 x6 bv+((pts tb (.cells ⟨BY X.at_++(BY X.ct++(BY X.mt++BY X.cr))⟩ 60 (0,0))+y)+x)))) h') 4 ⟨0,y,rfl,by omega,rfl,w⟩ ?_
 rintro rec m u h' ⟨i,y,rfl,hi,rfl,w⟩ hrec
 unfold P0 Ucm Umk Ufl Ucl Uld
 rw[AT]
 refine AX (fun hc=>?_) (fun hc=>K _ h' w)
 have hi4:i<4:=by omega
 obtain⟨a,c,hac,hcl⟩:=AGI hns i hi4
 have d:Vec 60 2 (.slice (some ⟨tb,0,none⟩) 4 4) 4 (BY X.at_++(BY X.ct++(BY X.mt++BY X.cr))) (pts tb (.cells ⟨BY X.at_++(BY X.ct++(BY X.mt++BY X.cr))⟩ 60 (0,0))):=.own' (A07 _) rfl rfl
 refine (d.vx.addL.addL.addR.addR.addR:VecX 60 2 _ 4 _ _).agg w hi4 ?_
 rw[hac]
 refine Ah w Jo rfl fun tb2 h w=>?_
 refine AL w ⟨[.int .i64 a,.int .i64 c]⟩ rfl rfl (by simp) rfl fun h w=>?_
 have g1:(⟨[.int .i64 a,.int .i64 c]⟩:Array Value)[1]? = some (.int .i64 c):=rfl
 have e1:decide (c<1000000000)=true:=A04 hcl
 have f1:(AD .add (.int .i64 (i:Nat)) (.int .i64 1))=fun k=>k (.int .i64 (i+1:Nat)):=funext fun k=>by
  rw[BN (n:=1),Ci (by omega)]
 simp (disch:=omega) only[go_sem,AF w,g1,f1]
 rw[e1]
 refine Al (Da ?_)
 have k1:∀ B V P F T Y X:Res,B+(V+(P+(F+((T+Y)+X))))=V+(P+(F+((T+(B+Y))+X))):=by intros;ac_rfl
 exact hrec (4-(i+1)) _ _ ⟨i+1,_,rfl,by omega,rfl,w.cast (k1 _ _ _ _ _ _ _)⟩ (by omega)
theorem ADw (ok:v.OK x)(db:RdX x bv b)(io:InoOK v.I v.nb b n X' C l cl)(c:Clm cl v.ow o')
  (w:AN (v.res+(pts x8 (.cells ⟨(Iy b n).cells (.slice none 0 0) (.slice none 0 0) (.slice none 0 0)⟩ 81 (0,0))+(fR x4 x5 x6 bv+(y+x)))) h)
  (K:∀ cv xv cs z h,RdX z cv C→VecX 86 2 xv (xaOf l).length cs z→AtV z cs (xaOf l)→(v.own o').OK x→AN ((v.own o').res+(z+x)) h→Q (.agg ⟨X'.cells cv (.slice none 0 0) xv⟩) h) :
  Gj Q (Pt v.vb) (.int .u64 (n:Nat)) (Pt x4) (Pt x5) (Pt x6) (Pt x8) h:=by
 have lmo:leL b 0 2<65536:=Ag
 have hlen:=io.len
 have hmode:(Iy b n).mode=leL b 0 2:=rfl
 have hk:kindL (leL b 0 2)≠0:=io.kind
 unfold Gj Ufl Ucl Uld
 rw[AIq]
 refine AW w XN.g1 ?_
 refine E9 (YT lmo ?_)
 have e1:decide ((kindL (leL b 0 2):Int)≠0)=true:=A04 (by omega)
 rw[A3,hmode,e1]
 refine Al (Da ?_)
 refine AW w (by rfl) ?_
 refine DF (p:=20) (n:=4) db.addR.addR.addR.addR w (by decide) (by decide) (by omega) ?_
 rw[io.del,Aa,show decide (((0:Nat):Int)=0)=true from rfl]
 refine Al (Da ?_)
 have hx8:=w.find (b:=x8)
 have ht:=XN.times (X:=Iy b n) (cv:=.slice none 0 0) (ev:=.slice none 0 0) (xv:=.slice none 0 0)
 have hsz:∀ o,o≤21→o+2≤(⟨(Iy b n).cells (.slice none 0 0) (.slice none 0 0) (.slice none 0 0)⟩:Array Value).size:=fun o ho=>by rw[XN.size_];omega
 rw[AIq,Am hx8 (hsz 8 (by omega)),ht.1,AIq,Am hx8 (hsz 10 (by omega)),ht.2.1,AIq,Am hx8 (hsz 12 (by omega)),ht.2.2.1,AIq,Am hx8 (hsz 14 (by omega)),ht.2.2.2]
 refine QK w fun tb h w=>?_
 rw[Aw]
 exact AB5 ok ⟨io.ns.1,io.ns.2.1,io.ns.2.2.1,io.ns.2.2.2⟩ (w.cast (AK8 _ _ _ _ _ _)) fun y h w=>AFF ok db io c w K
theorem Zv:AG TP 30=some (.slice none 0 0):=by kernel_rfl
theorem AEn (ok:v.OK x)(h1:1≤n)(h2:n≤v.ipg)(hit:itL v.I*4096+v.ipg*256≤v.I.length)(io:InoOK v.I v.nb (rawL v.I n) n X' C l cl)(c:Clm cl v.ow o')(w:AN (v.res+(y+x)) h)
  (K:∀ cv xv cs z h,RdX z cv C→VecX 86 2 xv (xaOf l).length cs z→AtV z cs (xaOf l)→(v.own o').OK x→AN ((v.own o').res+(z+(y+x))) h→Q (.agg ⟨X'.cells cv (.slice none 0 0) xv⟩) h) :
  AES (Pt v.vb) (.int .u64 (n:Nat)) h Q:=by
 unfold AES Umk Ucl Unf Ucm Uld Ucg
 refine Ah w Cy rfl fun x4 h w=>?_
 have w:AN (v.res+(pts x4 (.cells ⟨If.cells (.slice none 0 0) (.slice none 0 0) (.slice none 0 0)⟩ 81 (0,0))+(y+x))) h:=AN.cast w (Kq1 _ _ _)
 refine Jj (AAg (ok.mono (y:=y)) h1 h2 hit w fun bv db=>?_)
 obtain⟨ba,bc',hbv⟩:=db.len
 have hlen:=io.len
 refine Ah w Zv rfl fun x5 h w=>?_
 refine AL w ⟨[bv]⟩ (by rw[hbv];rfl) (by rw[hbv];rfl) (by simp) (by rw[hbv];rfl) fun h w=>?_
 refine Ah w Cb rfl fun x6 h w=>?_
 refine AL w ⟨[.int .u64 0]⟩ rfl rfl (by simp) rfl fun h w=>?_
 have e0:decide ((256:Int)>128)=true:=rfl
 simp (disch:=omega) only[go_sem,AF w,e0]
 refine DF (p:=128) (n:=2) db.addR.addR.addR.addR w (by decide) (by decide) (by omega) ?_
 rw[io.ex]
 refine AL w ⟨[.int .u64 ((24:Nat):Int)]⟩ rfl rfl (by simp) rfl fun h w=>?_
 refine AW (u:=.int .u64 ((24:Nat):Int)) w (by rfl) ?_
 have f1:(AD .add (.int .u64 128) (.int .u64 ((24:Nat):Int)))=fun k=>k (.int .u64 ((152:Nat):Int)):=funext fun k=>by rw[A0];rfl
 have f2:(AD .leq (.int .u64 ((152:Nat):Int)) (.int .u64 256))=fun k=>k (.bool true):=funext fun k=>by rw[BW];rfl
 have f3:(AD .rem (.int .u64 ((24:Nat):Int)) (.int .u64 4))=fun k=>k (.int .u64 ((0:Nat):Int)):=funext fun k=>by rw[LI (by decide)]
 have f4:(AD .eql (.int .u64 ((0:Nat):Int)) (.int .u64 0))=fun k=>k (.bool true):=funext fun k=>by rw[Aa];rfl
 simp only[f1]
 refine AW w VS.g7 ?_
 simp only[f2,Cq]
 refine AW (u:=.int .u64 ((24:Nat):Int)) w (by rfl) ?_
 simp only[f3,f4]
 refine Al (Da ?_)
 have k1:∀ P6 P5 V P4 X:Res,P6+(P5+(V+(P4+X)))=(P6+(P5+(P4+V)))+(0+X):=by intros;rw[Res.zero_add];ac_rfl
 refine AEO db (by omega) (fun x8 y' h w=>?_) (w.cast (k1 _ _ _ _ _))
 have k2:∀ P8 P6 P5 P4 V Y X:Res,(P8+(P6+(P5+(P4+V))))+(Y+X)=V+(P8+((P6+(P5+P4))+(Y+X))):=by intros;ac_rfl
 exact ADw (ok.mono (y:=y)) db io c (w.cast (k2 _ _ _ _ _ _ _)) fun cv xv cs z h dc dx A _ w=>K cv xv cs z h dc dx A (ok.own c.len) w
end
end
section
variable {h:H} {k:Value→Prop} {kt Q:Kt} {x y z r:Res} {v:VS}
attribute [local irreducible] AK Az AQ BB Ae AY AH AM VS.cells XN.cells
abbrev EN:=Bs×Nat×Nat
def EN.cells (e:EN):List Value:=[str e.1,.int .u64 (e.2.1:Nat),.int .u64 (e.2.2:Nat)]
def entC (l:List EN):List Value:=l.flatMap EN.cells
theorem Fr:AG TP 114=some (.agg ⟨[str [],.int .u64 0,.int .u64 0]⟩):=by kernel_rfl
inductive EntR:Bs→List EN→Prop
 | nil:EntR [] []
 | skip {b:Bs} {l:List EN}:8≤b.length→8≤leL b 4 2→leL b 4 2%4=0→leL b 4 2≤b.length→8+leL b 6 1≤leL b 4 2→leL b 0 4=0→EntR (b.drop (leL b 4 2)) l→EntR b l
 | step {b:Bs} {l:List EN}:8≤b.length→8≤leL b 4 2→leL b 4 2%4=0→leL b 4 2≤b.length→8+leL b 6 1≤leL b 4 2→leL b 0 4≠0→0<leL b 6 1→EntR (b.drop (leL b 4 2)) l→EntR b (((b.drop 8).take (leL b 6 1),leL b 0 4,leL b 7 1)::l)
theorem EntR.len:∀ {b:Bs} {l:List EN},EntR b l→l.length≤b.length
 | _,_,.nil=>A07 _
 | _,_,.skip _ _ _ _ _ _ e=>by
  have:=e.len
  rw[A27] at this
  omega
 | _,_,.step _ _ _ _ _ _ _ e=>by
  have:=e.len
  rw[A27] at this
  rw[A19]
  omega
theorem EntR.inv:∀ {b:Bs} {l:List EN},EntR b l→b≠[]→8≤b.length∧8≤leL b 4 2∧leL b 4 2%4=0∧leL b 4 2≤b.length∧8+leL b 6 1≤leL b 4 2 ∧
  ((leL b 0 4=0∧EntR (b.drop (leL b 4 2)) l)∨(leL b 0 4≠0∧0<leL b 6 1∧∃ l2,l=((b.drop 8).take (leL b 6 1),leL b 0 4,leL b 7 1)::l2∧EntR (b.drop (leL b 4 2)) l2))
 | _,_,.nil,h=>absurd rfl h
 | _,_,.skip h1 h2 h3 h4 h5 h6 e,_=>⟨h1,h2,h3,h4,h5,.inl ⟨h6,e⟩⟩
 | _,_,.step h1 h2 h3 h4 h5 h6 h7 e,_=>⟨h1,h2,h3,h4,h5,.inr ⟨h6,h7,_,rfl,e⟩⟩
section
variable {X:XN} {cv ev xv bv x0:Value} {b:Bs} {es:List Value} {ib n:Nat} {l:List EN}
theorem AHJ (d:RdX x bv b)(e:EntR b l)(hb:b.length<1000000)(dv:Vec 114 3 ev n es r)(hn:n<100000000)(w:AN (pts ib (.cells ⟨X.cells cv ev xv⟩ 81 (0,0))+(r+x)) h)
  (K:∀ ev r h,Vec 114 3 ev (n+l.length) (es++entC l) r→AN (pts ib (.cells ⟨X.cells cv ev xv⟩ 81 (0,0))+(r+x)) h→Q (.tuple #[]) h):ABo x0 (Pt ib) bv h Q:=by
 have hel0:l.length≤b.length:=e.len
 unfold ABo XL
 refine Ba (fun m u h'=>∃ bv b l' n' es' ev r,m=b.length∧u=bv∧RdX x bv b∧EntR b l'∧b.length<1000000∧Vec 114 3 ev n' es' r∧n'+l'.length=n+l.length∧es'++entC l'=es++entC l∧AN (pts ib (.cells ⟨X.cells cv ev xv⟩ 81 (0,0))+(r+x)) h') b.length ⟨bv,b,l,n,es,ev,r,rfl,rfl,d,e,hb,dv,rfl,rfl,w⟩ ?_
 rintro rec m u h' ⟨bv,b,l',n',es',ev,r,rfl,rfl,d,e,hb',dv,hl,hes,w⟩ hrec
 have hel:=e.len
 obtain⟨ba,bc',hbv⟩:=d.len
 unfold AJk Ucm Ucl Ucf
 rw[hbv,Aw,Ao,←hbv]
 refine AX (fun hc=>?_) (fun hc=>?_)
 ·have hbn:b≠[]:=fun e0=>by subst e0;simp at hc
  obtain⟨g1,g2,g3,g4,g5,hor⟩:=e.inv hbn
  have d3:RdX (pts ib (.cells ⟨X.cells cv ev xv⟩ 81 (0,0))+(r+x)) u b:=d.addR.addR
  have l4:leL b 4 2<65536:=Ag
  have l6:leL b 6 1<256:=Ag
  have l0:leL b 0 4<4294967296:=Ag
  have e1:decide ((b.length:Int)<8)=false:=A08 (by omega)
  have e2:decide ((leL b 4 2:Int)<8)=false:=A08 (by omega)
  have e3:(AD .rem (.int .u64 (leL b 4 2:Nat)) (.int .u64 4))=fun k=>k (.int .u64 ((0:Nat):Int)):=funext fun k=>by rw[LI (by decide),g3]
  have e4:(AD .neq (.int .u64 ((0:Nat):Int)) (.int .u64 0))=fun k=>k (.bool false):=funext fun k=>by rw[A3];rfl
  have e5:decide ((leL b 4 2:Int)>(b.length:Int))=false:=A08 (by omega)
  have f8:(AD .add (.int .u64 8) (.int .u64 (leL b 6 1:Nat)))=fun k=>k (.int .u64 ((8+leL b 6 1:Nat):Int)):=funext fun k=>by
   rw[A0,←CU (show 8+leL b 6 1<18446744073709551616 by omega)];rfl
  have e6:decide (((8+leL b 6 1:Nat):Int)>(leL b 4 2:Int))=false:=A08 (by omega)
  refine DF (p:=4) (n:=2) d3 w (by decide) (by decide) (by omega) ?_
  refine DF (p:=6) (n:=1) d3 w (by decide) (by decide) (by omega) ?_
  refine DF (p:=7) (n:=1) d3 w (by decide) (by decide) (by omega) ?_
  rw[hbv,Aw,AT,e1,Cr,AT,e2,Cr]
  simp only[e3,e4,Cr]
  rw[Aw,DO,CU (by omega),Ao,e5,Cr]
  simp only[f8]
  rw[Ao,e6,←hbv]
  unfold HW Unf Ucl Ucm Uff Uld Ukp
  rw[AU]
  refine DF (p:=0) (n:=4) d3 w (by decide) (by decide) (by omega) ?_
  rw[A3]
  have hdl:(b.drop (leL b 4 2)).length=b.length-leL b 4 2:=A27
  refine AX (fun hc0=>?_) (fun hc0=>?_)
  ·rcases hor with⟨h0,_⟩|⟨h0,hp,l2,hl2,hr⟩
   ·omega
   ·subst hl2
    have e7:decide ((leL b 6 1:Int)>0)=true:=A04 (by omega)
    rw[Ao,e7,AIw]
    refine AW w XN.g0 ?_
    refine Al (Da ?_)
    rw[AIw]
    refine AW w XN.g19 ?_
    simp only[f8]
    refine d.slice (i:=8) (j:=8+leL b 6 1) Ec BA (by omega) (by omega) fun nv dn=>?_
    rw[A49,A62] at dn
    refine dn.addR.addR.str w ?_
    refine Au Fr rfl (rs:=EN.cells ((b.drop 8).take (leL b 6 1),leL b 0 4,leL b 7 1)) rfl ?_
    refine CW dv (w.cast (Kq1 _ _ _)) Fr rfl rfl (by omega) (by omega) rfl fun b14 h w=>?_
    refine AIn w XN.g19 ?_
    have hll:=A76 List.length hes
    simp only[A19] at hl hel
    refine B0 dv w Fr rfl rfl rfl (by omega) (by omega) fun ev' r' h dv' w=>?_
    rw[AIw]
    obtain⟨⟨a',c',hev⟩,_⟩:=dv'.len
    refine AL w ⟨X.cells cv ev' xv⟩ (by rw[hev];exact XN.set19) (by rw[hev];rfl) (by rw[XN.size_];omega) (by rw[hev];rfl) fun h w=>?_
    refine d.slice (i:=leL b 4 2) (j:=b.length) BA rfl g4 (A07 _) fun u' d'=>?_
    rw[A38] at d'
    refine hrec _ _ _ ⟨u',b.drop (leL b 4 2),l2,n'+1,_,ev',r',rfl,rfl,d',hr,by omega,dv',by omega,?_,w.cast (Kq1 _ _ _)⟩ (by omega)
    rw[←hes,A12]
    rfl
  ·rcases hor with⟨h0,hr⟩|⟨h0,_⟩
   ·refine d.slice (i:=leL b 4 2) (j:=b.length) BA rfl g4 (A07 _) fun u' d'=>?_
    rw[A38] at d'
    exact hrec _ _ _ ⟨u',b.drop (leL b 4 2),l',n',es',ev,r,rfl,rfl,d',hr,by omega,dv,hl,hes,w⟩ (by omega)
   ·omega
 ·have hb0:b=[]:=A69.1 (by omega)
  subst hb0
  have hl0:l'=[]:=A69.1 (by simpa using hel)
  subst hl0
  rw[show es'=es++entC l by simpa[entC] using hes] at dv
  rw[show n'=n+l.length by simpa using hl] at dv
  exact K ev r h' dv w
end
end
end Go.Proofs.YtollddkkdgoonaaGreatDoor
