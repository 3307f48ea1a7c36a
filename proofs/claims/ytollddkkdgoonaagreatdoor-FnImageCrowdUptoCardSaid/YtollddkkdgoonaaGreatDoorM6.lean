/- A part of a proof over images that are written and read. No condition; a step. -/
import Derived.Test.YtollddkkdgoonaaGreatDoorM5
namespace Go.Proofs.YtollddkkdgoonaaGreatDoor
open Go
set_option linter.unusedVariables false
set_option linter.unusedSimpArgs false
section
set_option maxRecDepth 100000
def ACx (x0:Value)(h:H)(Q:Kt):Prop:=
 BB 188 (x0:Value).cells h fun x1 h=>AC 0 x1 fun x4=>AB false 1 x4 h fun x5=>LH .not x5 fun x6=>AK x6
 (Q (.int .u64 0) h)
 (AC 1 x1 fun x7=>AB false 1 x7 h fun x8=>AD .lss x8 (.int .i64 (-2147483648)) fun a0=>AK a0
 (Q (.int .u64 2147483648) h)
 (AD .gtr x8 (.int .i64 15032385535) fun a2=>AK a2
 (Q (.int .u64 15032385535) h)
 (AV .u64 x8 fun a4=>AC 2 x1 fun a5=>AB false 1 a5 h fun a6=>AV .u64 a6 fun a7=>AD .shl a7 (.int .u64 34) fun a8=>AD .or a4 a8 fun a9=>Q a9 h)))
theorem Je (x0:Value)(h:H)(Q:Kt)(x:ACx x0 h Q):Call TP 153 [x0] h Q:=Bb nT Tryz.func153 (by kernel_rfl) x
def ACg (x0:Value)(h:H)(Q:Kt):Prop:=
 AE x0 fun x3=>AC 2 x3 fun x4=>AJ 1 x4 (.int .i64 96) h fun h=>AE x0 fun x6=>AC 3 x6 fun x7=>AJ 1 x7 (.int .i64 4060) h fun h=>Q (.tuple #[]) h
theorem Zh (x0:Value)(h:H)(Q:Kt)(x:ACg x0 h Q):Call TP 154 [x0] h Q:=Bb nT Tryz.func154 (by kernel_rfl) x
def AC6 (x0 x1 x2:Value)(h:H)(Q:Kt):Prop:=
 Call TP 196 [x1] h fun a2 h=>AO a2 0 fun a3=>AO a2 1 fun a4=>Ae (.struct [(0,1),(1,1),(2,1)]) (AG TP 291) [(1,a3),(0,a4),(2,x2)] fun a8=>AQ (AG TP 291) 291 h fun x8 h=>AJ 3 x8 a8 h fun h=>Call TP 160 [x8] h fun a9 h=>Call TP 197 [x8] h fun b0 h=>AD .add a9 b0 fun b1=>AE x0 fun b3=>AC 2 b3 fun b4=>AB false 1 b4 h fun b5=>AD .geq b5 b1 fun b7=>AK b7
 (AE x0 fun c0=>AC 0 c0 fun c1=>AB false 1 c1 h fun c2=>AB true 3 x8 h fun c3=>AH (.arr 3) 291 (AG TP 291) 3 1 [(0,c3)] h fun c4 h=>((AB false 1 c1 h fun v=>v=c2)∧AM 291 (AG TP 291) 3 48 c2 c4 h fun c5 h=>AE x0 fun c6=>AC 0 c6 fun c7=>AJ 1 c7 c5 h fun h=>AE x0 fun c9=>AC 2 c9 fun d0=>AB false 1 d0 h fun d1=>AD .sub d1 b1 fun d3=>AE x0 fun d4=>AC 2 d4 fun d5=>AJ 1 d5 d3 h fun h=>Q (.bool true) h))
 (AE x0 fun d7=>AC 3 d7 fun d8=>AB false 1 d8 h fun d9=>AD .geq d9 b1 fun g1=>AK g1
 (AE x0 fun g4=>AC 1 g4 fun g5=>AB false 1 g5 h fun g6=>AB true 3 x8 h fun g7=>AH (.arr 3) 291 (AG TP 291) 3 1 [(0,g7)] h fun g8 h=>((AB false 1 g5 h fun v=>v=g6)∧AM 291 (AG TP 291) 3 48 g6 g8 h fun g9 h=>AE x0 fun i0=>AC 1 i0 fun i1=>AJ 1 i1 g9 h fun h=>AE x0 fun i3=>AC 3 i3 fun i4=>AB false 1 i4 h fun i5=>AD .sub i5 b1 fun i7=>AE x0 fun i8=>AC 3 i8 fun i9=>AJ 1 i9 i7 h fun h=>Q (.bool true) h))
 (Q (.bool false) h))
theorem ZA (x0 x1 x2:Value)(h:H)(Q:Kt)(x:AC6 x0 x1 x2 h Q):Call TP 155 [x0,x1,x2] h Q:=Bb nT Tryz.func155 (by kernel_rfl) x
def VH (Q:Kt)(r1:R1)(r2:R1)(x0 x1 x5 x7 x8 x9:Value)(h:H):Prop:=
 AB false 1 x5 h fun j5=>AE j5 fun j6=>AC 1 j6 fun j7=>AB false 1 j7 h fun j8=>AB false 1 x5 h fun k0=>AE k0 fun k1=>AC 1 k1 fun k2=>AB false 1 k2 h fun k3=>AD .sub x9 (.int .i64 1) fun k5=>AB false 1 x5 h fun k6=>AE k6 fun k7=>AC 1 k7 fun k8=>AB false 1 k8 h fun k9=>AD .sub x9 (.int .i64 1) fun m1=>AI (.slice 3) k9 m1 fun m2=>AB true 3 m2 h fun m3=>AB false 1 x5 h fun m4=>AE m4 fun m5=>AC 1 m5 fun m6=>AB false 1 m6 h fun m7=>AI (.slice 3) m7 x9 fun m9=>AB true 3 m9 h fun n0=>AI (.slice 3) j8 x9 fun n1=>AJ 3 n1 m3 h fun h=>AI (.slice 3) k3 k5 fun n2=>AJ 3 n2 n0 h fun h=>AD .sub x9 (.int .i64 1) fun j4=>r2 j4 h
def Xj (Q:Kt)(r1:R1)(r2:R1)(x0 x1 x5 x7 x8 x9:Value)(h:H):Prop:=
 AD .gtr x9 (.int .i64 0) fun i5=>Az i5 true (AD .sub x9 (.int .i64 1) fun j0=>Bj TP x7 [x9,j0] h fun j1 h=>AK j1
 (VH Q r1 r2 x0 x1 x5 x7 x8 x9 h)
 (AD .add x8 (.int .i64 1) fun i2=>r1 i2 h)) (AD .add x8 (.int .i64 1) fun i2=>r1 i2 h)
def ACv (Q:Kt)(r1:R1)(x0 x1 x5 x7 x8 x9:Value)(h:H):Prop:=A1 (fun r2 x9 h=>Xj Q r1 r2 x0 x1 x5 x7 x8 x9 h) x9 h
def XU (Q:Kt)(r1:R1)(x0 x1 x5 x7 x8:Value)(h:H):Prop:=
 AB false 1 x5 h fun g5=>AE g5 fun g6=>AC 1 g6 fun g7=>AB false 1 g7 h fun g8=>Ab g8 fun g9=>AD .lss x8 g9 fun i0=>AK i0
 (ACv Q r1 x0 x1 x5 x7 x8 x8 h)
 (AQ (AG TP 205) 205 h fun a0 h=>AZ (.arr 4096 1) a0 (some (.int .i64 0)) none fun n3=>Call TP 170 [n3,(.int .u32 3925999616)] h fun n4 h=>AZ (.arr 4096 1) a0 (some (.int .i64 4)) none fun n5=>Call TP 170 [n5,(.int .u32 1)] h fun n6 h=>AZ (.arr 4096 1) a0 (some (.int .i64 8)) none fun n7=>Call TP 170 [n7,(.int .u32 1)] h fun n8 h=>AB false 1 x5 h fun n9=>AE n9 fun o0=>AC 1 o0 fun o1=>AB false 1 o1 h fun o2=>AZ (.arr 4096 1) a0 (some (.int .i64 32)) none fun o3=>Call TP 169 [o2,o3,(.int .u16 32)] h fun o4 h=>Call TP 100 [x0] h fun o6 h=>AE x1 fun o8=>AC 10 o8 fun o9=>AB false 1 o9 h fun p0=>AD .eql p0 (.int .u32 0) fun p1=>AK p1
 (AE x1 fun p4=>AC 10 p4 fun p5=>AJ 1 p5 o6 h fun h=>AE x1 fun p7=>AC 11 p7 fun p8=>AB false 1 p8 h fun p9=>AD .add p9 (.int .u32 1) fun q0=>AE x1 fun q1=>AC 11 q1 fun q2=>AJ 1 q2 q0 h fun h=>AZ (.arr 4096 1) a0 none none fun t3=>Call TP 98 [x0,t3] h fun t4 h=>AO t4 0 fun t5=>AO t4 1 fun t6=>Bq .iface true true h t6 .nilIface fun t8=>AK t8
 (Q t6 h)
 (Q .nilIface h))
 (AE x1 fun q5=>AC 10 q5 fun q6=>AB false 1 q6 h fun q7=>Call TP 101 [x0,q7] h fun q8 h=>False ))
def AB7 (Q:Kt)(x0 x1 x5 x7 x8:Value)(h:H):Prop:=A1 (fun r1 x8 h=>XU Q r1 x0 x1 x5 x7 x8 h) x8 h
def LR (Q:Kt)(x0 x1 x5 g2:Value)(h:H):Prop:=
 AK g2
 (AB7 Q x0 x1 x5 (.func (.func 198) #[] #[x5]) (.int .i64 1) h)
 (Q .nilIface h)
def J4 (Q:Kt)(x0 x1 x5:Value)(h:H):Prop:=
 AB false 1 x5 h fun d0=>AE d0 fun d1=>AC 1 d1 fun d2=>AB false 1 d2 h fun d3=>Ab d3 fun d4=>AD .neq d4 (.int .i64 0) fun d5=>Az d5 false (AE x1 fun d8=>AC 10 d8 fun d9=>AB false 1 d9 h fun g0=>AD .neq g0 (.int .u32 0) fun g1=>LR Q x0 x1 x5 g1 h) (LR Q x0 x1 x5 (.bool true) h)
def UW (x0 x1 x2:Value)(h:H)(Q:Kt):Prop:=
 BB 287 (x2:Value).cells h fun x5 h=>AB false 1 x5 h fun a4=>AE a4 fun a5=>AC 0 a5 fun a6=>AB false 1 a6 h fun a7=>Ab a7 fun a8=>AD .neq a8 (.int .i64 0) fun a9=>AK a9
 (AY (AG TP 5) 1 1 5 (.int .i64 104) (.int .i64 104) h fun b1 h=>AE x1 fun b2=>AC 16 b2 fun b3=>AJ 1 b3 b1 h fun h=>AE x1 fun b5=>AC 16 b5 fun b6=>AB false 1 b6 h fun b7=>AZ (.slice 1) b7 (some (.int .i64 0)) none fun b8=>Call TP 170 [b8,(.int .u32 3925999616)] h fun b9 h=>AB false 1 x5 h fun c0=>AE c0 fun c1=>AC 0 c1 fun c2=>AB false 1 c2 h fun c3=>AE x1 fun c5=>AC 16 c5 fun c6=>AB false 1 c6 h fun c7=>AZ (.slice 1) c7 (some (.int .i64 4)) none fun c8=>Call TP 169 [c3,c8,(.int .u16 0)] h fun c9 h=>J4 Q x0 x1 x5 h)
 (J4 Q x0 x1 x5 h)
def AGP (Q:Kt)(r:RS):Nat→DJ:=tab [(480402,.jn fun e h=>VH Q (u1 (r 938)) (u1 (r 60050)) (e 0) (e 1) (e 5) (e 7) (e 8) (e 9) h),
 (120101,.lp [0,1,5,7,8] [9] fun s e l h=>Xj Q (u1 (r 938)) (u1 s) (e 0) (e 1) (e 5) (e 7) (e 8) (gl l 0) h),
 (1877,.lp [0,1,5,7] [8] fun s e l h=>XU Q (u1 s) (e 0) (e 1) (e 5) (e 7) (gl l 0) h),
 (58,.jn fun e h=>LR Q (e 0) (e 1) (e 5) (e 52) h),
 (14,.jn fun e h=>J4 Q (e 0) (e 1) (e 5) h)]
theorem Zo (x0 x1 x2:Value)(h:H)(Q:Kt)(x:UW x0 x1 x2 h Q):Call TP 156 [x0,x1,x2] h Q:=Bb (AGP Q) Tryz.func156 (by kernel_rfl) x
def ACF (x0:Value)(h:H)(Q:Kt):Prop:=
 AI (.slice 1) x0 (.int .i64 0) fun x4=>AB false 1 x4 h fun x5=>AV .u32 x5 fun x6=>AI (.slice 1) x0 (.int .i64 1) fun x8=>AB false 1 x8 h fun x9=>AV .u32 x9 fun a0=>AD .shl a0 (.int .u64 8) fun a1=>AD .or x6 a1 fun a2=>AI (.slice 1) x0 (.int .i64 2) fun a4=>AB false 1 a4 h fun a5=>AV .u32 a5 fun a6=>AD .shl a6 (.int .u64 16) fun a7=>AD .or a2 a7 fun a8=>AI (.slice 1) x0 (.int .i64 3) fun b0=>AB false 1 b0 h fun b1=>AV .u32 b1 fun b2=>AD .shl b2 (.int .u64 24) fun b3=>AD .or a8 b3 fun b4=>Q b4 h
theorem Tc (x0:Value)(h:H)(Q:Kt)(x:ACF x0 h Q):Call TP 158 [x0] h Q:=Bb nT Tryz.func158 (by kernel_rfl) x
def ACZ (x0:Value)(h:H)(Q:Kt):Prop:=
 AE x0 fun x4=>AC 0 x4 fun x5=>AB false 1 x5 h fun x6=>CL x6 fun x7=>AD .add x7 (.int .i64 3) fun x8=>AD .andNot x8 (.int .i64 3) fun x9=>AD .add x9 (.int .i64 16) fun a0=>Q a0 h
theorem Tp (x0:Value)(h:H)(Q:Kt)(x:ACZ x0 h Q):Call TP 160 [x0] h Q:=Bb nT Tryz.func160 (by kernel_rfl) x
def KU (Q:Kt)(r1:R4)(a9 b0 x6 x7 x8 b1:Value)(h:H):Prop:=
 AD .lss b1 b0 fun b2=>AK b2
 (AI (.slice 3) a9 b1 fun b3=>AB true 3 b3 h fun b4=>AQ (AG TP 291) 291 h fun a0 h=>AJ 3 a0 b4 h fun h=>Call TP 197 [a0] h fun b5 h=>AV .u16 b5 fun b8=>AD .sub x6 b8 fun b9=>AC 0 a0 fun c1=>AB false 1 c1 h fun c2=>CL c2 fun c3=>AV .u8 c3 fun c4=>AI (.slice 1) x7 (.int .i64 0) fun c5=>AJ 1 c5 c4 h fun h=>AC 1 a0 fun c7=>AB false 1 c7 h fun c8=>AI (.slice 1) x7 (.int .i64 1) fun c9=>AJ 1 c9 c8 h fun h=>AZ (.slice 1) x7 (some (.int .i64 2)) none fun d1=>Call TP 205 [d1,b9] h fun d3 h=>AZ (.slice 1) x7 (some (.int .i64 8)) none fun d5=>AC 2 a0 fun d6=>AB false 1 d6 h fun d7=>Ab d7 fun d8=>AV .u32 d8 fun d9=>Call TP 170 [d5,d9] h fun g0 h=>AZ (.slice 1) x7 (some (.int .i64 12)) none fun g2=>AC 0 a0 fun g3=>AB false 1 g3 h fun g4=>AC 2 a0 fun g5=>AB false 1 g5 h fun g6=>Call TP 206 [g4,g6] h fun g7 h=>Call TP 170 [g2,g7] h fun g8 h=>AZ (.slice 1) x7 (some (.int .i64 16)) none fun i0=>AC 0 a0 fun i1=>AB false 1 i1 h fun i2=>DI 1 i0 i2 h fun i3 h=>Call TP 160 [a0] h fun i5 h=>AZ (.slice 1) x7 (some i5) none fun i6=>Ab x8 fun i9=>AD .sub i9 b5 fun j1=>AZ (.slice 1) x8 (some j1) none fun j2=>AC 2 a0 fun j3=>AB false 1 j3 h fun j4=>DI 1 j2 j4 h fun j5 h=>Ab x8 fun j8=>AD .sub j8 b5 fun k0=>AZ (.slice 1) x8 none (some k0) fun k1=>AD .add b1 (.int .i64 1) fun k2=>r1 b9 i6 k1 k2 h)
 (Q (.tuple #[]) h)
def V6 (Q:Kt)(a9 b0 x6 x7 x8 b1:Value)(h:H):Prop:=AA6 (fun r1 x6 x7 x8 b1 h=>KU Q r1 a9 b0 x6 x7 x8 b1 h) x6 x7 x8 b1 h
def ADD (x0 x1 x2:Value)(h:H)(Q:Kt):Prop:=
 Ab x1 fun a3=>AV .u16 a3 fun a4=>AD .add a4 x2 fun a6=>Ab x0 fun b0=>V6 Q x0 b0 a6 x1 x1 (.int .i64 0) h
def AGb (Q:Kt)(r:RS):Nat→DJ:=tab [(125,.lp [19,20] [6,7,8,21] fun s e l h=>KU Q (u4 s) (e 19) (e 20) (gl l 0) (gl l 1) (gl l 2) (gl l 3) h)]
theorem Sc (x0 x1 x2:Value)(h:H)(Q:Kt)(x:ADD x0 x1 x2 h Q):Call TP 169 [x0,x1,x2] h Q:=Bb (AGb Q) Tryz.func169 (by kernel_rfl) x
def VC (x0 x1:Value)(h:H)(Q:Kt):Prop:=
 AV .u8 x1 fun x9=>AD .shr x1 (.int .u64 8) fun a1=>AV .u8 a1 fun a2=>AD .shr x1 (.int .u64 16) fun a4=>AV .u8 a4 fun a5=>AD .shr x1 (.int .u64 24) fun a7=>AV .u8 a7 fun a8=>AI (.slice 1) x0 (.int .i64 0) fun a9=>AJ 1 a9 x9 h fun h=>AI (.slice 1) x0 (.int .i64 1) fun b0=>AJ 1 b0 a2 h fun h=>AI (.slice 1) x0 (.int .i64 2) fun b1=>AJ 1 b1 a5 h fun h=>AI (.slice 1) x0 (.int .i64 3) fun b2=>AJ 1 b2 a8 h fun h=>Q (.tuple #[]) h
theorem Jx (x0 x1:Value)(h:H)(Q:Kt)(x:VC x0 x1 h Q):Call TP 170 [x0,x1] h Q:=Bb nT Tryz.func170 (by kernel_rfl) x
def RG (Q:Kt)(r1:R1)(x0 x6 x7:Value)(h:H):Prop:=
 AD .lss x7 (.int .i64 7) fun x8=>AK x8
 (Ch true 7 2 x6 x7 fun x9=>AQ (AG TP 341) 341 h fun x5 h=>AJ 2 x5 x9 h fun h=>AC 1 x5 fun a1=>AB false 1 a1 h fun a2=>Call TP 210 [x0,a2] h fun a3 h=>AK a3
 (AC 0 x5 fun a4=>AB false 1 a4 h fun a5=>AC 1 x5 fun a7=>AB false 1 a7 h fun a8=>CL a8 fun a9=>AZ .str x0 (some a9) none fun b0=>Q (.tuple #[a5,b0]) h)
 (AD .add x7 (.int .i64 1) fun b1=>r1 b1 h))
 (Q (.tuple #[(.int .u8 0),x0]) h)
def XK (Q:Kt)(x0 x6 x7:Value)(h:H):Prop:=A1 (fun r1 x7 h=>RG Q r1 x0 x6 x7 h) x7 h
def AB3 (x0:Value)(h:H)(Q:Kt):Prop:=
 AB true 14 (.pointer (some ⟨4,0,none⟩)) h fun x6=>XK Q x0 x6 (.int .i64 0) h
def AGx (Q:Kt)(r:RS):Nat→DJ:=tab [(53,.lp [0,6] [7] fun s e l h=>RG Q (u1 s) (e 0) (e 6) (gl l 0) h)]
theorem Ye (x0:Value)(h:H)(Q:Kt)(x:AB3 x0 h Q):Call TP 196 [x0] h Q:=Bb (AGx Q) Tryz.func196 (by kernel_rfl) x
def AD1 (x0:Value)(h:H)(Q:Kt):Prop:=
 AE x0 fun x4=>AC 2 x4 fun x5=>AB false 1 x5 h fun x6=>Ab x6 fun x7=>AD .add x7 (.int .i64 3) fun x8=>AD .andNot x8 (.int .i64 3) fun x9=>Q x9 h
theorem TH (x0:Value)(h:H)(Q:Kt)(x:AD1 x0 h Q):Call TP 197 [x0] h Q:=Bb nT Tryz.func197 (by kernel_rfl) x
def AC0 (x0 x1:Value)(h:H)(Q:Kt):Prop:=
 AV .u8 x1 fun x7=>AD .shr x1 (.int .u64 8) fun x9=>AV .u8 x9 fun a0=>AI (.slice 1) x0 (.int .i64 0) fun a1=>AJ 1 a1 x7 h fun h=>AI (.slice 1) x0 (.int .i64 1) fun a2=>AJ 1 a2 a0 h fun h=>Q (.tuple #[]) h
theorem AAw (x0 x1:Value)(h:H)(Q:Kt)(x:AC0 x0 x1 h Q):Call TP 205 [x0,x1] h Q:=Bb nT Tryz.func205 (by kernel_rfl) x
def RF (Q:Kt)(r1:R2)(x1 x5 x7:Value)(h:H):Prop:=
 AD .add x7 (.int .i64 3) fun b6=>Ab x1 fun b8=>AD .lss b6 b8 fun b9=>AK b9
 (AD .shl x5 (.int .u64 16) fun c3=>AD .shr x5 (.int .u64 16) fun c5=>AD .xor c3 c5 fun c6=>AD .add x7 (.int .i64 4) fun d0=>AZ (.slice 1) x1 (some x7) (some d0) fun d1=>Call TP 158 [d1] h fun d2 h=>AD .xor c6 d2 fun d3=>AD .add x7 (.int .i64 4) fun c1=>r1 d3 c1 h)
 (Ab x1 fun d5=>AD .rem d5 (.int .i64 4) fun d6=>AD .neq d6 (.int .i64 0) fun d7=>AK d7
 (AQ (AG TP 238) 238 h fun x8 h=>AZ (.arr 4 1) x8 none none fun d8=>Ab x1 fun g1=>AD .andNot g1 (.int .i64 3) fun g2=>AZ (.slice 1) x1 (some g2) none fun g3=>DI 1 d8 g3 h fun g4 h=>AD .shl x5 (.int .u64 16) fun g6=>AD .shr x5 (.int .u64 16) fun g8=>AD .xor g6 g8 fun g9=>AZ (.arr 4 1) x8 none none fun i0=>Call TP 158 [i0] h fun i1 h=>AD .xor g9 i1 fun i2=>Q i2 h)
 (Q x5 h))
def Ri (Q:Kt)(x1 x5 x7:Value)(h:H):Prop:=Bx (fun r1 x5 x7 h=>RF Q r1 x1 x5 x7 h) x5 x7 h
def RH (Q:Kt)(r2:R2)(x0 x1 x5 x6:Value)(h:H):Prop:=
 CL x0 fun a1=>AD .lss x6 a1 fun a2=>AK a2
 (AD .shl x5 (.int .u64 5) fun a6=>AD .shr x5 (.int .u64 27) fun a8=>AD .xor a6 a8 fun a9=>BQ x0 x6 fun b2=>AV .u32 b2 fun b3=>AD .xor a9 b3 fun b4=>AD .add x6 (.int .i64 1) fun a4=>r2 b4 a4 h)
 (Ri Q x1 x5 (.int .i64 0) h)
def YA (Q:Kt)(x0 x1 x5 x6:Value)(h:H):Prop:=Bx (fun r2 x5 x6 h=>RH Q r2 x0 x1 x5 x6 h) x5 x6 h
def AB1 (x0 x1:Value)(h:H)(Q:Kt):Prop:=
 YA Q x0 x1 (.int .u32 0) (.int .i64 0) h
def AGL (Q:Kt)(r:RS):Nat→DJ:=tab [(245,.lp [1] [5,7] fun s e l h=>RF Q (u2 s) (e 1) (gl l 0) (gl l 1) h),
 (117,.lp [0,1] [5,6] fun s e l h=>RH Q (u2 s) (e 0) (e 1) (gl l 0) (gl l 1) h)]
theorem Yp (x0 x1:Value)(h:H)(Q:Kt)(x:AB1 x0 x1 h Q):Call TP 206 [x0,x1] h Q:=Bb (AGL Q) Tryz.func206 (by kernel_rfl) x
def ABm (x0 x1:Value)(h:H)(Q:Kt):Prop:=
 Call TP 213 [x0,x1] h fun x7 h=>Q x7 h
theorem Z4 (x0 x1:Value)(h:H)(Q:Kt)(x:ABm x0 x1 h Q):Call TP 210 [x0,x1] h Q:=Bb nT Tryz.func210 (by kernel_rfl) x
def ACH (x0 x1:Value)(h:H)(Q:Kt):Prop:=
 CL x0 fun x6=>CL x1 fun x8=>AD .geq x6 x8 fun x9=>Az x9 true (CL x1 fun a3=>AZ .str x0 none (some a3) fun a4=>AD .eql a4 x1 fun a6=>Q a6 h) (Q (.bool false) h)
theorem Ym (x0 x1:Value)(h:H)(Q:Kt)(x:ACH x0 x1 h Q):Call TP 213 [x0,x1] h Q:=Bb nT Tryz.func213 (by kernel_rfl) x
end
section
variable {h:H} {k:Value→Prop} {kt Q:Kt} {x y r:Res}
def CB (n:Nat):Nat:=(n+3)/4*4
theorem IQ {b o n c i:Nat}{kk:IntKind}(hi:(OfNat.ofNat i:Int)<(n:Int)):AI (.slice 1) (.slice (some ⟨b,o,none⟩) n c) (.int kk (no_index (OfNat.ofNat i:Int))) k=k (.pointer (some ⟨b,o+i,none⟩)):=Cg (B29.1 hi)
theorem O6 {l m m':Bs}{o:Nat}(h:o+m.length+m'.length≤l.length):setL (setL l o m) (o+m.length) m'=setL l o (m++m'):=by
 apply A60
 intro i
 rw[DN (by rw[AS (by omega)];omega),DN (by omega),DN (by simp;omega)]
 grind
theorem Dd {l m m':Bs}{o p:Nat}(hp:p=o+m.length)(h:o+m.length+m'.length≤l.length):setL (setL l o m) p m'=setL l o (m++m'):=by subst hp;exact O6 h
theorem AHy {b o n c m:Nat}{all:Bs}{T:TypeId}(w:AN (pts b (.cells (bcs all) T (0,0))+x) h)(hn:2≤n)(ho:o+n≤all.length)(K:∀ h,AN (pts b (.cells (bcs (setL all o (Aq m))) T (0,0))+x) h→Q (.tuple #[]) h) :
  AC0 (.slice (some ⟨b,o,none⟩) n c) (.int .u16 (m:Int)) h Q:=by
 unfold AC0
 simp (disch:=omega) only[go_sem,IQ,MZ]
 refine CM w (by omega) fun h w=>?_
 refine CM w (by rw[AS (by simp;omega)];omega) fun h w=>K h ?_
 have:=O6 (l:=all) (m:=[UInt8.ofNat m]) (m':=[UInt8.ofNat (m/256)]) (o:=o) (by simp;omega)
 simp only[A57,A82,A34] at this
 rw[A58,this] at w
 exact w
theorem ACG {b o n c m:Nat}{all:Bs}{T:TypeId}(w:AN (pts b (.cells (bcs all) T (0,0))+x) h)(hn:4≤n)(ho:o+n≤all.length)(K:∀ h,AN (pts b (.cells (bcs (setL all o (Ac m))) T (0,0))+x) h→Q (.tuple #[]) h) :
  VC (.slice (some ⟨b,o,none⟩) n c) (.int .u32 (m:Int)) h Q:=by
 unfold VC
 simp (disch:=omega) only[go_sem,IQ,MZ]
 refine CM w (by omega) fun h w=>?_
 refine CM w (by rw[AS (by simp;omega)];omega) fun h w=>?_
 rw[A58] at w
 rw[Dd (p:=o+1) (m:=[UInt8.ofNat m]) (m':=[UInt8.ofNat (m/256)]) (by simp) (by simp;omega)] at w
 refine CM w (by rw[AS (by simp;omega)];omega) fun h w=>?_
 rw[Dd (p:=o+2) (m:=[UInt8.ofNat m]++[UInt8.ofNat (m/256)]) (m':=[UInt8.ofNat (m/65536)]) (by simp) (by simp;omega)] at w
 refine CM w (by rw[AS (by simp;omega)];omega) fun h w=>K h ?_
 rw[Dd (p:=o+3) (m:=[UInt8.ofNat m]++[UInt8.ofNat (m/256)]++[UInt8.ofNat (m/65536)]) (m':=[UInt8.ofNat (m/16777216)]) (by simp) (by simp;omega)] at w
 exact w
abbrev xaC (nm:Bs)(ix:Nat)(v:Value):Array Value:=⟨[str nm,.int .u8 ix,v]⟩
theorem AGa {b ix:Nat}{nm:Bs}{v:Value}{T:TypeId}(w:AN x h)[CO b x (.cells (xaC nm ix v) T (0,0))](hn:nm.length<1000000)(K:Q (.int .i64 (CB nm.length+16:Nat)) h):ACZ (Pt b) h Q:=by
 unfold ACZ
 simp (disch:=omega) only[go_sem,AF w]
 exact K
theorem AGS {b ix n c:Nat}{nm:Bs}{a:Option Addr}{T:TypeId}(w:AN x h)[CO b x (.cells (xaC nm ix (.slice a n c)) T (0,0))](hn:n<1000000)(K:Q (.int .i64 (CB n:Nat)) h):AD1 (Pt b) h Q:=by
 unfold AD1
 simp (disch:=omega) only[go_sem,AF w]
 exact K
end
section
variable {h:H} {k:Value→Prop} {kt Q:Kt} {x y r:Res}
def GY (a b c d:UInt8):Nat:=((a.toNat ||| b.toNat*256) ||| c.toNat*65536) ||| d.toNat*16777216
theorem FG (a b c d:UInt8):GY a b c d<4294967296:=by
 unfold GY
 have ha:=a.toNat_lt;have hb:=b.toNat_lt;have hc:=c.toNat_lt;have hd:=d.toNat_lt
 exact B01 (n:=32) (B01 (n:=32) (B01 (n:=32) (by omega) (by omega)) (by omega)) (by omega)
def Lh (hh w:Nat):Nat:=((hh*65536%4294967296) ^^^ (hh/65536)) ^^^ w
def JW (hh:Nat)(c:UInt8):Nat:=((hh*32%4294967296) ^^^ (hh/134217728)) ^^^ c.toNat
theorem Gz {hh w:Nat}(h1:hh<4294967296)(h2:w<4294967296):Lh hh w<4294967296:=by
 unfold Lh
 exact B07 (n:=32) (B07 (n:=32) (by omega) (by omega)) (by omega)
theorem Yi {hh:Nat}{c:UInt8}(h1:hh<4294967296):JW hh c<4294967296:=by
 unfold JW
 have:=c.toNat_lt
 exact B07 (n:=32) (B07 (n:=32) (by omega) (by omega)) (by omega)
def C9 (hh:Nat):Bs→Nat
 | a::b::c::d::l=>C9 (Lh hh (GY a b c d)) l
 | []=>hh
 | [a]=>Lh hh (GY a 0 0 0)
 | [a,b]=>Lh hh (GY a b 0 0)
 | [a,b,c]=>Lh hh (GY a b c 0)
def hashX (nm v:Bs):Nat:=C9 (nm.foldl JW 0) v
theorem H2:∀ (l:Bs) (hh:Nat),hh<4294967296→l.foldl JW hh<4294967296
 | [],_,h=>h
 | c::l,hh,h=>H2 l _ (Yi h)
theorem HA {b o:Nat}{l:List Value}{T:TypeId}{fz:Nat×Nat}{c:UInt8}(w:AN x h)[CO b x (.cells ⟨l⟩ T fz)](hc:l[o]? = some (bc c)):AB false 1 (.pointer (some ⟨b,o,none⟩)) h k=k (bc c):=by
 rw[AF w]
 have:(⟨l⟩:Array Value)[o]? = some (bc c):=by simpa using hc
 rw[this];rfl
theorem AFO {b o n c:Nat}{all:List Value}{T:TypeId}{fz:Nat×Nat}{a0 a1 a2 a3:UInt8}(w:AN x h)[CO b x (.cells ⟨all⟩ T fz)](hn:4≤n)(h0:all[o]? = some (bc a0))(h1:all[o+1]? = some (bc a1))(h2:all[o+2]? = some (bc a2))(h3:all[o+3]? = some (bc a3))
  (K:Q (.int .u32 (GY a0 a1 a2 a3:Nat)) h):ACF (.slice (some ⟨b,o,none⟩) n c) h Q:=by
 have ha:=a0.toNat_lt;have hb:=a1.toNat_lt;have hc:=a2.toNat_lt;have hd:=a3.toNat_lt
 have e1:a1.toNat*256%4294967296=a1.toNat*256:=A23 (by omega)
 have e2:a2.toNat*65536%4294967296=a2.toNat*65536:=A23 (by omega)
 have e3:a3.toNat*16777216%4294967296=a3.toNat*16777216:=A23 (by omega)
 have l1:a0.toNat ||| a1.toNat*256<4294967296:=B01 (n:=32) (by omega) (by omega)
 have l2:(a0.toNat ||| a1.toNat*256) ||| a2.toNat*65536<4294967296:=B01 (n:=32) l1 (by omega)
 unfold ACF
 simp (disch:=omega) only[IQ,A58]
 rw[HA w h0]
 simp (disch:=omega) only[go_sem,bc]
 rw[HA w h1]
 simp (disch:=omega) only[go_sem,bc,e1]
 rw[HA w h2]
 simp (disch:=omega) only[go_sem,bc,e2]
 rw[HA w h3]
 simp (disch:=omega) only[go_sem,bc,e3]
 exact K
theorem Vn {kk kk':IntKind}{b o n c i j:Nat}(h1:i≤j)(h2:j≤c)(h3:i≠c):AZ (.slice 1) (.slice (some ⟨b,o,none⟩) n c) (some (.int kk (i:Int))) (some (.int kk' (j:Int))) k=k (.slice (some ⟨b,o+i,none⟩) (j-i) (c-i)):=by
 have hv:A6 (.slice 1) (.slice (some ⟨b,o,none⟩) n c) (some (.int kk (i:Int))) (some (.int kk' (j:Int)))=some (.slice (some ⟨b,o+i,none⟩) (j-i) (c-i)):=by
  simp only[A6,Dp]
  rw[A03 ⟨h1,h2⟩,A05 (fun h=>h3 h.symm),A67,A80,Bm]
 exact propext ⟨fun⟨v,a,b⟩=>by rw[hv] at a;cases a;exact b,fun a=>⟨_,hv,a⟩⟩
theorem SK:AG TP 238=some (.agg ⟨List.replicate 4 (.int .u8 0)⟩):=by kernel_rfl
theorem Uy {b n:Nat}(hn:0<n):AZ (.arr n 1) (Pt b) none none k=k (.slice (some ⟨b,0,none⟩) n n):=by
 have hv:A6 (.arr n 1) (Pt b) none none=some (.slice (some ⟨b,0,none⟩) n n):=by
  simp only[A6,Ay]
  rw[A03 ⟨A39 _,A07 _⟩,A05 (by omega)]
  rfl
 exact propext ⟨fun⟨v,a,b⟩=>by rw[hv] at a;cases a;exact b,fun a=>⟨_,hv,a⟩⟩
theorem Qj {hh:Nat}{l:Bs}{a0 a1 a2 a3:UInt8}(h1:0<l.length)(h2:l.length<4)(e0:(setL [0,0,0,0] 0 l)[0]? = some a0)(e1:(setL [0,0,0,0] 0 l)[1]? = some a1)(e2:(setL [0,0,0,0] 0 l)[2]? = some a2)(e3:(setL [0,0,0,0] 0 l)[3]? = some a3) :
  C9 hh l=Lh hh (GY a0 a1 a2 a3):=by
 match l,h1,h2 with
 | [a],_,_=>simp[setL] at e0 e1 e2 e3;subst e0 e1 e2 e3;rfl
 | [a,b],_,_=>simp[setL] at e0 e1 e2 e3;subst e0 e1 e2 e3;rfl
 | [a,b,c],_,_=>simp[setL] at e0 e1 e2 e3;subst e0 e1 e2 e3;rfl
 | a::b::c::d::l,_,h=>simp at h;omega
set_option maxRecDepth 20000 in
theorem AFp {v:Value}{bs:Bs}{hh:Nat}(w:AN x h)(d:RdX x v bs)(hl:bs.length<1000000)(h0:hh<4294967296)(K:∀ h,AN x h→Q (.int .u32 (C9 hh bs:Nat)) h):Ri Q v (.int .u32 (hh:Nat)) (.int .i64 ((0:Nat):Int)) h:=by
 unfold Ri
 refine DE (fun m v5 v7 h'=>∃ i hv,m=bs.length-i∧i%4=0∧i≤bs.length∧v5=.int .u32 (hv:Nat)∧v7=.int .i64 (i:Nat)∧hv<4294967296∧AN x h'∧C9 hv (bs.drop i)=C9 hh bs) bs.length ⟨0,hh,rfl,rfl,A39 _,rfl,rfl,h0,w,rfl⟩ ?_
 rintro rec m v5 v7 h' ⟨i,hv,rfl,hi4,hi,rfl,rfl,hv0,w,he⟩ hrec
 obtain⟨a,c,hvv⟩:=d.len
 unfold RF
 rw[hvv]
 simp (disch:=omega) only[go_sem]
 have hx:∀ z:Nat,hv*65536%4294967296 ^^^ hv/65536<4294967296:=fun _=>B07 (n:=32) (by omega) (by omega)
 have hx:=hx 0
 refine AX (fun hc=>?_) (fun hc=>?_)
 ·rcases d with⟨a',c',h1,h2⟩|⟨b,o,c',all,T,fz,y,h1,h2,h3,h4,h5⟩
  ·subst h2;simp at hc;omega
  ·rw[hvv] at h1
   simp only[Value.slice.injEq] at h1
   obtain⟨rfl,_,rfl⟩:=h1
   simp (disch:=omega) only[go_sem,Vn]
   subst h2
   have hg:∀ j,j<bs.length→all[o+j]? = (bs[j]?).map bc:=fun j hj=>by
    rw[←A21,←h4,A41,A03 hj,A53]
   obtain⟨a0,e0⟩:∃ a,bs[i]? = some a:=⟨_,A00 (by omega)⟩
   obtain⟨a1,e1⟩:∃ a,bs[i+1]? = some a:=⟨_,A00 (by omega)⟩
   obtain⟨a2,e2⟩:∃ a,bs[i+2]? = some a:=⟨_,A00 (by omega)⟩
   obtain⟨a3,e3⟩:∃ a,bs[i+3]? = some a:=⟨_,A00 (by omega)⟩
   have hw4:=FG a0 a1 a2 a3
   refine Tc _ _ _ (AFO (o:=o+i) w (by omega) ((hg i (by omega)).trans (by rw[e0];rfl)) ((by rw[show o+i+1=o+(i+1) by omega];exact (hg (i+1) (by omega)).trans (by rw[e1];rfl))) ((by rw[show o+i+2=o+(i+2) by omega];exact (hg (i+2) (by omega)).trans (by rw[e2];rfl))) ((by rw[show o+i+3=o+(i+3) by omega];exact (hg (i+3) (by omega)).trans (by rw[e3];rfl))) ?_)
   simp (disch:=omega) only[go_sem]
   refine hrec (bs.length-(i+4)) _ _ _ ⟨i+4,Lh hv (GY a0 a1 a2 a3),rfl,by omega,by omega,rfl,rfl,Gz hv0 hw4,w,?_⟩ (by omega)
   rw[←he]
   have hd:bs.drop i=a0::a1::a2::a3::bs.drop (i+4):=by
    rw[A50 (by omega),A50 (show i+1<bs.length by omega),A50 (show i+1+1<bs.length by omega),A50 (show i+1+1+1<bs.length by omega)]
    rw[A00 (by omega)] at e0 e1 e2 e3
    simp only[A26] at e0 e1 e2 e3
    rw[e0,e1,show bs[i+1+1]=a2 from e2,show bs[i+1+1+1]=a3 from e3]
   rw[hd,C9]
 ·refine AX (fun hr=>?_) (fun hr=>?_)
  ·have hie:bs.length/4*4=i:=by omega
   refine Ah w SK rfl fun lb h w=>?_
   rcases d with⟨a',c',h1,h2⟩|⟨b,o,c',all,T,fz,y,h1,h2,h3,h4,h5⟩
   ·subst h2;simp at hr
   ·rw[hvv] at h1
    simp only[Value.slice.injEq] at h1
    obtain⟨rfl,_,rfl⟩:=h1
    simp (disch:=omega) only[Uy,go_sem,hie]
    subst h2
    have hz:(⟨List.replicate 4 (.int .u8 0)⟩:Array Value)=bcs [0,0,0,0]:=rfl
    rw[hz] at w
    have hrl:(bs.drop i).length=bs.length-i:=by simp
    refine FN (src:=bs.drop i) w (.inr ⟨b,o+i,c-i,all,T,fz,y,by rw[hrl],rfl,by rw[hrl];omega,?_,by rw[hrl];omega⟩) (by rw[hrl];simp;omega) (by rw[hrl];omega) fun h w=>?_
    ·rw[hrl,←A64]
     rw[List.map_drop,←h4,A49]
    ·have hsl:(setL [0,0,0,0] 0 (bs.drop i)).length=4:=AS (by rw[hrl];simp;omega)
     obtain⟨a0,e0⟩:∃ a,(setL [0,0,0,0] 0 (bs.drop i))[0]? = some a:=⟨_,A00 (by omega)⟩
     obtain⟨a1,e1⟩:∃ a,(setL [0,0,0,0] 0 (bs.drop i))[1]? = some a:=⟨_,A00 (by omega)⟩
     obtain⟨a2,e2⟩:∃ a,(setL [0,0,0,0] 0 (bs.drop i))[2]? = some a:=⟨_,A00 (by omega)⟩
     obtain⟨a3,e3⟩:∃ a,(setL [0,0,0,0] 0 (bs.drop i))[3]? = some a:=⟨_,A00 (by omega)⟩
     have hw4:=FG a0 a1 a2 a3
     refine Tc _ _ _ (AFO (all:=(setL [0,0,0,0] 0 (bs.drop i)).map bc) w (by omega) (by rw[A21,e0];rfl) (by rw[A21,e1];rfl) (by rw[A21,e2];rfl) (by rw[A21,e3];rfl) ?_)
     simp (disch:=omega) only[go_sem]
     have:=Qj (hh:=hv) (by rw[hrl];omega) (by rw[hrl];omega) e0 e1 e2 e3
     rw[←he,this] at K
     exact K _ w.right
  ·have:bs.drop i=[]:=A59 (by omega)
   rw[this,C9] at he
   rw[he]
   exact K _ w
theorem AH9 {nm bs:Bs}{v:Value}(w:AN x h)(d:RdX x v bs)(hl:bs.length<1000000)(hn:nm.length<1000000)(K:∀ h,AN x h→Q (.int .u32 (hashX nm bs:Nat)) h):AB1 (str nm) v h Q:=by
 unfold AB1 YA
 refine DE (fun m v5 v6 h'=>∃ i,m=nm.length-i∧i≤nm.length∧v5=.int .u32 ((nm.take i).foldl JW 0:Nat)∧v6=.int .i64 (i:Nat)∧AN x h') nm.length ⟨0,rfl,A39 _,rfl,rfl,w⟩ ?_
 rintro rec m v5 v6 h' ⟨i,rfl,hi,rfl,rfl,w⟩ hrec
 have hlt:=H2 (nm.take i) 0 (by omega)
 unfold RH
 simp (disch:=omega) only[go_sem]
 refine AX (fun hc=>?_) (fun hc=>?_)
 ·obtain⟨u,hu⟩:∃ u,nm[i]? = some u:=⟨_,A00 (by omega)⟩
  have hub:=u.toNat_lt
  have hx:(nm.take i).foldl JW 0*32%4294967296 ^^^ (nm.take i).foldl JW 0/134217728<4294967296:=B07 (n:=32) (by omega) (by omega)
  rw[CD hu]
  simp (disch:=omega) only[go_sem,bc]
  refine hrec (nm.length-(i+1)) _ _ _ ⟨i+1,rfl,by omega,?_,rfl,w⟩ (by omega)
  rw[A85,hu]
  simp[B19,JW]
 ·have:i=nm.length:=by omega
  subst this
  rw[A38] at *
  exact AFp w d hl hlt K
end
section
variable {h:H} {k:Value→Prop} {kt Q:Kt} {x y r:Res}
def Nf (s p:Bs):Bool:=decide (p.length≤s.length∧s.take p.length=p)
theorem AIF {s p:Bs}(hs:s.length<9223372036854775808)(K:Q (.bool (Nf s p)) h):ACH (str s) (str p) h Q:=by
 unfold ACH
 simp (disch:=omega) only[go_sem]
 refine C3 (fun hc=>?_) (fun hc=>?_)
 ·have hle:p.length≤s.length:=by omega
  simp (disch:=omega) only[go_sem]
  have:Nf s p=decide (s.take p.length=p):=by unfold Nf;simp[hle]
  rw[this] at K;exact K
 ·have:Nf s p=false:=by
   unfold Nf
   simp only[decide_eq_false_iff_not]
   omega
  rw[this] at K;exact K
theorem AIQ {s p:Bs}(hs:s.length<9223372036854775808)(K:Q (.bool (Nf s p)) h):ABm (str s) (str p) h Q:=by
 unfold ABm
 exact Ym _ _ _ _ (AIF hs K)
def PX:List (Nat×Bs):=[(2,[115,121,115,116,101,109,46,112,111,115,105,120,95,97,99,108,95,97,99,99,101,115,115]),(3,[115,121,115,116,101,109,46,112,111,115,105,120,95,97,99,108,95,100,101,102,97,117,108,116]),
 (8,[115,121,115,116,101,109,46,114,105,99,104,97,99,108]),(7,[115,121,115,116,101,109,46]),(1,[117,115,101,114,46]),(4,[116,114,117,115,116,101,100,46]),(6,[115,101,99,117,114,105,116,121,46])]
def PXc:List Value:=PX.flatMap fun p=>[.int .u8 (p.1:Nat),str p.2]
def JX (x:Res):Prop:=∃ c T fz y,x=pts 4 (.cells c T fz)+y∧∀ i,i<14→c[i]? = PXc[i]?
theorem JX.addR (g:JX x):JX (y+x):=by
 obtain⟨c,T,fz,z,rfl,h⟩:=g
 exact⟨c,T,fz,y+z,Res.left_comm _ _ _,h⟩
theorem JX.addL (g:JX x):JX (x+y):=by rw[Res.comm];exact g.addR
def DB (nm:Bs):List (Nat×Bs)→Nat×Bs
 | []=>(0,nm)
 | (i,p)::l=>bif Nf nm p then (i,nm.drop p.length) else DB nm l
theorem AAx:AG TP 341=some (.agg ⟨[.int .u8 0,str []]⟩):=by kernel_rfl
theorem AEi:∀ i,i<7→∃ ix p,PX.drop i=(ix,p)::PX.drop (i+1)∧(PXc.take (i*2+2)).drop (i*2)=[.int .u8 (ix:Nat),str p]∧p.length<100∧ix<256:=by
 intro i hi
 have:i=0∨i=1∨i=2∨i=3∨i=4∨i=5∨i=6:=by omega
 rcases this with rfl|rfl|rfl|rfl|rfl|rfl|rfl<;>exact⟨_,_,rfl,rfl,by decide,by decide⟩
theorem Sw {len sz n:Nat}{cs:Array Value}{kk:IntKind}(hn:n<len):Ch true len sz (.agg cs) (.int kk (n:Int)) k=k (.agg (cs.extract (n*sz) (n*sz+sz))):=by
 unfold Ch
 refine propext ⟨fun⟨cs',kk',m,v,h1,h2,h3,h4,h5,h6⟩=>?_,fun hk=>⟨cs,kk,n,_,rfl,rfl,by omega,by omega,rfl,by simpa using hk⟩⟩
 cases h1;cases h2
 simp only[Pa,cond,A77,A26] at h5
 rw[h5];exact h6
theorem Am {b o n:Nat}{c:Array Value}{T:TypeId}{fz:Nat×Nat}(hb:h[b]? = some (.cells c T fz))(hn:o+n≤c.size):AB true n (.pointer (some ⟨b,o,none⟩)) h k=k (.agg (c.extract o (o+n))):=by
 unfold AB MM
 refine propext ⟨fun⟨p,v,h1,h2,h3⟩=>?_,fun hk=>⟨_,_,rfl,?_,hk⟩⟩
 ·cases h1
  simp only[cond,hb,A86,A45,if_false,A03 hn,A26] at h2
  rw[h2];exact h3
 ·simp only[cond,hb,A86,A45,if_false,A03 hn]
set_option maxRecDepth 20000 in
theorem AH1 {nm:Bs}(g:JX x)(w:AN x h)(hn:nm.length<9223372036854775808)(K:∀ h,AN x h→Q (.tuple #[.int .u8 ((DB nm PX).1:Nat),str (DB nm PX).2]) h):AB3 (str nm) h Q:=by
 obtain⟨c,T,fz,y,hx,hc⟩:=g
 have hb:h[4]? = some (.cells c T fz):=by
  have:=w
  rw[hx] at this
  exact this.left.one
 have hsz:14≤c.size:=by
  rcases A66 c.size 14 with hlt|hge
  ·have h1:=hc c.size hlt
   rw[Array.getElem?_eq_none (A07 _)] at h1
   have h2:PXc.length=14:=rfl
   have:=List.getElem?_eq_none_iff.1 h1.symm
   omega
  ·exact hge
 have hex:c.extract 0 (0+14)=⟨PXc⟩:=by
  apply B02
  intro i
  rw[Array.getElem?_extract]
  have h2:PXc.length=14:=rfl
  by_cases hi:i<14
  ·rw[A03 (by omega),A29,hc i hi];simp
  ·rw[A05 (by omega)]
   simp[A40 (show PXc.length≤i by omega)]
 unfold AB3
 rw[Am hb (by omega),hex]
 unfold XK
 refine Ba (fun m v7 h'=>∃ i,m=7-i∧i≤7∧v7=.int .i64 (i:Nat)∧AN x h'∧DB nm PX=DB nm (PX.drop i)) 7 ⟨0,rfl,by omega,rfl,w,rfl⟩ ?_
 rintro rec m v7 h' ⟨i,rfl,hi,rfl,w,he⟩ hrec
 unfold RG
 simp (disch:=omega) only[go_sem]
 refine AX (fun hlt=>?_) (fun hlt=>?_)
 ·obtain⟨ix,p,h1,h2,h3,h4⟩:=AEi i (by omega)
  rw[Sw (by omega)]
  have hcell:(⟨PXc⟩:Array Value).extract (i*2) (i*2+2)=⟨[.int .u8 (ix:Nat),str p]⟩:=by
   apply A56
   rw[Array.toList_extract,A44,←A49,h2]
  rw[hcell]
  refine Ah w AAx rfl fun pb h w=>?_
  refine AL w ⟨[.int .u8 (ix:Nat),str p]⟩ rfl rfl (by simp) rfl fun h w=>?_
  simp (disch:=omega) only[go_sem,AF w]
  refine Z4 _ _ _ _ (AIQ hn ?_)
  rw[h1,DB] at he
  cases hp:Nf nm p with
  | true=>
   rw[hp] at he
   have hle:p.length≤nm.length:=by
    unfold Nf at hp
    simp only[A84] at hp
    exact hp.1
   simp (disch:=omega) only[go_sem,AF w]
   rw[he] at K
   exact K _ w.right
  | false=>
   rw[hp] at he
   simp (disch:=omega) only[go_sem]
   exact hrec (7-(i+1)) _ _ ⟨i+1,rfl,by omega,rfl,w.right,he⟩ (by omega)
 ·have:i=7:=by omega
  subst this
  have:PX.drop 7=[]:=rfl
  rw[this,DB] at he
  rw[he] at K
  exact K _ w
theorem AID {b:Nat}{a c:Value}{m m':Value}(w:AN (pts b (.cells ⟨[a,c,m,m']⟩ 284 (0,0))+x) h)(K:∀ h,AN (pts b (.cells ⟨[a,c,.int .i64 (96:Nat),.int .i64 (4060:Nat)]⟩ 284 (0,0))+x) h→Q (.tuple #[]) h):ACg (Pt b) h Q:=by
 unfold ACg
 simp (disch:=omega) only[go_sem]
 refine AL w ⟨[a,c,.int .i64 (96:Nat),m']⟩ rfl rfl (by simp) rfl fun h w=>?_
 exact AL w ⟨[a,c,.int .i64 (96:Nat),.int .i64 (4060:Nat)]⟩ rfl rfl (by simp) rfl fun h w=>K h w
def Ku (set:Bool)(sec ns:Nat):Nat:=if set then if sec>15032385535 then 15032385535 else sec ||| (ns*17179869184%18446744073709551616) else 0
theorem Zf {set:Bool}{sec ns:Nat}(w:AN x h)(h1:sec<9223372036854775808)(h2:ns<1000000000)(K:∀ h,AN x h→Q (.int .u64 (Ku set sec ns:Nat)) h):ACx (.agg ⟨[.bool set,.int .i64 sec,.int .i64 ns]⟩) h Q:=by
 unfold ACx
 refine BJ w fun b h w=>?_
 simp (disch:=omega) only[go_sem,AF w]
 cases set with
 | false=>
  simp only[go_sem,B44]
  exact K _ w.right
 | true=>
  simp only[A91,go_sem]
  refine AX (fun hc=>by omega) (fun _=>?_)
  refine AX (fun hc=>?_) (fun hc=>?_)
  ·have:Ku true sec ns=15032385535:=by unfold Ku;rw[A03 rfl,A03 (by omega)]
   rw[this] at K
   exact K _ w.right
  ·have:Ku true sec ns=sec ||| (ns*17179869184%18446744073709551616):=by unfold Ku;rw[A03 rfl,A05 (by omega)]
   rw[this] at K
   exact K _ w.right
end
section
variable {h:H} {k:Value→Prop} {kt Q:Kt} {x y r:Res}
structure XA where
 nm:Bs
 ix:Nat
 v:Value
 bs:Bs
abbrev XA.cells (a:XA):List Value:=[str a.nm,.int .u8 a.ix,a.v]
def xaCs (l:List XA):List Value:=l.flatMap XA.cells
def XA.need (a:XA):Nat:=CB a.nm.length+16+CB a.bs.length
theorem Gu:AG TP 291=some (.agg ⟨[str [],.int .u8 0,.slice none 0 0]⟩):=by kernel_rfl
theorem CW {T:TypeId}{sz n:Nat}{z:Option Value}{zv v:Value}{vs es:List Value}(d:Vec T sz v n vs r)(w:AN (r+x) h)(hz:z=some zv)(hzs:zv.cells.size=sz)(he:es.length=sz)(h0:0<sz)(hs2:sz≤1000)(ho:es.all Value.oneCell'=true)
  (K:∀ b h,AN (pts b (.cells ⟨es⟩ T (0,0))+(r+x)) h→kt (.slice (some ⟨b,0,none⟩) 1 1) h) :
  AH (.arr sz) T z sz 1 [(0,.agg ⟨es⟩)] h kt:=by
 refine⟨zv,⟨es⟩,hz,by omega,?_,fun b h' ex hb' ho'=>K b h' (w.new ex hb' ho')⟩
 have hm:(Ax zv.cells (1*sz)).size=sz:=by simp[Ax]
 rw[A05 (by omega)]
 obtain⟨ml,hml⟩:∃ ml,Ax zv.cells (1*sz)=⟨ml⟩:=⟨_,rfl⟩
 rw[hml] at hm ⊢
 have hml2:ml.length=sz:=by simpa using hm
 refine Es _ _ _ ?_
 have hl0:GE ml 0 es=es:=by
  have h1:=Fz (all:=ml) (news:=es) (o:=0) (by omega)
  rw[A2] at h1
  simp only[A29,B17,A34] at h1
  rw[A43 (by rw[JH];omega)] at h1
  exact h1
 unfold DC
 simp only[Br,Value.cells,he,hml2]
 rw[A05 (by omega)]
 simp only[DC,A92]
 rw[hl0]
theorem B0 {T:TypeId}{sz by_ n b:Nat}{z:Option Value}{zv v:Value}{vs es:List Value}(d:Vec T sz v n vs r)(w:AN (pts b (.cells ⟨es⟩ T (0,0))+(r+x)) h)(hz:z=some zv)(hzs:zv.cells.size=sz)(he:es.length=sz)(ho:es.all Value.oneCell'=true)
  (hb:(n+1)*by_≤140737488355328) (hb2:n+1≤140737488355328) (K:∀ v r h,Vec T sz v (n+1) (vs++es) r→AN (r+x) h→kt v h) :
  AM T z sz by_ v (.slice (some ⟨b,0,none⟩) 1 1) h kt:=by
 refine⟨1,⟨es⟩,rfl,?_,IP d (w.cast (Res.left_comm _ _ _)) hz hzs hb hb2 ho (by omega) fun v r h d w=>K v r h d (AN.left (y:=pts b (.cells ⟨es⟩ T (0,0))) (w.cast (by ac_rfl)))⟩
 unfold BF
 simp only[w.left.one,A86,A45,if_false]
 rw[A03 (by simp;omega)]
 congr 1
 apply A56
 simp[A44,←he]
structure XS where
 iv:Value
 il:List XA
 ir:Res
 bv:Value
 bl:List XA
 br:Res
 ileft:Nat
 bleft:Nat
abbrev XS.res (b:Nat)(s:XS):Res:=pts b (.cells ⟨[s.iv,s.bv,.int .i64 s.ileft,.int .i64 s.bleft]⟩ 284 (0,0))+(s.ir+s.br)
structure XS.OK (s:XS):Prop where
 i:Vec 291 3 s.iv s.il.length (xaCs s.il) s.ir
 b:Vec 291 3 s.bv s.bl.length (xaCs s.bl) s.br
 il:s.ileft≤96∧s.il.length+s.bl.length≤1000
 bl:s.bleft≤4060
set_option maxRecDepth 20000 in
theorem AH2 {sb:Nat}{s:XS}{nm bs:Bs}{v:Value}(g:JX x)(ok:s.OK)(w:AN (s.res sb+x) h)(hn:nm.length<100000)(d:RdX x v bs)(hb:bs.length<100000)(hfit:XA.need ⟨(DB nm PX).2,(DB nm PX).1,v,bs⟩≤s.ileft)(hcl:(DB nm PX).2.length≤nm.length)
  (K:∀ iv ir h,XS.OK {s with iv:=iv,il:=s.il++[⟨(DB nm PX).2,(DB nm PX).1,v,bs⟩],ir:=ir,ileft:=s.ileft-XA.need ⟨(DB nm PX).2,(DB nm PX).1,v,bs⟩} →
   AN (XS.res sb {s with iv:=iv,il:=s.il++[⟨(DB nm PX).2,(DB nm PX).1,v,bs⟩],ir:=ir,ileft:=s.ileft-XA.need ⟨(DB nm PX).2,(DB nm PX).1,v,bs⟩}+x) h→Q (.bool true) h) (hlen:s.il.length+s.bl.length<1000) :
  AC6 (Pt sb) (str nm) v h Q:=by
 obtain⟨a,c,hv⟩:=d.len
 have hil:=ok.il.1
 unfold XA.need at hfit K
 simp only at hfit K
 unfold AC6
 refine Ye _ _ _ (AH1 g.addR w (by omega) fun h w=>?_)
 generalize hcx:DB nm PX=cx at *
 obtain⟨ix,rest⟩:=cx
 simp only at *
 simp (disch:=omega) only[go_sem]
 rw[hv] at *
 refine Au Gu rfl rfl (Ah w Gu rfl fun xb h w=>?_)
 refine AL w ⟨[str rest,.int .u8 ix,.slice a bs.length c]⟩ rfl rfl (by simp) rfl fun h w=>?_
 refine Tp _ _ _ (AGa (nm:=rest) (ix:=ix) (v:=.slice a bs.length c) (T:=291) w (by omega) ?_)
 refine TH _ _ _ (AGS (nm:=rest) (ix:=ix) (a:=a) (T:=291) w (by omega) ?_)
 have hu1:CB rest.length≤rest.length+3:=by unfold CB;omega
 have hu2:CB bs.length≤bs.length+3:=by unfold CB;omega
 simp (disch:=omega) only[go_sem,AF w,A04]
 rw[Am (w.find (b:=xb)) (by simp)]
 have hex:(⟨[str rest,.int .u8 ix,.slice a bs.length c]⟩:Array Value).extract 0 (0+3)=⟨[str rest,.int .u8 ix,.slice a bs.length c]⟩:=rfl
 rw[hex]
 refine CW (x:=pts sb (.cells ⟨[s.iv,s.bv,.int .i64 s.ileft,.int .i64 s.bleft]⟩ 284 (0,0))+(s.br+x)) ok.i (AN.right (x:=pts xb (.cells ⟨[str rest,.int .u8 ix,.slice a bs.length c]⟩ 291 (0,0))) (w.cast (by unfold XS.res;ac_rfl))) Gu rfl rfl (by omega) (by omega) rfl fun tb h w=>⟨Ad w rfl,?_⟩
 refine B0 ok.i w Gu rfl rfl rfl (by omega) (by omega) fun iv ir h dv w=>?_
 obtain⟨⟨a2,c2,hiv⟩,_⟩:=dv.len
 subst hiv
 refine AL w ⟨[.slice a2 (s.il.length+1) c2,s.bv,.int .i64 s.ileft,.int .i64 s.bleft]⟩ rfl rfl (by simp) rfl fun h w=>?_
 simp (disch:=omega) only[go_sem,AF w]
 refine AL w ⟨[.slice a2 (s.il.length+1) c2,s.bv,.int .i64 ((s.ileft-(CB rest.length+16+CB bs.length):Nat):Int),.int .i64 s.bleft]⟩ rfl rfl (by simp) rfl fun h w=>?_
 have hlt:s.ileft-(CB rest.length+16+CB bs.length)≤96:=by omega
 refine K (.slice a2 (s.il.length+1) c2) ir h ⟨?_,ok.b,⟨hlt,by simp;omega⟩,ok.bl⟩ (w.cast (by unfold XS.res;dsimp only;ac_rfl))
 have:xaCs (s.il++[⟨rest,ix,.slice a bs.length c,bs⟩])=xaCs s.il++[str rest,.int .u8 ix,.slice a bs.length c]:=by simp[xaCs]
 rw[this,A01]
 exact dv
end
section
variable {h:H} {k:Value→Prop} {kt Q:Kt} {x y r:Res}
theorem M8 {T:TypeId}{sz n i:Nat}{kk:IntKind}{v:Value}{vs:List Value}(d:Vec T sz v n vs r)(w:AN (r+x) h)(hi:i<n)(K:k (.agg ⟨(vs.drop (i*sz)).take sz⟩)):AI (.slice sz) v (.int kk (i:Int)) fun a=>AB true sz a h k:=by
 cases d with
 | nil=>omega
 | own hn hc=>
  rename_i b c all
  refine⟨kk,i,rfl,_,n,c,rfl,by omega,by omega,?_⟩
  have h1:=A48 sz (show i+1≤n by omega)
  rw[A93,B34] at h1
  have h2:=A48 sz hn
  rw[A77,Bm,A29]
  show AB true sz (.pointer (some ⟨b,i*sz,none⟩)) h k
  rw[Am w.left.one (by simp;omega)]
  have:(⟨all⟩:Array Value).extract (i*sz) (i*sz+sz)=⟨((all.take (n*sz)).drop (i*sz)).take sz⟩:=by
   apply A56
   rw[Array.toList_extract,A44]
   apply A60
   intro j
   grind
  rw[this];exact K
theorem TE:∀ (l:List XA) (i:Nat) (a:XA),l[i]? = some a→((xaCs l).drop (i*3)).take 3=a.cells
 | [],i,a,h=>by simp at h
 | b::l,0,a,h=>by simp at h;subst h;simp[xaCs]
 | b::l,i+1,a,h=>by
  have:=TE l i a (by simpa using h)
  rw[show (i+1)*3=i*3+3 by omega]
  have e:(xaCs (b::l)).drop (i*3+3)=(xaCs l).drop (i*3):=by
   unfold xaCs
   rw[B54,←A64]
   rfl
  rw[e];exact this
theorem UE {kk:IntKind}{b o n c l:Nat}(h1:l≤n)(h2:n≤c):AZ (.slice 1) (.slice (some ⟨b,o,none⟩) n c) (some (.int kk (l:Int))) none k=k (.slice (some ⟨b,if l=c then o else o+l,none⟩) (n-l) (c-l)):=by
 have hv:A6 (.slice 1) (.slice (some ⟨b,o,none⟩) n c) (some (.int kk (l:Int))) none=some (.slice (some ⟨b,if l=c then o else o+l,none⟩) (n-l) (c-l)):=by
  have hb:Ay 0 (some (.int kk (l:Int)))=some l:=by simp[Ay]
  unfold A6
  rw[hb]
  simp only[Ay]
  rw[A03 ⟨h1,h2⟩,A67]
  by_cases hl:l=c
  ·rw[A03 hl.symm,A03 hl]
  ·rw[A05 (fun h=>hl h.symm),A05 hl,A80,Bm]
 exact propext ⟨fun⟨v,a,b⟩=>by rw[hv] at a;cases a;exact b,fun a=>⟨_,hv,a⟩⟩
@[go_sem] theorem AEY {kk:IntKind}{b o n c l:Nat}(h1:(OfNat.ofNat l:Int)<(n:Int))(h2:n≤c):AZ (.slice 1) (.slice (some ⟨b,o,none⟩) n c) (some (.int kk (no_index (OfNat.ofNat l:Int)))) none k=k (.slice (some ⟨b,o+l,none⟩) (n-l) (c-l)):=
 Gc (l:=l) (Nat.le_of_lt (B29.1 h1)) h2 (by have:=B29.1 h1;omega)
theorem KB {l:Bs}{o:Nat}:setL l o []=l:=by simp[setL]
def HG (all:Bs)(o e t delta:Nat)(a:XA):Bs:=
 let t':=t-CB a.bs.length
 setL (setL (setL (setL (setL (setL (setL all (o+e) [UInt8.ofNat a.nm.length]) (o+e+1) [UInt8.ofNat a.ix]) (o+e+2) (Aq (t'+delta))) (o+e+8) (Ac a.bs.length)) (o+e+12) (Ac (hashX a.nm a.bs))) (o+e+16) a.nm) (o+t') a.bs
def Em (o delta:Nat):List XA→Nat→Nat→Bs→Bs
 | [],_,_,all=>all
 | a::l,e,t,all=>Em o delta l (e+16+CB a.nm.length) (t-CB a.bs.length) (HG all o e t delta a)
def D3 (l:List XA):Nat:=(l.map XA.need).sum
theorem Sb {m:Nat}(h:m<256):Value.int .u8 (m:Int)=bc (UInt8.ofNat m):=by rw[bc];simp;omega
theorem LQ {all:Bs}{o e t delta:Nat}{a:XA}(h1:o+e+16+CB a.nm.length≤all.length)(h2:CB a.bs.length≤t)(h3:o+t≤all.length):(HG all o e t delta a).length=all.length:=by
 have hu1:a.nm.length≤CB a.nm.length:=by unfold CB;omega
 have hu2:a.bs.length≤CB a.bs.length:=by unfold CB;omega
 have ll:∀ n,(Aq n).length=2:=fun _=>rfl
 have ll2:∀ n,(Ac n).length=4:=fun _=>rfl
 unfold HG
 simp only
 have e1:(setL all (o+e) [UInt8.ofNat a.nm.length]).length=all.length:=AS (by simp;omega)
 have e2:=(AS (l:=setL all (o+e) [UInt8.ofNat a.nm.length]) (m:=[UInt8.ofNat a.ix]) (o:=o+e+1) (by rw[e1];simp;omega)).trans e1
 have e3:=(AS (l:=setL (setL all (o+e) [UInt8.ofNat a.nm.length]) (o+e+1) [UInt8.ofNat a.ix]) (m:=Aq (t-CB a.bs.length+delta)) (o:=o+e+2) (by rw[e2,ll];omega)).trans e2
 have e4:=(AS (m:=Ac a.bs.length) (o:=o+e+8) (by rw[e3,ll2];omega)).trans e3
 have e5:=(AS (m:=Ac (hashX a.nm a.bs)) (o:=o+e+12) (by rw[e4,ll2];omega)).trans e4
 have e6:=(AS (m:=a.nm) (o:=o+e+16) (by rw[e5];omega)).trans e5
 exact (AS (m:=a.bs) (o:=o+(t-CB a.bs.length)) (by rw[e6];omega)).trans e6
attribute [irreducible] HG
theorem Gw {all:Bs}{o e t delta:Nat}{a:XA}:HG all o e t delta a=setL (setL (setL (setL (setL (setL (setL all (o+e) [UInt8.ofNat a.nm.length]) (o+e+1) [UInt8.ofNat a.ix]) (o+e+2) (Aq (t-CB a.bs.length+delta))) (o+e+8) (Ac a.bs.length)) (o+e+12) (Ac (hashX a.nm a.bs))) (o+e+16) a.nm) (o+(t-CB a.bs.length)) a.bs:=by
 unfold HG;rfl
theorem YL {b o t n l:Nat}{all src:Bs}{s:Value}{T:TypeId}(w:AN (pts b (.cells (bcs all) T (0,0))+x) h)(d:RdX x s src)(hl:l≤t)(htn:t≤n)(hs:src.length≤t-l)(hle:o+t≤all.length)
  (K:∀ h,AN (pts b (.cells (bcs (setL all (o+l) src)) T (0,0))+x) h→kt (.int .i64 (src.length:Nat)) h):DI 1 (.slice (some ⟨b,if l=n then o else o+l,none⟩) (t-l) (n-l)) s h kt:=by
 by_cases hln:l=n
 ·rw[A03 hln]
  have:src=[]:=A69.1 (by omega)
  subst this
  refine FN w d (by simp;omega) (by simp) fun h w=>K h ?_
  rw[KB] at w ⊢
  exact w
 ·rw[A05 hln]
  exact FN w d (by omega) hs K
set_option maxRecDepth 20000 in
theorem AEc {Q:Kt}{rec:Value→Value→Value→Value→H→Prop}{l:List XA}{rX:Res}{bb o n c delta i e t:Nat}{all:Bs}{T TX:TypeId}{a:XA}{xa:Option Addr}{xc:Nat}(dx:Vec TX 3 (.slice xa l.length xc) l.length (xaCs l) rX)
  (w:AN (pts bb (.cells (bcs all) T (0,0))+(rX+x)) h) (ha:l[i]? = some a) (hra:RdX x a.v a.bs) (hnl:a.nm.length<256) (hix:a.ix<256) (hbl:a.bs.length<100000) (hi:i<l.length) (hll:l.length≤1000)
  (ho:o+n≤all.length) (hnc:n≤c) (htn:t≤n) (hn2:n+delta<65536) (hne:e+(CB a.nm.length+16+CB a.bs.length)+4≤t)
  (K:∀ h,AN (pts bb (.cells (bcs (HG all o e t delta a)) T (0,0))+(rX+x)) h→rec (.int .u16 ((t-CB a.bs.length+delta:Nat):Int)) (.slice (some ⟨bb,o+(e+16+CB a.nm.length),none⟩) (n-(e+16+CB a.nm.length)) (c-(e+16+CB a.nm.length))) (.slice (some ⟨bb,o,none⟩) (t-CB a.bs.length) c) (.int .i64 ((i+1:Nat):Int)) h) :
  KU Q rec (.slice xa l.length xc) (.int .i64 (l.length:Int)) (.int .u16 ((t+delta:Nat):Int)) (.slice (some ⟨bb,o+e,none⟩) (n-e) (c-e)) (.slice (some ⟨bb,o,none⟩) t c) (.int .i64 (i:Int)) h:=by
 obtain⟨va,vc,hav⟩:=hra.len
 have hu1:a.nm.length≤CB a.nm.length∧CB a.nm.length≤a.nm.length+3:=by unfold CB;omega
 have hu2:a.bs.length≤CB a.bs.length∧CB a.bs.length≤a.bs.length+3:=by unfold CB;omega
 have hhx:hashX a.nm a.bs=hashX a.nm a.bs:=rfl
 have ll:∀ n,(Aq n).length=2:=fun _=>rfl
 have ll2:∀ n,(Ac n).length=4:=fun _=>rfl
 rw[Gw] at K
 unfold KU
 simp (disch:=omega) only[go_sem,A04]
 refine M8 (i:=i) dx (w.cast (Res.left_comm _ _ _)) hi ?_
 rw[TE l i a ha]
 refine Ah w Gu rfl fun xb h w=>?_
 refine AL w (xaC a.nm a.ix a.v) rfl rfl (by simp) (by show List.all [str a.nm,.int .u8 a.ix,a.v] _=true;rw[hav];rfl) fun h w=>?_
 rw[hav] at w hra
 refine TH _ _ _ (AGS (nm:=a.nm) (ix:=a.ix) (a:=va) (T:=291) w (by omega) ?_)
 have e0:=AFr (m:=CB a.bs.length) (by omega)
 simp (disch:=omega) only[go_sem,AF w,IQ]
 have e1:(setL all (o+e) [UInt8.ofNat a.nm.length]).length=all.length:=AS (by simp;omega)
 have e2:=(AS (l:=setL all (o+e) [UInt8.ofNat a.nm.length]) (m:=[UInt8.ofNat a.ix]) (o:=o+e+1) (by rw[e1];simp;omega)).trans e1
 have e3:=(AS (m:=Aq (t-CB a.bs.length+delta)) (o:=o+e+2) (by rw[e2,ll];omega)).trans e2
 have e4:=(AS (m:=Ac a.bs.length) (o:=o+e+8) (by rw[e3,ll2];omega)).trans e3
 have e5:=(AS (m:=Ac (hashX a.nm a.bs)) (o:=o+e+12) (by rw[e4,ll2];omega)).trans e4
 have e6:=(AS (m:=a.nm) (o:=o+e+16) (by rw[e5];omega)).trans e5
 have hoff:t+delta-CB a.bs.length=t-CB a.bs.length+delta:=by omega
 rw[hoff,Sb hnl,A58]
 refine CM (w.cast (Res.left_comm _ _ _)) (by omega) fun h w=>?_
 simp (disch:=omega) only[go_sem,AF w]
 rw[Sb hix]
 refine CM w (by rw[e1];omega) fun h w=>?_
 refine AAw _ _ _ _ (AHy w (by omega) (by rw[e2];omega) fun h w=>?_)
 simp (disch:=omega) only[go_sem,AF w]
 refine Jx _ _ _ _ (ACG w (by omega) (by rw[e3];omega) fun h w=>?_)
 simp (disch:=omega) only[go_sem,AF w]
 refine Yp _ _ _ _ (AH9 w (hra.addR.addR.addR) (by omega) (by omega) fun h w=>?_)
 refine Jx _ _ _ _ (ACG w (by omega) (by rw[e4];omega) fun h w=>?_)
 simp (disch:=omega) only[go_sem,AF w]
 refine PL w (by rw[e5];omega) (by omega) fun h w=>?_
 refine Tp _ _ _ (AGa (nm:=a.nm) (ix:=a.ix) (v:=.slice va a.bs.length vc) (T:=291) w (by omega) ?_)
 simp (disch:=omega) only[Gc,UE,PF,go_sem,AF w]
 refine YL w hra.addR.addR (by omega) (by omega) (by omega) (by rw[e6];omega) fun h w=>?_
 have q1:o+e+(CB a.nm.length+16)=o+(e+16+CB a.nm.length):=by omega
 have q2:n-e-(CB a.nm.length+16)=n-(e+16+CB a.nm.length):=by omega
 have q3:c-e-(CB a.nm.length+16)=c-(e+16+CB a.nm.length):=by omega
 rw[q1,q2,q3]
 exact K _ (AN.right (x:=pts xb (.cells (xaC a.nm a.ix (.slice va a.bs.length vc)) 291 (0,0))) (w.cast (Res.left_comm _ _ _)))
theorem AGN {xv:Value}{l:List XA}{rX:Res}{bb o n c delta:Nat}{all0:Bs}{T TX:TypeId}(dx:Vec TX 3 xv l.length (xaCs l) rX)(w:AN (pts bb (.cells (bcs all0) T (0,0))+(rX+x)) h)(hrd:∀ a∈l,RdX x a.v a.bs∧a.nm.length<256∧a.ix<256∧a.bs.length<100000)
  (ho:o+n≤all0.length) (hnc:n≤c) (hneed:D3 l+4≤n) (hn2:n+delta<65536) (hll:l.length≤1000) (K:∀ h,AN (pts bb (.cells (bcs (Em o delta l 0 n all0)) T (0,0))+(rX+x)) h→Q (.tuple #[]) h) :
  ADD xv (.slice (some ⟨bb,o,none⟩) n c) (.int .u16 (delta:Int)) h Q:=by
 obtain⟨⟨xa,xc,hxv⟩,_⟩:=dx.len
 subst hxv
 unfold ADD
 simp (disch:=omega) only[go_sem]
 unfold V6
 refine AGj (fun m v6 v7 v8 v21 h'=>∃ i e t all,m=l.length-i∧i≤l.length∧v6=.int .u16 ((t+delta:Nat):Int)∧v7=.slice (some ⟨bb,o+e,none⟩) (n-e) (c-e)∧v8=.slice (some ⟨bb,o,none⟩) t c∧v21=.int .i64 (i:Nat)∧
   AN (pts bb (.cells (bcs all) T (0,0))+(rX+x)) h'∧all.length=all0.length∧e+D3 (l.drop i)+4≤t∧t≤n∧Em o delta (l.drop i) e t all=Em o delta l 0 n all0) l.length
  ⟨0,0,n,all0,rfl,A39 _,rfl,rfl,rfl,rfl,w,rfl,by simpa using hneed,A07 _,rfl⟩ ?_
 rintro rec m v6 v7 v8 v21 h' ⟨i,e,t,all,rfl,hi,rfl,rfl,rfl,rfl,w,hal,hne,htn,he⟩ hrec
 by_cases hlt:i<l.length
 ·obtain⟨a,ha⟩:∃ a,l[i]? = some a:=⟨_,A00 (by omega)⟩
  obtain⟨hra,hnl,hix,hbl⟩:=hrd a (A28 ha)
  have hdrop:l.drop i=a::l.drop (i+1):=by
   rw[A50 (by omega)]
   rw[A00 (by omega)] at ha
   rw[A14 ha]
  have hnd:D3 (l.drop i)=a.need+D3 (l.drop (i+1)):=by rw[hdrop];rfl
  unfold XA.need at hnd
  have hu2:a.bs.length≤CB a.bs.length:=by unfold CB;omega
  refine AEc dx w ha hra hnl hix hbl hlt hll (by omega) hnc htn hn2 (by omega) fun h w=>?_
  refine hrec (l.length-(i+1)) _ _ _ _ _ ⟨i+1,e+16+CB a.nm.length,t-CB a.bs.length,HG all o e t delta a,rfl,by omega,rfl,rfl,rfl,rfl,w,?_,by omega,by omega,?_⟩ (by omega)
  ·rw[LQ (by omega) (by omega) (by omega)];exact hal
  ·rw[←he,hdrop,Em]
 ·have:i=l.length:=by omega
  subst this
  unfold KU
  simp (disch:=omega) only[go_sem,A08]
  rw[B15,Em] at he
  rw[he] at w
  exact K _ w
end
section
variable {h:H} {k:Value→Prop} {kt Q:Kt} {x y r:Res}
def I0 (l:List XA):Bs:=Em 4 0 l 0 100 (setL (List.replicate 104 0) 0 (Ac 3925999616))
theorem MS (o delta:Nat):∀ (l:List XA) (e t:Nat) (all:Bs),o+t≤all.length→e+D3 l+4≤t→(Em o delta l e t all).length=all.length
 | [],_,_,_,_,_=>rfl
 | a::l,e,t,all,h1,h2=>by
  have hn:D3 (a::l)=a.need+D3 l:=rfl
  unfold XA.need at hn
  have h3:=LQ (all:=all) (o:=o) (e:=e) (t:=t) (delta:=delta) (a:=a) (by omega) (by omega) h1
  rw[Em,MS o delta l _ _ _ (by rw[h3];omega) (by omega),h3]
theorem Wb {l:List XA}(h:D3 l≤96):(I0 l).length=104:=by
 unfold I0
 have h1:(setL (List.replicate 104 (0:UInt8)) 0 (Ac 3925999616)).length=104:=by rw[AS (by decide)];simp
 rw[MS _ _ _ _ _ _ (by rw[h1];omega) (by omega),h1]
theorem AEk {n:Nd}{nb sb:Nat}{s:XS}{v0:Value}(ok:s.OK)(w:AN (pts nb (.cells n.cells 197 (0,0))+(s.res sb+x)) h)(hil:s.il=[])(hbl:s.bl=[])(hx:n.xblk=0)
  (K:∀ h,AN (pts nb (.cells n.cells 197 (0,0))+(s.res sb+x)) h→Q .nilIface h):UW v0 (Pt nb) (Pt sb) h Q:=by
 obtain⟨⟨ia,ic,hi⟩,_⟩:=ok.i.len
 obtain⟨⟨ba,bcp,hb⟩,_⟩:=ok.b.len
 rw[hil] at hi
 rw[hbl] at hb
 unfold UW
 refine BJ w fun cb h w=>?_
 simp (disch:=omega) only[go_sem,AF w,hi,Value.cells,A61,A08]
 unfold J4
 simp (disch:=omega) only[go_sem,AF w,hb,Value.cells,A61,A08,hx]
 unfold LR
 simp only[go_sem]
 exact K _ w.right
theorem AFC {n:Nd}{nb sb:Nat}{s:XS}{v0:Value}(ok:s.OK)(w:AN (pts nb (.cells n.cells 197 (0,0))+(s.res sb+x)) h)(hil:s.il≠[])(hbl:s.bl=[])(hx:n.xblk=0)(hneed:D3 s.il≤96)
  (hrd:∀ a∈s.il,RdX x a.v a.bs∧a.nm.length<256∧a.ix<256∧a.bs.length<100000)
  (K:∀ xv xr h,BufV xv (I0 s.il) xr→AN (pts nb (.cells (Nd.cells {n with xin:=xv}) 197 (0,0))+(xr+(s.res sb+x))) h→Q .nilIface h):UW v0 (Pt nb) (Pt sb) h Q:=by
 obtain⟨⟨ia,ic,hi⟩,_⟩:=ok.i.len
 obtain⟨⟨ba,bcp,hb⟩,_⟩:=ok.b.len
 rw[hbl] at hb
 have hpos:0<s.il.length:=A99.2 hil
 have hlen:=ok.il.2
 unfold UW
 refine BJ w fun cb h w=>?_
 simp (disch:=omega) only[go_sem,AF w,hi,Value.cells,A04]
 refine ER (n:=104) w (by omega) fun mb h w=>?_
 refine AL w (Nd.cells {n with xin:=.slice (some ⟨mb,0,none⟩) 104 104}) rfl rfl (by simp) rfl fun h w=>?_
 simp (disch:=omega) only[go_sem,AF w]
 refine Jx _ _ _ _ (ACG (m:=3925999616) w (by omega) (by simp) fun h w=>?_)
 simp (disch:=omega) only[go_sem,AF w,hi]
 have h1:(setL (List.replicate 104 (0:UInt8)) 0 (Ac 3925999616)).length=104:=by rw[AS (by decide)];simp
 refine Sc _ _ _ _ _ (AGN (rX:=s.ir) (l:=s.il) (delta:=0) (n:=100) (bb:=mb) (all0:=setL (List.replicate 104 0) 0 (Ac 3925999616)) (T:=5)
  (x:=pts nb (.cells (Nd.cells {n with xin:=.slice (some ⟨mb,0,none⟩) 104 104}) 197 (0,0))+(pts cb (.cells (Pt sb).cells 287 (0,0))+(pts sb (.cells ⟨[s.iv,s.bv,.int .i64 s.ileft,.int .i64 s.bleft]⟩ 284 (0,0))+(s.br+x)))) (hi▸ok.i) (w.cast (by unfold XS.res;ac_rfl))
  (fun a ha=>⟨(hrd a ha).1.addR.addR.addR.addR,(hrd a ha).2⟩) (by rw[h1];omega) (A07 _) (by omega) (by omega) (by omega) fun h w=>?_)
 unfold J4
 simp (disch:=omega) only[go_sem,AF w,hb,Value.cells,A61,A08,hx]
 unfold LR
 simp only[go_sem]
 have hlB:=Wb hneed
 refine K (.slice (some ⟨mb,0,none⟩) 104 104) _ h (.own' (b:=mb) (all:=I0 s.il) (by rw[hlB];omega) hlB (by rw[←hlB,A38])) (AN.right (x:=pts cb (.cells (Pt sb).cells 287 (0,0))) (w.cast ?_))
 unfold XS.res I0
 ac_rfl
end
end Go.Proofs.YtollddkkdgoonaaGreatDoor
