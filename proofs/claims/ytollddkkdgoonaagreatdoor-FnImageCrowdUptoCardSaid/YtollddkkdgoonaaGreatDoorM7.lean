/- A part of a proof over images that are written and read. No condition; a step. -/
import Derived.Test.YtollddkkdgoonaaGreatDoorM6
namespace Go.Proofs.YtollddkkdgoonaaGreatDoor
open Go
set_option linter.unusedVariables false
set_option linter.unusedSimpArgs false
section
set_option maxRecDepth 100000
def OS (Q:Kt)(x0 x1 x2 a3 x378:Value)(h:H):Prop:=
 AK x378
 (Call TP 96 [x0,(.string ⟨#[]⟩),x2,a3] h fun x382 h=>AE x1 fun x386=>AC 0 x386 fun x387=>AB false 1 x387 h fun x388=>Uv 5 x388 h fun x389 h=>Call TP 57 [x0,x389] h fun x390 h=>AO x390 0 fun x391=>AO x390 1 fun x392=>Bq .iface true true h x392 .nilIface fun x394=>AK x394
 (Q (.tuple #[(.pointer none),x392]) h)
 (Call TP 91 [x0] h fun x397 h=>Bq .iface true true h x397 .nilIface fun x399=>AK x399
 (Q (.tuple #[(.pointer none),x397]) h)
 (AE x2 fun x402=>AC 5 x402 fun x403=>AB false 1 x403 h fun x404=>AD .sub x404 (.int .u32 1) fun x405=>AV .i64 x405 fun x406=>AE x0 fun x408=>AC 1 x408 fun x409=>AB false 1 x409 h fun x410=>Ab x410 fun x411=>AD .geq x406 x411 fun x412=>AK x412
 (AE x0 fun x415=>AC 1 x415 fun x416=>AB false 1 x416 h fun x417=>AH (.arr 1) 182 (AG TP 182) 1 1 [(0,x2)] h fun x419 h=>AM 182 (AG TP 182) 1 8 x417 x419 h fun x420 h=>AE x0 fun x421=>AC 1 x421 fun x422=>AJ 1 x422 x420 h fun h=>Q (.tuple #[x2,.nilIface]) h)
 (Q (.tuple #[x2,.nilIface]) h))))
 (AE x2 fun x402=>AC 5 x402 fun x403=>AB false 1 x403 h fun x404=>AD .sub x404 (.int .u32 1) fun x405=>AV .i64 x405 fun x406=>AE x0 fun x408=>AC 1 x408 fun x409=>AB false 1 x409 h fun x410=>Ab x410 fun x411=>AD .geq x406 x411 fun x412=>AK x412
 (AE x0 fun x415=>AC 1 x415 fun x416=>AB false 1 x416 h fun x417=>AH (.arr 1) 182 (AG TP 182) 1 1 [(0,x2)] h fun x419 h=>AM 182 (AG TP 182) 1 8 x417 x419 h fun x420 h=>AE x0 fun x421=>AC 1 x421 fun x422=>AJ 1 x422 x420 h fun h=>Q (.tuple #[x2,.nilIface]) h)
 (Q (.tuple #[x2,.nilIface]) h))
def Ow (Q:Kt)(x0 x1 x2 x9 a2 a3:Value)(h:H):Prop:=
 Call TP 156 [x0,x2,a2] h fun x365 h=>Bq .iface true true h x365 .nilIface fun x367=>AK x367
 (Q (.tuple #[(.pointer none),x365]) h)
 (AE x2 fun x371=>AC 0 x371 fun x372=>AJ 1 x372 a3 h fun h=>AD .eql x9 (.int .u16 40960) fun x374=>Az x374 true (AD .gtr a3 (.int .i64 59) fun x377=>OS Q x0 x1 x2 a3 x377 h) (OS Q x0 x1 x2 a3 (.bool false) h))
def AA3 (Q:Kt)(r1:R1)(x0 x1 x2 x9 a2 a3 x346 x347 x348:Value)(h:H):Prop:=
 AD .lss x348 x347 fun x349=>AK x349
 (AI (.slice 1) x346 x348 fun x350=>AB false 1 x350 h fun x351=>AE x1 fun x354=>AC 19 x354 fun x355=>AB false 1 x355 h fun x356=>CC (some .string) (AG TP 30) false x356 x351 h fun x358=>Call TP 155 [a2,x351,x358] h fun x359 h=>LH .not x359 fun x360=>AK x360
 (Call TP 94 [(.string ⟨#[99,111,117,108,100,32,110,111,116,32,102,105,116,32,120,97,116,116,114]⟩)] h fun x361 h=>Q (.tuple #[(.pointer none),x361]) h)
 (AD .add x348 (.int .i64 1) fun x362=>r1 x362 h))
 (Ow Q x0 x1 x2 x9 a2 a3 h)
def AFU (Q:Kt)(x0 x1 x2 x9 a2 a3 x346 x347 x348:Value)(h:H):Prop:=A1 (fun r1 x348 h=>AA3 Q r1 x0 x1 x2 x9 a2 a3 x346 x347 x348 h) x348 h
def ABV (Q:Kt)(r2:R1)(r3:R1)(x0 x1 x2 x9 a2 a3 a9 b1 b2:Value)(h:H):Prop:=
 AD .sub b2 (.int .i64 1) fun x334=>AD .sub b2 (.int .i64 1) fun x337=>AI (.slice 1) a9 x337 fun x338=>AB false 1 x338 h fun x339=>AI (.slice 1) a9 b2 fun x342=>AB false 1 x342 h fun x343=>AI (.slice 1) a9 b2 fun x344=>AJ 1 x344 x339 h fun h=>AI (.slice 1) a9 x334 fun x345=>AJ 1 x345 x343 h fun h=>AD .sub b2 (.int .i64 1) fun x329=>r3 x329 h
def AA1 (Q:Kt)(r2:R1)(r3:R1)(x0 x1 x2 x9 a2 a3 a9 b1 b2:Value)(h:H):Prop:=
 AD .gtr b2 (.int .i64 0) fun x315=>Az x315 true (AI (.slice 1) a9 b2 fun x319=>AB false 1 x319 h fun x320=>AD .sub b2 (.int .i64 1) fun x323=>AI (.slice 1) a9 x323 fun x324=>AB false 1 x324 h fun x325=>AD .lss x320 x325 fun x326=>AK x326
 (ABV Q r2 r3 x0 x1 x2 x9 a2 a3 a9 b1 b2 h)
 (AD .add b1 (.int .i64 1) fun x312=>r2 x312 h)) (AD .add b1 (.int .i64 1) fun x312=>r2 x312 h)
def AGd (Q:Kt)(r2:R1)(x0 x1 x2 x9 a2 a3 a9 b1 b2:Value)(h:H):Prop:=A1 (fun r3 b2 h=>AA1 Q r2 r3 x0 x1 x2 x9 a2 a3 a9 b1 b2 h) b2 h
def ABb (Q:Kt)(r2:R1)(x0 x1 x2 x9 a2 a3 a9 b1:Value)(h:H):Prop:=
 Ab a9 fun x309=>AD .lss b1 x309 fun x310=>AK x310
 (AGd Q r2 x0 x1 x2 x9 a2 a3 a9 b1 b1 h)
 (Ab a9 fun x347=>AFU Q x0 x1 x2 x9 a2 a3 a9 x347 (.int .i64 0) h)
def AEf (Q:Kt)(x0 x1 x2 x9 a2 a3 a9 b1:Value)(h:H):Prop:=A1 (fun r2 b1 h=>ABb Q r2 x0 x1 x2 x9 a2 a3 a9 b1 h) b1 h
def ABe (Q:Kt)(r4:R1)(x0 x1 x2 x9 a2 a3 x298 a9:Value)(h:H):Prop:=
 HM x298 h fun x299 h=>AO x299 0 fun x300=>AK x300
 (Hb x298 h fun x301=>AO x301 0 fun x302=>AH (.arr 1) 9 (AG TP 9) 1 1 [(0,x302)] h fun x305 h=>AM 9 (AG TP 9) 1 16 a9 x305 h fun x306 h=>r4 x306 h)
 (AEf Q x0 x1 x2 x9 a2 a3 a9 (.int .i64 1) h)
def AFR (Q:Kt)(x0 x1 x2 x9 a2 a3 x298 a9:Value)(h:H):Prop:=A1 (fun r4 a9 h=>ABe Q r4 x0 x1 x2 x9 a2 a3 x298 a9 h) a9 h
def YK (Q:Kt)(r5:R0)(x0 x1 x2 x9 a2 a3 x265:Value)(h:H):Prop:=
 HM x265 h fun x266 h=>AO x266 0 fun x267=>AK x267
 (Hb x265 h fun x268=>AO x268 0 fun x269=>AO x268 1 fun x270=>AE x1 fun x273=>AC 19 x273 fun x274=>AB false 1 x274 h fun x275=>CC (some .string) (AG TP 30) true x275 x269 h fun x277=>AO x277 0 fun x278=>AO x277 1 fun x279=>LH .not x279 fun x281=>AK x281
 (AE x1 fun x283=>AC 19 x283 fun x284=>AB false 1 x284 h fun x285=>Gp (some .string) x285 x269 x270 h fun h=>r5 h)
 (r5 h))
 (AE x1 fun x289=>AC 19 x289 fun x290=>AB false 1 x290 h fun x291=>Ti x291 h fun x292=>AD .neq x292 (.int .i64 0) fun x293=>AK x293
 (AE x1 fun x295=>AC 19 x295 fun x296=>AB false 1 x296 h fun x297=>D5 x297 h fun x298 h=>AFR Q x0 x1 x2 x9 a2 a3 x298 (.slice none 0 0) h)
 (Ow Q x0 x1 x2 x9 a2 a3 h))
def ABA (Q:Kt)(x0 x1 x2 x9 a2 a3 x265:Value)(h:H):Prop:=Kv (fun r5 h=>YK Q r5 x0 x1 x2 x9 a2 a3 x265 h) h
def EM (Q:Kt)(x0 x1 x2 x9 a1 a2 a3:Value)(h:H):Prop:=
 D5 a1 h fun x265 h=>ABA Q x0 x1 x2 x9 a2 a3 x265 h
def OF (Q:Kt)(x0 x1 x2 x9 a1 a2 a3 a4:Value)(h:H):Prop:=
 AE x2 fun x209=>AC 15 x209 fun x210=>AB false 1 x210 h fun x211=>AZ (.slice 1) x211 none (some a4) fun x213=>Call TP 155 [a2,(.string ⟨#[115,121,115,116,101,109,46,100,97,116,97]⟩),x213] h fun x214 h=>LH .not x214 fun x215=>AK x215
 (False )
 (AE x2 fun x218=>AC 14 x218 fun x219=>AB false 1 x219 h fun x220=>AD .or x220 (.int .u32 268435456) fun x221=>AE x2 fun x222=>AC 14 x222 fun x223=>AJ 1 x223 x221 h fun h=>EM Q x0 x1 x2 x9 a1 a2 a3 h)
def PW (Q:Kt)(x0 x1 x2 x9 a1 a2 a3 z9:Value)(h:H):Prop:=
 AK z9
 (AE x1 fun x192=>AC 1 x192 fun x193=>AB false 1 x193 h fun x194=>AY (AG TP 5) 1 1 5 x194 x194 h fun x195 h=>AE x2 fun x196=>AC 15 x196 fun x197=>AJ 1 x197 x195 h fun h=>AE x1 fun x199=>AC 1 x199 fun x200=>AB false 1 x200 h fun x201=>AD .gtr x201 (.int .i64 60) fun x202=>AK x202
 (AE x1 fun x204=>AC 1 x204 fun x205=>AB false 1 x205 h fun x206=>AD .sub x206 (.int .i64 60) fun x207=>OF Q x0 x1 x2 x9 a1 a2 a3 x207 h)
 (OF Q x0 x1 x2 x9 a1 a2 a3 (.int .i64 0) h))
 (EM Q x0 x1 x2 x9 a1 a2 a3 h)
def Oa (Q:Kt)(x0 x1 x2 x9 a1:Value)(h:H):Prop:=
 AE x2 fun w2=>AC 16 w2 fun w3=>AJ 1 w3 (.slice none 0 0) h fun h=>AQ (AG TP 284) 284 h fun a2 h=>Call TP 154 [a2] h fun w4 h=>AD .eql x9 (.int .u16 32768) fun w8=>AK w8
 (AE x1 fun y0=>AC 1 y0 fun y1=>AB false 1 y1 h fun y2=>AE x1 fun y4=>AC 1 y4 fun y5=>AB false 1 y5 h fun y6=>AD .gtr y6 (.int .i64 137438953472) fun y7=>AK y7
 (Call TP 94 [(.string ⟨#[102,105,108,101,32,116,111,111,32,98,105,103]⟩)] h fun y8 h=>Q (.tuple #[(.pointer none),y8]) h)
 (AE x1 fun z0=>AC 1 z0 fun z1=>AB false 1 z1 h fun z2=>AD .leq z2 (.int .i64 136) fun z3=>Az z3 true (AE x0 fun z6=>AC 9 z6 fun z7=>AB false 1 z7 h fun z8=>PW Q x0 x1 x2 x9 a1 a2 y2 z8 h) (PW Q x0 x1 x2 x9 a1 a2 y2 (.bool false) h)))
 (AD .eql x9 (.int .u16 40960) fun x225=>AK x225
 (AE x2 fun x227=>AC 6 x227 fun x228=>AB false 1 x228 h fun x229=>AD .or x229 (.int .u16 511) fun x230=>AE x2 fun x231=>AC 6 x231 fun x232=>AJ 1 x232 x230 h fun h=>AE x1 fun x234=>AC 0 x234 fun x235=>AB false 1 x235 h fun x236=>CL x236 fun x237=>AD .leq x237 (.int .i64 59) fun x239=>AK x239
 (AE x1 fun x242=>AC 0 x242 fun x243=>AB false 1 x243 h fun x244=>CL x244 fun x245=>AY (AG TP 5) 1 1 5 x245 x245 h fun x246 h=>AE x2 fun x247=>AC 15 x247 fun x248=>AJ 1 x248 x246 h fun h=>AE x2 fun x250=>AC 15 x250 fun x251=>AB false 1 x251 h fun x252=>AE x1 fun x254=>AC 0 x254 fun x255=>AB false 1 x255 h fun x256=>DI 1 x252 x256 h fun x257 h=>EM Q x0 x1 x2 x9 a1 a2 x237 h)
 (EM Q x0 x1 x2 x9 a1 a2 x237 h))
 (AD .eql x9 (.int .u16 16384) fun x259=>AK x259
 (EM Q x0 x1 x2 x9 a1 a2 (.int .i64 0) h)
 (AD .eql x9 (.int .u16 4096) fun x260=>AK x260
 (EM Q x0 x1 x2 x9 a1 a2 (.int .i64 0) h)
 (AD .eql x9 (.int .u16 49152) fun x261=>AK x261
 (EM Q x0 x1 x2 x9 a1 a2 (.int .i64 0) h)
 (AD .eql x9 (.int .u16 8192) fun x262=>AK x262
 (EM Q x0 x1 x2 x9 a1 a2 (.int .i64 0) h)
 (AD .eql x9 (.int .u16 24576) fun x263=>AK x263
 (EM Q x0 x1 x2 x9 a1 a2 (.int .i64 0) h)
 (Call TP 94 [(.string ⟨#[105,110,118,97,108,105,100,32,109,111,100,101]⟩)] h fun w6 h=>Q (.tuple #[(.pointer none),w6]) h)))))))
def MF (Q:Kt)(x0 x1 x2 x9:Value)(h:H):Prop:=
 Gl h fun t7 h=>AE x2 fun t9=>AC 16 t9 fun v0=>AB false 1 v0 h fun v1=>Ab v1 fun v2=>AD .gtr v2 (.int .i64 0) fun v3=>AK v3
 (AE x2 fun v5=>AC 16 v5 fun v6=>AB false 1 v6 h fun v7=>AZ (.slice 1) v7 (some (.int .i64 4)) none fun v8=>Call TP 103 [v8,t7,(.int .u16 0)] h fun w0 h=>Oa Q x0 x1 x2 x9 t7 h)
 (Oa Q x0 x1 x2 x9 t7 h)
def K7 (Q:Kt)(x0 x1 x2 x8 x9:Value)(h:H):Prop:=
 AE x2 fun j0=>AC 6 j0 fun j1=>AJ 1 j1 x8 h fun h=>AE x1 fun j4=>AC 3 j4 fun j5=>AB false 1 j5 h fun j6=>AE x2 fun j7=>AC 7 j7 fun j8=>AJ 1 j8 j6 h fun h=>AE x1 fun k1=>AC 4 k1 fun k2=>AB false 1 k2 h fun k3=>AE x2 fun k4=>AC 8 k4 fun k5=>AJ 1 k5 k3 h fun h=>AE x2 fun k7=>AC 14 k7 fun k8=>AJ 1 k8 (.int .u32 262144) h fun h=>AE x1 fun m1=>AC 5 m1 fun m2=>AB true 3 m2 h fun m3=>Call TP 153 [m3] h fun m4 h=>AE x2 fun m5=>AC 1 m5 fun m6=>AJ 1 m6 m4 h fun h=>AE x1 fun m9=>AC 8 m9 fun n0=>AB true 3 n0 h fun n1=>Call TP 153 [n1] h fun n2 h=>AE x2 fun n3=>AC 2 n3 fun n4=>AJ 1 n4 n2 h fun h=>AE x1 fun n7=>AC 11 n7 fun n8=>AB true 3 n8 h fun n9=>Call TP 153 [n9] h fun o0 h=>AE x2 fun o1=>AC 3 o1 fun o2=>AJ 1 o2 o0 h fun h=>AE x1 fun o5=>AC 14 o5 fun o6=>AB true 3 o6 h fun o7=>Call TP 153 [o7] h fun o8 h=>AE x2 fun o9=>AC 4 o9 fun p0=>AJ 1 p0 o8 h fun h=>AE x1 fun p3=>AC 17 p3 fun p4=>AB false 1 p4 h fun p5=>AE x2 fun p6=>AC 12 p6 fun p7=>AJ 1 p7 p5 h fun h=>AE x1 fun q0=>AC 18 q0 fun q1=>AB false 1 q1 h fun q2=>AE x2 fun q3=>AC 13 q3 fun q4=>AJ 1 q4 q2 h fun h=>AE x2 fun q6=>AC 15 q6 fun q7=>AJ 1 q7 (.slice none 0 0) h fun h=>AE x1 fun q9=>AC 19 q9 fun t0=>AB false 1 t0 h fun t1=>Bq .map true false h t1 (.map none) fun t2=>AK t2
 (Gl h fun t4 h=>AE x1 fun t5=>AC 19 t5 fun t6=>AJ 1 t6 t4 h fun h=>MF Q x0 x1 x2 x9 h)
 (MF Q x0 x1 x2 x9 h)
def Ka (Q:Kt)(x0 x1 x2 x8:Value)(h:H):Prop:=
 AD .and x8 (.int .u16 61440) fun c9=>AE x0 fun d1=>AC 1 d1 fun d2=>AB false 1 d2 h fun d3=>Ab d3 fun d4=>AD .add d4 (.int .i64 1) fun d5=>AV .u32 d5 fun d6=>Bq .ptr true false h x2 (.pointer none) fun d8=>AK d8
 (Ae (.struct [(0,1),(1,1),(2,1),(3,1),(4,1),(5,1),(6,1),(7,1),(8,1),(9,1),(10,1),(11,1),(12,1),(13,1),(14,1),(15,1),(16,1),(17,1)]) (AG TP 197) [(5,d6)] fun g0=>BB 197 (g0:Value).cells h fun g1 h=>AD .eql c9 (.int .u16 16384) fun g3=>AK g3
 (Gl h fun g5 h=>AE g1 fun g6=>AC 17 g6 fun g7=>AJ 1 g7 g5 h fun h=>AE g1 fun g9=>AC 9 g9 fun i0=>AJ 1 i0 (.int .u32 1) h fun h=>K7 Q x0 x1 g1 x8 c9 h)
 (K7 Q x0 x1 g1 x8 c9 h))
 (AE x2 fun i2=>AC 14 i2 fun i3=>AB false 1 i3 h fun i4=>AD .and i4 (.int .u32 524288) fun i5=>AD .neq i5 (.int .u32 0) fun i6=>AK i6
 (Call TP 94 [(.string ⟨#[99,97,110,110,111,116,32,111,118,101,114,119,114,105,116,101,32,102,105,108,101,32,119,105,116,104,32,110,111,110,45,105,110,108,105,110,101,32,100,97,116,97]⟩)] h fun i7 h=>Q (.tuple #[(.pointer none),i7]) h)
 (K7 Q x0 x1 x2 x8 c9 h))
def f95 (x0 x1 x2:Value)(h:H)(Q:Kt):Prop:=
 AE x1 fun c0=>AC 2 c0 fun c1=>AB false 1 c1 h fun c2=>AD .and c2 (.int .u16 61440) fun c4=>AD .eql c4 (.int .u16 0) fun c5=>AK c5
 (AD .or c2 (.int .u16 32768) fun c7=>Ka Q x0 x1 x2 c7 h)
 (Ka Q x0 x1 x2 c2 h)
def AIW (Q:Kt)(r:RS):Nat→DJ:=tab [(8589934586,.jn fun e h=>OS Q (e 0) (e 1) (e 2) (e 13) (e 378) h),
 (536870910,.jn fun e h=>Ow Q (e 0) (e 1) (e 2) (e 9) (e 12) (e 13) h),
 (68719476413,.lp [0,1,2,9,12,13,346,347] [348] fun s e l h=>AA3 Q (u1 s) (e 0) (e 1) (e 2) (e 9) (e 12) (e 13) (e 346) (e 347) (gl l 0) h),
 (17592185959570,.jn fun e h=>ABV Q (u1 (r 34359738202)) (u1 (r 2199023244946)) (e 0) (e 1) (e 2) (e 9) (e 12) (e 13) (e 19) (e 21) (e 22) h),
 (4398046489893,.lp [0,1,2,9,12,13,19,21] [22] fun s e l h=>AA1 Q (u1 (r 34359738202)) (u1 s) (e 0) (e 1) (e 2) (e 9) (e 12) (e 13) (e 19) (e 21) (gl l 0) h),
 (68719476405,.lp [0,1,2,9,12,13,19] [21] fun s e l h=>ABb Q (u1 s) (e 0) (e 1) (e 2) (e 9) (e 12) (e 13) (e 19) (gl l 0) h),
 (34359738197,.lp [0,1,2,9,12,13,298] [19] fun s e l h=>ABe Q (u1 s) (e 0) (e 1) (e 2) (e 9) (e 12) (e 13) (e 298) (gl l 0) h),
 (1073741813,.lp [0,1,2,9,12,13,265] [] fun s e l h=>YK Q (u0 s) (e 0) (e 1) (e 2) (e 9) (e 12) (e 13) (e 265) h),
 (134217726,.jn fun e h=>EM Q (e 0) (e 1) (e 2) (e 9) (e 11) (e 12) (e 13) h),
 (274877901550,.jn fun e h=>OF Q (e 0) (e 1) (e 2) (e 9) (e 11) (e 12) (e 13) (e 14) h),
 (17179868846,.jn fun e h=>PW Q (e 0) (e 1) (e 2) (e 9) (e 11) (e 12) (e 13) (e 189) h),
 (4194302,.jn fun e h=>Oa Q (e 0) (e 1) (e 2) (e 9) (e 11) h),
 (1048574,.jn fun e h=>MF Q (e 0) (e 1) (e 2) (e 9) h),
 (254,.jn fun e h=>K7 Q (e 0) (e 1) (e 2) (e 8) (e 9) h),
 (30,.jn fun e h=>Ka Q (e 0) (e 1) (e 2) (e 8) h)]
theorem V0 (x0 x1 x2:Value)(h:H)(Q:Kt)(x:f95 x0 x1 x2 h Q):Call TP 95 [x0,x1,x2] h Q:=Bb (AIW Q) Tryz.func95 (by kernel_rfl) x
end
section
variable {h:H} {k:Value→Prop} {kt Q:Kt} {x y r:Res}
theorem Ir {m ck:Nat}{es:Array MapEntry}(w:AN x h)[f:CO m x (.map es ck)](K:∀ b h,AN (pts b (.mapIter (some m) ck #[] ck)+x) h→kt (Pt b) h):D5 (.map (some m)) h kt:=
 ⟨es,ck,w.find,fun b h' e hb ho=>K b h' (w.new e hb ho)⟩
theorem RA {rr m ck:Nat}{seen:Array Nat}(w:AN x h)[CO rr x (.mapIter (some m) ck seen ck)][CO m x (.map #[] ck)](K:kt (.tuple #[.bool false]) h):HM (Pt rr) h kt:=
 ⟨rr,rfl,.inr ⟨m,ck,seen,#[],w.find,w.find,fun e he=>by simp at he,fun _=>K,fun e he=>by simp at he⟩⟩
theorem AAE {m ck:Nat}{es:Array MapEntry}(w:AN x h)[CO m x (.map es ck)](K:k (.int .i64 es.size)):Ti (.map (some m)) h k:=.inr ⟨m,es,ck,rfl,w.find,K⟩
theorem No (w:AN x h)(K:∀ b h,AN (pts b (.map #[] 0)+x) h→kt (.map (some b)) h):Gl h kt:=fun b h' e hb ho=>K b h' (w.new e hb ho)
theorem LW {ad ad':Nat→Nat}:∀ (L:List (Option Nd)),(∀ n,some n∈L→ad n.num=ad' n.num∧∀ mb es,n.dir=some (mb,es)→∀ e∈es,ad e.2=ad' e.2)→sumR ad L=sumR ad' L
 | [],_=>rfl
 | o::l,hh=>by
  rw[sumR,sumR,LW l fun n hn=>hh n (A16 _ hn)]
  congr 1
  cases o with
  | none=>rfl
  | some n=>
   obtain⟨h1,h2⟩:=hh n (A13 ..)
   show Nd.res ad n=Nd.res ad' n
   unfold Nd.res Nd.kr
   rw[h1]
   cases hd:n.dir with
   | none=>rfl
   | some me=>
    obtain⟨mb,es⟩:=me
    have:DP (fun c=>Pt (ad c)) es=DP (fun c=>Pt (ad' c)) es:=by
     unfold DP
     congr 1
     apply A72
     intro p hp
     have hm:p.1∈es:=(List.mem_zipIdx' hp).2▸Q3 _
     simp only[h2 mb es hd p.1 hm]
    simp only[CP,this]
theorem Dx {ad:Nat→Nat}(o:Option Nd):∀ L:List (Option Nd),sumR ad (L++[o])=ndR ad o+sumR ad L
 | []=>by simp[sumR]
 | a::l=>by rw[A82,sumR,Dx o l,sumR,Res.left_comm]
theorem AFy {s:WS}{ad:Nat→Nat}{L:List (Option Nd)}{tr:Res}{n:Nd}{nb:Nat}{v1 v13:Value}(ok:FOK s ad L tr)(w:AN (FR s ad L tr+(pts nb (.cells n.cells 197 (0,0))+x)) h)(hnum:n.num=L.length+1)(hlen:L.length<9999)
  (K:∀ inv tr' h,Vec 182 1 inv (L.length+1) (L.map (ptrO ad)++[Pt nb]) tr'→AN (WS.res {s with inv:=inv}+(tr'+sumR ad L)+(pts nb (.cells n.cells 197 (0,0))+x)) h→Q (.tuple #[Pt nb,.nilIface]) h) :
  OS Q (Pt s.wb) v1 (Pt nb) v13 (.bool false) h:=by
 obtain⟨⟨a,c,hv⟩,hvl⟩:=ok.vec.len
 unfold OS
 simp (disch:=omega) only[go_sem,AF w,hnum,hv,A79,A04]
 have dv:=ok.vec
 rw[hv] at dv
 refine EY (x:=s.res+(sumR ad L+(pts nb (.cells n.cells 197 (0,0))+x))) dv (w.cast (by unfold FR;ac_rfl)) Hi rfl rfl rfl (by omega) (by omega) fun inv tr' h dv w=>?_
 obtain⟨⟨a2,c2,hiv⟩,_⟩:=dv.len
 subst hiv
 refine AL w (WS.cells {s with inv:=.slice a2 (L.length+1) c2}) rfl rfl (by simp) rfl fun h w=>?_
 exact K _ tr' h dv (w.cast (by unfold WS.res;ac_rfl))
end
section
variable {h:H} {k:Value→Prop} {kt Q:Kt} {x y r:Res}
def Oj (l:List XA):Bs:=if l=[] then [] else I0 l
theorem AG9 {n:Nd}{nb sb:Nat}{s:XS}{v0:Value}(ok:s.OK)(w:AN (pts nb (.cells n.cells 197 (0,0))+(s.res sb+x)) h)(hbl:s.bl=[])(hx:n.xblk=0)(hxin:n.xin=.slice none 0 0)(hneed:D3 s.il≤96)
  (hrd:∀ a∈s.il,RdX x a.v a.bs∧a.nm.length<256∧a.ix<256∧a.bs.length<100000)
  (K:∀ xv xr h,BufV xv (Oj s.il) xr→AN (pts nb (.cells (Nd.cells {n with xin:=xv}) 197 (0,0))+(xr+(s.res sb+x))) h→Q .nilIface h):UW v0 (Pt nb) (Pt sb) h Q:=by
 by_cases hil:s.il=[]
 ·refine AEk ok w hil hbl hx fun h w=>K (.slice none 0 0) 0 h ?_ ?_
  ·unfold Oj;rw[A03 hil];exact .nil
  ·have:({n with xin:=.slice none 0 0}:Nd)=n:=by rw[←hxin]
   rw[this,Res.zero_add];exact w
 ·refine AFC ok w hil hbl hx hneed hrd fun xv xr h b w=>K xv xr h ?_ w
  unfold Oj;rw[A05 hil];exact b
theorem AFl {s:WS}{ad:Nat→Nat}{L:List (Option Nd)}{tr:Res}{n:Nd}{nb sb kd sz:Nat}{xs:XS}{v1:Value}(ok:FOK s ad L tr)(xok:xs.OK)(w:AN (FR s ad L tr+(pts nb (.cells n.cells 197 (0,0))+(xs.res sb+x))) h)(hnum:n.num=L.length+1)(hlen:L.length<9999)
  (hbl:xs.bl=[]) (hx:n.xblk=0) (hxin:n.xin=.slice none 0 0) (hneed:D3 xs.il≤96) (hrd:∀ a∈xs.il,RdX x a.v a.bs∧a.nm.length<256∧a.ix<256∧a.bs.length<100000) (hkd:kd≠40960) (hsz:sz<9223372036854775808)
  (K:∀ xv xr inv tr' h,BufV xv (Oj xs.il) xr→Vec 182 1 inv (L.length+1) (L.map (ptrO ad)++[Pt nb]) tr' →
   AN (WS.res {s with inv:=inv}+(tr'+sumR ad L)+(pts nb (.cells (Nd.cells {n with xin:=xv,size:=sz}) 197 (0,0))+(xr+(xs.res sb+x)))) h→Q (.tuple #[Pt nb,.nilIface]) h) :
  Ow Q (Pt s.wb) v1 (Pt nb) (.int .u16 (kd:Int)) (Pt sb) (.int .i64 (sz:Int)) h:=by
 unfold Ow
 refine Zo _ _ _ _ _ (AG9 (x:=FR s ad L tr+x) xok (w.cast (by unfold FR WS.res XS.res;ac_rfl)) hbl hx hxin hneed (fun a ha=>⟨(hrd a ha).1.addR,(hrd a ha).2⟩) fun xv xr h bx w=>?_)
 simp (disch:=omega) only[go_sem]
 refine AL w (Nd.cells {n with xin:=xv,size:=sz}) rfl rfl (by simp) rfl fun h w=>?_
 simp (disch:=omega) only[go_sem,A08]
 refine AFy (x:=xr+(xs.res sb+x)) (n:={n with xin:=xv,size:=sz}) ok (w.cast (by unfold FR WS.res XS.res;ac_rfl)) hnum hlen fun inv tr' h dv w=>?_
 exact K xv xr inv tr' h bx dv w
theorem ABF {s:WS}{ad:Nat→Nat}{L:List (Option Nd)}{tr:Res}{n:Nd}{nb sb kd sz fb em fm:Nat}{fc:List Value}{xs:XS}(ok:FOK s ad L tr)(xok:xs.OK)
  (w:AN (FR s ad L tr+(pts nb (.cells n.cells 197 (0,0))+(xs.res sb+(pts fb (.cells ⟨fc⟩ 191 (0,0))+(pts em (.map #[] 0)+(pts fm (.map #[] 0)+x)))))) h) (hfc:fc[19]? = some (.map (some fm))) (hnum:n.num=L.length+1) (hlen:L.length<9999)
  (hbl:xs.bl=[]) (hx:n.xblk=0) (hxin:n.xin=.slice none 0 0) (hneed:D3 xs.il≤96) (hrd:∀ a∈xs.il,RdX x a.v a.bs∧a.nm.length<256∧a.ix<256∧a.bs.length<100000) (hkd:kd≠40960) (hsz:sz<9223372036854775808)
  (K:∀ xv xr inv tr' h,BufV xv (Oj xs.il) xr→Vec 182 1 inv (L.length+1) (L.map (ptrO ad)++[Pt nb]) tr' →
   AN (WS.res {s with inv:=inv}+(tr'+sumR ad L)+(pts nb (.cells (Nd.cells {n with xin:=xv,size:=sz}) 197 (0,0))+(xr+(pts fb (.cells ⟨fc⟩ 191 (0,0))+x)))) h→Q (.tuple #[Pt nb,.nilIface]) h) :
  EM Q (Pt s.wb) (Pt fb) (Pt nb) (.int .u16 (kd:Int)) (.map (some em)) (Pt sb) (.int .i64 (sz:Int)) h:=by
 unfold EM
 refine Ir (m:=em) w fun ib h w=>?_
 unfold ABA
 refine ABT (fun m h'=>m=0∧AN (pts ib (.mapIter (some em) 0 #[] 0)+(FR s ad L tr+(pts nb (.cells n.cells 197 (0,0))+(xs.res sb+(pts fb (.cells ⟨fc⟩ 191 (0,0))+(pts em (.map #[] 0)+(pts fm (.map #[] 0)+x))))))) h') 0 ⟨rfl,w⟩ ?_
 rintro rec m h' ⟨_,w⟩ hrec
 unfold YK
 refine RA (m:=em) w ?_
 simp (disch:=omega) only[go_sem]
 rw[AF w]
 have:(⟨fc⟩:Array Value)[19]? = some (.map (some fm)):=by simpa using hfc
 rw[this]
 simp only[go_sem]
 refine AAE (m:=fm) w ?_
 simp (disch:=omega) only[go_sem,A31,A61,A08]
 refine AFl (x:=pts ib (.mapIter (some em) 0 #[] 0)+(pts fb (.cells ⟨fc⟩ 191 (0,0))+(pts em (.map #[] 0)+(pts fm (.map #[] 0)+x)))) ok xok (w.cast (by unfold FR WS.res XS.res;ac_rfl)) hnum hlen hbl hx hxin hneed (fun a ha=>⟨(hrd a ha).1.addR.addR.addR.addR,(hrd a ha).2⟩) hkd hsz fun xv xr inv tr' h bx dv w=>?_
 refine K xv xr inv tr' h bx dv (AN.left (y:=xs.res sb+(pts ib (.mapIter (some em) 0 #[] 0)+(pts em (.map #[] 0)+pts fm (.map #[] 0)))) (w.cast ?_))
 unfold WS.res XS.res
 ac_rfl
end
section
variable {h:H} {k:Value→Prop} {kt Q:Kt} {x y r:Res}
structure Tm where
 set:Bool
 sec:Nat
 ns:Nat
structure FL where
 link:Bs
 size:Nat
 mode:Nat
 uid:Nat
 gid:Nat
 at_:Tm
 ct:Tm
 mt:Tm
 cr:Tm
 dmaj:Nat
 dmin:Nat
abbrev FL.cells (f:FL)(xa:Value):List Value:=[str f.link,.int .i64 f.size,.int .u16 f.mode,.int .u32 f.uid,.int .u32 f.gid,.bool f.at_.set,.int .i64 f.at_.sec,.int .i64 f.at_.ns,.bool f.ct.set,.int .i64 f.ct.sec,.int .i64 f.ct.ns,
 .bool f.mt.set,.int .i64 f.mt.sec,.int .i64 f.mt.ns,.bool f.cr.set,.int .i64 f.cr.sec,.int .i64 f.cr.ns,.int .u32 f.dmaj,.int .u32 f.dmin,xa]
def Tm.ok (t:Tm):Prop:=t.sec<9223372036854775808∧t.ns<1000000000
def Tm.laid (t:Tm):Nat:=Ku t.set t.sec t.ns
def Nd.of (n:Nd)(f:FL)(m:Nat):Nd:={n with mode:=m,uid:=f.uid,gid:=f.gid,flags:=262144,at_:=f.at_.laid,ct:=f.ct.laid,mt:=f.mt.laid,cr:=f.cr.laid,dmaj:=f.dmaj,dmin:=f.dmin,data:=.slice none 0 0}
theorem AEl {n:Nd}{nb fb m:Nat}{f:FL}{v0 v9:Value}(w:AN (pts nb (.cells n.cells 197 (0,0))+(pts fb (.cells ⟨f.cells (.map none)⟩ 191 (0,0))+x)) h)(h1:f.at_.ok)(h2:f.ct.ok)(h3:f.mt.ok)(h4:f.cr.ok)
  (K:∀ fm h,AN (pts nb (.cells (n.of f m).cells 197 (0,0))+(pts fb (.cells ⟨f.cells (.map (some fm))⟩ 191 (0,0))+(pts fm (.map #[] 0)+x))) h→MF Q v0 (Pt fb) (Pt nb) v9 h) :
  K7 Q v0 (Pt fb) (Pt nb) (.int .u16 (m:Int)) v9 h:=by
 unfold K7
 simp (disch:=omega) only[go_sem,AF w]
 refine AL w (Nd.cells {n with mode:=m}) rfl rfl (by simp) rfl fun h w=>?_
 simp (disch:=omega) only[go_sem,AF w]
 refine AL w (Nd.cells {n with mode:=m,uid:=f.uid}) rfl rfl (by simp) rfl fun h w=>?_
 simp (disch:=omega) only[go_sem,AF w]
 refine AL w (Nd.cells {n with mode:=m,uid:=f.uid,gid:=f.gid}) rfl rfl (by simp) rfl fun h w=>?_
 refine AL w (Nd.cells {n with mode:=m,uid:=f.uid,gid:=f.gid,flags:=262144}) rfl rfl (by simp) rfl fun h w=>?_
 rw[Am (w.find (b:=fb)) (by simp)]
 refine Je _ _ _ (Zf (set:=f.at_.set) (sec:=f.at_.sec) (ns:=f.at_.ns) w h1.1 h1.2 fun h w=>?_)
 refine AL w (Nd.cells {n with mode:=m,uid:=f.uid,gid:=f.gid,flags:=262144,at_:=f.at_.laid}) rfl rfl (by simp) rfl fun h w=>?_
 rw[Am (w.find (b:=fb)) (by simp)]
 refine Je _ _ _ (Zf (set:=f.ct.set) (sec:=f.ct.sec) (ns:=f.ct.ns) w h2.1 h2.2 fun h w=>?_)
 refine AL w (Nd.cells {n with mode:=m,uid:=f.uid,gid:=f.gid,flags:=262144,at_:=f.at_.laid,ct:=f.ct.laid}) rfl rfl (by simp) rfl fun h w=>?_
 rw[Am (w.find (b:=fb)) (by simp)]
 refine Je _ _ _ (Zf (set:=f.mt.set) (sec:=f.mt.sec) (ns:=f.mt.ns) w h3.1 h3.2 fun h w=>?_)
 refine AL w (Nd.cells {n with mode:=m,uid:=f.uid,gid:=f.gid,flags:=262144,at_:=f.at_.laid,ct:=f.ct.laid,mt:=f.mt.laid}) rfl rfl (by simp) rfl fun h w=>?_
 rw[Am (w.find (b:=fb)) (by simp)]
 refine Je _ _ _ (Zf (set:=f.cr.set) (sec:=f.cr.sec) (ns:=f.cr.ns) w h4.1 h4.2 fun h w=>?_)
 refine AL w (Nd.cells {n with mode:=m,uid:=f.uid,gid:=f.gid,flags:=262144,at_:=f.at_.laid,ct:=f.ct.laid,mt:=f.mt.laid,cr:=f.cr.laid}) rfl rfl (by simp) rfl fun h w=>?_
 simp (disch:=omega) only[go_sem,AF w]
 refine AL w (Nd.cells {n with mode:=m,uid:=f.uid,gid:=f.gid,flags:=262144,at_:=f.at_.laid,ct:=f.ct.laid,mt:=f.mt.laid,cr:=f.cr.laid,dmaj:=f.dmaj}) rfl rfl (by simp) rfl fun h w=>?_
 simp (disch:=omega) only[go_sem,AF w]
 refine AL w (Nd.cells {n with mode:=m,uid:=f.uid,gid:=f.gid,flags:=262144,at_:=f.at_.laid,ct:=f.ct.laid,mt:=f.mt.laid,cr:=f.cr.laid,dmaj:=f.dmaj,dmin:=f.dmin}) rfl rfl (by simp) rfl fun h w=>?_
 refine AL w (n.of f m).cells rfl rfl (by simp) rfl fun h w=>?_
 simp (disch:=omega) only[go_sem,AF w]
 have he:Bq .map true false h (.map none) (.map none)=fun k=>k (.bool true):=by funext k;simp[Bq,GG]
 rw[he]
 simp only[go_sem]
 refine No w fun fm h w=>?_
 refine AL w ⟨f.cells (.map (some fm))⟩ rfl rfl (by simp) rfl fun h w=>?_
 exact K fm h (w.cast (by ac_rfl))
end
section
variable {h:H} {k:Value→Prop} {kt Q:Kt} {x y r:Res}
theorem ZO:AG TP 284=some (.agg ⟨[.slice none 0 0,.slice none 0 0,.int .i64 0,.int .i64 0]⟩):=by kernel_rfl
theorem Ma {kk:IntKind}{b o n c j:Nat}(h2:j≤c):AZ (.slice 1) (.slice (some ⟨b,o,none⟩) n c) none (some (.int kk (j:Int))) k=k (.slice (some ⟨b,o,none⟩) j c):=by
 have hv:A6 (.slice 1) (.slice (some ⟨b,o,none⟩) n c) none (some (.int kk (j:Int)))=some (.slice (some ⟨b,o,none⟩) j c):=by
  simp only[A6,Dp]
  simp only[Ay]
  rw[A03 ⟨A39 _,h2⟩]
  by_cases hc:c=0
  ·rw[A03 hc];simp[hc]
  ·rw[A05 hc];simp[Addr.add]
 exact propext ⟨fun⟨v,a,b⟩=>by rw[hv] at a;cases a;exact b,fun a=>⟨_,hv,a⟩⟩
def AA9:Bs:=[115,121,115,116,101,109,46,100,97,116,97]
theorem UF:DB AA9 PX=(7,[100,97,116,97]):=by decide
def inlK (inl:Bool)(kd sz:Nat):Bool:=inl&&kd == 32768&&decide (sz≤136)
def Ep (v:Value)(sz:Nat):XA:=⟨[100,97,116,97],7,v,List.replicate (sz-60) 0⟩
def xinK (inl:Bool)(kd sz:Nat):Bs:=if inlK inl kd sz=true then I0 [Ep (.slice none 0 0) sz] else []
theorem AD0 (v v':Value)(sz:Nat):I0 [Ep v sz]=I0 [Ep v' sz]:=by
 unfold I0
 simp only[Em,Gw,Ep]
def kindOk (kd:Nat):Prop:=kd=32768∨kd=16384∨kd=4096∨kd=49152∨kd=8192∨kd=24576
def szK (kd sz:Nat):Nat:=if kd=32768 then sz else 0
def flK (inl:Bool)(kd sz:Nat):Nat:=if inlK inl kd sz=true then 268697600 else 262144
def datK (inl:Bool)(kd sz:Nat):Bs:=if inlK inl kd sz=true then List.replicate sz 0 else []
theorem ABY {b m n:Nat}{T:TypeId}{fz:Nat×Nat}(hm:m≤n):RdX (pts b (.cells (bcs (List.replicate n 0)) T fz)+y) (.slice (some ⟨b,0,none⟩) m n) (List.replicate m 0):=
 .inr ⟨b,0,n,(List.replicate n 0).map bc,T,fz,y,by rw[A09],rfl,by simp;omega,by rw[A68,A09,←B11,B49,A30 hm],by simp;omega⟩
set_option maxRecDepth 20000 in
theorem AEu {s:WS}{ad:Nat→Nat}{L:List (Option Nd)}{tr:Res}{n:Nd}{nb kd fb em fm:Nat}{f:FL}(ok:FOK s ad L tr)(g:JX x)
  (w:AN (FR s ad L tr+(pts nb (.cells n.cells 197 (0,0))+(pts fb (.cells ⟨f.cells (.map (some fm))⟩ 191 (0,0))+(pts em (.map #[] 0)+(pts fm (.map #[] 0)+x))))) h) (hnum:n.num=L.length+1) (hlen:L.length<9999) (hx:n.xblk=0) (hfl:n.flags=262144) (hdat:n.data=.slice none 0 0)
  (hkd:kindOk kd) (hsz:f.size≤137438953472)
  (K:∀ xv xr dv dr inv tr' h,BufV xv (xinK s.inl kd f.size) xr→BufV dv (datK s.inl kd f.size) dr→Vec 182 1 inv (L.length+1) (L.map (ptrO ad)++[Pt nb]) tr' →
   AN (WS.res {s with inv:=inv}+(tr'+sumR ad L)+(pts nb (.cells (Nd.cells {n with xin:=xv,size:=szK kd f.size,flags:=flK s.inl kd f.size,data:=dv}) 197 (0,0))+(xr+(dr+(pts fb (.cells ⟨f.cells (.map (some fm))⟩ 191 (0,0))+x))))) h→Q (.tuple #[Pt nb,.nilIface]) h) :
  Oa Q (Pt s.wb) (Pt fb) (Pt nb) (.int .u16 (kd:Int)) (.map (some em)) h:=by
 unfold Oa
 simp (disch:=omega) only[go_sem,AF w]
 refine AL w (Nd.cells {n with xin:=.slice none 0 0}) rfl rfl (by simp) rfl fun h w=>?_
 refine Ah w ZO rfl fun sb h w=>?_
 refine Zh _ _ _ (AID w fun h w=>?_)
 have xok:XS.OK ⟨.slice none 0 0,[],0,.slice none 0 0,[],0,96,4060⟩:=⟨.nil,.nil,by simp,by simp⟩
 have plain:∀ sz,sz=szK kd f.size→inlK s.inl kd f.size=false→EM Q (Pt s.wb) (Pt fb) (Pt nb) (.int .u16 (kd:Int)) (.map (some em)) (Pt sb) (.int .i64 (sz:Int)) h:=by
  intro sz hs hi
  refine ABF (n:={n with xin:=.slice none 0 0}) (xs:=⟨.slice none 0 0,[],0,.slice none 0 0,[],0,96,4060⟩) (fc:=f.cells (.map (some fm))) (em:=em) (fm:=fm) (x:=x) ok xok (w.cast ?_) rfl hnum hlen rfl hx rfl (by simp[D3]) (by simp) ?_ ?_ fun xv xr inv tr' h bx dv w=>?_
  ·unfold FR WS.res XS.res;rw[Res.add_zero];simp only[Res.add_zero];ac_rfl
  ·rcases hkd with h|h|h|h|h|h<;>omega
  ·rw[hs];unfold szK;split<;>omega
  ·have h1:xinK s.inl kd f.size=Oj []:=by unfold xinK;rw[hi];rfl
   have h2:datK s.inl kd f.size=[]:=by unfold datK;rw[hi];rfl
   have h3:flK s.inl kd f.size=262144:=by unfold flK;rw[hi];rfl
   refine K xv xr (.slice none 0 0) 0 inv tr' h (by rw[h1];exact bx) (by rw[h2];exact .nil) dv ?_
   have e:Nd.cells {n with xin:=xv,size:=szK kd f.size,flags:=flK s.inl kd f.size,data:=.slice none 0 0}=Nd.cells {n with xin:=xv,size:=sz}:=by
    rw[h3,←hfl,←hdat,hs]
   rw[e,Res.zero_add]
   exact w
 have hne:∀ kd',kd=kd'→kd'≠32768→EM Q (Pt s.wb) (Pt fb) (Pt nb) (.int .u16 (kd:Int)) (.map (some em)) (Pt sb) (.int .i64 0) h:=fun kd' h1 h2=>by
  refine plain 0 ?_ ?_
  ·unfold szK;rw[A05 (by omega)]
  ·unfold inlK;have:(kd == 32768)=false:=by simp;omega
   rw[this];simp
 rcases hkd with hk|hk|hk|hk|hk|hk
 ·rw[hk]
  simp (disch:=omega) only[go_sem,AF w,A04,A08]
  have pl:inlK s.inl kd f.size=false→EM Q (Pt s.wb) (Pt fb) (Pt nb) (.int .u16 ((32768:Nat):Int)) (.map (some em)) (Pt sb) (.int .i64 (f.size:Int)) h:=fun hi=>by
   have:=plain f.size (by unfold szK;rw[A03 hk]) hi
   rw[hk] at this
   exact this
  refine C3 (fun hc=>?_) (fun hc=>?_)
  ·unfold PW
   cases hin:s.inl with
   | false=>
    simp only[go_sem]
    exact pl (by unfold inlK;rw[hin];rfl)
   | true=>
    have hI:inlK s.inl kd f.size=true:=by unfold inlK;rw[hin,hk];simp;omega
    simp (disch:=omega) only[go_sem,AF w]
    refine ER w (by omega) fun mb h w=>?_
    refine AL w (Nd.cells {n with xin:=.slice none 0 0,data:=.slice (some ⟨mb,0,none⟩) f.size f.size}) rfl rfl (by simp) rfl fun h w=>?_
    simp (disch:=omega) only[go_sem,AF w]
    have fin:∀ ex,ex=f.size-60→OF Q (Pt s.wb) (Pt fb) (Pt nb) (.int .u16 ((32768:Nat):Int)) (.map (some em)) (Pt sb) (.int .i64 (f.size:Int)) (.int .i64 (ex:Int)) h:=by
     intro ex hex
     unfold OF
     simp (disch:=omega) only[go_sem,AF w]
     rw[Ma (by omega)]
     have hcl:=UF
     refine ZA _ _ _ _ _ (AH2 (nm:=AA9) (bs:=List.replicate ex 0) (s:=⟨.slice none 0 0,[],0,.slice none 0 0,[],0,96,4060⟩)
      (x:=buf mb (List.replicate f.size 0)+(FR s ad L tr+(pts nb (.cells (Nd.cells {n with xin:=.slice none 0 0,data:=.slice (some ⟨mb,0,none⟩) f.size f.size}) 197 (0,0))+(pts fb (.cells ⟨f.cells (.map (some fm))⟩ 191 (0,0))+(pts em (.map #[] 0)+(pts fm (.map #[] 0)+x)))))) g.addR.addR.addR.addR.addR.addR xok (w.cast ?_) (by decide) (ABY (by omega)) (by simp;omega) ?_ (by rw[hcl];decide) (fun iv ir h xok2 w=>?_) (by simp))
     ·unfold FR WS.res XS.res;simp only[Res.add_zero];ac_rfl
     ·rw[hcl]
      unfold XA.need CB
      simp;omega
     ·rw[hcl] at w xok2
      simp (disch:=omega) only[go_sem,A91,AF w]
      refine AL w (Nd.cells {n with xin:=.slice none 0 0,data:=.slice (some ⟨mb,0,none⟩) f.size f.size,flags:=n.flags ||| 268435456}) rfl rfl (by simp) rfl fun h w=>?_
      have hxl:([]:List XA)++[(⟨[100,97,116,97],7,.slice (some ⟨mb,0,none⟩) ex f.size,List.replicate ex 0⟩:XA)]=[Ep (.slice (some ⟨mb,0,none⟩) ex f.size) f.size]:=by rw[hex];rfl
      have hu:CB ex≤76:=by unfold CB;omega
      have hndd:D3 [Ep (.slice (some ⟨mb,0,none⟩) ex f.size) f.size]≤96:=by
       unfold D3 Ep XA.need CB
       simp
       omega
      refine ABF (n:={n with xin:=.slice none 0 0,data:=.slice (some ⟨mb,0,none⟩) f.size f.size,flags:=n.flags ||| 268435456}) (fc:=f.cells (.map (some fm))) (em:=em) (fm:=fm) (x:=buf mb (List.replicate f.size 0)+x) ok xok2 (w.cast ?_) rfl hnum hlen rfl hx rfl ?_ ?_ (by omega) (by omega) fun xv xr inv tr' h bx dv w=>?_
      ·unfold FR WS.res XS.res;ac_rfl
      ·dsimp only;rw[hxl];exact hndd
      ·intro a ha
       dsimp only at ha
       rw[hxl,A78] at ha
       subst ha
       exact⟨by show RdX _ (.slice (some ⟨mb,0,none⟩) ex f.size) (List.replicate (f.size-60) 0);rw[←hex];exact ABY (by omega),by simp[Ep],by simp[Ep],by simp[Ep];omega⟩
      ·have h1:xinK s.inl kd f.size=Oj [Ep (.slice (some ⟨mb,0,none⟩) ex f.size) f.size]:=by
        unfold xinK Oj;rw[A03 hI,A05 (by simp)];exact AD0 _ _ _
       have h2:datK s.inl kd f.size=List.replicate f.size 0:=by unfold datK;rw[A03 hI]
       have h3:flK s.inl kd f.size=n.flags ||| 268435456:=by unfold flK;rw[A03 hI,hfl];rfl
       have h4:szK kd f.size=f.size:=by unfold szK;rw[A03 hk]
       dsimp only at bx
       rw[hxl,←h1] at bx
       refine K xv xr (.slice (some ⟨mb,0,none⟩) f.size f.size) (buf mb (List.replicate f.size 0)) inv tr' h bx (.own' (by simp) (by simp) (by rw[h2];simp)) dv (w.cast ?_)
       have e:Nd.cells {n with xin:=xv,size:=szK kd f.size,flags:=flK s.inl kd f.size,data:=.slice (some ⟨mb,0,none⟩) f.size f.size}=Nd.cells {n with xin:=xv,size:=f.size,flags:=n.flags ||| 268435456,data:=.slice (some ⟨mb,0,none⟩) f.size f.size}:=by rw[h3,h4]
       rw[e]
       dsimp only
       ac_rfl
    refine AX (fun h60=>?_) (fun h60=>?_)
    ·simp (disch:=omega) only[go_sem]
     exact fin (f.size-60) rfl
    ·exact fin 0 (by omega)
  ·unfold PW
   simp only[go_sem]
   exact pl (by
          unfold inlK;have:decide (f.size≤136)=false:=by simp;omega
          rw[this];simp)
 ·rw[hk]
  simp (disch:=omega) only[go_sem,A04,A08]
  have:=hne _ hk (by omega)
  rw[hk] at this
  exact this
 ·rw[hk]
  simp (disch:=omega) only[go_sem,A04,A08]
  have:=hne _ hk (by omega)
  rw[hk] at this
  exact this
 ·rw[hk]
  simp (disch:=omega) only[go_sem,A04,A08]
  have:=hne _ hk (by omega)
  rw[hk] at this
  exact this
 ·rw[hk]
  simp (disch:=omega) only[go_sem,A04,A08]
  have:=hne _ hk (by omega)
  rw[hk] at this
  exact this
 ·rw[hk]
  simp (disch:=omega) only[go_sem,A04,A08]
  have:=hne _ hk (by omega)
  rw[hk] at this
  exact this
end
section
variable {h:H} {k:Value→Prop} {kt Q:Kt} {x y r:Res}
theorem Yu:AG TP 197=some (.agg ⟨[.int .i64 0,.int .u64 0,.int .u64 0,.int .u64 0,.int .u64 0,.int .u32 0,.int .u16 0,.int .u32 0,.int .u32 0,.int .u32 0,.int .u32 0,.int .u32 0,.int .u32 0,.int .u32 0,.int .u32 0,.slice none 0 0,.slice none 0 0,.map none]⟩):=by kernel_rfl
def nd0 (num:Nat):Nd:=⟨num,0,0,0,0,0,0,0,0,0,0,0,0,0,0,.slice none 0 0,[],0,.slice none 0 0,[],0,none⟩
structure MX (f:FL) (num:Nat) (inl:Bool) (m:Nat) (n:Nd):Prop where
 num:n.num=num
 mode:n.mode=m
 size:n.size=szK (kindB m) f.size
 own:n.uid=f.uid∧n.gid=f.gid
 time:n.at_=f.at_.laid∧n.ct=f.ct.laid∧n.mt=f.mt.laid∧n.cr=f.cr.laid
 links:n.links=if kindB m=16384 then 1 else 0
 blk:n.xblk=0∧n.bcnt=0
 dev:n.dmaj=f.dmaj∧n.dmin=f.dmin
 flags:n.flags=flK inl (kindB m) f.size
 dat:n.dbs=datK inl (kindB m) f.size
 xat:n.xbs=xinK inl (kindB m) f.size
 dir:if kindB m=16384 then ∃ mb,n.dir=some (mb,[]) else n.dir=none
 bd:BufV n.data n.dbs n.dr
 bx:BufV n.xin n.xbs n.xr
theorem YY {s:WS}{ad:Nat→Nat}{L:List (Option Nd)}{tr tr':Res}{n:Nd}{nb m:Nat}{inv:Value}{f:FL}(ok:FOK s ad L tr)(hn:MX f (L.length+1) s.inl m n)(hm:m<65536)(hlen:L.length<9999)
  (dv:Vec 182 1 inv (L.length+1) (L.map (ptrO ad)++[Pt nb]) tr') :
  FOK {s with inv:=inv} (fun k=>if k=L.length+1 then nb else ad k) (L++[some n]) tr' ∧
   sumR (fun k=>if k=L.length+1 then nb else ad k) (L++[some n])=pts nb (.cells n.cells 197 (0,0))+(n.dr+(n.xr+n.kr (fun _=>0)))+sumR ad L:=by
 have hold:∀ n',some n'∈L→n'.num≤L.length∧∀ mb es,n'.dir=some (mb,es)→∀ e∈es,e.2≤L.length:=fun n' hn'=>by
  obtain⟨i,hi⟩:=List.mem_iff_getElem?.1 hn'
  have hil:=(A02.1 hi).1
  refine⟨by rw[ok.num i n' hi];omega,fun mb es hd e he=>?_⟩
  obtain⟨h1,c,h2⟩:=ok.kid i n' mb es hi hd e he
  have:=(A02.1 h2).1
  omega
 have hsum:sumR (fun k=>if k=L.length+1 then nb else ad k) L=sumR ad L:=LW L fun n' hn'=>by
  obtain⟨h1,h2⟩:=hold n' hn'
  refine⟨A05 (by omega),fun mb es hd e he=>A05 (by have:=h2 mb es hd e he;omega)⟩
 have hkr:∀ g:Nat→Nat,n.kr g=n.kr (fun _=>0):=fun g=>by
  unfold Nd.kr
  have hd:=hn.dir
  by_cases hk:kindB m=16384
  ·rw[A03 hk] at hd
   obtain⟨mb,hd⟩:=hd
   rw[hd];rfl
  ·rw[A05 hk] at hd;rw[hd]
 have hptr:L.map (ptrO (fun k=>if k=L.length+1 then nb else ad k))=L.map (ptrO ad):=A72 fun o ho=>by
  cases o with
  | none=>rfl
  | some n'=>unfold ptrO;simp only;rw[A05 (by have:=(hold n' ho).1;omega)]
 refine⟨⟨⟨ok.ws.buf,ok.ws.len,ok.ws.max⟩,?_,?_,?_,?_,by simp;omega⟩,?_⟩
 ·rw[A36,hptr]
  have:([some n]:List (Option Nd)).map (ptrO (fun k=>if k=L.length+1 then nb else ad k))=[Pt nb]:=by simp[ptrO,hn.num]
  rw[this,A01]
  exact dv
 ·intro i n' hi
  rcases A66 i L.length with hlt|hge
  ·rw[A18 hlt] at hi;exact ok.num i n' hi
  ·rw[A17 hge] at hi
   have:i-L.length=0:=by
    have:=(A02.1 hi).1
    simp at this;omega
   rw[this] at hi
   simp at hi
   subst hi
   rw[hn.num];omega
 ·intro i n' hi
  rcases A66 i L.length with hlt|hge
  ·rw[A18 hlt] at hi;exact ok.nd i n' hi
  ·rw[A17 hge] at hi
   have:i-L.length=0:=by
    have:=(A02.1 hi).1
    simp at this;omega
   rw[this] at hi
   simp at hi
   subst hi
   refine⟨hn.bd,hn.bx,by rw[hn.mode];exact hm,by rw[hn.links];split<;>omega,by rw[hn.flags];unfold flK;split<;>omega⟩
 ·intro i n' mb es hi hd e he
  rcases A66 i L.length with hlt|hge
  ·rw[A18 hlt] at hi
   obtain⟨h1,c,h2⟩:=ok.kid i n' mb es hi hd e he
   exact⟨h1,c,by rw[A18 (A02.1 h2).1];exact h2⟩
  ·rw[A17 hge] at hi
   have:i-L.length=0:=by
    have:=(A02.1 hi).1
    simp at this;omega
   rw[this] at hi
   simp at hi
   subst hi
   have hdd:=hn.dir
   rw[hd] at hdd
   split at hdd
   ·obtain⟨mb',hdd⟩:=hdd
    cases hdd
    cases he
   ·cases hdd
 ·rw[Dx,hsum]
  have e:ndR (fun k=>if k=L.length+1 then nb else ad k) (some n)=Nd.res (fun k=>if k=L.length+1 then nb else ad k) n:=rfl
  rw[e]
  unfold Nd.res
  rw[hkr]
  simp only[hn.num,if_true]
def modeK (m:Nat):Nat:=if kindB m=0 then m ||| 32768 else m
theorem AFT {s:WS}{ad:Nat→Nat}{L:List (Option Nd)}{tr:Res}{n:Nd}{nb kd fb fm:Nat}{f:FL}(ok:FOK s ad L tr)(g:JX x)
  (w:AN (FR s ad L tr+(pts nb (.cells n.cells 197 (0,0))+(pts fb (.cells ⟨f.cells (.map (some fm))⟩ 191 (0,0))+(pts fm (.map #[] 0)+x)))) h) (hnum:n.num=L.length+1) (hlen:L.length<9999) (hx:n.xblk=0) (hfl:n.flags=262144) (hdat:n.data=.slice none 0 0) (hxin:n.xin=.slice none 0 0)
  (hkd:kindOk kd) (hsz:f.size≤137438953472)
  (K:∀ xv xr dv dr inv tr' h,BufV xv (xinK s.inl kd f.size) xr→BufV dv (datK s.inl kd f.size) dr→Vec 182 1 inv (L.length+1) (L.map (ptrO ad)++[Pt nb]) tr' →
   AN (WS.res {s with inv:=inv}+(tr'+sumR ad L)+(pts nb (.cells (Nd.cells {n with xin:=xv,size:=szK kd f.size,flags:=flK s.inl kd f.size,data:=dv}) 197 (0,0))+(xr+(dr+(pts fb (.cells ⟨f.cells (.map (some fm))⟩ 191 (0,0))+x))))) h→Q (.tuple #[Pt nb,.nilIface]) h) :
  MF Q (Pt s.wb) (Pt fb) (Pt nb) (.int .u16 (kd:Int)) h:=by
 unfold MF
 refine No w fun em h w=>?_
 simp (disch:=omega) only[go_sem,AF w,hxin,A08]
 exact AEu ok g (w.cast (by unfold FR WS.res;ac_rfl)) hnum hlen hx hfl hdat hkd hsz K
end
section
variable {h:H} {k:Value→Prop} {kt Q:Kt} {x y r:Res}
theorem Vk {m:Nat}(hm:m<65536)(h0:kindB m=0):kindB (m ||| 32768)=32768∧m ||| 32768<65536:=by
 refine⟨?_,B01 (n:=16) hm (by omega)⟩
 unfold kindB at *
 rw[Nat.and_or_distrib_right,h0]
 rfl
set_option maxRecDepth 20000 in
theorem s95 {s:WS}{ad:Nat→Nat}{L:List (Option Nd)}{tr:Res}{fb:Nat}{f:FL}(ok:FOK s ad L tr)(g:JX x)(w:AN (FR s ad L tr+(pts fb (.cells ⟨f.cells (.map none)⟩ 191 (0,0))+x)) h)(hlen:L.length<9999)
  (hm:f.mode<65536) (hk:kindOk (kindB (modeK f.mode))) (h1:f.at_.ok) (h2:f.ct.ok) (h3:f.mt.ok) (h4:f.cr.ok) (hsz:f.size≤137438953472)
  (K:∀ n nb inv tr' fm h,MX f (L.length+1) s.inl (modeK f.mode) n→FOK {s with inv:=inv} (fun k=>if k=L.length+1 then nb else ad k) (L++[some n]) tr' →
   AN (FR {s with inv:=inv} (fun k=>if k=L.length+1 then nb else ad k) (L++[some n]) tr'+(pts fb (.cells ⟨f.cells (.map (some fm))⟩ 191 (0,0))+x)) h→Q (.tuple #[Pt nb,.nilIface]) h) :
  f95 (Pt s.wb) (Pt fb) (.pointer none) h Q:=by
 have hm':modeK f.mode<65536:=by
  unfold modeK
  split
  ·rename_i h0;exact (Vk hm h0).2
  ·exact hm
 obtain⟨⟨ia,ic,hiv⟩,_⟩:=ok.vec.len
 have key:∀ m,m=modeK f.mode→Ka Q (Pt s.wb) (Pt fb) (.pointer none) (.int .u16 (m:Int)) h:=by
  intro m hmm
  subst hmm
  unfold Ka
  simp (disch:=omega) only[go_sem,AF w,hiv]
  have hkk:(modeK f.mode &&& 61440)=kindB (modeK f.mode):=rfl
  rw[hkk]
  refine Au Yu rfl rfl (BJ w fun nb h w=>?_)
  have rest:∀ (n:Nd) (h:H) (kr:Res),n = {nd0 (L.length+1) with dir:=n.dir,links:=n.links}→(n.links=if kindB (modeK f.mode)=16384 then 1 else 0)→(if kindB (modeK f.mode)=16384 then ∃ mb,n.dir=some (mb,[]) else n.dir=none)→kr=n.kr (fun _=>0)→
    AN (pts nb (.cells n.cells 197 (0,0))+(kr+(FR s ad L tr+(pts fb (.cells ⟨f.cells (.map none)⟩ 191 (0,0))+x)))) h→K7 Q (Pt s.wb) (Pt fb) (Pt nb) (.int .u16 (modeK f.mode:Int)) (.int .u16 (kindB (modeK f.mode):Int)) h:=by
   intro n h kr hn hl hdir hkr w
   refine AEl (f:=f) (x:=kr+(FR s ad L tr+x)) (w.cast (by unfold FR WS.res;ac_rfl)) h1 h2 h3 h4 fun fm h w=>?_
   have e1:(n.of f (modeK f.mode)).num=L.length+1:=by rw[hn];rfl
   refine AFT (x:=kr+x) ok g.addR (w.cast (by unfold FR WS.res;ac_rfl)) e1 hlen (by rw[hn];rfl) rfl rfl (by rw[hn];rfl) hk hsz fun xv xr dv dr inv tr' h bx bd vc w=>?_
   obtain⟨n',hn'⟩:∃ n':Nd,n' = {n.of f (modeK f.mode) with xin:=xv,xbs:=xinK s.inl (kindB (modeK f.mode)) f.size,xr:=xr,size:=szK (kindB (modeK f.mode)) f.size,flags:=flK s.inl (kindB (modeK f.mode)) f.size,data:=dv,dbs:=datK s.inl (kindB (modeK f.mode)) f.size,dr:=dr}:=⟨_,rfl⟩
   have isn:MX f (L.length+1) s.inl (modeK f.mode) n':=by
    rw[hn',hn]
    exact⟨rfl,rfl,rfl,⟨rfl,rfl⟩,⟨rfl,rfl,rfl,rfl⟩,hl,⟨rfl,rfl⟩,⟨rfl,rfl⟩,rfl,rfl,rfl,hdir,bd,bx⟩
   obtain⟨f1,f2⟩:=YY (nb:=nb) ok isn hm' hlen vc
   refine K n' nb inv tr' fm h isn f1 (w.cast ?_)
   unfold FR
   rw[f2]
   have e2:n'.cells=Nd.cells {n.of f (modeK f.mode) with xin:=xv,size:=szK (kindB (modeK f.mode)) f.size,flags:=flK s.inl (kindB (modeK f.mode)) f.size,data:=dv}:=by rw[hn']
   have e3:n'.dr=dr:=by rw[hn']
   have e4:n'.xr=xr:=by rw[hn']
   have e5:n'.kr (fun _=>0)=kr:=by rw[hkr,hn'];rfl
   rw[e2,e3,e4,e5]
   unfold WS.res
   dsimp only
   ac_rfl
  have hcells:(⟨[.int .i64 0,.int .u64 0,.int .u64 0,.int .u64 0,.int .u64 0,.int .u32 ((L.length+1:Nat):Int),.int .u16 0,.int .u32 0,.int .u32 0,.int .u32 0,.int .u32 0,.int .u32 0,.int .u32 0,.int .u32 0,.int .u32 0,.slice none 0 0,.slice none 0 0,.map none]⟩:Array Value)=(nd0 (L.length+1)).cells:=rfl
  have w':AN (pts nb (.cells (nd0 (L.length+1)).cells 197 (0,0))+(FR s ad L tr+(pts fb (.cells ⟨f.cells (.map none)⟩ 191 (0,0))+x))) h:=w
  refine AX (fun hd=>?_) (fun hd=>?_)
  ·have hd':kindB (modeK f.mode)=16384:=by omega
   refine No w' fun mb h w=>?_
   simp (disch:=omega) only[go_sem]
   refine AL w (Nd.cells {nd0 (L.length+1) with dir:=some (mb,[])}) rfl rfl (by exact A07 18) rfl fun h w=>?_
   refine AL w (Nd.cells {nd0 (L.length+1) with dir:=some (mb,[]),links:=1}) rfl rfl (by exact Nat.le_add_left 10 8) rfl fun h w=>?_
   refine rest {nd0 (L.length+1) with dir:=some (mb,[]),links:=1} h (pts mb (.map #[] 0)) rfl (by rw[A03 hd']) (by rw[A03 hd'];exact⟨mb,rfl⟩) rfl (w.cast (by ac_rfl))
  ·have hd':kindB (modeK f.mode)≠16384:=by omega
   exact rest (nd0 (L.length+1)) h 0 rfl (by rw[A05 hd'];rfl) (by rw[A05 hd'];rfl) rfl (w'.cast (by rw[Res.zero_add]))
 unfold f95
 simp (disch:=omega) only[go_sem,AF w]
 have hkk:(f.mode &&& 61440)=kindB f.mode:=rfl
 rw[hkk]
 refine AX (fun h0=>?_) (fun h0=>?_)
 ·have h0':kindB f.mode=0:=by omega
  exact key _ (by unfold modeK;rw[A03 h0'])
 ·exact key _ (by unfold modeK;rw[A05 (by omega)])
end
section
variable {h:H} {k:Value→Prop} {kt Q:Kt} {x y r:Res}
theorem AEp {v:Value}{v0:Value}{c:Nat}{a:Option Addr}(hv:v=.slice a 0 c)(K:Q (.tuple #[.int .i64 0,.nilIface]) h):ZX v0 v h Q:=by
 subst hv
 unfold ZX
 simp (disch:=omega) only[go_sem,A04]
 exact K
theorem AHG {s:WS}{n:Nd}{nb:Nat}{v:Value}{news dbs:Bs}(ok:s.OK)(w:AN (s.res+(pts nb (.cells n.cells 197 (0,0))+(r+x))) h)(d:RdX x v news)(hcur:s.cur=Pt nb)(hfl:n.flags=268697600)(hb:BufV n.data dbs r)(hp:0<news.length)
  (hfit:s.dw+news.length≤s.dm) (hdl:s.dm=dbs.length) (hbig:dbs.length≤1000000)
  (K:∀ dv dr h,BufV dv (setL dbs s.dw news) dr→AN (WS.res {s with dw:=s.dw+news.length}+(pts nb (.cells n.cells 197 (0,0))+(dr+x))) h→dv=n.data→Q (.tuple #[.int .i64 (news.length:Nat),.nilIface]) h):ZX (Pt s.wb) v h Q:=by
 obtain⟨a,c,hv⟩:=d.len
 subst hv
 unfold ZX
 simp (disch:=omega) only[go_sem,AF w,hcur,A08]
 have hand:n.flags &&& 268435456=268435456:=by rw[hfl];rfl
 simp (disch:=omega) only[go_sem,AF w,hand,A04]
 generalize hdv:n.data=dv0 at *
 cases hb with
 | nil=>simp at hdl;omega
 | own hn=>
  rename_i bb m all
  have hml:(all.take m).length=m:=by simp[A30 hn]
  rw[hml] at hdl hbig
  simp (disch:=omega) only[go_sem,AF w,hdv,Gc]
  refine FN (all:=all) (w.cast (y:=pts bb (.cells (bcs all) 5 (0,0))+(s.res+(pts nb (.cells n.cells 197 (0,0))+x))) (by unfold WS.res buf;ac_rfl)) d.addR.addR (by omega) (by omega) fun h w=>?_
  simp (disch:=omega) only[go_sem,AF w]
  refine AL w (WS.cells {s with dw:=s.dw+news.length}) rfl rfl (by simp) rfl fun h w=>?_
  exact K _ _ h (.own' (by rw[AS (by omega)];exact hn) (AS (by omega)) (Iu (by omega) hn)) (w.cast (by unfold WS.res;ac_rfl)) rfl
theorem AHj {s:WS}{n:Nd}{nb:Nat}{v:Value}{news:Bs}(ok:s.OK)(w:AN (s.res+(pts nb (.cells n.cells 197 (0,0))+x)) h)(d:RdX x v news)(hcur:s.cur=Pt nb)(hfl:n.flags=262144)(hp:0<news.length)
  (hfit:s.dw+news.length≤s.dm) (hdm:s.dm<9223372036854775808) (hm:s.pos+news.length≤s.max) (hpos:s.dpos=s.pos)
  (K:∀ dv r h,WS.OK {s with dv:=dv,dr:=r,B:=BG s.B s.pos news,dpos:=s.pos+news.length,pos:=s.pos+news.length,dw:=s.dw+news.length} →
   AN (WS.res {s with dv:=dv,dr:=r,B:=BG s.B s.pos news,dpos:=s.pos+news.length,pos:=s.pos+news.length,dw:=s.dw+news.length}+(pts nb (.cells n.cells 197 (0,0))+x)) h→Q (.tuple #[.int .i64 (news.length:Nat),.nilIface]) h):ZX (Pt s.wb) v h Q:=by
 obtain⟨a,c,hv⟩:=d.len
 subst hv
 unfold ZX
 simp (disch:=omega) only[go_sem,AF w,hcur,A08]
 have hand:n.flags &&& 268435456=0:=by rw[hfl];rfl
 simp (disch:=omega) only[go_sem,AF w,hand,A08]
 refine Ms _ _ _ _ (s98 ok w d.addR hp hm hpos fun dv r h ok w=>?_)
 simp (disch:=omega) only[go_sem,AF w]
 refine AL w (WS.cells {s with pos:=s.pos+news.length,dw:=s.dw+news.length}) rfl rfl (by simp) rfl fun h w=>?_
 exact K dv r h ⟨ok.buf,ok.len,ok.max⟩ (w.cast (by unfold WS.res;first|rfl|ac_rfl))
end
section
set_option maxRecDepth 100000
def Hd (Q:Kt)(x0 x1 x8 a0:Value)(h:H):Prop:=
 AE x1 fun w8=>AC 15 w8 fun w9=>AJ 1 w9 a0 h fun h=>AE x1 fun y1=>AC 14 y1 fun y2=>AB false 1 y2 h fun y3=>AD .or y3 (.int .u32 524288) fun y4=>AE x1 fun y5=>AC 14 y5 fun y6=>AJ 1 y6 y4 h fun h=>AE x1 fun y8=>AC 11 y8 fun y9=>AB false 1 y9 h fun z0=>AD .add z0 x8 fun z2=>AE x1 fun z3=>AC 11 z3 fun z4=>AJ 1 z4 z2 h fun h=>AE x0 fun z6=>AC 7 z6 fun z7=>AB false 1 z7 h fun z8=>Q z8 h
def P3 (Q:Kt)(r1:R2)(x0 x1 x8 j1 a0 j2:Value)(h:H):Prop:=
 AD .lss j2 (.int .i64 4) fun j3=>AK j3
 (Ch true 4 4 j1 j2 fun j4=>AQ (AG TP 327) 327 h fun a3 h=>AJ 4 a3 j4 h fun h=>AB true 4 a3 h fun j6=>Call TP 194 [j6] h fun j7 h=>AM 5 (AG TP 5) 1 1 a0 j7 h fun j8 h=>AD .add j2 (.int .i64 1) fun j9=>r1 j8 j9 h)
 (Hd Q x0 x1 x8 a0 h)
def Q9 (Q:Kt)(x0 x1 x8 j1 a0 j2:Value)(h:H):Prop:=Bx (fun r1 a0 j2 h=>P3 Q r1 x0 x1 x8 j1 a0 j2 h) a0 j2 h
def XQ (Q:Kt)(r2:R2)(x0 x1 x8 v6 a0 v7:Value)(h:H):Prop:=
 AD .lss v7 (.int .i64 4) fun v8=>AK v8
 (Ch true 4 4 v6 v7 fun v9=>AQ (AG TP 334) 334 h fun b6 h=>AJ 4 b6 v9 h fun h=>AB true 4 b6 h fun w1=>Call TP 195 [w1] h fun w2 h=>AM 5 (AG TP 5) 1 1 a0 w2 h fun w3 h=>AD .add v7 (.int .i64 1) fun w4=>r2 w3 w4 h)
 (Hd Q x0 x1 x8 a0 h)
def ACB (Q:Kt)(x0 x1 x8 v6 a0 v7:Value)(h:H):Prop:=Bx (fun r2 a0 v7 h=>XQ Q r2 x0 x1 x8 v6 a0 v7 h) a0 v7 h
def VW (Q:Kt)(r3:R1)(r4:R2)(x0 x1 x6 x7 x8 x9 a0 a4 a5 a6 q0 b0 q1:Value)(h:H):Prop:=
 AD .lss q1 (.int .i64 340) fun q2=>AK q2
 (Ch true 340 4 q0 q1 fun q3=>AQ (AG TP 327) 327 h fun b2 h=>AJ 4 b2 q3 h fun h=>AB true 4 b2 h fun q5=>Call TP 194 [q5] h fun q6 h=>AM 5 (AG TP 5) 1 1 b0 q6 h fun q7 h=>AD .add q1 (.int .i64 1) fun q8=>r4 q7 q8 h)
 (CI 5 (AG TP 5) 1 1 b0 (.int .i64 4) h fun t0 h=>Call TP 98 [x0,t0] h fun t4 h=>AO t4 0 fun t5=>AO t4 1 fun t6=>Bq .iface true true h t6 .nilIface fun t8=>AK t8
 (Q t6 h)
 (AD .add a6 (.int .u32 1) fun m6=>r3 m6 h))
def AD3 (Q:Kt)(r3:R1)(x0 x1 x6 x7 x8 x9 a0 a4 a5 a6 q0 b0 q1:Value)(h:H):Prop:=Bx (fun r4 b0 q1 h=>VW Q r3 r4 x0 x1 x6 x7 x8 x9 a0 a4 a5 a6 q0 b0 q1 h) b0 q1 h
def Q2 (Q:Kt)(r3:R1)(x0 x1 x6 x7 x8 x9 a0 a4 a5 a6 a7:Value)(h:H):Prop:=
 AQ (AG TP 338) 338 h fun a8 h=>AD .mul a6 (.int .u32 340) fun o4=>AD .mul o4 (.int .u32 32768) fun o5=>AC 0 a8 fun o6=>AC 5 a8 fun o7=>AZ (.arr 340 4) o7 none (some a7) fun o9=>AD .add x6 o5 fun p2=>Call TP 192 [o6,o9,p2,o5,x7] h fun p5 h=>AC 0 a8 fun p6=>AB true 5 p6 h fun p7=>Call TP 193 [p7] h fun p8 h=>AC 5 a8 fun p9=>AB true 1360 p9 h fun q0=>AD3 Q r3 x0 x1 x6 x7 x8 x9 a0 a4 a5 a6 q0 p8 (.int .i64 0) h
def XW (Q:Kt)(r3:R1)(x0 x1 x6 x7 x8 x9 a0 a4 a5 a6:Value)(h:H):Prop:=
 AD .lss a6 a4 fun m4=>AK m4
 (AD .mul a6 (.int .u32 340) fun m9=>AD .mul m9 (.int .u32 32768) fun n0=>Call TP 100 [x0] h fun n2 h=>Ae (.struct [(0,1),(1,1),(2,1),(3,1)]) (AG TP 334) [(0,n0),(1,n2)] fun n3=>AC 5 a5 fun n4=>AI (.arr 4 4) n4 a6 fun n5=>AJ 4 n5 n3 h fun h=>AD .mul a6 a4 fun n9=>AD .sub x9 n9 fun o0=>AD .gtr o0 (.int .u32 340) fun o2=>AK o2
 (Q2 Q r3 x0 x1 x6 x7 x8 x9 a0 a4 a5 a6 (.int .u32 340) h)
 (Q2 Q r3 x0 x1 x6 x7 x8 x9 a0 a4 a5 a6 o0 h))
 (AC 0 a5 fun v1=>AB true 5 v1 h fun v2=>Call TP 193 [v2] h fun v3 h=>AM 5 (AG TP 5) 1 1 a0 v3 h fun v4 h=>AC 5 a5 fun v5=>AB true 16 v5 h fun v6=>ACB Q x0 x1 x8 v6 v4 (.int .i64 0) h)
def ADa (Q:Kt)(x0 x1 x6 x7 x8 x9 a0 a4 a5 a6:Value)(h:H):Prop:=A1 (fun r3 a6 h=>XW Q r3 x0 x1 x6 x7 x8 x9 a0 a4 a5 a6 h) a6 h
def ADX (x0 x1:Value)(h:H)(Q:Kt):Prop:=
 AE x0 fun b8=>AC 4 b8 fun b9=>AB false 1 b9 h fun c0=>AE x0 fun c2=>AC 5 c2 fun c3=>AB false 1 c3 h fun c4=>AD .sub c0 c4 fun c5=>AD .rem c5 (.int .i64 4096) fun c7=>AD .neq c7 (.int .i64 0) fun c8=>AK c8
 (False )
 (Call TP 191 [x0] h fun d1 h=>AD .quo c5 (.int .i64 4096) fun d3=>AV .u32 d3 fun d4=>Call TP 100 [x0] h fun d6 h=>AD .sub d6 d4 fun d8=>AD .add d8 (.int .u32 32768) fun g1=>AD .sub g1 (.int .u32 1) fun g2=>AD .quo g2 (.int .u32 32768) fun g3=>AD .eql g3 (.int .u32 0) fun g5=>AK g5
 (Hd Q x0 x1 d8 (.slice none 0 0) h)
 (AD .leq g3 (.int .u32 4) fun g7=>AK g7
 (AQ (AG TP 329) 329 h fun a1 h=>AC 0 a1 fun g8=>AC 5 a1 fun g9=>AZ (.arr 4 4) g9 none (some g3) fun i1=>Call TP 192 [g8,i1,d4,(.int .u32 0),d8] h fun i4 h=>AC 0 a1 fun i6=>AB true 5 i6 h fun i7=>Call TP 193 [i7] h fun i8 h=>AM 5 (AG TP 5) 1 1 (.slice none 0 0) i8 h fun i9 h=>AC 5 a1 fun j0=>AB true 16 j0 h fun j1=>Q9 Q x0 x1 d8 j1 i9 (.int .i64 0) h)
 (AD .leq g3 (.int .u32 1360) fun k1=>AK k1
 (AD .quo g3 (.int .u32 340) fun k3=>AD .add k3 (.int .u32 1) fun k4=>AD .add d8 k4 fun k7=>AQ (AG TP 336) 336 h fun a5 h=>AV .u16 k4 fun k9=>Ae (.struct [(0,1),(1,1),(2,1),(3,1),(4,1)]) (AG TP 325) [(0,(.int .u16 62218)),(1,k9),(2,(.int .u16 4)),(3,(.int .u16 1))] fun m0=>AC 0 a5 fun m1=>AJ 5 m1 m0 h fun h=>ADa Q x0 x1 d4 d8 k7 g3 (.slice none 0 0) k4 a5 (.int .u32 0) h)
 (False ))))
def AGJ (Q:Kt)(r:RS):Nat→DJ:=tab [(4094,.jn fun e h=>Hd Q (e 0) (e 1) (e 8) (e 10) h),
 (2096061,.lp [0,1,8,71] [10,72] fun s e l h=>P3 Q (u2 s) (e 0) (e 1) (e 8) (e 71) (gl l 0) (gl l 1) h),
 (67075581,.lp [0,1,8,156] [10,157] fun s e l h=>XQ Q (u2 s) (e 0) (e 1) (e 8) (e 156) (gl l 0) (gl l 1) h),
 (549482997749,.lp [0,1,6,7,8,9,10,14,15,16,130] [20,131] fun s e l h=>VW Q (u1 (r 16768890)) (u2 s) (e 0) (e 1) (e 6) (e 7) (e 8) (e 9) (e 10) (e 14) (e 15) (e 16) (e 130) (gl l 0) (gl l 1) h),
 (4292835918,.jn fun e h=>Q2 Q (u1 (r 16768890)) (e 0) (e 1) (e 6) (e 7) (e 8) (e 9) (e 10) (e 14) (e 15) (e 16) (e 17) h),
 (33537781,.lp [0,1,6,7,8,9,10,14,15] [16] fun s e l h=>XW Q (u1 s) (e 0) (e 1) (e 6) (e 7) (e 8) (e 9) (e 10) (e 14) (e 15) (gl l 0) h)]
theorem Zw (x0 x1:Value)(h:H)(Q:Kt)(x:ADX x0 x1 h Q):Call TP 151 [x0,x1] h Q:=Bb (AGJ Q) Tryz.func151 (by kernel_rfl) x
def NE (Q:Kt)(r1:R1)(x1 x2 x3 x4 a0 a1 a2 b4 b5:Value)(h:H):Prop:=
 AD .add x2 a1 fun d0=>AV .u16 a2 fun d5=>Ae (.struct [(0,1),(1,1),(2,1),(3,1)]) (AG TP 327) [(0,a1),(1,d5),(3,d0)] fun d7=>AI (.slice 4) x1 a0 fun d8=>AJ 4 d8 d7 h fun h=>AD .add b5 (.int .i64 1) fun d9=>r1 d9 h
def Nn (Q:Kt)(r1:R1)(x1 x2 x3 x4 b4 b5:Value)(h:H):Prop:=
 AD .lss b5 b4 fun b6=>AK b6
 (AV .u32 b5 fun c0=>AD .mul c0 (.int .u32 32768) fun c1=>AD .add x3 c1 fun c2=>AD .sub x4 c2 fun c5=>AD .gtr c5 (.int .u32 32768) fun c7=>AK c7
 (NE Q r1 x1 x2 x3 x4 b5 c2 (.int .u32 32768) b4 b5 h)
 (NE Q r1 x1 x2 x3 x4 b5 c2 c5 b4 b5 h))
 (Q (.tuple #[]) h)
def U7 (Q:Kt)(x1 x2 x3 x4 b4 b5:Value)(h:H):Prop:=A1 (fun r1 b5 h=>Nn Q r1 x1 x2 x3 x4 b4 b5 h) b5 h
def AC1 (x0 x1 x2 x3 x4:Value)(h:H)(Q:Kt):Prop:=
 Ab x1 fun a6=>AV .u16 a6 fun a7=>Sp x1 fun a9=>AV .u16 a9 fun b0=>Ae (.struct [(0,1),(1,1),(2,1),(3,1),(4,1)]) (AG TP 325) [(0,(.int .u16 62218)),(1,a7),(2,b0),(3,(.int .u16 0))] fun b1=>AE x0 fun b2=>AJ 5 b2 b1 h fun h=>Ab x1 fun b4=>U7 Q x1 x2 x3 x4 b4 (.int .i64 0) h
def AGe (Q:Kt)(r:RS):Nat→DJ:=tab [(14750,.jn fun e h=>NE Q (u1 (r 14)) (e 1) (e 2) (e 3) (e 4) (e 10) (e 11) (e 12) (e 24) (e 25) h),
 (29,.lp [1,2,3,4,24] [25] fun s e l h=>Nn Q (u1 s) (e 1) (e 2) (e 3) (e 4) (e 24) (gl l 0) h)]
theorem Zp (x0 x1 x2 x3 x4:Value)(h:H)(Q:Kt)(x:AC1 x0 x1 x2 x3 x4 h Q):Call TP 192 [x0,x1,x2,x3,x4] h Q:=Bb (AGe Q) Tryz.func192 (by kernel_rfl) x
def AC3 (x0:Value)(h:H)(Q:Kt):Prop:=
 BB 325 (x0:Value).cells h fun x1 h=>AC 0 x1 fun x5=>AB false 1 x5 h fun x6=>Call TP 173 [(.slice none 0 0),x6] h fun x7 h=>AC 1 x1 fun x9=>AB false 1 x9 h fun a0=>Call TP 173 [x7,a0] h fun a1 h=>AC 2 x1 fun a3=>AB false 1 a3 h fun a4=>Call TP 173 [a1,a4] h fun a5 h=>AC 3 x1 fun a7=>AB false 1 a7 h fun a8=>Call TP 173 [a5,a8] h fun a9 h=>AC 4 x1 fun b1=>AB false 1 b1 h fun b2=>Call TP 172 [a9,b2] h fun b3 h=>Q b3 h
theorem ZB (x0:Value)(h:H)(Q:Kt)(x:AC3 x0 h Q):Call TP 193 [x0] h Q:=Bb nT Tryz.func193 (by kernel_rfl) x
def ADT (x0:Value)(h:H)(Q:Kt):Prop:=
 BB 327 (x0:Value).cells h fun x1 h=>AC 0 x1 fun x5=>AB false 1 x5 h fun x6=>Call TP 172 [(.slice none 0 0),x6] h fun x7 h=>AC 1 x1 fun x9=>AB false 1 x9 h fun a0=>Call TP 173 [x7,a0] h fun a1 h=>AC 2 x1 fun a3=>AB false 1 a3 h fun a4=>Call TP 173 [a1,a4] h fun a5 h=>AC 3 x1 fun a7=>AB false 1 a7 h fun a8=>Call TP 172 [a5,a8] h fun a9 h=>Q a9 h
theorem ZT (x0:Value)(h:H)(Q:Kt)(x:ADT x0 h Q):Call TP 194 [x0] h Q:=Bb nT Tryz.func194 (by kernel_rfl) x
end
end Go.Proofs.YtollddkkdgoonaaGreatDoor
