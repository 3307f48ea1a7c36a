/- A part of a proof over images that are written and read. No condition; a step. -/
import Derived.Test.YtollddkkdgoonaaGreatDoorM13
namespace Go.Proofs.YtollddkkdgoonaaGreatDoor
open Go
set_option linter.unusedVariables false
set_option linter.unusedSimpArgs false
set_option maxRecDepth 100000
section
set_option maxRecDepth 100000
def Pn (Q:Kt)(a b:Value)(h:H):Prop:=
 Unf 2 a h fun c=>Ab c fun c=>Ucm .gtr c (.int .i64 0)
 (Q a h)
 (Unf 1 a h fun c=>Unf 5 a h fun d=>AD .add c d fun c=>AD .sub c (.int .u64 1) fun c=>Unf 5 a h fun d=>AD .quo c d fun c=>Uff 4 a fun d=>AJ 1 d c h fun h=>Uff 4 a fun c=>Uld c h fun d=>Uff 6 a fun f=>Uld f h fun g=>AD .mul d g fun i=>Ucl 66 [b,(.int .u64 0),(.int .u64 4)] h fun j h=>((Ukp c h d)∧(Ukp f h g)∧AD .eql j i fun i=>Ucl 66 [b,(.int .u64 0),(.int .u64 4)] h fun j h=>((Ukp c h d)∧(Ukp f h g)∧Ucl 65 [a,i,(.string "inodes".toUTF8),j] h fun _ h=>Ucl 66 [b,(.int .u64 58),(.int .u64 2)] h fun c h=>AD .and c (.int .u64 1) fun c=>AD .eql c (.int .u64 1) fun c=>Ucl 66 [b,(.int .u64 58),(.int .u64 2)] h fun d h=>Ucl 65 [a,c,(.string "state".toUTF8),d] h fun _ h=>Unf 2 a h fun c=>Ab c fun c=>Ucm .gtr c (.int .i64 0)
 (Q a h)
 (Unf 1 a h fun c=>AY (AG TP 5) 1 1 5 c c h fun c h=>Uff 9 a fun d=>AJ 1 d c h fun h=>Ucl 67 [a,b] h fun _ h=>Ucl 66 [b,(.int .u64 84),(.int .u64 4)] h fun c h=>Ucl 68 [a,c] h fun _ h=>Ucl 69 [a,b] h fun _ h=>Q a h))))
def TU (Q:Kt)(a b c:Value)(h:H):Prop:=
 Unf 1 b h fun d=>Ucg .geq d (.int .u64 1) (Unf 1 b h fun d=>Ab a fun a=>AV .u64 a fun a=>AD .quo a (.int .u64 4096) fun a=>AD .leq d a fun a=>Unf 1 b h fun d=>Ucl 65 [b,a,(.string "blocks".toUTF8),d] h fun _ h=>Pn Q b c h) (Unf 1 b h fun a=>Ucl 65 [b,(.bool false),(.string "blocks".toUTF8),a] h fun _ h=>Pn Q b c h)
def OC (Q:Kt)(a b c:Value)(h:H):Prop:=
 Unf 8 b h fun d=>Ucg .geq d (.int .u64 32) (Unf 8 b h fun d=>AD .leq d (.int .u64 64) fun d=>Unf 8 b h fun f=>Ucl 65 [b,d,(.string "descriptor size".toUTF8),f] h fun _ h=>TU Q a b c h) (Unf 8 b h fun d=>Ucl 65 [b,(.bool false),(.string "descriptor size".toUTF8),d] h fun _ h=>TU Q a b c h)
def TW (Q:Kt)(a b c:Value)(h:H):Prop:=
 Unf 7 b h fun d=>Ucg .geq d (.int .u64 128) (Unf 7 b h fun d=>Ucg .leq d (.int .u64 4096) (Unf 7 b h fun d=>Unf 7 b h fun f=>AD .sub f (.int .u64 1) fun f=>AD .and d f fun d=>AD .eql d (.int .u64 0) fun d=>Unf 7 b h fun f=>Ucl 65 [b,d,(.string "inode size".toUTF8),f] h fun _ h=>OC Q a b c h) (Unf 7 b h fun d=>Ucl 65 [b,(.bool false),(.string "inode size".toUTF8),d] h fun _ h=>OC Q a b c h)) (Unf 7 b h fun d=>Ucl 65 [b,(.bool false),(.string "inode size".toUTF8),d] h fun _ h=>OC Q a b c h)
def TK (Q:Kt)(a b c:Value)(h:H):Prop:=
 Unf 6 b h fun d=>Ucg .geq d (.int .u64 1) (Unf 6 b h fun d=>AD .leq d (.int .u64 32768) fun d=>Unf 6 b h fun f=>Ucl 65 [b,d,(.string "inodes of a group".toUTF8),f] h fun _ h=>TW Q a b c h) (Unf 6 b h fun d=>Ucl 65 [b,(.bool false),(.string "inodes of a group".toUTF8),d] h fun _ h=>TW Q a b c h)
def So (Q:Kt)(a b c d:Value)(h:H):Prop:=
 AD .and d (.int .u64 1040) fun f=>AD .eql f (.int .u64 0) fun f=>Ucl 65 [b,f,(.string "checksums".toUTF8),d] h fun _ h=>Unf 5 b h fun d=>Ucg .geq d (.int .u64 8) (Unf 5 b h fun d=>AD .leq d (.int .u64 32768) fun d=>Unf 5 b h fun f=>Ucl 65 [b,d,(.string "blocks of a group".toUTF8),f] h fun _ h=>TK Q a b c h) (Unf 5 b h fun d=>Ucl 65 [b,(.bool false),(.string "blocks of a group".toUTF8),d] h fun _ h=>TK Q a b c h)
def N8 (Q:Kt)(a b c d f:Value)(h:H):Prop:=
 Ucl 66 [c,(.int .u64 76),(.int .u64 4)] h fun g h=>AD .eql g (.int .u64 1) fun g=>Ucl 66 [c,(.int .u64 76),(.int .u64 4)] h fun i h=>Ucl 65 [b,g,(.string "revision".toUTF8),i] h fun _ h=>Ucl 66 [c,(.int .u64 24),(.int .u64 4)] h fun g h=>AD .eql g (.int .u64 2) fun g=>Ucl 66 [c,(.int .u64 24),(.int .u64 4)] h fun i h=>Ucl 65 [b,g,(.string "block size".toUTF8),i] h fun _ h=>Ucl 66 [c,(.int .u64 20),(.int .u64 4)] h fun g h=>AD .eql g (.int .u64 0) fun g=>Ucl 66 [c,(.int .u64 20),(.int .u64 4)] h fun i h=>Ucl 65 [b,g,(.string "first block".toUTF8),i] h fun _ h=>AD .andNot d (.int .u64 33474) fun g=>Ucg .eql g (.int .u64 0) (AD .and d (.int .u64 2) fun g=>AD .neq g (.int .u64 0) fun g=>Ucl 65 [b,g,(.string "features that are not known".toUTF8),d] h fun _ h=>So Q a b c f h) (Ucl 65 [b,(.bool false),(.string "features that are not known".toUTF8),d] h fun _ h=>So Q a b c f h)
def Tj (Q:Kt)(a b c:Value)(h:H):Prop:=
 Ucl 66 [c,(.int .u64 56),(.int .u64 2)] h fun d h=>AD .eql d (.int .u64 61267) fun d=>Ucl 66 [c,(.int .u64 56),(.int .u64 2)] h fun f h=>Ucl 65 [b,d,(.string "magic".toUTF8),f] h fun _ h=>Ucl 66 [c,(.int .u64 4),(.int .u64 4)] h fun d h=>Ucl 66 [c,(.int .u64 336),(.int .u64 4)] h fun f h=>AD .shl f (.int .u64 32) fun f=>AD .or d f fun d=>Uff 1 b fun f=>AJ 1 f d h fun h=>Ucl 66 [c,(.int .u64 32),(.int .u64 4)] h fun d h=>Ucl 66 [c,(.int .u64 40),(.int .u64 4)] h fun f h=>Uff 5 b fun g=>AJ 1 g d h fun h=>Uff 6 b fun d=>AJ 1 d f h fun h=>Ucl 66 [c,(.int .u64 88),(.int .u64 2)] h fun d h=>Uff 7 b fun f=>AJ 1 f d h fun h=>Uff 8 b fun d=>AJ 1 d (.int .u64 32) h fun h=>Ucl 66 [c,(.int .u64 96),(.int .u64 4)] h fun d h=>Ucl 66 [c,(.int .u64 100),(.int .u64 4)] h fun f h=>AD .and d (.int .u64 128) fun g=>AD .neq g (.int .u64 0) fun g=>Uff 10 b fun i=>AJ 1 i g h fun h=>Unf 10 b h fun g=>AK g
 (Ucl 66 [c,(.int .u64 254),(.int .u64 2)] h fun g h=>Uff 8 b fun i=>AJ 1 i g h fun h=>N8 Q a b c d f h)
 (N8 Q a b c d f h)
def f25 (a:Value)(h:H)(Q:Kt):Prop:=
 Ae (.struct [(0,1),(1,1),(2,1),(3,1),(4,1),(5,1),(6,1),(7,1),(8,1),(9,1),(10,1)]) (AG TP 51) [(3,a)] fun b=>BB 51 (b:Value).cells h fun b h=>AH (.arr 1) 5 (AG TP 5) 1 0 [] h fun c h=>Ab a fun d=>Ucm .geq d (.int .i64 2048)
 (AZ (.slice 1) a (some (.int .i64 1024)) (some (.int .i64 2048)) fun c=>Tj Q a b c h)
 (Tj Q a b c h)
def AHx (Q:Kt)(r:RS):Nat→DJ:=tab [(4194302,.jn fun e h=>Pn Q (e 3) (e 4) h),
 (2097150,.jn fun e h=>TU Q (e 0) (e 3) (e 4) h),
 (1048574,.jn fun e h=>OC Q (e 0) (e 3) (e 4) h),
 (524286,.jn fun e h=>TW Q (e 0) (e 3) (e 4) h),
 (262142,.jn fun e h=>TK Q (e 0) (e 3) (e 4) h),
 (65534,.jn fun e h=>So Q (e 0) (e 3) (e 4) (e 6) h),
 (4094,.jn fun e h=>N8 Q (e 0) (e 3) (e 4) (e 5) (e 6) h),
 (62,.jn fun e h=>Tj Q (e 0) (e 3) (e 4) h)]
theorem ABi {a:Value}{h:H}{Q:Kt}(x:f25 a h Q):Call TP 25 [a] h Q:=Bb (AHx Q) Tryz.func25 (by kernel_rfl) x
def PK (Q:Kt)(r1:R1)(a b c d f g i j:Value)(h:H):Prop:=
 Ufl 5 d h fun b=>AD .eql b f fun b=>Ufl 0 d h fun c=>Ucl 65 [a,b,(.string "links of inode".toUTF8),c] h fun _ h=>AD .add j (.int .i64 1) fun a=>r1 a h
def W0 (Q:Kt)(r1:R1)(a b c d f g:Value)(h:H):Prop:=
 Ucm .lss g f
 (AI (.slice 23) d g fun i=>AB true 23 i h fun i=>Umk 81 h fun j h=>AJ 23 j i h fun h=>Ufl 0 j h fun i=>Uil b i h fun i=>Ufl 1 j h fun k=>Ucl 45 [k] h fun k h=>Ucm .eql k (.int .u64 2)
 (Ufl 0 j h fun i=>Uil c i h fun i=>AD .add i (.int .u64 2) fun i=>PK Q r1 a b c j i d f g h)
 (PK Q r1 a b c j i d f g h))
 (Q (.tuple #[]) h)
def XC (Q:Kt)(a b c d f g:Value)(h:H):Prop:=A1 (fun r1 g h=>W0 Q r1 a b c d f g h) g h
def MG (Q:Kt)(r2:R1)(a b c d f g i j:Value)(h:H):Prop:=
 Uff 0 a fun b=>Uld b h fun c=>AB true 23 j h fun d=>AH (.arr 23) 81 (AG TP 81) 23 1 [(0,d)] h fun d h=>((Ukp b h c)∧AM 81 (AG TP 81) 23 216 c d h fun b h=>Uff 0 a fun a=>AJ 1 a b h fun h=>r2 i h)
def N7 (Q:Kt)(r2:R1)(r3:R2)(a b c d f g i j k m n o p:Value)(h:H):Prop:=
 Ufl 1 m h fun a=>Uil c a h fun a=>Unt a
 (Ufl 1 m h fun a=>AC 1 m fun b=>Uld b h fun f=>AI (.slice 1) c a fun a=>AJ 1 a (.bool true) h fun h=>((Ukp b h f)∧AI (.slice 1) d f fun a=>AJ 1 a j h fun h=>Ufl 1 m h fun a=>AH (.arr 1) 48 (AG TP 48) 1 1 [(0,a)] h fun a h=>AM 48 (AG TP 48) 1 8 i a h fun a h=>AD .add p (.int .i64 1) fun b=>r3 a b h))
 (AD .add p (.int .i64 1) fun a=>r3 i a h)
def S4 (Q:Kt)(r2:R1)(r3:R2)(a b c d f g i j k m n o p:Value)(h:H):Prop:=
 Ufl 1 m h fun q=>Ucl 128 [a,q] h fun q h=>Ucl 66 [q,(.int .u64 0),(.int .u64 2)] h fun q h=>AV .u16 q fun q=>Ucl 45 [q] h fun q h=>Ufl 2 m h fun t=>AD .eql q t fun t=>Ufl 1 m h fun u=>Ucl 65 [a,t,(.string "kind of an entry of inode".toUTF8),u] h fun _ h=>Ufl 1 m h fun t=>Uil f t h fun u=>AD .add u (.int .u64 1) fun u=>AI (.slice 1) f t fun t=>AJ 1 t u h fun h=>Ucm .eql q (.int .u64 2)
 (Uil g j h fun q=>AD .add q (.int .u64 1) fun q=>AI (.slice 1) g j fun t=>AJ 1 t q h fun h=>Ufl 1 m h fun q=>Uil c q h fun q=>LH .not q fun q=>Ufl 1 m h fun t=>Ucl 65 [a,q,(.string "directory with two names".toUTF8),t] h fun _ h=>N7 Q r2 r3 a b c d f g i j k m n o p h)
 (N7 Q r2 r3 a b c d f g i j k m n o p h)
def WF (Q:Kt)(r2:R1)(r3:R2)(a b c d f g i j k m n o p:Value)(h:H):Prop:=
 Ufl 1 m h fun q=>Ucf .eql q (.int .u64 0) (Ufl 1 m h fun q=>Ab c fun t=>AV .u64 t fun t=>Ucf .geq q t (Ufl 1 m h fun q=>Ucm .lss q b
 (Ufl 1 m h fun b=>Ucl 120 [a,(.string "entry of inode that is none".toUTF8),b] h fun _ h=>AD .add p (.int .i64 1) fun a=>r3 i a h)
 (S4 Q r2 r3 a b c d f g i j k m n o p h)) (Ufl 1 m h fun b=>Ucl 120 [a,(.string "entry of inode that is none".toUTF8),b] h fun _ h=>AD .add p (.int .i64 1) fun a=>r3 i a h)) (Ufl 1 m h fun b=>Ucl 120 [a,(.string "entry of inode that is none".toUTF8),b] h fun _ h=>AD .add p (.int .i64 1) fun a=>r3 i a h)
def V7 (Q:Kt)(r2:R1)(r3:R2)(a b c d f g i j k m n o:Value)(h:H):Prop:=
 Ucm .lss o m
 (AI (.slice 3) k o fun p=>AB true 3 p h fun p=>Umk 114 h fun q h=>AJ 3 q p h fun h=>Ufl 0 q h fun p=>Ucf .eql p (.string ⟨#[46]⟩) (Ufl 0 q h fun p=>Ucm .eql p (.string ⟨#[46,46]⟩)
 (AD .add o (.int .i64 1) fun a=>r3 n a h)
 (WF Q r2 r3 a b c d f g n i j q k m o h)) (AD .add o (.int .i64 1) fun a=>r3 n a h))
 (MG Q r2 a b c d f g n j h)
def Xu (Q:Kt)(r2:R1)(a b c d f g i j k m n o:Value)(h:H):Prop:=Bx (fun r3 n o h=>V7 Q r2 r3 a b c d f g i j k m n o h) n o h
def LC (Q:Kt)(r2:R1)(a b c d f g i:Value)(h:H):Prop:=
 Ab i fun j=>Ucm .gtr j (.int .i64 0)
 (Uil i (.int .i64 0) h fun j=>AZ (.slice 1) i (some (.int .i64 1)) none fun i=>Ucl 126 [a,j] h fun k h=>Umk 81 h fun m h=>AJ 23 m k h fun h=>Ufl 1 m h fun k=>Ucl 45 [k] h fun k h=>Ucm .eql k (.int .u64 2)
 (Uil d j h fun k=>Ucl 127 [a,m,k] h fun _ h=>Ufl 19 m h fun k=>Ab k fun n=>Xu Q r2 a b c d f g j m k n i (.int .i64 0) h)
 (MG Q r2 a b c d f g i m h))
 (Unf 0 a h fun b=>AI (.slice 23) b (.int .i64 0) fun b=>Ufl 1 b h fun b=>Ucl 45 [b] h fun b h=>AD .eql b (.int .u64 2) fun b=>Ucl 65 [a,b,(.string "root that is no directory".toUTF8),(.int .u64 2)] h fun _ h=>Unf 0 a h fun b=>Ab b fun c=>XC Q a f g b c (.int .i64 0) h)
def X5 (Q:Kt)(a b c d f g i:Value)(h:H):Prop:=A1 (fun r2 i h=>LC Q r2 a b c d f g i h) i h
def MU (Q:Kt)(a b c d f:Value)(h:H):Prop:=
 Ab c fun g=>AY (AG TP 48) 1 8 48 g g h fun g h=>AH (.arr 1) 48 (AG TP 48) 1 1 [(0,(.int .u64 2))] h fun i h=>Ab c fun j=>Ucm .leq j (.int .i64 2)
 (Ucl 120 [a,(.string "no root".toUTF8),(.int .u64 2)] h fun _ h=>Q (.tuple #[]) h)
 (AI (.slice 1) c (.int .i64 2) fun j=>AJ 1 j (.bool true) h fun h=>AI (.slice 1) d (.int .i64 2) fun j=>AJ 1 j (.int .u64 2) h fun h=>X5 Q a b c d f g i h)
def f68 (a b:Value)(h:H)(Q:Kt):Prop:=
 Unf 4 a h fun c=>Unf 6 a h fun d=>AD .mul c d fun c=>AD .add c (.int .u64 1) fun c=>AY (AG TP 4) 1 1 4 c c h fun c h=>Ab c fun d=>Ab c fun f=>((AY (AG TP 48) 1 8 48 d d h fun d h=>((AY (AG TP 48) 1 8 48 f f h fun f h=>MU Q a b c d f h)
 ∧ (AY (AG TP 48) 1 8 48 f f h fun f h=>MU Q a b c d f h)))
 ∧ (AY (AG TP 48) 1 8 48 f f h fun f h=>AY (AG TP 48) 1 8 48 d d h fun d h=>MU Q a b c d f h))
def AIG (Q:Kt)(r:RS):Nat→DJ:=tab [(1047758,.jn fun e h=>PK Q (u1 (r 2046)) (e 0) (e 6) (e 7) (e 15) (e 16) (e 189) (e 190) (e 191) h),
 (4093,.lp [0,6,7,189,190] [191] fun s e l h=>W0 Q (u1 s) (e 0) (e 6) (e 7) (e 189) (e 190) (gl l 0) h),
 (130142,.jn fun e h=>MG Q (u1 (r 508)) (e 0) (e 1) (e 4) (e 5) (e 6) (e 7) (e 8) (e 10) h),
 (17057893630,.jn fun e h=>N7 Q (u1 (r 508)) (u2 (r 2082262)) (e 0) (e 1) (e 4) (e 5) (e 6) (e 7) (e 8) (e 9) (e 10) (e 12) (e 69) (e 70) (e 71) h),
 (1066118350,.jn fun e h=>S4 Q (u1 (r 508)) (u2 (r 2082262)) (e 0) (e 1) (e 4) (e 5) (e 6) (e 7) (e 8) (e 9) (e 10) (e 12) (e 69) (e 70) (e 71) h),
 (533059174,.jn fun e h=>WF Q (u1 (r 508)) (u2 (r 2082262)) (e 0) (e 1) (e 4) (e 5) (e 6) (e 7) (e 8) (e 9) (e 10) (e 12) (e 69) (e 70) (e 71) h),
 (4164525,.lp [0,1,4,5,6,7,9,10,69,70] [8,71] fun s e l h=>V7 Q (u1 (r 508)) (u2 s) (e 0) (e 1) (e 4) (e 5) (e 6) (e 7) (e 9) (e 10) (e 69) (e 70) (gl l 0) (gl l 1) h),
 (1017,.lp [0,1,4,5,6,7] [8] fun s e l h=>LC Q (u1 s) (e 0) (e 1) (e 4) (e 5) (e 6) (e 7) (gl l 0) h),
 (14,.jn fun e h=>MU Q (e 0) (e 1) (e 4) (e 5) (e 6) h)]
theorem AEI {a b:Value}{h:H}{Q:Kt}(x:f68 a b h Q):Call TP 68 [a,b] h Q:=Bb (AIG Q) Tryz.func68 (by kernel_rfl) x
def Oc (Q:Kt)(r1:R1)(a b c d f:Value)(h:H):Prop:=
 AK f
 (Unf 3 a h fun b=>AD .mul d (.int .u64 4096) fun d=>AZ (.slice 1) b (some d) none fun b=>Ucl 66 [b,(.int .u64 56),(.int .u64 2)] h fun d h=>Ucg .eql d (.int .u64 61267) (Ucl 66 [b,(.int .u64 90),(.int .u64 2)] h fun b h=>AD .and c (.int .u64 65535) fun d=>AD .eql b d fun b=>Ucl 65 [a,b,(.string "copy of the superblock in group".toUTF8),c] h fun _ h=>AD .add c (.int .u64 1) fun a=>r1 a h) (Ucl 65 [a,(.bool false),(.string "copy of the superblock in group".toUTF8),c] h fun _ h=>AD .add c (.int .u64 1) fun a=>r1 a h))
 (AD .add c (.int .u64 1) fun a=>r1 a h)
def VQ (Q:Kt)(r1:R1)(a b c:Value)(h:H):Prop:=
 Unf 4 a h fun d=>Ucm .lss c d
 (Unf 5 a h fun d=>AD .mul c d fun d=>Ucg .gtr c (.int .u64 0) (Ucl 121 [b,c] h fun f h=>Az f true (AD .add d (.int .u64 1) fun f=>AD .mul f (.int .u64 4096) fun f=>Unf 3 a h fun g=>Ab g fun g=>AV .u64 g fun g=>AD .leq f g fun f=>Oc Q r1 a b c d f h) (Oc Q r1 a b c d (.bool false) h)) (Oc Q r1 a b c d (.bool false) h))
 (Q (.tuple #[]) h)
def Wv (Q:Kt)(a b c:Value)(h:H):Prop:=A1 (fun r1 c h=>VQ Q r1 a b c h) c h
def Ln (Q:Kt)(r2:R3)(r3:R3)(a b c d f g i j k m n o:Value)(h:H):Prop:=
 Unf 6 a h fun b=>AD .mul i b fun b=>AD .add b o fun b=>AD .add b (.int .u64 1) fun b=>Unf 6 a h fun d=>Ucm .lss o d
 (AI (.slice 1) c b fun d=>Uld d h fun f=>Ucl 130 [k,o] h fun g h=>((Ukp d h f)∧Bq .bool false false h g f fun d=>Ucl 65 [a,d,(.string "mark of inode".toUTF8),b] h fun _ h=>Uil c b h fun c=>Unt c
 (AD .add n (.int .u64 1) fun c=>Ucl 128 [a,b] h fun d h=>Ucl 66 [d,(.int .u64 0),(.int .u64 2)] h fun d h=>Ucg .eql d (.int .u64 0) (Ucl 128 [a,b] h fun d h=>Ucl 66 [d,(.int .u64 26),(.int .u64 2)] h fun d h=>AD .eql d (.int .u64 0) fun d=>Ucl 65 [a,d,(.string "inode that is not used".toUTF8),b] h fun _ h=>AD .add o (.int .u64 1) fun a=>r3 m c a h) (Ucl 65 [a,(.bool false),(.string "inode that is not used".toUTF8),b] h fun _ h=>AD .add o (.int .u64 1) fun a=>r3 m c a h))
 (AD .add o (.int .u64 1) fun a=>r3 m n a h)))
 (AD .add o (.int .u64 1) fun a=>r3 m n a h)
def Tx (Q:Kt)(r2:R3)(r3:R3)(a b c d f g i j k m n o p:Value)(h:H):Prop:=
 Unt p
 (AD .add m (.int .u64 1) fun m=>Ln Q r2 r3 a b c d f g i j k m n o h)
 (Ln Q r2 r3 a b c d f g i j k m n o h)
def Lo (Q:Kt)(r2:R3)(r3:R3)(a b c d f g i j k m n o p q:Value)(h:H):Prop:=
 Unf 5 a h fun t=>Ucm .lss o t
 (Ucl 130 [j,o] h fun t h=>Bq .bool false false h t q fun t=>Ucl 65 [a,t,(.string "mark of block".toUTF8),p] h fun _ h=>Tx Q r2 r3 a b c d f g i j k m n o q h)
 (Tx Q r2 r3 a b c d f g i j k m n o q h)
def VB (Q:Kt)(r2:R3)(r3:R3)(a b c d f g i j k m n o:Value)(h:H):Prop:=
 Ucm .lss o (.int .u64 32768)
 (Unf 5 a h fun p=>AD .mul i p fun p=>AD .add p o fun p=>Unf 5 a h fun q=>Ucf .geq o q (Unf 1 a h fun q=>Ucf .geq p q (Unf 9 a h fun q=>Uil q p h fun q=>AD .neq q (.int .u8 0) fun q=>Lo Q r2 r3 a b c d f g i j k m n o p q h) (Lo Q r2 r3 a b c d f g i j k m n o p (.bool true) h)) (Lo Q r2 r3 a b c d f g i j k m n o p (.bool true) h))
 (Ucl 131 [a,i,(.int .u64 12),(.int .u64 2),(.int .u64 44)] h fun b h=>AD .eql b m fun b=>Ucl 65 [a,b,(.string "free blocks of group".toUTF8),i] h fun _ h=>Ucl 131 [a,i,(.int .u64 14),(.int .u64 2),(.int .u64 46)] h fun b h=>AD .eql b n fun b=>Ucl 65 [a,b,(.string "free inodes of group".toUTF8),i] h fun _ h=>AI (.slice 1) d i fun b=>Uld b h fun c=>Ucl 131 [a,i,(.int .u64 16),(.int .u64 2),(.int .u64 48)] h fun d h=>((Ukp b h c)∧AD .eql d c fun b=>Ucl 65 [a,b,(.string "directories of group".toUTF8),i] h fun _ h=>AD .add f m fun a=>AD .add g n fun b=>AD .add i (.int .u64 1) fun c=>r2 a b c h))
def Wh (Q:Kt)(r2:R3)(a b c d f g i j k m n o:Value)(h:H):Prop:=K9 (fun r3 m n o h=>VB Q r2 r3 a b c d f g i j k m n o h) m n o h
def VO (Q:Kt)(r2:R3)(a b c d f g i:Value)(h:H):Prop:=
 Unf 4 a h fun j=>Ucm .lss i j
 (Ucl 123 [a,i] h fun j h=>Ucl 129 [a,j] h fun j h=>Ucl 124 [a,i] h fun k h=>Ucl 129 [a,k] h fun k h=>Wh Q r2 a b c d f g i j k (.int .u64 0) (.int .u64 0) (.int .u64 0) h)
 (Ucl 66 [b,(.int .u64 12),(.int .u64 4)] h fun c h=>Ucl 66 [b,(.int .u64 344),(.int .u64 4)] h fun d h=>AD .shl d (.int .u64 32) fun d=>AD .or c d fun c=>AD .eql c f fun c=>Ucl 65 [a,c,(.string "free blocks".toUTF8),f] h fun _ h=>Ucl 66 [b,(.int .u64 16),(.int .u64 4)] h fun c h=>AD .eql c g fun c=>Ucl 65 [a,c,(.string "free inodes".toUTF8),g] h fun _ h=>Wv Q a b (.int .u64 0) h)
def Ta (Q:Kt)(a b c d f g i:Value)(h:H):Prop:=K9 (fun r2 f g i h=>VO Q r2 a b c d f g i h) f g i h
def YH (Q:Kt)(r4:R1)(a b c d f g i:Value)(h:H):Prop:=
 Ucm .lss i g
 (AI (.slice 23) f i fun b=>AB true 23 b h fun b=>Umk 81 h fun f h=>AJ 23 f b h fun h=>Ufl 0 f h fun b=>AI (.slice 1) c b fun b=>AJ 1 b (.bool true) h fun h=>Ufl 1 f h fun b=>Ucl 45 [b] h fun b h=>Ucm .eql b (.int .u64 2)
 (Ufl 0 f h fun b=>AD .sub b (.int .u64 1) fun b=>Unf 6 a h fun a=>AD .quo b a fun a=>Uil d a h fun b=>AD .add b (.int .u64 1) fun b=>AI (.slice 1) d a fun a=>AJ 1 a b h fun h=>AD .add i (.int .i64 1) fun a=>r4 a h)
 (AD .add i (.int .i64 1) fun a=>r4 a h))
 (Ta Q a b c d (.int .u64 0) (.int .u64 0) (.int .u64 0) h)
def Xe (Q:Kt)(a b c d f g i:Value)(h:H):Prop:=A1 (fun r4 i h=>YH Q r4 a b c d f g i h) i h
def PP (Q:Kt)(a b c d:Value)(h:H):Prop:=
 Unf 0 a h fun f=>Ab f fun g=>Xe Q a b c d f g (.int .i64 0) h
def YP (Q:Kt)(r5:R1)(a b c d f:Value)(h:H):Prop:=
 Ucl 66 [b,(.int .u64 84),(.int .u64 4)] h fun g h=>Ucg .lss f g (Ab c fun g=>AV .u64 g fun g=>Ucm .lss f g
 (AI (.slice 1) c f fun a=>AJ 1 a (.bool true) h fun h=>AD .add f (.int .u64 1) fun a=>r5 a h)
 (PP Q a b c d h)) (PP Q a b c d h)
def Xh (Q:Kt)(a b c d f:Value)(h:H):Prop:=A1 (fun r5 f h=>YP Q r5 a b c d f h) f h
def L7 (Q:Kt)(a b c d:Value)(h:H):Prop:=
 Xh Q a b c d (.int .u64 1) h
def f69 (a b:Value)(h:H)(Q:Kt):Prop:=
 Uff 4 a fun c=>Uld c h fun d=>Uff 6 a fun f=>Uld f h fun g=>AD .mul d g fun i=>AD .add i (.int .u64 1) fun i=>Uff 4 a fun j=>Uld j h fun k=>((AY (AG TP 4) 1 1 4 i i h fun c h=>((Ukp j h k)∧((AY (AG TP 48) 1 8 48 k k h fun d h=>L7 Q a b c d h)
 ∧ (AY (AG TP 48) 1 8 48 k k h fun d h=>L7 Q a b c d h))))
 ∧ (AY (AG TP 48) 1 8 48 k k h fun j h=>((Ukp c h d)∧(Ukp f h g)∧AY (AG TP 4) 1 1 4 i i h fun c h=>L7 Q a b c j h)))
def AIC (Q:Kt)(r:RS):Nat→DJ:=tab [(130854,.jn fun e h=>Oc Q (u1 (r 1022)) (e 0) (e 1) (e 20) (e 21) (e 289) h),
 (2045,.lp [0,1] [20] fun s e l h=>VQ Q (u1 s) (e 0) (e 1) (gl l 0) h),
 (65615006,.jn fun e h=>Ln Q (u3 (r 250)) (u3 (r 128154)) (e 0) (e 1) (e 4) (e 5) (e 9) (e 10) (e 11) (e 12) (e 13) (e 14) (e 15) (e 16) h),
 (32807502,.jn fun e h=>Tx Q (u3 (r 250)) (u3 (r 128154)) (e 0) (e 1) (e 4) (e 5) (e 9) (e 10) (e 11) (e 12) (e 13) (e 14) (e 15) (e 16) (e 18) h),
 (16403750,.jn fun e h=>Lo Q (u3 (r 250)) (u3 (r 128154)) (e 0) (e 1) (e 4) (e 5) (e 9) (e 10) (e 11) (e 12) (e 13) (e 14) (e 15) (e 16) (e 17) (e 18) h),
 (256309,.lp [0,1,4,5,9,10,11,12,13] [14,15,16] fun s e l h=>VB Q (u3 (r 250)) (u3 s) (e 0) (e 1) (e 4) (e 5) (e 9) (e 10) (e 11) (e 12) (e 13) (gl l 0) (gl l 1) (gl l 2) h),
 (501,.lp [0,1,4,5] [9,10,11] fun s e l h=>VO Q (u3 s) (e 0) (e 1) (e 4) (e 5) (gl l 0) (gl l 1) (gl l 2) h),
 (117,.lp [0,1,4,5,58,59] [60] fun s e l h=>YH Q (u1 s) (e 0) (e 1) (e 4) (e 5) (e 58) (e 59) (gl l 0) h),
 (14,.jn fun e h=>PP Q (e 0) (e 1) (e 4) (e 5) h),
 (53,.lp [0,1,4,5] [6] fun s e l h=>YP Q (u1 s) (e 0) (e 1) (e 4) (e 5) (gl l 0) h),
 (6,.jn fun e h=>L7 Q (e 0) (e 1) (e 4) (e 5) h)]
theorem ACu {a b:Value}{h:H}{Q:Kt}(x:f69 a b h Q):Call TP 69 [a,b] h Q:=Bb (AIC Q) Tryz.func69 (by kernel_rfl) x
def Qx (Q:Kt)(r1:R1)(r2:R1)(a b c d f g i:Value)(h:H):Prop:=
 Ufl 0 c h fun d=>CL d fun d=>Ucm .lss i d
 (Ufl 0 c h fun c=>BQ c i fun c=>AD .neq c (.int .u8 47) fun c=>Unf 0 b h fun b=>Ucl 65 [a,c,(.string "slash in a name of directory".toUTF8),b] h fun _ h=>AD .add i (.int .i64 1) fun a=>r2 a h)
 (AD .add g (.int .i64 1) fun a=>r1 a h)
def Qq (Q:Kt)(r1:R1)(a b c d f g i:Value)(h:H):Prop:=A1 (fun r2 i h=>Qx Q r1 r2 a b c d f g i h) i h
def Rk (Q:Kt)(r1:R1)(r3:R1)(a b c d f g i j k:Value)(h:H):Prop:=
 Ucm .lss k j
 (AI (.slice 3) i k fun d=>AB true 3 d h fun d=>Umk 114 h fun f h=>AJ 3 f d h fun h=>Ufl 0 c h fun c=>Ufl 0 f h fun d=>AD .neq c d fun c=>Unf 0 b h fun b=>Ucl 65 [a,c,(.string "name that comes twice in directory".toUTF8),b] h fun _ h=>AD .add k (.int .i64 1) fun a=>r3 a h)
 (Qq Q r1 a b c d f g (.int .i64 0) h)
def Rw (Q:Kt)(r1:R1)(a b c d f g i j k:Value)(h:H):Prop:=A1 (fun r3 k h=>Rk Q r1 r3 a b c d f g i j k h) k h
def Rp (Q:Kt)(r1:R1)(a b c d f:Value)(h:H):Prop:=
 Ucm .lss f d
 (AI (.slice 3) c f fun g=>AB true 3 g h fun g=>Umk 114 h fun i h=>AJ 3 i g h fun h=>Unf 19 b h fun g=>AZ (.slice 3) g none (some f) fun g=>Ab g fun j=>Rw Q r1 a b i c d f g j (.int .i64 0) h)
 (Q (.tuple #[]) h)
def V3 (Q:Kt)(a b c d f:Value)(h:H):Prop:=A1 (fun r1 f h=>Rp Q r1 a b c d f h) f h
def LK (Q:Kt)(a b:Value)(h:H):Prop:=
 Unf 19 b h fun c=>Ab c fun d=>V3 Q a b c d (.int .i64 0) h
def Mm (Q:Kt)(a b c:Value)(h:H):Prop:=
 Unf 19 b h fun d=>AI (.slice 3) d (.int .i64 1) fun d=>Ufl 1 d h fun d=>Ucg .eql d c (Unf 19 b h fun c=>AI (.slice 3) c (.int .i64 1) fun c=>Ufl 2 c h fun c=>AD .eql c (.int .u64 2) fun c=>Unf 0 b h fun d=>Ucl 65 [a,c,(.string ".. of directory".toUTF8),d] h fun _ h=>LK Q a b h) (Unf 0 b h fun c=>Ucl 65 [a,(.bool false),(.string ".. of directory".toUTF8),c] h fun _ h=>LK Q a b h)
def Kg (Q:Kt)(a b c d:Value)(h:H):Prop:=
 AK d
 (Unf 0 b h fun b=>Ucl 120 [a,(.string "directory without . and ..".toUTF8),b] h fun _ h=>Q (.tuple #[]) h)
 (Unf 19 b h fun d=>AI (.slice 3) d (.int .i64 0) fun d=>Ufl 1 d h fun d=>Unf 0 b h fun f=>Ucg .eql d f (Unf 19 b h fun d=>AI (.slice 3) d (.int .i64 0) fun d=>Ufl 2 d h fun d=>AD .eql d (.int .u64 2) fun d=>Unf 0 b h fun f=>Ucl 65 [a,d,(.string ". of directory".toUTF8),f] h fun _ h=>Mm Q a b c h) (Unf 0 b h fun d=>Ucl 65 [a,(.bool false),(.string ". of directory".toUTF8),d] h fun _ h=>Mm Q a b c h))
def Hf (Q:Kt)(a b c:Value)(h:H):Prop:=
 Unf 19 b h fun d=>Ab d fun d=>Ucf .lss d (.int .i64 2) (Unf 19 b h fun d=>AI (.slice 3) d (.int .i64 0) fun d=>Ufl 0 d h fun d=>Ucf .neq d (.string ⟨#[46]⟩) (Unf 19 b h fun d=>AI (.slice 3) d (.int .i64 1) fun d=>Ufl 0 d h fun d=>AD .neq d (.string ⟨#[46,46]⟩) fun d=>Kg Q a b c d h) (Kg Q a b c (.bool true) h)) (Kg Q a b c (.bool true) h)
def Qz (Q:Kt)(r4:R1)(a b c d:Value)(h:H):Prop:=
 Ab d fun f=>Ucm .geq f (.int .i64 4096)
 (AZ (.slice 1) d none (some (.int .i64 4096)) fun c=>Ucl 180 [a,b,c] h fun _ h=>AZ (.slice 1) d (some (.int .i64 4096)) none fun a=>r4 a h)
 (Hf Q a b c h)
def QE (Q:Kt)(a b c d:Value)(h:H):Prop:=A1 (fun r4 d h=>Qz Q r4 a b c d h) d h
def Mq (Q:Kt)(a b c d:Value)(h:H):Prop:=
 QE Q a b c d h
def ACK (a b c:Value)(h:H)(Q:Kt):Prop:=
 Unf 18 b h fun d=>Unf 21 b h fun f=>AK f
 (Ab d fun f=>Ucm .lss f (.int .i64 4)
 (Unf 0 b h fun b=>Ucl 120 [a,(.string "inline directory".toUTF8),b] h fun _ h=>Q (.tuple #[]) h)
 (Uff 0 b fun f=>Uld f h fun g=>Ae (.struct [(0,1),(1,1),(2,1)]) (AG TP 114) [(0,(.string ⟨#[46]⟩)),(1,g),(2,(.int .u64 2))] fun i=>Ucl 66 [d,(.int .u64 0),(.int .u64 4)] h fun j h=>((Ukp f h g)∧Ae (.struct [(0,1),(1,1),(2,1)]) (AG TP 114) [(0,(.string ⟨#[46,46]⟩)),(1,j),(2,(.int .u64 2))] fun f=>AH (.arr 3) 114 (AG TP 114) 3 2 [(0,i),(1,f)] h fun f h=>Uff 19 b fun g=>AJ 1 g f h fun h=>Ab d fun f=>NW (.int .i64 60) f fun f=>AZ (.slice 1) d (some (.int .i64 4)) (some f) fun f=>Ucl 180 [a,b,f] h fun _ h=>Ab d fun f=>Ucm .gtr f (.int .i64 60)
 (AZ (.slice 1) d (some (.int .i64 60)) none fun d=>Ucl 180 [a,b,d] h fun _ h=>Hf Q a b c h)
 (Hf Q a b c h))))
 (Ab d fun f=>Ucg .gtr f (.int .i64 0) (Ab d fun f=>AD .rem f (.int .i64 4096) fun f=>AD .eql f (.int .i64 0) fun f=>Unf 0 b h fun g=>Ucl 65 [a,f,(.string "size of directory".toUTF8),g] h fun _ h=>Mq Q a b c d h) (Unf 0 b h fun f=>Ucl 65 [a,(.bool false),(.string "size of directory".toUTF8),f] h fun _ h=>Mq Q a b c d h))
def AE1 (Q:Kt)(r:RS):Nat→DJ:=tab [(260509,.lp [0,1,8,170,171,172] [11] fun s e l h=>Qx Q (u1 (r 254)) (u1 s) (e 0) (e 1) (e 8) (e 170) (e 171) (e 172) (gl l 0) h),
 (260501,.lp [0,1,8,170,171,172,182,183] [184] fun s e l h=>Rk Q (u1 (r 254)) (u1 s) (e 0) (e 1) (e 8) (e 170) (e 171) (e 172) (e 182) (e 183) (gl l 0) h),
 (509,.lp [0,1,170,171] [172] fun s e l h=>Rp Q (u1 s) (e 0) (e 1) (e 170) (e 171) (gl l 0) h),
 (126,.jn fun e h=>LK Q (e 0) (e 1) h),
 (62,.jn fun e h=>Mm Q (e 0) (e 1) (e 2) h),
 (58,.jn fun e h=>Kg Q (e 0) (e 1) (e 2) (e 107) h),
 (14,.jn fun e h=>Hf Q (e 0) (e 1) (e 2) h),
 (221,.lp [0,1,2] [6] fun s e l h=>Qz Q (u1 s) (e 0) (e 1) (e 2) (gl l 0) h),
 (110,.jn fun e h=>Mq Q (e 0) (e 1) (e 2) (e 6) h)]
theorem AAY {a b c:Value}{h:H}{Q:Kt}(x:ACK a b c h Q):Call TP 127 [a,b,c] h Q:=Bb (AE1 Q) Tryz.func127 (by kernel_rfl) x
def ACW (a b c:Value)(h:H)(Q:Kt):Prop:=
 AD .add a (.int .u64 4) fun d=>Uld b h fun b=>AD .add (.int .u64 128) b fun b=>Ucm .gtr d b
 (Q (.int .u64 0) h)
 (Uld c h fun b=>Ucl 66 [b,a,(.int .u64 4)] h fun a h=>Q a h)
theorem ZI {a b c:Value}{h:H}{Q:Kt}(x:ACW a b c h Q):Call TP 176 [a,b,c] h Q:=Bb nT Tryz.func176 (by kernel_rfl) x
def Qt (Q:Kt)(r1:R1)(r2:R1)(a b c d f g i j:Value)(h:H):Prop:=
 Ucm .lss j i
 (AI (.slice 2) c d fun d=>Ufl 0 d h fun d=>AI (.slice 2) c j fun c=>Ufl 0 c h fun c=>AD .neq d c fun c=>Unf 0 b h fun b=>Ucl 65 [a,c,(.string "attribute that comes twice in inode".toUTF8),b] h fun _ h=>AD .add j (.int .i64 1) fun a=>r2 a h)
 (AD .add g (.int .i64 1) fun a=>r1 a h)
def W9 (Q:Kt)(r1:R1)(a b c d f g i j:Value)(h:H):Prop:=A1 (fun r2 j h=>Qt Q r1 r2 a b c d f g i j h) j h
def QF (Q:Kt)(r1:R1)(a b c d f:Value)(h:H):Prop:=
 Ucm .lss f d
 (AZ (.slice 2) c none (some f) fun g=>Ab g fun g=>W9 Q r1 a b c f d f g (.int .i64 0) h)
 (Q c h)
def Wg (Q:Kt)(a b c d f:Value)(h:H):Prop:=A1 (fun r1 f h=>QF Q r1 a b c d f h) f h
def In (Q:Kt)(a b c:Value)(h:H):Prop:=
 Ab c fun d=>Wg Q a b c d (.int .i64 0) h
def Ga (Q:Kt)(a b c d:Value)(h:H):Prop:=
 Ucm .neq d (.int .u64 0)
 (Ucl 122 [a,d,(.string "attributes".toUTF8)] h fun _ h=>Unf 22 b h fun f=>AD .add f (.int .u64 1) fun f=>Uff 22 b fun g=>AJ 1 g f h fun h=>Ucl 129 [a,d] h fun d h=>Uff 0 b fun f=>Uld f h fun g=>Ucl 66 [d,(.int .u64 0),(.int .u64 4)] h fun i h=>((Ukp f h g)∧AD .eql i (.int .u64 3925999616) fun f=>Ucl 65 [a,f,(.string "magic of attributes of inode".toUTF8),g] h fun _ h=>Uff 0 b fun f=>Uld f h fun g=>Ucl 66 [d,(.int .u64 4),(.int .u64 4)] h fun i h=>((Ukp f h g)∧Ucg .eql i (.int .u64 1) (Ucl 66 [d,(.int .u64 8),(.int .u64 4)] h fun i h=>((Ukp f h g)∧AD .eql i (.int .u64 1) fun f=>Ucl 65 [a,f,(.string "references of attributes of inode".toUTF8),g] h fun _ h=>AZ (.slice 1) d (some (.int .i64 32)) none fun f=>Ucl 207 [a,b,f,d,(.bool false)] h fun d h=>AM 86 (AG TP 86) 2 40 c d h fun c h=>In Q a b c h)) (Ucl 65 [a,(.bool false),(.string "references of attributes of inode".toUTF8),g] h fun _ h=>AZ (.slice 1) d (some (.int .i64 32)) none fun f=>Ucl 207 [a,b,f,d,(.bool false)] h fun d h=>AM 86 (AG TP 86) 2 40 c d h fun c h=>In Q a b c h))))
 (In Q a b c h)
def Nr (Q:Kt)(a b c d f g:Value)(h:H):Prop:=
 AK g
 (AD .add (.int .u64 128) d fun d=>AD .add d (.int .u64 4) fun d=>AZ (.slice 1) c (some d) none fun d=>Ucl 207 [a,b,d,d,(.bool true)] h fun d h=>Ucl 66 [c,(.int .u64 104),(.int .u64 4)] h fun f h=>Unf 10 a h fun g=>AK g
 (Ucl 66 [c,(.int .u64 118),(.int .u64 2)] h fun c h=>AD .shl c (.int .u64 32) fun c=>AD .or f c fun c=>Ga Q a b d c h)
 (Ga Q a b d f h))
 (Ucl 66 [c,(.int .u64 104),(.int .u64 4)] h fun d h=>Unf 10 a h fun g=>AK g
 (Ucl 66 [c,(.int .u64 118),(.int .u64 2)] h fun c h=>AD .shl c (.int .u64 32) fun c=>AD .or d c fun c=>Ga Q a b f c h)
 (Ga Q a b f d h))
def ACN (a b c d:Value)(h:H)(Q:Kt):Prop:=
 Unf 7 a h fun f=>AD .add (.int .u64 128) d fun g=>AD .add g (.int .u64 4) fun g=>Ucg .geq f g (AD .add (.int .u64 128) d fun f=>Ucl 66 [c,f,(.int .u64 4)] h fun f h=>AD .eql f (.int .u64 3925999616) fun f=>Nr Q a b c d (.slice none 0 0) f h) (Nr Q a b c d (.slice none 0 0) (.bool false) h)
def AGh (Q:Kt)(r:RS):Nat→DJ:=tab [(521421,.lp [0,1,9,13,98,99,105] [106] fun s e l h=>Qt Q (u1 (r 1018)) (u1 s) (e 0) (e 1) (e 9) (e 13) (e 98) (e 99) (e 105) (gl l 0) h),
 (2037,.lp [0,1,9,98] [99] fun s e l h=>QF Q (u1 s) (e 0) (e 1) (e 9) (e 98) (gl l 0) h),
 (254,.jn fun e h=>In Q (e 0) (e 1) (e 9) h),
 (126,.jn fun e h=>Ga Q (e 0) (e 1) (e 9) (e 11) h),
 (58,.jn fun e h=>Nr Q (e 0) (e 1) (e 2) (e 3) (e 9) (e 29) h)]
theorem AAZ {a b c d:Value}{h:H}{Q:Kt}(x:ACN a b c d h Q):Call TP 178 [a,b,c,d] h Q:=Bb (AGh Q) Tryz.func178 (by kernel_rfl) x
def KX (Q:Kt)(a b:Value)(h:H):Prop:=
 Unf 4 b h fun c=>Ucg .eql c (.int .u64 0) (Unf 7 b h fun c=>AD .and c (.int .u64 524288) fun c=>AD .eql c (.int .u64 0) fun c=>Unf 0 b h fun b=>Ucl 65 [a,c,(.string "device with content".toUTF8),b] h fun _ h=>Q (.tuple #[]) h) (Unf 0 b h fun b=>Ucl 65 [a,(.bool false),(.string "device with content".toUTF8),b] h fun _ h=>Q (.tuple #[]) h)
def EX (Q:Kt)(a b c d f:Value)(h:H):Prop:=
 AK f
 (Unf 4 b h fun c=>Ucg .eql c (.int .u64 0) (Unf 7 b h fun c=>AD .and c (.int .u64 524288) fun c=>AD .eql c (.int .u64 0) fun c=>Unf 0 b h fun b=>Ucl 65 [a,c,(.string "fifo or socket with content".toUTF8),b] h fun _ h=>Q (.tuple #[]) h) (Unf 0 b h fun b=>Ucl 65 [a,(.bool false),(.string "fifo or socket with content".toUTF8),b] h fun _ h=>Q (.tuple #[]) h))
 (Unf 4 b h fun f=>Unf 3 a h fun g=>Ab g fun g=>AV .u64 g fun g=>AD .leq f g fun f=>Unf 0 b h fun g=>Ucl 65 [a,f,(.string "size of inode".toUTF8),g] h fun _ h=>Unf 4 b h fun f=>Unf 3 a h fun g=>Ab g fun g=>AV .u64 g fun g=>Ucm .gtr f g
 (Q (.tuple #[]) h)
 (Unf 21 b h fun f=>AK f
 (AH (.arr 1) 5 (AG TP 5) 1 0 [] h fun f h=>AM 5 (AG TP 5) 1 1 f d h fun d h=>AM 5 (AG TP 5) 1 1 d c h fun c h=>Uff 18 b fun d=>AJ 1 d c h fun h=>Unf 4 b h fun c=>Unf 18 b h fun d=>Ab d fun d=>AV .u64 d fun d=>AD .leq c d fun c=>Unf 0 b h fun d=>Ucl 65 [a,c,(.string "inline size of inode".toUTF8),d] h fun _ h=>Unf 18 b h fun a=>Unf 4 b h fun c=>Unf 18 b h fun d=>Ab d fun d=>AV .u64 d fun d=>NW c d fun c=>AZ (.slice 1) a none (some c) fun a=>Uff 18 b fun b=>AJ 1 b a h fun h=>Q (.tuple #[]) h)
 (Unf 7 b h fun c=>AD .and c (.int .u64 524288) fun c=>Ucm .neq c (.int .u64 0)
 (Unf 4 b h fun c=>AY (AG TP 5) 1 1 5 c c h fun c h=>Uff 18 b fun f=>AJ 1 f c h fun h=>Umk 48 h fun c h=>AJ 1 c (.int .u64 0) h fun h=>Ucl 208 [a,b,d,(.int .i64 5),c] h fun _ h=>Uld c h fun c=>Unf 4 b h fun d=>AD .add d (.int .u64 4096) fun d=>AD .sub d (.int .u64 1) fun d=>AD .quo d (.int .u64 4096) fun d=>AD .leq c d fun c=>Unf 0 b h fun b=>Ucl 65 [a,c,(.string "extents beyond the size of inode".toUTF8),b] h fun _ h=>Q (.tuple #[]) h)
 (Unf 1 b h fun c=>Ucl 45 [c] h fun c h=>Ucm .eql c (.int .u64 7)
 (Unf 4 b h fun c=>AD .lss c (.int .u64 60) fun c=>Unf 0 b h fun f=>Ucl 65 [a,c,(.string "short link of inode".toUTF8),f] h fun _ h=>AH (.arr 1) 5 (AG TP 5) 1 0 [] h fun a h=>Unf 4 b h fun c=>NW c (.int .u64 60) fun c=>AZ (.slice 1) d none (some c) fun c=>AM 5 (AG TP 5) 1 1 a c h fun a h=>Uff 18 b fun b=>AJ 1 b a h fun h=>Q (.tuple #[]) h)
 (Unf 4 b h fun c=>AD .eql c (.int .u64 0) fun c=>Unf 0 b h fun b=>Ucl 65 [a,c,(.string "content without extents of inode".toUTF8),b] h fun _ h=>Q (.tuple #[]) h)))))
def IU (Q:Kt)(a b c d f g:Value)(h:H):Prop:=
 AK g
 (Ucl 66 [d,(.int .u64 0),(.int .u64 4)] h fun c h=>Ucl 66 [d,(.int .u64 4),(.int .u64 4)] h fun d h=>Ucm .neq c (.int .u64 0)
 (AD .shr c (.int .u64 8) fun d=>AD .and d (.int .u64 255) fun d=>AV .u32 d fun d=>AD .and c (.int .u64 255) fun c=>AV .u32 c fun c=>Uff 16 b fun f=>AJ 1 f d h fun h=>Uff 17 b fun d=>AJ 1 d c h fun h=>KX Q a b h)
 (AD .shr d (.int .u64 8) fun c=>AD .and c (.int .u64 4095) fun c=>AV .u32 c fun c=>AD .and d (.int .u64 255) fun f=>AD .shr d (.int .u64 12) fun d=>AD .and d (.int .u64 1048320) fun d=>AD .or f d fun d=>AV .u32 d fun d=>Uff 16 b fun f=>AJ 1 f c h fun h=>Uff 17 b fun c=>AJ 1 c d h fun h=>KX Q a b h))
 (Ucm .eql f (.int .u64 5)
 (EX Q a b c d (.bool true) h)
 (AD .eql f (.int .u64 6) fun f=>EX Q a b c d f h))
def ADh (a b c d:Value)(h:H)(Q:Kt):Prop:=
 AZ (.slice 1) c (some (.int .i64 40)) (some (.int .i64 100)) fun c=>Unf 1 b h fun f=>Ucl 45 [f] h fun f h=>Ucm .eql f (.int .u64 3)
 (IU Q a b d c f (.bool true) h)
 (AD .eql f (.int .u64 4) fun g=>IU Q a b d c f g h)
def AGl (Q:Kt)(r:RS):Nat→DJ:=tab [(854,.jn fun e h=>KX Q (e 0) (e 1) h),
 (430,.jn fun e h=>EX Q (e 0) (e 1) (e 3) (e 8) (e 77) h),
 (106,.jn fun e h=>IU Q (e 0) (e 1) (e 3) (e 8) (e 18) (e 19) h)]
theorem Zx {a b c d:Value}{h:H}{Q:Kt}(x:ADh a b c d h Q):Call TP 179 [a,b,c,d] h Q:=Bb (AGl Q) Tryz.func179 (by kernel_rfl) x
def HW (Q:Kt)(r1:R1)(a b c d f g i:Value)(h:H):Prop:=
 AK i
 (Unf 0 b h fun b=>Ucl 120 [a,(.string "entry of directory".toUTF8),b] h fun _ h=>Q (.tuple #[]) h)
 (Ucl 66 [c,(.int .u64 0),(.int .u64 4)] h fun i h=>Ucm .neq i (.int .u64 0)
 (AD .gtr f (.int .u64 0) fun j=>Unf 0 b h fun k=>Ucl 65 [a,j,(.string "empty name in directory".toUTF8),k] h fun _ h=>Uff 19 b fun a=>Uld a h fun j=>AD .add (.int .u64 8) f fun f=>AZ (.slice 1) c (some (.int .i64 8)) (some f) fun f=>HI f h fun f=>Ae (.struct [(0,1),(1,1),(2,1)]) (AG TP 114) [(0,f),(1,i),(2,g)] fun f=>AH (.arr 3) 114 (AG TP 114) 3 1 [(0,f)] h fun f h=>((Ukp a h j)∧AM 114 (AG TP 114) 3 32 j f h fun a h=>Uff 19 b fun b=>AJ 1 b a h fun h=>AZ (.slice 1) c (some d) none fun a=>r1 a h))
 (AZ (.slice 1) c (some d) none fun a=>r1 a h))
def AJk (Q:Kt)(r1:R1)(a b c:Value)(h:H):Prop:=
 Ab c fun d=>Ucm .gtr d (.int .i64 0)
 (Ucl 66 [c,(.int .u64 4),(.int .u64 2)] h fun d h=>Ucl 66 [c,(.int .u64 6),(.int .u64 1)] h fun f h=>Ucl 66 [c,(.int .u64 7),(.int .u64 1)] h fun g h=>Ab c fun i=>Ucf .lss i (.int .i64 8) (Ucf .lss d (.int .u64 8) (AD .rem d (.int .u64 4) fun i=>Ucf .neq i (.int .u64 0) (Ab c fun i=>AV .u64 i fun i=>Ucf .gtr d i (AD .add (.int .u64 8) f fun i=>AD .gtr i d fun i=>HW Q r1 a b c d f g i h) (HW Q r1 a b c d f g (.bool true) h)) (HW Q r1 a b c d f g (.bool true) h)) (HW Q r1 a b c d f g (.bool true) h)) (HW Q r1 a b c d f g (.bool true) h))
 (Q (.tuple #[]) h)
def XL (Q:Kt)(a b c:Value)(h:H):Prop:=A1 (fun r1 c h=>AJk Q r1 a b c h) c h
def ABo (a b c:Value)(h:H)(Q:Kt):Prop:=
 XL Q a b c h
def AEs (Q:Kt)(r:RS):Nat→DJ:=tab [(298,.jn fun e h=>HW Q (u1 (r 2)) (e 0) (e 1) (e 2) (e 6) (e 7) (e 8) (e 43) h),
 (5,.lp [0,1] [2] fun s e l h=>AJk Q (u1 s) (e 0) (e 1) (gl l 0) h)]
theorem ZN {a b c:Value}{h:H}{Q:Kt}(x:ABo a b c h Q):Call TP 180 [a,b,c] h Q:=Bb (AEs Q) Tryz.func180 (by kernel_rfl) x
def AEU (a:Value)(h:H)(Q:Kt):Prop:=
 Ucm .eql a (.int .u64 0)
 (Q (.tuple #[(.string ⟨#[]⟩),(.bool true)]) h)
 (Ucm .eql a (.int .u64 1)
 (Q (.tuple #[(.string "user.".toUTF8),(.bool true)]) h)
 (Ucm .eql a (.int .u64 2)
 (Q (.tuple #[(.string "system.posix_acl_access".toUTF8),(.bool true)]) h)
 (Ucm .eql a (.int .u64 3)
 (Q (.tuple #[(.string "system.posix_acl_default".toUTF8),(.bool true)]) h)
 (Ucm .eql a (.int .u64 4)
 (Q (.tuple #[(.string "trusted.".toUTF8),(.bool true)]) h)
 (Ucm .eql a (.int .u64 6)
 (Q (.tuple #[(.string "security.".toUTF8),(.bool true)]) h)
 (Ucm .eql a (.int .u64 7)
 (Q (.tuple #[(.string "system.".toUTF8),(.bool true)]) h)
 (Ucm .eql a (.int .u64 8)
 (Q (.tuple #[(.string "system.richacl".toUTF8),(.bool true)]) h)
 (Q (.tuple #[(.string ⟨#[]⟩),(.bool false)]) h))))))))
theorem Y1 {a:Value}{h:H}{Q:Kt}(x:AEU a h Q):Call TP 184 [a] h Q:=Bb nT Tryz.func184 (by kernel_rfl) x
def Nw (Q:Kt)(a b c d f g i:Value)(h:H):Prop:=
 AD .add f (.int .u64 4) fun j=>Ab c fun c=>AV .u64 c fun c=>Ucg .leq j c (AD .add i f fun c=>AD .add c (.int .u64 4) fun c=>AD .leq c g fun c=>Unf 0 b h fun b=>Ucl 65 [a,c,(.string "attributes over their values in inode".toUTF8),b] h fun _ h=>Q d h) (Unf 0 b h fun b=>Ucl 65 [a,(.bool false),(.string "attributes over their values in inode".toUTF8),b] h fun _ h=>Q d h)
def Ew (Q:Kt)(r1:R3)(a b c d f g i j k m n o p:Value)(h:H):Prop:=
 HI o h fun a=>AD .add n a fun a=>Ae (.struct [(0,1),(1,1)]) (AG TP 86) [(0,a),(1,p)] fun a=>AH (.arr 2) 86 (AG TP 86) 2 1 [(0,a)] h fun a h=>AM 86 (AG TP 86) 2 40 g a h fun a h=>AD .add (.int .u64 16) m fun b=>AD .add b (.int .u64 3) fun b=>AD .quo b (.int .u64 4) fun b=>AD .mul b (.int .u64 4) fun b=>AD .add i b fun b=>r1 a b j h
def LM (Q:Kt)(r1:R3)(a b c d f g i j k m n o p q t u v:Value)(h:H):Prop:=
 AK v
 (Uff 0 b fun v=>Uld v h fun w=>Ucl 212 [q,t] h fun y h=>((Ukp v h w)∧AV .u64 y fun v=>AD .eql u v fun u=>Ucl 65 [a,u,(.string "hash of an attribute of inode".toUTF8),w] h fun _ h=>Ucm .gtr o (.int .u64 0)
 (AD .rem n (.int .u64 4) fun o=>AD .eql o (.int .u64 0) fun o=>Unf 0 b h fun u=>Ucl 65 [a,o,(.string ⟨#[112,108,97,99,101,32,111,102,32,97,32,118,97,108,117,101,32,111,102,32,105,110,111,100,101]⟩),u] h fun _ h=>NW j n fun j=>Ew Q r1 a b c d f g i j k m p q t h)
 (Ew Q r1 a b c d f g i j k m p q t h)))
 (Ucm .gtr o (.int .u64 0)
 (AD .rem n (.int .u64 4) fun o=>AD .eql o (.int .u64 0) fun o=>Unf 0 b h fun u=>Ucl 65 [a,o,(.string ⟨#[112,108,97,99,101,32,111,102,32,97,32,118,97,108,117,101,32,111,102,32,105,110,111,100,101]⟩),u] h fun _ h=>NW j n fun j=>Ew Q r1 a b c d f g i j k m p q t h)
 (Ew Q r1 a b c d f g i j k m p q t h))
def LY (Q:Kt)(r1:R3)(a b c d f g i j k m n o p q:Value)(h:H):Prop:=
 AK q
 (Unf 0 b h fun b=>Ucl 120 [a,(.string "place of an attribute of inode".toUTF8),b] h fun _ h=>Q g h)
 (AD .add i (.int .u64 16) fun q=>AD .add i (.int .u64 16) fun t=>AD .add t m fun t=>AZ (.slice 1) c (some q) (some t) fun q=>AH (.arr 1) 5 (AG TP 5) 1 0 [] h fun t h=>AD .add n o fun u=>AZ (.slice 1) d (some n) (some u) fun u=>AM 5 (AG TP 5) 1 1 t u h fun t h=>AD .add i (.int .u64 12) fun u=>Ucl 66 [c,u,(.int .u64 4)] h fun u h=>LH .not f fun v=>Az v false (AD .neq u (.int .u64 0) fun v=>LM Q r1 a b c d f g i j k m n o p q t u v h) (LM Q r1 a b c d f g i j k m n o p q t u (.bool true) h))
def P9 (Q:Kt)(r1:R3)(a b c d f g i j k:Value)(h:H):Prop:=
 AD .add i (.int .u64 16) fun m=>Ab c fun n=>AV .u64 n fun n=>Ucm .gtr m n
 (Unf 0 b h fun b=>Ucl 120 [a,(.string "attributes that do not end in inode".toUTF8),b] h fun _ h=>Q g h)
 (Ucl 66 [c,i,(.int .u64 1)] h fun m h=>AD .add i (.int .u64 1) fun n=>Ucl 66 [c,n,(.int .u64 1)] h fun n h=>AD .add i (.int .u64 2) fun o=>Ucl 66 [c,o,(.int .u64 2)] h fun o h=>AD .add i (.int .u64 8) fun p=>Ucl 66 [c,p,(.int .u64 4)] h fun p h=>AD .add i (.int .u64 4) fun q=>Uff 0 b fun t=>Uld t h fun u=>Ucl 66 [c,q,(.int .u64 4)] h fun q h=>((Ukp t h u)∧AD .eql q (.int .u64 0) fun q=>Ucl 65 [a,q,(.string "attribute in an inode of its own of inode".toUTF8),u] h fun _ h=>Ucl 184 [n] h fun n h=>AO n 0 fun q=>AO n 1 fun n=>Unf 0 b h fun t=>Ucl 65 [a,n,(.string "index of an attribute of inode".toUTF8),t] h fun _ h=>AD .add i (.int .u64 16) fun n=>AD .add n m fun n=>Ab c fun t=>AV .u64 t fun t=>Ucf .gtr n t (AD .add o p fun n=>Ab d fun t=>AV .u64 t fun t=>Ucf .gtr n t (AD .add o p fun n=>AD .lss n o fun n=>LY Q r1 a b c d f g i j k m o p q n h) (LY Q r1 a b c d f g i j k m o p q (.bool true) h)) (LY Q r1 a b c d f g i j k m o p q (.bool true) h)))
def QA (Q:Kt)(r1:R3)(a b c d f g i j k:Value)(h:H):Prop:=
 AD .add j (.int .u64 4) fun m=>Ab c fun n=>AV .u64 n fun n=>Ucg .leq m n (Ucl 66 [c,j,(.int .u64 4)] h fun m h=>Ucm .neq m (.int .u64 0)
 (P9 Q r1 a b c d f i j k g h)
 (Nw Q a b c i j k g h)) (Nw Q a b c i j k g h)
def Qs (Q:Kt)(a b c d f g i j k:Value)(h:H):Prop:=K9 (fun r1 i j k h=>QA Q r1 a b c d f g i j k h) i j k h
def ACc (a b c d f:Value)(h:H)(Q:Kt):Prop:=
 Ab d fun g=>AV .u64 g fun g=>Ab d fun i=>Ab c fun j=>AD .sub i j fun i=>AV .u64 i fun i=>Qs Q a b c d f i (.slice none 0 0) (.int .u64 0) g h
def AFi (Q:Kt)(r:RS):Nat→DJ:=tab [(126,.jn fun e h=>Nw Q (e 0) (e 1) (e 2) (e 11) (e 12) (e 13) (e 14) h),
 (2037758,.jn fun e h=>Ew Q (u3 (r 124)) (e 0) (e 1) (e 2) (e 3) (e 4) (e 11) (e 12) (e 13) (e 14) (e 15) (e 19) (e 21) (e 22) h),
 (4075510,.jn fun e h=>LM Q (u3 (r 124)) (e 0) (e 1) (e 2) (e 3) (e 4) (e 11) (e 12) (e 13) (e 14) (e 15) (e 17) (e 18) (e 19) (e 21) (e 22) (e 23) (e 152) h),
 (254714,.jn fun e h=>LY Q (u3 (r 124)) (e 0) (e 1) (e 2) (e 3) (e 4) (e 11) (e 12) (e 13) (e 14) (e 15) (e 17) (e 18) (e 19) (e 119) h),
 (994,.jn fun e h=>P9 Q (u3 (r 124)) (e 0) (e 1) (e 2) (e 3) (e 4) (e 11) (e 12) (e 13) (e 14) h),
 (249,.lp [0,1,2,3,4,14] [11,12,13] fun s e l h=>QA Q (u3 s) (e 0) (e 1) (e 2) (e 3) (e 4) (e 14) (gl l 0) (gl l 1) (gl l 2) h)]
theorem AAV {a b c d e:Value}{h:H}{Q:Kt}(x:ACc a b c d e h Q):Call TP 207 [a,b,c,d,e] h Q:=Bb (AFi Q) Tryz.func207 (by kernel_rfl) x
def RR (Q:Kt)(r1:R1)(r2:R1)(a b c d f g i j k m n:Value)(h:H):Prop:=
 Ucm .lss n k
 (AD .add m n fun c=>Ucl 122 [a,c,(.string "content".toUTF8)] h fun _ h=>Unf 22 b h fun c=>AD .add c (.int .u64 1) fun c=>Uff 22 b fun d=>AJ 1 d c h fun h=>AD .add j n fun c=>AD .mul c (.int .u64 4096) fun c=>Unf 4 b h fun d=>Ucm .lss c d
 (Uff 18 b fun b=>Uld b h fun d=>AZ (.slice 1) d (some c) none fun c=>AD .add m n fun f=>Ucl 129 [a,f] h fun a h=>((Ukp b h d)∧DI 1 c a h fun _ h=>AD .add n (.int .u64 1) fun a=>r2 a h))
 (AD .add n (.int .u64 1) fun a=>r2 a h))
 (AD .add j k fun a=>AE d fun b=>AJ 1 b a h fun h=>AD .add i (.int .u64 1) fun a=>r1 a h)
def Rq (Q:Kt)(r1:R1)(a b c d f g i j k m n:Value)(h:H):Prop:=A1 (fun r2 n h=>RR Q r1 r2 a b c d f g i j k m n h) n h
def Nm (Q:Kt)(r1:R1)(a b c d f g i j k m:Value)(h:H):Prop:=
 Ucm .gtr k (.int .u64 32768)
 (Q (.tuple #[]) h)
 (Rq Q r1 a b c d f g i j k m (.int .u64 0) h)
def NL (Q:Kt)(r1:R1)(a b c d f g i:Value)(h:H):Prop:=
 Ucm .lss i f
 (AD .mul (.int .u64 12) i fun j=>AD .add (.int .u64 12) j fun j=>AD .mul (.int .u64 12) i fun k=>AD .add (.int .u64 24) k fun k=>AZ (.slice 1) c (some j) (some k) fun j=>Ucl 66 [j,(.int .u64 0),(.int .u64 4)] h fun k h=>AE d fun m=>Uld m h fun m=>AD .geq k m fun m=>Unf 0 b h fun n=>Ucl 65 [a,m,(.string "order of extents of inode".toUTF8),n] h fun _ h=>Ucm .gtr g (.int .i64 0)
 (Ucl 66 [j,(.int .u64 4),(.int .u64 4)] h fun c h=>Ucl 66 [j,(.int .u64 8),(.int .u64 2)] h fun f h=>AD .shl f (.int .u64 32) fun f=>AD .or c f fun c=>Ucl 122 [a,c,(.string "extents".toUTF8)] h fun _ h=>Unf 22 b h fun f=>AD .add f (.int .u64 1) fun f=>Uff 22 b fun j=>AJ 1 j f h fun h=>AE d fun f=>Uld f h fun f=>ACp f k fun f=>AE d fun j=>AJ 1 j f h fun h=>Ucl 129 [a,c] h fun c h=>AD .sub g (.int .i64 1) fun f=>Uff 0 b fun j=>Uld j h fun k=>Ucl 66 [c,(.int .u64 6),(.int .u64 2)] h fun m h=>((Ukp j h k)∧AV .i64 m fun j=>AD .eql j f fun f=>Ucl 65 [a,f,(.string "depth below of inode".toUTF8),k] h fun _ h=>Ucl 208 [a,b,c,g,d] h fun _ h=>AD .add i (.int .u64 1) fun a=>r1 a h))
 (Ucl 66 [j,(.int .u64 4),(.int .u64 2)] h fun m h=>Ucl 66 [j,(.int .u64 8),(.int .u64 4)] h fun n h=>Ucl 66 [j,(.int .u64 6),(.int .u64 2)] h fun j h=>AD .shl j (.int .u64 32) fun j=>AD .or n j fun j=>Ucg .geq m (.int .u64 1) (AD .leq m (.int .u64 32768) fun n=>Unf 0 b h fun o=>Ucl 65 [a,n,(.string "length of extent of inode".toUTF8),o] h fun _ h=>Nm Q r1 a b c d f g i k m j h) (Unf 0 b h fun n=>Ucl 65 [a,(.bool false),(.string "length of extent of inode".toUTF8),n] h fun _ h=>Nm Q r1 a b c d f g i k m j h)))
 (Q (.tuple #[]) h)
def Vp (Q:Kt)(a b c d f g i:Value)(h:H):Prop:=A1 (fun r1 i h=>NL Q r1 a b c d f g i h) i h
def Mv (Q:Kt)(a b c d f g:Value)(h:H):Prop:=
 Vp Q a b c d f g (.int .u64 0) h
def K8 (Q:Kt)(a b c d f g i:Value)(h:H):Prop:=
 Ucl 66 [c,(.int .u64 0),(.int .u64 2)] h fun j h=>Ucf .neq j (.int .u64 62218) (AD .mul (.int .u64 12) g fun j=>AD .add (.int .u64 12) j fun j=>Ab c fun k=>AV .u64 k fun k=>Ucf .gtr j k (Ucf .gtr i (.int .i64 5) (Ucg .neq d (.int .i64 5) (AD .sub d (.int .i64 1) fun d=>Ucm .neq i d
 (Q (.tuple #[]) h)
 (Mv Q a b c f g i h)) (Mv Q a b c f g i h)) (Q (.tuple #[]) h)) (Q (.tuple #[]) h)) (Q (.tuple #[]) h)
def NC (Q:Kt)(a b c d f g i:Value)(h:H):Prop:=
 Ucg .leq i (.int .i64 5) (Ucf .eql d (.int .i64 5) (AD .sub d (.int .i64 1) fun j=>AD .eql i j fun j=>Unf 0 b h fun k=>Ucl 65 [a,j,(.string "depth of extents of inode".toUTF8),k] h fun _ h=>K8 Q a b c d f g i h) (Unf 0 b h fun j=>Ucl 65 [a,(.bool true),(.string "depth of extents of inode".toUTF8),j] h fun _ h=>K8 Q a b c d f g i h)) (Unf 0 b h fun j=>Ucl 65 [a,(.bool false),(.string "depth of extents of inode".toUTF8),j] h fun _ h=>K8 Q a b c d f g i h)
def ABj (a b c d f:Value)(h:H)(Q:Kt):Prop:=
 Ucl 66 [c,(.int .u64 2),(.int .u64 2)] h fun g h=>Ucl 66 [c,(.int .u64 4),(.int .u64 2)] h fun i h=>Ucl 66 [c,(.int .u64 6),(.int .u64 2)] h fun j h=>AV .i64 j fun j=>Uff 0 b fun k=>Uld k h fun m=>Ucl 66 [c,(.int .u64 0),(.int .u64 2)] h fun n h=>((Ukp k h m)∧AD .eql n (.int .u64 62218) fun k=>Ucl 65 [a,k,(.string "magic of extents of inode".toUTF8),m] h fun _ h=>Ucg .leq g i (AD .mul (.int .u64 12) i fun i=>AD .add (.int .u64 12) i fun i=>Ab c fun k=>AV .u64 k fun k=>AD .leq i k fun i=>Unf 0 b h fun k=>Ucl 65 [a,i,(.string "entries of extents of inode".toUTF8),k] h fun _ h=>NC Q a b c d f g j h) (Unf 0 b h fun i=>Ucl 65 [a,(.bool false),(.string "entries of extents of inode".toUTF8),i] h fun _ h=>NC Q a b c d f g j h))
def AGZ (Q:Kt)(r:RS):Nat→DJ:=tab [(8333301,.lp [0,1,2,4,10,12,13,15,18,19] [20] fun s e l h=>RR Q (u1 (r 254)) (u1 s) (e 0) (e 1) (e 2) (e 4) (e 10) (e 12) (e 13) (e 15) (e 18) (e 19) (gl l 0) h),
 (520830,.jn fun e h=>Nm Q (u1 (r 254)) (e 0) (e 1) (e 2) (e 4) (e 10) (e 12) (e 13) (e 15) (e 18) (e 19) h),
 (509,.lp [0,1,2,4,10,12] [13] fun s e l h=>NL Q (u1 s) (e 0) (e 1) (e 2) (e 4) (e 10) (e 12) (gl l 0) h),
 (126,.jn fun e h=>Mv Q (e 0) (e 1) (e 2) (e 4) (e 10) (e 12) h),
 (62,.jn fun e h=>K8 Q (e 0) (e 1) (e 2) (e 3) (e 4) (e 10) (e 12) h),
 (30,.jn fun e h=>NC Q (e 0) (e 1) (e 2) (e 3) (e 4) (e 10) (e 12) h)]
theorem Zi {a b c d e:Value}{h:H}{Q:Kt}(x:ABj a b c d e h Q):Call TP 208 [a,b,c,d,e] h Q:=Bb (AGZ Q) Tryz.func208 (by kernel_rfl) x
def QM (Q:Kt)(r1:R2)(a b c:Value)(h:H):Prop:=
 Ab a fun d=>Ucm .lss c d
 (AD .shl b (.int .u64 16) fun d=>AD .shr b (.int .u64 16) fun b=>AD .xor d b fun b=>AV .u64 c fun d=>Ucl 66 [a,d,(.int .u64 4)] h fun a h=>AV .u32 a fun a=>AD .xor b a fun a=>AD .add c (.int .i64 4) fun b=>r1 a b h)
 (Q b h)
def QS (Q:Kt)(a b c:Value)(h:H):Prop:=Bx (fun r1 b c h=>QM Q r1 a b c h) b c h
def Q5 (Q:Kt)(r2:R2)(a b c d f:Value)(h:H):Prop:=
 Ucm .lss f c
 (Uil b f h fun a=>AD .shl d (.int .u64 5) fun b=>AD .shr d (.int .u64 27) fun c=>AD .xor b c fun b=>AV .u32 a fun a=>AD .xor b a fun a=>AD .add f (.int .i64 1) fun b=>r2 a b h)
 (QS Q a d (.int .i64 0) h)
def Xd (Q:Kt)(a b c d f:Value)(h:H):Prop:=Bx (fun r2 d f h=>Q5 Q r2 a b c d f h) d f h
def AB8 (a b:Value)(h:H)(Q:Kt):Prop:=
 Ab a fun c=>Xd Q b a c (.int .u32 0) (.int .i64 0) h
def AE3 (Q:Kt)(r:RS):Nat→DJ:=tab [(245,.lp [1] [5,8] fun s e l h=>QM Q (u2 s) (e 1) (gl l 0) (gl l 1) h),
 (117,.lp [1,9,10] [5,11] fun s e l h=>Q5 Q (u2 s) (e 1) (e 9) (e 10) (gl l 0) (gl l 1) h)]
theorem AAc {a b:Value}{h:H}{Q:Kt}(x:AB8 a b h Q):Call TP 212 [a,b] h Q:=Bb (AE3 Q) Tryz.func212 (by kernel_rfl) x
end
section
variable {h:H} {k:Value→Prop} {kt Q:Kt} {x y r:Res}
def IT:Bs→Nat
 | []=>0
 | c::l=>c.toNat+256*IT l
def leL (b:Bs)(at' n:Nat):Nat:=IT ((b.drop at').take n)
theorem QV:∀ l:Bs,IT l<256^l.length
 | []=>by simp[IT]
 | c::l=>by
  have:=QV l
  have:=c.toNat_lt
  simp only[IT,A19,Nat.pow_succ]
  omega
theorem Ag {b:Bs}{p n:Nat}:leL b p n<256^n:=by
 refine A94 (QV _) (B59 (by omega) ?_)
 simp;omega
theorem RdX.get {v:Value}{bs:Bs}{i:Nat}{kk:IntKind}{c:UInt8}(d:RdX x v bs)(w:AN x h)(hc:bs[i]? = some c)(K:k (bc c)):AI (.slice 1) v (.int kk (i:Int)) fun a=>AB false 1 a h k:=by
 have hi:i<bs.length:=by
  rcases A66 i bs.length with h1|h1
  ·exact h1
  ·rw[A40 h1] at hc;cases hc
 rcases d with⟨a',c',h1,h2⟩|⟨b,o,c',all,T,fz,y,h1,h2,h3,h4,h5⟩
 ·subst h2;simp at hi
 ·subst h1 h2
  rw[Cg hi]
  have hg:(⟨all⟩:Array Value)[o+i]? = some (bc c):=by
   have e:=A76 (fun l:List Value=>l[i]?) h4
   simp only[A21,hc,A80] at e
   rw[A41,A03 hi,A53] at e
   simpa using e
  rw[AF w,hg]
  exact K
theorem RdX.slice {v:Value}{bs:Bs}{i j:Nat}{lo hi:Option Value}(d:RdX x v bs)(hlo:Ay 0 lo=some i)(hhi:Ay bs.length hi=some j)(h1:i≤j)(h2:j≤bs.length)(K:∀ v',RdX x v' ((bs.take j).drop i)→k v'):AZ (.slice 1) v lo hi k:=by
 rcases d with⟨a',c',e1,e2⟩|⟨b,o,c',all,T,fz,y,e1,e2,e3,e4,e5⟩
 ·subst e1 e2
  simp only[A61] at hhi h2
  obtain rfl:j=0:=by omega
  obtain rfl:i=0:=by omega
  refine⟨.slice (if c'=0 then a' else a'.map (·.add 0)) 0 c',?_,K _ (.inl ⟨_,c',rfl,by simp⟩)⟩
  simp only[A6,hlo,hhi]
  rw[A03 ⟨A07 _,A39 _⟩]
  simp
 ·subst e1
  have hl:((bs.take j).drop i).length=j-i:=by simp;omega
  refine⟨.slice (some ⟨b,if c'=i then o else o+i,none⟩) (j-i) (c'-i),?_,K _ (.inr ⟨b,if c'=i then o else o+i,c'-i,all,T,fz,y,by rw[hl],e2,?_,?_,by rw[hl];omega⟩)⟩
  ·simp only[A6,hlo,hhi]
   rw[A03 ⟨h1,by omega⟩]
   by_cases hc:c'=i
   ·rw[A03 hc,A03 hc]
   ·rw[A05 hc,A05 hc,A67,A80,Bm]
  ·rw[hl]
   by_cases hc:c'=i
   ·rw[A03 hc];omega
   ·rw[A05 hc];omega
  ·rw[hl]
   by_cases hc:c'=i
   ·have e0:j-i=0:=by omega
    have e6:((bs.take j).drop i)=[]:=A69.1 (by omega)
    rw[e0,e6,B17];rfl
   ·rw[A05 hc,List.map_drop,B11,←e4,A95,A30 (by omega),←A64,A49]
theorem BA {kk:IntKind}{n:Nat}{d:Nat}:Ay d (some (.int kk (n:Int)))=some n:=by simp[Ay]
theorem Ec {kk:IntKind}{n:Nat}{d:Nat}:Ay d (some (.int kk (no_index (OfNat.ofNat n:Int))))=some (OfNat.ofNat n):=BA (n:=n)
theorem ADd {a c:Nat}(hc:c<256):a*256 ||| c=c+256*a:=by
 have:=Nat.shiftLeft_add_eq_or_of_lt (i:=8) (b:=c) (show c<2^8 from hc) a
 rw[←Nat.shiftLeft_eq a 8] at *
 omega
theorem JM {v:Value}{bs:Bs}{p n:Nat}(d:RdX x v bs)(w:AN x h)(hn:n≤7)(hp:p<4611686018427387904)(hb:bs.length<4611686018427387904)(K:Q (.int .u64 (leL bs p n:Nat)) h):f66 v (.int .u64 (p:Nat)) (.int .u64 (n:Nat)) h Q:=by
 obtain⟨a,c,hv⟩:=d.len
 unfold f66 ABS
 refine DE (fun m v7 v8 h'=>h'=h∧m≤n∧v7=.int .u64 (IT ((bs.drop (p+m)).take (n-m)):Nat)∧v8=.int .u64 (m:Nat)) n ⟨rfl,A07 _,by simp[IT],rfl⟩ ?_
 rintro rec m v7 v8 h' ⟨rfl,hm,rfl,rfl⟩ hrec
 have hlt:IT ((bs.drop (p+m)).take (n-m))<256^(n-m):=by
  refine A94 (QV _) (B59 (by omega) ?_)
  simp;omega
 unfold Vw Ucm Ucg
 simp only[go_sem]
 refine AX (fun hc=>?_) (fun hc=>?_)
 ·have hm0:0<m:=by omega
  have hlt6:256^(n-m)≤256^6:=B59 (by omega) (by omega)
  have h6:(256^6:Nat)=281474976710656:=by decide
  have e1:IT ((bs.drop (p+m)).take (n-m))*256%18446744073709551616=IT ((bs.drop (p+m)).take (n-m))*256:=A23 (by omega)
  have e2:decide (((p+m-1:Nat):Int)≥(p:Int))=true:=A04 (by omega)
  have e4:(p+m)%18446744073709551616=p+m:=A23 (by omega)
  clear hlt hlt6 h6
  simp (disch:=omega) only[go_sem,e1,e4,e2]
  rw[hv]
  simp (disch:=omega) only[go_sem]
  rw[←hv]
  have hnext:∀ h8:Value,h8=.int .u64 (IT ((bs.drop (p+(m-1))).take (n-(m-1))):Nat)→rec h8 (.int .u64 (m-1:Nat)) h':=by
   intro h8 e8
   exact hrec (m-1) _ _ _ ⟨rfl,by omega,e8,rfl⟩ (by omega)
  unfold S6 Uil
  refine AX (fun hin=>?_) (fun hin=>?_)
  ·have hin':p+m-1<bs.length:=by omega
   have hg:=A00 hin'
   refine d.get w hg ?_
   have hb8:bs[p+m-1].toNat<256:=bs[p+m-1].toNat_lt
   unfold bc
   simp (disch:=omega) only[go_sem]
   refine hnext _ ?_
   have e9:bs.drop (p+(m-1))=bs[p+m-1]::bs.drop (p+m):=by
    have:=A50 hin'
    rw[show p+(m-1)=p+m-1 by omega,this,show p+m-1+1=p+m by omega]
   rw[e9,show n-(m-1)=n-m+1 by omega,B12,IT,ADd hb8]
  ·simp (disch:=omega) only[go_sem]
   refine hnext _ ?_
   have e9:bs.drop (p+(m-1))=[]:=A59 (by omega)
   have e10:bs.drop (p+m)=[]:=A59 (by omega)
   rw[e9,e10]
   simp[IT]
 ·obtain rfl:m=0:=by omega
  rw[A58,B35]
  exact K
theorem Da {a b c:Value}(K:Q (.tuple #[]) h):f65 a (.bool true) b c h Q:=by
 unfold f65 Unt Ucl
 simp only[go_sem]
 exact K
end
end Go.Proofs.YtollddkkdgoonaaGreatDoor
