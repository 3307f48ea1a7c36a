/- A part of a proof over images that are written and read. No condition; a step. -/
import Derived.Test.YtollddkkdgoonaaGreatDoorM10
namespace Go.Proofs.YtollddkkdgoonaaGreatDoor
open Go
set_option linter.unusedVariables false
set_option linter.unusedSimpArgs false
set_option maxRecDepth 100000
section
variable {h:H} {k:Value→Prop} {kt Q:Kt} {x y r:Res}
def Ev (f:Nat→Nat):List Value:=[.int .u16 (f 0),.int .u16 (f 1),.int .u32 (f 2),.int .u32 (f 3),.int .u32 (f 4),.int .u32 (f 5),.int .u32 (f 6),.int .u16 (f 7),.int .u16 (f 8),.int .u32 (f 9),.int .u32 (f 10),.int .u32 (f 11)]
def Ej (f:Nat→Nat):List Value:=[.int .u32 (f 12),.int .u32 (f 13),.int .u32 (f 14),.int .u32 (f 15),.int .u16 (f 16),.int .u16 (f 17),.int .u16 (f 18),.int .u16 (f 19),.int .u16 (f 20),.int .u16 (f 21),.int .u16 (f 22),.int .u16 (f 23),.int .u32 (f 24),.int .u32 (f 25),.int .u32 (f 26),.int .u32 (f 27),.int .u32 (f 28),.int .u32 (f 29),.int .u32 (f 30)]
theorem Uz {f:Nat→Nat}{blk:Bs}{i:Nat}(h:i<12):(HF (Ev f) blk (Ej f))[i]? = (Ev f)[i]?:=ACQ h
theorem Nk {f:Nat→Nat}{blk:Bs}{i j:Nat}(hb:blk.length=60)(h:i=72+j):(HF (Ev f) blk (Ej f))[i]? = (Ej f)[j]?:=ACi (by rw[hb];exact h)
def BO (f:Nat→Nat)(blk:Bs):Bs:=[]++Aq (f 0)++Aq (f 1)++Ac (f 2)++Ac (f 3)++Ac (f 4)++Ac (f 5)++Ac (f 6)++Aq (f 7)++Aq (f 8)++Ac (f 9)++Ac (f 10)++Ac (f 11)++blk++Ac (f 12)++Ac (f 13)++Ac (f 14)++Ac (f 15)++Aq (f 16)++Aq (f 17)++Aq (f 18)++Aq (f 19)++Aq (f 20)++Aq (f 21)++Aq (f 22)++Aq (f 23)++Ac (f 24)++Ac (f 25)++Ac (f 26)++Ac (f 27)++Ac (f 28)++Ac (f 29)++Ac (f 30)
theorem AHW {f:Nat→Nat}{blk:Bs}(w:AN x h)(hb:blk.length=60)(K:∀ v r h,BufV v (BO f blk) r→AN (r+x) h→Q v h):ADp (.agg (HF (Ev f) blk (Ej f))) h Q:=by
 unfold ADp Ufl Ucl
 refine BJ w fun pb h w=>?_
 have w:AN (ChR 0 x pb (HF (Ev f) blk (Ej f)) 305) h:=w.cast (Res.zero_add _).symm
 have bv:BufV (.slice none 0 0) [] 0:=.nil
 have hl:([]:Bs).length=0:=rfl
 refine CN (i:=0) (n:=f 0) bv w hl (by decide) ((Uz (by decide)).trans rfl) fun v r h bv w hl=>?_
 refine CN (i:=1) (n:=f 1) bv w hl (by decide) ((Uz (by decide)).trans rfl) fun v r h bv w hl=>?_
 refine BC (i:=2) (n:=f 2) bv w hl (by decide) ((Uz (by decide)).trans rfl) fun v r h bv w hl=>?_
 refine BC (i:=3) (n:=f 3) bv w hl (by decide) ((Uz (by decide)).trans rfl) fun v r h bv w hl=>?_
 refine BC (i:=4) (n:=f 4) bv w hl (by decide) ((Uz (by decide)).trans rfl) fun v r h bv w hl=>?_
 refine BC (i:=5) (n:=f 5) bv w hl (by decide) ((Uz (by decide)).trans rfl) fun v r h bv w hl=>?_
 refine BC (i:=6) (n:=f 6) bv w hl (by decide) ((Uz (by decide)).trans rfl) fun v r h bv w hl=>?_
 refine CN (i:=7) (n:=f 7) bv w hl (by decide) ((Uz (by decide)).trans rfl) fun v r h bv w hl=>?_
 refine CN (i:=8) (n:=f 8) bv w hl (by decide) ((Uz (by decide)).trans rfl) fun v r h bv w hl=>?_
 refine BC (i:=9) (n:=f 9) bv w hl (by decide) ((Uz (by decide)).trans rfl) fun v r h bv w hl=>?_
 refine BC (i:=10) (n:=f 10) bv w hl (by decide) ((Uz (by decide)).trans rfl) fun v r h bv w hl=>?_
 refine BC (i:=11) (n:=f 11) bv w hl (by decide) ((Uz (by decide)).trans rfl) fun v r h bv w hl=>?_
 refine Wa (n:=60) (news:=blk) bv w hl (by decide) hb (by decide) (by decide) (by rw[Gh,hb];exact Nat.le_add_right _ _) (Yw rfl hb.symm) fun v r h bv w hl=>?_
 refine BC (i:=72) (n:=f 12) bv w hl (by decide) ((Nk (j:=0) hb rfl).trans rfl) fun v r h bv w hl=>?_
 refine BC (i:=73) (n:=f 13) bv w hl (by decide) ((Nk (j:=1) hb rfl).trans rfl) fun v r h bv w hl=>?_
 refine BC (i:=74) (n:=f 14) bv w hl (by decide) ((Nk (j:=2) hb rfl).trans rfl) fun v r h bv w hl=>?_
 refine BC (i:=75) (n:=f 15) bv w hl (by decide) ((Nk (j:=3) hb rfl).trans rfl) fun v r h bv w hl=>?_
 refine CN (i:=76) (n:=f 16) bv w hl (by decide) ((Nk (j:=4) hb rfl).trans rfl) fun v r h bv w hl=>?_
 refine CN (i:=77) (n:=f 17) bv w hl (by decide) ((Nk (j:=5) hb rfl).trans rfl) fun v r h bv w hl=>?_
 refine CN (i:=78) (n:=f 18) bv w hl (by decide) ((Nk (j:=6) hb rfl).trans rfl) fun v r h bv w hl=>?_
 refine CN (i:=79) (n:=f 19) bv w hl (by decide) ((Nk (j:=7) hb rfl).trans rfl) fun v r h bv w hl=>?_
 refine CN (i:=80) (n:=f 20) bv w hl (by decide) ((Nk (j:=8) hb rfl).trans rfl) fun v r h bv w hl=>?_
 refine CN (i:=81) (n:=f 21) bv w hl (by decide) ((Nk (j:=9) hb rfl).trans rfl) fun v r h bv w hl=>?_
 refine CN (i:=82) (n:=f 22) bv w hl (by decide) ((Nk (j:=10) hb rfl).trans rfl) fun v r h bv w hl=>?_
 refine CN (i:=83) (n:=f 23) bv w hl (by decide) ((Nk (j:=11) hb rfl).trans rfl) fun v r h bv w hl=>?_
 refine BC (i:=84) (n:=f 24) bv w hl (by decide) ((Nk (j:=12) hb rfl).trans rfl) fun v r h bv w hl=>?_
 refine BC (i:=85) (n:=f 25) bv w hl (by decide) ((Nk (j:=13) hb rfl).trans rfl) fun v r h bv w hl=>?_
 refine BC (i:=86) (n:=f 26) bv w hl (by decide) ((Nk (j:=14) hb rfl).trans rfl) fun v r h bv w hl=>?_
 refine BC (i:=87) (n:=f 27) bv w hl (by decide) ((Nk (j:=15) hb rfl).trans rfl) fun v r h bv w hl=>?_
 refine BC (i:=88) (n:=f 28) bv w hl (by decide) ((Nk (j:=16) hb rfl).trans rfl) fun v r h bv w hl=>?_
 refine BC (i:=89) (n:=f 29) bv w hl (by decide) ((Nk (j:=17) hb rfl).trans rfl) fun v r h bv w hl=>?_
 refine BC (i:=90) (n:=f 30) bv w hl (by decide) ((Nk (j:=18) hb rfl).trans rfl) fun v r h bv w hl=>?_
 exact K _ _ _ bv (AN.right (x:=pts pb _) (w.cast (Res.left_comm _ _ _)))
def E6 (f:Nat→Nat):List Value:=[.int .u32 (f 0),.int .u32 (f 1),.int .u32 (f 2),.int .u16 (f 3),.int .u16 (f 4),.int .u16 (f 5),.int .u16 (f 6),.int .u32 (f 7),.int .u16 (f 8),.int .u16 (f 9),.int .u16 (f 10),.int .u16 (f 11)]
def Pr (f:Nat→Nat):Bs:=[]++Ac (f 0)++Ac (f 1)++Ac (f 2)++Aq (f 3)++Aq (f 4)++Aq (f 5)++Aq (f 6)++Ac (f 7)++Aq (f 8)++Aq (f 9)++Aq (f 10)++Aq (f 11)
theorem AH7 {f:Nat→Nat}(w:AN x h)(K:∀ v r h,BufV v (Pr f) r→AN (r+x) h→Q v h):AEA (.agg ⟨E6 f⟩) h Q:=by
 unfold AEA Ufl Ucl
 refine BJ w fun pb h w=>?_
 have w:AN (ChR 0 x pb ⟨E6 f⟩ 226) h:=w.cast (Res.zero_add _).symm
 have bv:BufV (.slice none 0 0) [] 0:=.nil
 have hl:([]:Bs).length=0:=rfl
 refine BC (i:=0) (n:=f 0) bv w hl (by decide) rfl fun v r h bv w hl=>?_
 refine BC (i:=1) (n:=f 1) bv w hl (by decide) rfl fun v r h bv w hl=>?_
 refine BC (i:=2) (n:=f 2) bv w hl (by decide) rfl fun v r h bv w hl=>?_
 refine CN (i:=3) (n:=f 3) bv w hl (by decide) rfl fun v r h bv w hl=>?_
 refine CN (i:=4) (n:=f 4) bv w hl (by decide) rfl fun v r h bv w hl=>?_
 refine CN (i:=5) (n:=f 5) bv w hl (by decide) rfl fun v r h bv w hl=>?_
 refine CN (i:=6) (n:=f 6) bv w hl (by decide) rfl fun v r h bv w hl=>?_
 refine BC (i:=7) (n:=f 7) bv w hl (by decide) rfl fun v r h bv w hl=>?_
 refine CN (i:=8) (n:=f 8) bv w hl (by decide) rfl fun v r h bv w hl=>?_
 refine CN (i:=9) (n:=f 9) bv w hl (by decide) rfl fun v r h bv w hl=>?_
 refine CN (i:=10) (n:=f 10) bv w hl (by decide) rfl fun v r h bv w hl=>?_
 refine CN (i:=11) (n:=f 11) bv w hl (by decide) rfl fun v r h bv w hl=>?_
 exact K _ _ _ bv (AN.right (x:=pts pb _) (w.cast (Res.left_comm _ _ _)))
def HE (f:Nat→Nat):List Value:=[.int .u32 (f 0),.int .u32 (f 1),.int .u32 (f 2),.int .u32 (f 3),.int .u32 (f 4),.int .u32 (f 5),.int .u32 (f 6),.int .u32 (f 7),.int .u32 (f 8),.int .u32 (f 9),.int .u32 (f 10),.int .u32 (f 11),.int .u32 (f 12),.int .u16 (f 13),.int .u16 (f 14),.int .u16 (f 15),.int .u16 (f 16),.int .u16 (f 17),.int .u16 (f 18),.int .u32 (f 19),.int .u32 (f 20),.int .u32 (f 21),.int .u32 (f 22),.int .u16 (f 23),.int .u16 (f 24),.int .u32 (f 25),.int .u16 (f 26),.int .u16 (f 27),.int .u32 (f 28),.int .u32 (f 29),.int .u32 (f 30),.int .u8 0,.int .u8 0,.int .u8 0,.int .u8 0,.int .u8 0,.int .u8 0,.int .u8 0,.int .u8 0,.int .u8 0,.int .u8 0,.int .u8 0,.int .u8 0,.int .u8 0,.int .u8 0,.int .u8 0,.int .u8 0,.int .u8 0,.int .u8 0,.int .u8 0,.int .u8 0,.int .u8 0,.int .u8 0,.int .u8 0,.int .u8 0,.int .u8 0,.int .u8 0,.int .u8 0,.int .u8 0,.int .u8 0,.int .u8 0,.int .u8 0,.int .u8 0,.int .u8 0,.int .u8 0,.int .u8 0,.int .u8 0,.int .u8 0,.int .u8 0,.int .u8 0,.int .u8 0,.int .u8 0,.int .u8 0,.int .u8 0,.int .u8 0,.int .u8 0,.int .u8 0,.int .u8 0,.int .u8 0,.int .u8 0,.int .u8 0,.int .u8 0,.int .u8 0,.int .u8 0,.int .u8 0,.int .u8 0,.int .u8 0,.int .u8 0,.int .u8 0,.int .u8 0,.int .u8 0,.int .u8 0,.int .u8 0,.int .u8 0,.int .u8 0,.int .u8 0,.int .u8 0,.int .u8 0,.int .u8 0,.int .u8 0,.int .u8 0,.int .u8 0,.int .u8 0,.int .u8 0,.int .u8 0,.int .u8 0,.int .u8 0,.int .u8 0,.int .u8 0,.int .u8 0,.int .u8 0,.int .u8 0,.int .u8 0,.int .u8 0,.int .u8 0,.int .u8 0,.int .u8 0,.int .u8 0,.int .u8 0,.int .u8 0,.int .u8 0,.int .u8 0,.int .u8 0,.int .u8 0,.int .u8 0,.int .u8 0,.int .u8 0,.int .u32 (f 127),.int .u8 (f 128),.int .u8 (f 129),.int .u16 (f 130),.int .u8 0,.int .u8 0,.int .u8 0,.int .u8 0,.int .u8 0,.int .u8 0,.int .u8 0,.int .u8 0,.int .u8 0,.int .u8 0,.int .u8 0,.int .u8 0,.int .u8 0,.int .u8 0,.int .u8 0,.int .u8 0,.int .u32 (f 147),.int .u32 (f 148),.int .u32 (f 149),.int .u32 0,.int .u32 0,.int .u32 0,.int .u32 0,.int .u8 (f 154),.int .u8 (f 155),.int .u16 (f 156),.int .u32 (f 157),.int .u32 (f 158),.int .u32 (f 159),.int .u32 0,.int .u32 0,.int .u32 0,.int .u32 0,.int .u32 0,.int .u32 0,.int .u32 0,.int .u32 0,.int .u32 0,.int .u32 0,.int .u32 0,.int .u32 0,.int .u32 0,.int .u32 0,.int .u32 0,.int .u32 0,.int .u32 0,.int .u32 (f 177),.int .u32 (f 178),.int .u32 (f 179),.int .u16 (f 180),.int .u16 (f 181),.int .u32 (f 182),.int .u16 (f 183),.int .u16 (f 184),.int .u64 (f 185),.int .u32 (f 186),.int .u8 (f 187),.int .u8 (f 188),.int .u16 (f 189),.int .u64 (f 190),.int .u32 (f 191),.int .u32 (f 192),.int .u64 (f 193),.int .u32 (f 194),.int .u32 (f 195),.int .u32 (f 196),.int .u32 (f 197),.int .u64 (f 198),.int .u8 0,.int .u8 0,.int .u8 0,.int .u8 0,.int .u8 0,.int .u8 0,.int .u8 0,.int .u8 0,.int .u8 0,.int .u8 0,.int .u8 0,.int .u8 0,.int .u8 0,.int .u8 0,.int .u8 0,.int .u8 0,.int .u8 0,.int .u8 0,.int .u8 0,.int .u8 0,.int .u8 0,.int .u8 0,.int .u8 0,.int .u8 0,.int .u8 0,.int .u8 0,.int .u8 0,.int .u8 0,.int .u8 0,.int .u8 0,.int .u8 0,.int .u8 0,.int .u32 (f 231),.int .u32 (f 232),.int .u32 (f 233),.int .u32 (f 234),.int .u64 (f 235),.int .u8 0,.int .u8 0,.int .u8 0,.int .u8 0,.int .u8 0,.int .u8 0,.int .u8 0,.int .u8 0,.int .u8 0,.int .u8 0,.int .u8 0,.int .u8 0,.int .u8 0,.int .u8 0,.int .u8 0,.int .u8 0,.int .u8 0,.int .u8 0,.int .u8 0,.int .u8 0,.int .u8 0,.int .u8 0,.int .u8 0,.int .u8 0,.int .u8 0,.int .u8 0,.int .u8 0,.int .u8 0,.int .u8 0,.int .u8 0,.int .u8 0,.int .u8 0,.int .u8 0,.int .u8 0,.int .u8 0,.int .u8 0,.int .u8 0,.int .u8 0,.int .u8 0,.int .u8 0,.int .u8 0,.int .u8 0,.int .u8 0,.int .u8 0,.int .u8 0,.int .u8 0,.int .u8 0,.int .u8 0,.int .u8 0,.int .u8 0,.int .u8 0,.int .u8 0,.int .u8 0,.int .u8 0,.int .u8 0,.int .u8 0,.int .u8 0,.int .u8 0,.int .u8 0,.int .u8 0,.int .u8 0,.int .u8 0,.int .u8 0,.int .u8 0,.int .u8 0,.int .u8 0,.int .u8 0,.int .u8 0,.int .u8 0,.int .u8 0,.int .u8 0,.int .u8 0,.int .u8 0,.int .u8 0,.int .u8 0,.int .u8 0,.int .u8 0,.int .u8 0,.int .u8 0,.int .u8 0,.int .u8 0,.int .u8 0,.int .u8 0,.int .u8 0,.int .u8 0,.int .u8 0,.int .u8 0,.int .u8 0,.int .u8 0,.int .u8 0,.int .u8 0,.int .u8 0,.int .u8 0,.int .u8 0,.int .u8 0,.int .u8 0,.int .u32 (f 332),.int .u32 (f 333),.int .u32 (f 334),.int .u32 0,.int .u32 0,.int .u8 0,.int .u8 0,.int .u8 0,.int .u8 0,.int .u8 0,.int .u8 0,.int .u8 0,.int .u8 0,.int .u8 0,.int .u8 0,.int .u8 0,.int .u8 0,.int .u8 0,.int .u8 0,.int .u8 0,.int .u8 0,.int .u8 0,.int .u8 0,.int .u8 0,.int .u8 0,.int .u32 (f 357),.int .u32 (f 358),.int .u32 (f 359),.int .u8 (f 360),.int .u8 (f 361),.int .u8 (f 362),.int .u8 (f 363),.int .u8 (f 364),.int .u8 (f 365),.int .u8 0,.int .u8 0,.int .u32 0,.int .u32 0,.int .u32 0,.int .u32 0,.int .u32 0,.int .u32 0,.int .u32 0,.int .u32 0,.int .u32 0,.int .u32 0,.int .u32 0,.int .u32 0,.int .u32 0,.int .u32 0,.int .u32 0,.int .u32 0,.int .u32 0,.int .u32 0,.int .u32 0,.int .u32 0,.int .u32 0,.int .u32 0,.int .u32 0,.int .u32 0,.int .u32 0,.int .u32 0,.int .u32 0,.int .u32 0,.int .u32 0,.int .u32 0,.int .u32 0,.int .u32 0,.int .u32 0,.int .u32 0,.int .u32 0,.int .u32 0,.int .u32 0,.int .u32 0,.int .u32 0,.int .u32 0,.int .u32 0,.int .u32 0,.int .u32 0,.int .u32 0,.int .u32 0,.int .u32 0,.int .u32 0,.int .u32 0,.int .u32 0,.int .u32 0,.int .u32 0,.int .u32 0,.int .u32 0,.int .u32 0,.int .u32 0,.int .u32 0,.int .u32 0,.int .u32 0,.int .u32 0,.int .u32 0,.int .u32 0,.int .u32 0,.int .u32 0,.int .u32 0,.int .u32 0,.int .u32 0,.int .u32 0,.int .u32 0,.int .u32 0,.int .u32 0,.int .u32 0,.int .u32 0,.int .u32 0,.int .u32 0,.int .u32 0,.int .u32 0,.int .u32 0,.int .u32 0,.int .u32 0,.int .u32 0,.int .u32 0,.int .u32 0,.int .u32 0,.int .u32 0,.int .u32 0,.int .u32 0,.int .u32 0,.int .u32 0,.int .u32 0,.int .u32 0,.int .u32 0,.int .u32 0,.int .u32 0,.int .u32 0,.int .u32 0,.int .u32 0,.int .u32 (f 464)]
def HH (f:Nat→Nat):Bs:=[]++Ac (f 0)++Ac (f 1)++Ac (f 2)++Ac (f 3)++Ac (f 4)++Ac (f 5)++Ac (f 6)++Ac (f 7)++Ac (f 8)++Ac (f 9)++Ac (f 10)++Ac (f 11)++Ac (f 12)++Aq (f 13)++Aq (f 14)++Aq (f 15)++Aq (f 16)++Aq (f 17)++Aq (f 18)++Ac (f 19)++Ac (f 20)++Ac (f 21)++Ac (f 22)++Aq (f 23)++Aq (f 24)++Ac (f 25)++Aq (f 26)++Aq (f 27)++Ac (f 28)++Ac (f 29)++Ac (f 30)++List.replicate 16 0++List.replicate 16 0++List.replicate 64 0++Ac (f 127)++[UInt8.ofNat (f 128)]++[UInt8.ofNat (f 129)]++Aq (f 130)++List.replicate 16 0++Ac (f 147)++Ac (f 148)++Ac (f 149)++List.replicate (4*4) 0++[UInt8.ofNat (f 154)]++[UInt8.ofNat (f 155)]++Aq (f 156)++Ac (f 157)++Ac (f 158)++Ac (f 159)++List.replicate (4*17) 0++Ac (f 177)++Ac (f 178)++Ac (f 179)++Aq (f 180)++Aq (f 181)++Ac (f 182)++Aq (f 183)++Aq (f 184)++E5 (f 185)++Ac (f 186)++[UInt8.ofNat (f 187)]++[UInt8.ofNat (f 188)]++Aq (f 189)++E5 (f 190)++Ac (f 191)++Ac (f 192)++E5 (f 193)++Ac (f 194)++Ac (f 195)++Ac (f 196)++Ac (f 197)++E5 (f 198)++List.replicate 32 0++Ac (f 231)++Ac (f 232)++Ac (f 233)++Ac (f 234)++E5 (f 235)++List.replicate 32 0++List.replicate 64 0++Ac (f 332)++Ac (f 333)++Ac (f 334)++List.replicate (4*2) 0++List.replicate 4 0++List.replicate 16 0++Ac (f 357)++Ac (f 358)++Ac (f 359)++[UInt8.ofNat (f 360)]++[UInt8.ofNat (f 361)]++[UInt8.ofNat (f 362)]++[UInt8.ofNat (f 363)]++[UInt8.ofNat (f 364)]++[UInt8.ofNat (f 365)]++List.replicate 2 0++List.replicate (4*96) 0++Ac (f 464)
theorem Bt {f:Nat→Nat}{i:Nat}{u:Value}(h:(HE f)[i]? = some u):(⟨HE f⟩:Array Value)[i]? = some u:=by rw[B37];exact h
theorem TJ {f:Nat→Nat}{i n:Nat}{l:List Value}(h:((HE f).drop i).take n=l):(⟨HE f⟩:Array Value).extract i (i+n)=⟨l⟩:=by
 apply A56
 simp only[B42,A44,A62,h]
theorem sbz {f:Nat→Nat}(i n:Nat)(hz:((⟨HE f⟩:Array Value).extract i (i+n))=⟨List.replicate n (.int .u32 0)⟩):∀ j,j<n→(⟨HE f⟩:Array Value)[i+j]? = some (.int .u32 0):=by
 intro j hj
 have h1:((⟨HE f⟩:Array Value).extract i (i+n))[j]? = some (.int .u32 0):=by
  rw[hz]
  simp[hj]
 rw[Array.getElem?_extract] at h1
 split at h1
 ·exact h1
 ·cases h1
theorem BP {f:Nat→Nat}:(⟨HE f⟩:Array Value).size=465:=(A31 ..).trans (show (HE f).length=465 from rfl)
def RL (f:Nat→Nat):Prop:=(∀ i,i∈[128,129,154,155,187,188,360,361,362,363,364,365]→f i<256)∧∀ i,f i<18446744073709551616
section sb
variable {f:Nat→Nat} {v:Value} {bs:Bs} {pb:Nat}
theorem ADx (ok:RL f)(bv:BufV v bs r)(w:AN (ChR r x pb ⟨HE f⟩ 242) h)(hl:bs.length=636)(K:∀ v r h,BufV v (bs++List.replicate (4*96) 0++Ac (f 464)) r→AN (r+x) h→Q v h):AC 368 (Pt pb) fun a=>AB true 96 a h fun arr=>QZ Q (Pt pb) arr v (.int .i64 0) h:=by
 obtain⟨h8,h64⟩:=id ok
 unfold QZ SA Ucm Ucl Ufl
 refine bwL (i:=368) (n:=96) bv w hl (by decide) (by decide) (by rw[BP];decide) (sbz (f:=f) 368 96 (TJ rfl)) (fun v r h bv w hl=>?_) rfl
 refine BC (i:=464) (n:=f 464) bv w hl (by decide) (Bt rfl) fun v r h bv w hl=>?_
 exact K _ _ _ bv (AN.right (x:=pts pb _) (w.cast (Res.left_comm _ _ _)))
theorem AD7 (ok:RL f)(bv:BufV v bs r)(w:AN (ChR r x pb ⟨HE f⟩ 242) h)(hl:bs.length=588)(K:∀ v r h,BufV v (bs++List.replicate (4*2) 0++List.replicate 4 0++List.replicate 16 0++Ac (f 357)++Ac (f 358)++Ac (f 359)++[UInt8.ofNat (f 360)]++[UInt8.ofNat (f 361)]++[UInt8.ofNat (f 362)]++[UInt8.ofNat (f 363)]++[UInt8.ofNat (f 364)]++[UInt8.ofNat (f 365)]++List.replicate 2 0++List.replicate (4*96) 0++Ac (f 464)) r→AN (r+x) h→Q v h):AC 335 (Pt pb) fun a=>AB true 2 a h fun arr=>Ql Q (Pt pb) arr v (.int .i64 0) h:=by
 obtain⟨h8,h64⟩:=id ok
 unfold Ql Q4 Ucm Ucl Ufl
 refine bwL (i:=335) (n:=2) bv w hl (by decide) (by decide) (by rw[BP];decide) (sbz (f:=f) 335 2 (TJ rfl)) (fun v r h bv w hl=>?_) rfl
 refine Wa (i:=337) (n:=4) (news:=List.replicate 4 0) bv w hl (by decide) (A09 ..) (by decide) (by decide) (by rw[BP];decide) (TJ rfl) fun v r h bv w hl=>?_
 refine Wa (i:=341) (n:=16) (news:=List.replicate 16 0) bv w hl (by decide) (A09 ..) (by decide) (by decide) (by rw[BP];decide) (TJ rfl) fun v r h bv w hl=>?_
 refine BC (i:=357) (n:=f 357) bv w hl (by decide) (Bt rfl) fun v r h bv w hl=>?_
 refine BC (i:=358) (n:=f 358) bv w hl (by decide) (Bt rfl) fun v r h bv w hl=>?_
 refine BC (i:=359) (n:=f 359) bv w hl (by decide) (Bt rfl) fun v r h bv w hl=>?_
 refine U0 (i:=360) (n:=f 360) bv w hl (by decide) (h8 360 (by decide)) (Bt rfl) fun v r h bv w hl=>?_
 refine U0 (i:=361) (n:=f 361) bv w hl (by decide) (h8 361 (by decide)) (Bt rfl) fun v r h bv w hl=>?_
 refine U0 (i:=362) (n:=f 362) bv w hl (by decide) (h8 362 (by decide)) (Bt rfl) fun v r h bv w hl=>?_
 refine U0 (i:=363) (n:=f 363) bv w hl (by decide) (h8 363 (by decide)) (Bt rfl) fun v r h bv w hl=>?_
 refine U0 (i:=364) (n:=f 364) bv w hl (by decide) (h8 364 (by decide)) (Bt rfl) fun v r h bv w hl=>?_
 refine U0 (i:=365) (n:=f 365) bv w hl (by decide) (h8 365 (by decide)) (Bt rfl) fun v r h bv w hl=>?_
 refine Wa (i:=366) (n:=2) (news:=List.replicate 2 0) bv w hl (by decide) (A09 ..) (by decide) (by decide) (by rw[BP];decide) (TJ rfl) fun v r h bv w hl=>?_
 exact ADx ok bv w (hl.trans (by decide)) K
theorem ACP (ok:RL f)(bv:BufV v bs r)(w:AN (ChR r x pb ⟨HE f⟩ 242) h)(hl:bs.length=268)(K:∀ v r h,BufV v (bs++List.replicate (4*17) 0++Ac (f 177)++Ac (f 178)++Ac (f 179)++Aq (f 180)++Aq (f 181)++Ac (f 182)++Aq (f 183)++Aq (f 184)++E5 (f 185)++Ac (f 186)++[UInt8.ofNat (f 187)]++[UInt8.ofNat (f 188)]++Aq (f 189)++E5 (f 190)++Ac (f 191)++Ac (f 192)++E5 (f 193)++Ac (f 194)++Ac (f 195)++Ac (f 196)++Ac (f 197)++E5 (f 198)++List.replicate 32 0++Ac (f 231)++Ac (f 232)++Ac (f 233)++Ac (f 234)++E5 (f 235)++List.replicate 32 0++List.replicate 64 0++Ac (f 332)++Ac (f 333)++Ac (f 334)++List.replicate (4*2) 0++List.replicate 4 0++List.replicate 16 0++Ac (f 357)++Ac (f 358)++Ac (f 359)++[UInt8.ofNat (f 360)]++[UInt8.ofNat (f 361)]++[UInt8.ofNat (f 362)]++[UInt8.ofNat (f 363)]++[UInt8.ofNat (f 364)]++[UInt8.ofNat (f 365)]++List.replicate 2 0++List.replicate (4*96) 0++Ac (f 464)) r→AN (r+x) h→Q v h):AC 160 (Pt pb) fun a=>AB true 17 a h fun arr=>Rj Q (Pt pb) arr v (.int .i64 0) h:=by
 obtain⟨h8,h64⟩:=id ok
 unfold Rj Qn Ucm Ucl Ufl
 refine bwL (i:=160) (n:=17) bv w hl (by decide) (by decide) (by rw[BP];decide) (sbz (f:=f) 160 17 (TJ rfl)) (fun v r h bv w hl=>?_) rfl
 refine BC (i:=177) (n:=f 177) bv w hl (by decide) (Bt rfl) fun v r h bv w hl=>?_
 refine BC (i:=178) (n:=f 178) bv w hl (by decide) (Bt rfl) fun v r h bv w hl=>?_
 refine BC (i:=179) (n:=f 179) bv w hl (by decide) (Bt rfl) fun v r h bv w hl=>?_
 refine CN (i:=180) (n:=f 180) bv w hl (by decide) (Bt rfl) fun v r h bv w hl=>?_
 refine CN (i:=181) (n:=f 181) bv w hl (by decide) (Bt rfl) fun v r h bv w hl=>?_
 refine BC (i:=182) (n:=f 182) bv w hl (by decide) (Bt rfl) fun v r h bv w hl=>?_
 refine CN (i:=183) (n:=f 183) bv w hl (by decide) (Bt rfl) fun v r h bv w hl=>?_
 refine CN (i:=184) (n:=f 184) bv w hl (by decide) (Bt rfl) fun v r h bv w hl=>?_
 refine WG (i:=185) (n:=f 185) bv w hl (by decide) (h64 185) (Bt rfl) fun v r h bv w hl=>?_
 refine BC (i:=186) (n:=f 186) bv w hl (by decide) (Bt rfl) fun v r h bv w hl=>?_
 refine U0 (i:=187) (n:=f 187) bv w hl (by decide) (h8 187 (by decide)) (Bt rfl) fun v r h bv w hl=>?_
 refine U0 (i:=188) (n:=f 188) bv w hl (by decide) (h8 188 (by decide)) (Bt rfl) fun v r h bv w hl=>?_
 refine CN (i:=189) (n:=f 189) bv w hl (by decide) (Bt rfl) fun v r h bv w hl=>?_
 refine WG (i:=190) (n:=f 190) bv w hl (by decide) (h64 190) (Bt rfl) fun v r h bv w hl=>?_
 refine BC (i:=191) (n:=f 191) bv w hl (by decide) (Bt rfl) fun v r h bv w hl=>?_
 refine BC (i:=192) (n:=f 192) bv w hl (by decide) (Bt rfl) fun v r h bv w hl=>?_
 refine WG (i:=193) (n:=f 193) bv w hl (by decide) (h64 193) (Bt rfl) fun v r h bv w hl=>?_
 refine BC (i:=194) (n:=f 194) bv w hl (by decide) (Bt rfl) fun v r h bv w hl=>?_
 refine BC (i:=195) (n:=f 195) bv w hl (by decide) (Bt rfl) fun v r h bv w hl=>?_
 refine BC (i:=196) (n:=f 196) bv w hl (by decide) (Bt rfl) fun v r h bv w hl=>?_
 refine BC (i:=197) (n:=f 197) bv w hl (by decide) (Bt rfl) fun v r h bv w hl=>?_
 refine WG (i:=198) (n:=f 198) bv w hl (by decide) (h64 198) (Bt rfl) fun v r h bv w hl=>?_
 refine Wa (i:=199) (n:=32) (news:=List.replicate 32 0) bv w hl (by decide) (A09 ..) (by decide) (by decide) (by rw[BP];decide) (TJ rfl) fun v r h bv w hl=>?_
 refine BC (i:=231) (n:=f 231) bv w hl (by decide) (Bt rfl) fun v r h bv w hl=>?_
 refine BC (i:=232) (n:=f 232) bv w hl (by decide) (Bt rfl) fun v r h bv w hl=>?_
 refine BC (i:=233) (n:=f 233) bv w hl (by decide) (Bt rfl) fun v r h bv w hl=>?_
 refine BC (i:=234) (n:=f 234) bv w hl (by decide) (Bt rfl) fun v r h bv w hl=>?_
 refine WG (i:=235) (n:=f 235) bv w hl (by decide) (h64 235) (Bt rfl) fun v r h bv w hl=>?_
 refine Wa (i:=236) (n:=32) (news:=List.replicate 32 0) bv w hl (by decide) (A09 ..) (by decide) (by decide) (by rw[BP];decide) (TJ rfl) fun v r h bv w hl=>?_
 refine Wa (i:=268) (n:=64) (news:=List.replicate 64 0) bv w hl (by decide) (A09 ..) (by decide) (by decide) (by rw[BP];decide) (TJ rfl) fun v r h bv w hl=>?_
 refine BC (i:=332) (n:=f 332) bv w hl (by decide) (Bt rfl) fun v r h bv w hl=>?_
 refine BC (i:=333) (n:=f 333) bv w hl (by decide) (Bt rfl) fun v r h bv w hl=>?_
 refine BC (i:=334) (n:=f 334) bv w hl (by decide) (Bt rfl) fun v r h bv w hl=>?_
 exact AD7 ok bv w (hl.trans (by decide)) K
theorem ACA (ok:RL f)(bv:BufV v bs r)(w:AN (ChR r x pb ⟨HE f⟩ 242) h)(hl:bs.length=236)(K:∀ v r h,BufV v (bs++List.replicate (4*4) 0++[UInt8.ofNat (f 154)]++[UInt8.ofNat (f 155)]++Aq (f 156)++Ac (f 157)++Ac (f 158)++Ac (f 159)++List.replicate (4*17) 0++Ac (f 177)++Ac (f 178)++Ac (f 179)++Aq (f 180)++Aq (f 181)++Ac (f 182)++Aq (f 183)++Aq (f 184)++E5 (f 185)++Ac (f 186)++[UInt8.ofNat (f 187)]++[UInt8.ofNat (f 188)]++Aq (f 189)++E5 (f 190)++Ac (f 191)++Ac (f 192)++E5 (f 193)++Ac (f 194)++Ac (f 195)++Ac (f 196)++Ac (f 197)++E5 (f 198)++List.replicate 32 0++Ac (f 231)++Ac (f 232)++Ac (f 233)++Ac (f 234)++E5 (f 235)++List.replicate 32 0++List.replicate 64 0++Ac (f 332)++Ac (f 333)++Ac (f 334)++List.replicate (4*2) 0++List.replicate 4 0++List.replicate 16 0++Ac (f 357)++Ac (f 358)++Ac (f 359)++[UInt8.ofNat (f 360)]++[UInt8.ofNat (f 361)]++[UInt8.ofNat (f 362)]++[UInt8.ofNat (f 363)]++[UInt8.ofNat (f 364)]++[UInt8.ofNat (f 365)]++List.replicate 2 0++List.replicate (4*96) 0++Ac (f 464)) r→AN (r+x) h→Q v h):AC 150 (Pt pb) fun a=>AB true 4 a h fun arr=>QH Q (Pt pb) arr v (.int .i64 0) h:=by
 obtain⟨h8,h64⟩:=id ok
 unfold QH QB Ucm Ucl Ufl
 refine bwL (i:=150) (n:=4) bv w hl (by decide) (by decide) (by rw[BP];decide) (sbz (f:=f) 150 4 (TJ rfl)) (fun v r h bv w hl=>?_) rfl
 refine U0 (i:=154) (n:=f 154) bv w hl (by decide) (h8 154 (by decide)) (Bt rfl) fun v r h bv w hl=>?_
 refine U0 (i:=155) (n:=f 155) bv w hl (by decide) (h8 155 (by decide)) (Bt rfl) fun v r h bv w hl=>?_
 refine CN (i:=156) (n:=f 156) bv w hl (by decide) (Bt rfl) fun v r h bv w hl=>?_
 refine BC (i:=157) (n:=f 157) bv w hl (by decide) (Bt rfl) fun v r h bv w hl=>?_
 refine BC (i:=158) (n:=f 158) bv w hl (by decide) (Bt rfl) fun v r h bv w hl=>?_
 refine BC (i:=159) (n:=f 159) bv w hl (by decide) (Bt rfl) fun v r h bv w hl=>?_
 exact ACP ok bv w (hl.trans (by decide)) K
end sb
theorem AHQ {f:Nat→Nat}(ok:RL f)(w:AN x h)(K:∀ v r h,BufV v (HH f) r→AN (r+x) h→Q v h):ADJ (.agg ⟨HE f⟩) h Q:=by
 obtain⟨h8,h64⟩:=id ok
 unfold ADJ Ufl Ucl
 refine BJ w fun pb h w=>?_
 have w:AN (ChR 0 x pb ⟨HE f⟩ 242) h:=w.cast (Res.zero_add _).symm
 have bv:BufV (.slice none 0 0) [] 0:=.nil
 have hl:([]:Bs).length=0:=rfl
 refine BC (i:=0) (n:=f 0) bv w hl (by decide) (Bt rfl) fun v r h bv w hl=>?_
 refine BC (i:=1) (n:=f 1) bv w hl (by decide) (Bt rfl) fun v r h bv w hl=>?_
 refine BC (i:=2) (n:=f 2) bv w hl (by decide) (Bt rfl) fun v r h bv w hl=>?_
 refine BC (i:=3) (n:=f 3) bv w hl (by decide) (Bt rfl) fun v r h bv w hl=>?_
 refine BC (i:=4) (n:=f 4) bv w hl (by decide) (Bt rfl) fun v r h bv w hl=>?_
 refine BC (i:=5) (n:=f 5) bv w hl (by decide) (Bt rfl) fun v r h bv w hl=>?_
 refine BC (i:=6) (n:=f 6) bv w hl (by decide) (Bt rfl) fun v r h bv w hl=>?_
 refine BC (i:=7) (n:=f 7) bv w hl (by decide) (Bt rfl) fun v r h bv w hl=>?_
 refine BC (i:=8) (n:=f 8) bv w hl (by decide) (Bt rfl) fun v r h bv w hl=>?_
 refine BC (i:=9) (n:=f 9) bv w hl (by decide) (Bt rfl) fun v r h bv w hl=>?_
 refine BC (i:=10) (n:=f 10) bv w hl (by decide) (Bt rfl) fun v r h bv w hl=>?_
 refine BC (i:=11) (n:=f 11) bv w hl (by decide) (Bt rfl) fun v r h bv w hl=>?_
 refine BC (i:=12) (n:=f 12) bv w hl (by decide) (Bt rfl) fun v r h bv w hl=>?_
 refine CN (i:=13) (n:=f 13) bv w hl (by decide) (Bt rfl) fun v r h bv w hl=>?_
 refine CN (i:=14) (n:=f 14) bv w hl (by decide) (Bt rfl) fun v r h bv w hl=>?_
 refine CN (i:=15) (n:=f 15) bv w hl (by decide) (Bt rfl) fun v r h bv w hl=>?_
 refine CN (i:=16) (n:=f 16) bv w hl (by decide) (Bt rfl) fun v r h bv w hl=>?_
 refine CN (i:=17) (n:=f 17) bv w hl (by decide) (Bt rfl) fun v r h bv w hl=>?_
 refine CN (i:=18) (n:=f 18) bv w hl (by decide) (Bt rfl) fun v r h bv w hl=>?_
 refine BC (i:=19) (n:=f 19) bv w hl (by decide) (Bt rfl) fun v r h bv w hl=>?_
 refine BC (i:=20) (n:=f 20) bv w hl (by decide) (Bt rfl) fun v r h bv w hl=>?_
 refine BC (i:=21) (n:=f 21) bv w hl (by decide) (Bt rfl) fun v r h bv w hl=>?_
 refine BC (i:=22) (n:=f 22) bv w hl (by decide) (Bt rfl) fun v r h bv w hl=>?_
 refine CN (i:=23) (n:=f 23) bv w hl (by decide) (Bt rfl) fun v r h bv w hl=>?_
 refine CN (i:=24) (n:=f 24) bv w hl (by decide) (Bt rfl) fun v r h bv w hl=>?_
 refine BC (i:=25) (n:=f 25) bv w hl (by decide) (Bt rfl) fun v r h bv w hl=>?_
 refine CN (i:=26) (n:=f 26) bv w hl (by decide) (Bt rfl) fun v r h bv w hl=>?_
 refine CN (i:=27) (n:=f 27) bv w hl (by decide) (Bt rfl) fun v r h bv w hl=>?_
 refine BC (i:=28) (n:=f 28) bv w hl (by decide) (Bt rfl) fun v r h bv w hl=>?_
 refine BC (i:=29) (n:=f 29) bv w hl (by decide) (Bt rfl) fun v r h bv w hl=>?_
 refine BC (i:=30) (n:=f 30) bv w hl (by decide) (Bt rfl) fun v r h bv w hl=>?_
 refine Wa (i:=31) (n:=16) (news:=List.replicate 16 0) bv w hl (by decide) (A09 ..) (by decide) (by decide) (by rw[BP];decide) (TJ rfl) fun v r h bv w hl=>?_
 refine Wa (i:=47) (n:=16) (news:=List.replicate 16 0) bv w hl (by decide) (A09 ..) (by decide) (by decide) (by rw[BP];decide) (TJ rfl) fun v r h bv w hl=>?_
 refine Wa (i:=63) (n:=64) (news:=List.replicate 64 0) bv w hl (by decide) (A09 ..) (by decide) (by decide) (by rw[BP];decide) (TJ rfl) fun v r h bv w hl=>?_
 refine BC (i:=127) (n:=f 127) bv w hl (by decide) (Bt rfl) fun v r h bv w hl=>?_
 refine U0 (i:=128) (n:=f 128) bv w hl (by decide) (h8 128 (by decide)) (Bt rfl) fun v r h bv w hl=>?_
 refine U0 (i:=129) (n:=f 129) bv w hl (by decide) (h8 129 (by decide)) (Bt rfl) fun v r h bv w hl=>?_
 refine CN (i:=130) (n:=f 130) bv w hl (by decide) (Bt rfl) fun v r h bv w hl=>?_
 refine Wa (i:=131) (n:=16) (news:=List.replicate 16 0) bv w hl (by decide) (A09 ..) (by decide) (by decide) (by rw[BP];decide) (TJ rfl) fun v r h bv w hl=>?_
 refine BC (i:=147) (n:=f 147) bv w hl (by decide) (Bt rfl) fun v r h bv w hl=>?_
 refine BC (i:=148) (n:=f 148) bv w hl (by decide) (Bt rfl) fun v r h bv w hl=>?_
 refine BC (i:=149) (n:=f 149) bv w hl (by decide) (Bt rfl) fun v r h bv w hl=>?_
 exact ACA ok bv w (hl.trans (by decide)) K
end
section
variable {h:H} {k:Value→Prop} {kt Q:Kt} {x y r:Res} {wb:Nat} {S S':PS} {ad:Nat→Nat}
def ET (wb:Nat)(ad:Nat→Nat)(iv:Value)(S:PS)(x:Res)(h:H):Prop:=∃ s L tr,AGi wb S s ad L tr∧s.inv=iv∧AN (FR s ad L tr+x) h
theorem ET.rep {iv:Value}(p:ET wb ad iv S x h):BM wb ad S x h:=by
 obtain⟨s,L,tr,a,_,w⟩:=p
 exact⟨s,L,tr,a,w⟩
theorem BM.repI (p:BM wb ad S x h):∃ iv,ET wb ad iv S x h:=by
 obtain⟨s,L,tr,a,w⟩:=p
 exact⟨s.inv,s,L,tr,a,rfl,w⟩
theorem ET.cast {iv:Value}(p:ET wb ad iv S x h)(e:x=y):ET wb ad iv S y h:=e▸p
theorem ET.mono {iv:Value}(p:ET wb ad iv S (x+y) h):ET wb ad iv S x h:=by
 obtain⟨s,L,tr,a,e,w⟩:=p
 exact⟨s,L,tr,a,e,AN.left (y:=y) (w.cast (by ac_rfl))⟩
def PS.put (S:PS)(bs:Bs):PS:={S with B:=BG S.B S.pos bs,pos:=S.pos+bs.length}
theorem TL {iv v:Value}{bs:Bs}(p:ET wb ad iv S x h)(d:RdX x v bs)(hp:0<bs.length)(hm:S.pos+bs.length≤S.max)(K:∀ h,ET wb ad iv (S.put bs) x h→Q (.tuple #[.int .i64 (bs.length:Nat),.nilIface]) h):f98 (Pt wb) v h Q:=by
 obtain⟨s,L,tr,a,e,w⟩:=p
 rw[←a.wb]
 refine s98 (x:=tr+sumR ad L+x) a.ok.ws (w.cast (by unfold FR;ac_rfl)) d.addR hp (by rw[a.pos,a.max];exact hm) (by rw[a.dpos,a.pos]) fun dv r h okw w=>K h ⟨{s with dv:=dv,dr:=r,B:=BG s.B s.pos bs,dpos:=s.pos+bs.length,pos:=s.pos+bs.length},L,tr,⟨a.ok.ws' okw rfl,a.wb,a.ini,a.M,?_,?_,?_,a.dw,a.dm,a.cur,a.inl,a.max,a.gd,a.db⟩,e,w.cast (by unfold FR;ac_rfl)⟩
 ·show BG s.B s.pos bs=BG S.B S.pos bs
  rw[a.B,a.pos]
 ·show s.pos+bs.length=S.pos+bs.length
  rw[a.pos]
 ·show s.pos+bs.length=S.pos+bs.length
  rw[a.pos]
theorem Pb {iv:Value}{n:Nat}(p:ET wb ad iv S x h)(hp:n=0→S.pos≤S.B.length)(hm:S.pos+n≤S.max)(K:∀ h,ET wb ad iv (S.put (List.replicate n 0)) x h→Q (.tuple #[.int .i64 (n:Nat),.nilIface]) h):Xt (Pt wb) (.int .i64 (n:Int)) h Q:=by
 obtain⟨s,L,tr,a,e,w⟩:=p
 rw[←a.wb]
 refine AGG (x:=tr+sumR ad L+x) a.ok.ws (w.cast (by unfold FR;ac_rfl)) (by rw[a.pos,a.B];exact hp) (by rw[a.pos,a.max];exact hm) (by rw[a.dpos,a.pos]) fun dv r h okw w=>K h ⟨{s with dv:=dv,dr:=r,B:=BG s.B s.pos (List.replicate n 0),dpos:=s.pos+n,pos:=s.pos+n},L,tr,⟨a.ok.ws' okw rfl,a.wb,a.ini,a.M,?_,?_,?_,a.dw,a.dm,a.cur,a.inl,a.max,a.gd,a.db⟩,e,w.cast (by unfold FR;ac_rfl)⟩
 ·show BG s.B s.pos _=BG S.B S.pos _
  rw[a.B,a.pos]
 ·show s.pos+n=S.pos+(List.replicate n (0:UInt8)).length
  rw[a.pos,A09]
 ·show s.pos+n=S.pos+(List.replicate n (0:UInt8)).length
  rw[a.pos,A09]
@[go_sem] theorem ABu {k':IntKind}{a:Nat}:AD .shr (.int .i64 (a:Int)) (.int k' 32) k=k (.int .i64 ((a/4294967296:Nat):Int)):=EC (s:=32)
theorem UP {a:Nat}(ha:a<9223372036854775808):AD .and (.int .i64 (a:Int)) (.int .i64 4294967295) k=k (.int .i64 ((a%4294967296:Nat):Int)):=by
 refine Fo ?_
 have h1:(BitVec.ofInt 64 (a:Int) &&& BitVec.ofInt 64 4294967295).toNat=a%4294967296:=by
  have h2:(BitVec.ofInt 64 4294967295:BitVec 64).toNat=2^32-1:=by decide
  rw[BitVec.toNat_and,BitVec.ofInt_natCast,BitVec.toNat_ofNat,A23 (by omega),h2,Nat.and_two_pow_sub_one_eq_mod]
 have hv:CT .and (.int .i64 (a:Int)) (.int .i64 4294967295)=some (.int .i64 (IntKind.i64.wrap (((BitVec.ofInt 64 (a:Int) &&& BitVec.ofInt 64 4294967295).toNat:Nat):Int))):=rfl
 rw[hv,h1,Ci (by omega)]
theorem Rc {a:Nat}(ha:a<4294967296):AD .and (.int .u32 (a:Int)) (.int .u32 65535) k=k (.int .u32 ((a%65536:Nat):Int)):=by
 rw[TC ha (by decide)]
 have:a &&& 65535=a%65536:=Nat.and_two_pow_sub_one_eq_mod a 16
 rw[this]
structure PNok (p:PN):Prop where
 uid:p.uid<4294967296
 gid:p.gid<4294967296
 size:p.size<4611686018427387904
 xbs:p.xbs.length≤104
 dmaj:p.dmaj<4294967296
 dmin:p.dmin<4294967296
def Bk (p:PN):Nat→Nat
 | 0=>p.mode
 | 1=>p.uid%65536
 | 2=>p.size%4294967296
 | 3=>p.at_%4294967296
 | 4=>p.ct%4294967296
 | 5=>p.mt%4294967296
 | 7=>p.gid%65536
 | 8=>p.links%65536
 | 9=>p.bcnt
 | 10=>p.flags
 | 13=>p.xblk
 | 14=>p.size/4294967296
 | 18=>p.uid/65536
 | 19=>p.gid/65536
 | 22=>24
 | 24=>p.ct/4294967296%4294967296
 | 25=>p.mt/4294967296%4294967296
 | 26=>p.at_/4294967296%4294967296
 | 27=>p.cr%4294967296
 | 28=>p.cr/4294967296%4294967296
 | _=>0
theorem SJ:AG TP 305=some (.agg (HF (Ev fun _=>0) (List.replicate 60 0) (Ej fun _=>0))):=by kernel_rfl
theorem Si:AG TP 306=some (.agg ⟨[str [],.int .u8 0,.slice none 0 0]⟩):=by kernel_rfl
theorem Yk {v:Value}{bs:Bs}{j:Nat}{kk:IntKind}(b:BufV v bs r)(hj:j≤bs.length)(h0:0<j)(K:∀ v',BufV v' (bs.take j) r→k v'):AZ (.slice 1) v none (some (.int kk (j:Int))) k:=by
 cases b with
 | nil=>simp at hj;omega
 | own hn=>
  rename_i b n all
  have hml:(all.take n).length=n:=by simp[A30 hn]
  rw[hml] at hj
  rw[Ma (by omega)]
  refine K _ (.own' (by omega) rfl ?_)
  rw[A95,A30 hj]
def LS (p:PN)(blk:Bs):Bs:=(BO (Bk p) blk).take 152
theorem C0 {f:Nat→Nat}{blk:Bs}(h:blk.length=60):(BO f blk).length=160:=by
 unfold BO
 simp only[A01,BI,Av,A61,h]
def Ey (p:PN)(blk xbs:Bs):Bs:=LS p blk++xbs++List.replicate (104-xbs.length) 0
theorem QG {p:PN}{blk xbs:Bs}(h:blk.length=60)(hx:xbs.length≤104):(Ey p blk xbs).length=256:=by
 unfold Ey LS
 simp only[A01,A20,C0 h,A09]
 omega
end
section
variable {h:H} {k:Value→Prop} {kt Q:Kt} {x y r:Res} {wb:Nat} {S S':PS} {ad:Nat→Nat}
theorem WO {b off n c:Nat}{hd tl:List Value}{all src:Bs}{s:Value}{T:TypeId}(w:AN (pts b (.cells (HF hd all tl) T (0,0))+x) h)(d:RdX x s src)(hoff:off=hd.length)(hn:n=all.length)
  (K:∀ h,AN (pts b (.cells (HF hd (setL all 0 (src.take n)) tl) T (0,0))+x) h→kt (.int .i64 (min src.length n:Nat)) h):DI 1 (.slice (some ⟨b,off,none⟩) n c) s h kt:=by
 have rd:=d.rd w.right
 refine⟨_,n,c,src.length,bcs (src.take (min src.length n)),rfl,rd.srcLen,rd.src _ (Nat.min_le_left _ _),.inr ⟨_,HF hd all tl,T,rfl,rfl,w.left.one,?_,H6 _,?_⟩⟩
 ·rw[Gh,CH,A20]
  simp only
  omega
 ·have h1:src.take (min src.length n)=src.take n:=by
   rcases Nat.le_total src.length n with h|h
   ·rw[A30 h,A43 (A07 _),A43 h]
   ·rw[Nat.min_eq_right h]
  rw[h1]
  have h2:Ai (HF hd all tl) off (bcs (src.take n)).toList=HF hd (setL all 0 (src.take n)) tl:=IJ (o:=0) hoff (by rw[A20];omega)
  simp only
  rw[h2]
  exact K _ w.set
theorem Tl {nd:Nd}{p:PN}{bb na:Nat}{blk:Bs}{rec1:Value→H→Prop}{x0 x1 x20 x21 x22:Value}(hb:blk.length=60)(hxb:nd.xbs.length≤104)(bx:BufV nd.xin nd.xbs nd.xr)
  (w:AN (pts bb (.cells (HF (Ev (Bk p)) blk (Ej (Bk p))) 305 (0,0))+(pts na (.cells nd.cells 197 (0,0))+(nd.xr+x))) h)
  (K:∀ v r h,BufV v (Ey p blk nd.xbs) r→AN (r+(pts na (.cells nd.cells 197 (0,0))+(nd.xr+x))) h→Cz Q rec1 x0 x1 v x20 x21 x22 h) :
  AB true 91 (Pt bb) h fun x193=>Call TP 171 [x193] h fun x194 h=>AZ (.slice 1) x194 none (some (.int .i64 152)) fun x195=>AB false 1 (.pointer (some ⟨na,16,none⟩)) h fun x200=>AM 5 (AG TP 5) 1 1 x195 x200 h fun x201 h=>AB false 1 (.pointer (some ⟨na,16,none⟩)) h fun x206=>Ab x206 fun x207=>AD .sub (.int .i64 104) x207 fun x208=>CI 5 (AG TP 5) 1 1 x201 x208 h fun x209 h=>Cz Q rec1 x0 x1 x209 x20 x21 x22 h:=by
 have hsz:(HF (Ev (Bk p)) blk (Ej (Bk p))).size=91:=by rw[Gh,hb];rfl
 rw[Am (w.find (b:=bb)) (by rw[hsz];exact A07 _)]
 have hex:(HF (Ev (Bk p)) blk (Ej (Bk p))).extract 0 (0+91)=HF (Ev (Bk p)) blk (Ej (Bk p)):=by
  rw[←hsz,A29,Array.extract_size]
 rw[hex]
 refine ZQ (AHW w hb fun v r h bv w=>?_)
 refine Yk (j:=152) bv (by rw[C0 hb];decide) (by decide) fun v bv=>?_
 rw[AF w]
 simp only[go_sem]
 refine BU bv w (bx.rd (w.cast (show _=nd.xr+(r+(pts bb (.cells (HF (Ev (Bk p)) blk (Ej (Bk p))) 305 (0,0))+(pts na (.cells nd.cells 197 (0,0))+x))) by ac_rfl))) (by rw[A20,C0 hb];omega) fun v r h bv w=>?_
 obtain⟨xa,xc,hxin⟩:=bx.len
 rw[AF w]
 simp only[go_sem,hxin]
 have e1:(AD .sub (.int .i64 104) (.int .i64 (nd.xbs.length:Nat)))=fun k=>k (.int .i64 ((104-nd.xbs.length:Nat):Int)):=funext fun k=>by
  rw[Bv,←Ci (m:=104-nd.xbs.length) (by omega),Int.ofNat_sub hxb];rfl
 rw[e1]
 refine II bv w (by rw[A01,A20,C0 hb];omega) fun v r h bv w=>?_
 exact K v r h bv (AN.right (x:=pts bb (.cells (HF (Ev (Bk p)) blk (Ej (Bk p))) 305 (0,0))) (w.cast (Res.left_comm _ _ _)))
theorem Ug {all:Bs}{o e t delta m:Nat}{a:XA}(h1:e+a.need≤t)(h2:o+t≤m)(h3:m≤all.length):(HG all o e t delta a).take m=HG (all.take m) o e t delta a:=by
 unfold XA.need at h1
 have hu1:a.nm.length≤CB a.nm.length:=by unfold CB;omega
 have hu2:a.bs.length≤CB a.bs.length:=by unfold CB;omega
 have l1:∀ n,(Aq n).length=2:=fun _=>rfl
 have l2:∀ n,(Ac n).length=4:=fun _=>rfl
 have l0:∀ n:Nat,[UInt8.ofNat n].length=1:=fun _=>rfl
 have st:∀ (l m':Bs) (q:Nat),m≤l.length→q+m'.length≤m→(setL l q m').take m=setL (l.take m) q m'∧m≤(setL l q m').length:=fun l m' q a1 a2=>⟨Iu a2 a1,by rw[AS (by omega)];exact a1⟩
 rw[Gw,Gw]
 obtain⟨s1,t1⟩:=st all [UInt8.ofNat a.nm.length] (o+e) h3 (by rw[l0];omega)
 obtain⟨s2,t2⟩:=st _ [UInt8.ofNat a.ix] (o+e+1) t1 (by rw[l0];omega)
 obtain⟨s3,t3⟩:=st _ (Aq (t-CB a.bs.length+delta)) (o+e+2) t2 (by rw[l1];omega)
 obtain⟨s4,t4⟩:=st _ (Ac a.bs.length) (o+e+8) t3 (by rw[l2];omega)
 obtain⟨s5,t5⟩:=st _ (Ac (hashX a.nm a.bs)) (o+e+12) t4 (by rw[l2];omega)
 obtain⟨s6,t6⟩:=st _ a.nm (o+e+16) t5 (by omega)
 obtain⟨s7,t7⟩:=st _ a.bs (o+(t-CB a.bs.length)) t6 (by omega)
 rw[s7,s6,s5,s4,s3,s2,s1]
def Ds (v:Value)(bs:Bs):XA:=⟨[100,97,116,97],7,v,bs⟩
def GJ (xbs bs:Bs):Bs:=HG xbs 4 0 100 0 (Ds (.slice none 0 0) bs)
theorem ZV (v:Value)(xbs bs:Bs):Em 4 0 [Ds v bs] 0 100 xbs=GJ xbs bs:=by
 unfold Em Em GJ
 simp only[Gw,Ds]
theorem Mh {xbs bs:Bs}(h1:104≤xbs.length)(h2:bs.length≤76):(GJ xbs bs).length=xbs.length:=by
 have hu:CB bs.length≤76:=by unfold CB;omega
 have hu4:CB (Ds (.slice none 0 0) bs).nm.length=4:=by simp[Ds,CB]
 have hu5:CB (Ds (.slice none 0 0) bs).bs.length=CB bs.length:=rfl
 exact LQ (by rw[hu4];omega) (by rw[hu5];omega) (by omega)
end
section
variable {h:H} {k:Value→Prop} {kt Q:Kt} {x y r:Res} {wb:Nat} {S S':PS} {ad:Nat→Nat}
def Bf:Bs:=List.replicate 60 0
def Cw (p:PN):Prop:=kindB p.mode=16384∨kindB p.mode=32768∨kindB p.mode=40960
def Pk (p:PN):Prop:=kindB p.mode=24576∨kindB p.mode=8192
instance (p:PN):Decidable (Cw p):=by unfold Cw;infer_instance
instance (p:PN):Decidable (Pk p):=by unfold Pk;infer_instance
def Zm (p:PN):Nat:=((p.dmin &&& 255) ||| (p.dmaj*256%4294967296)) ||| ((p.dmin &&& 4294967040)*4096%4294967296)
def Dz (p:PN):Bs:=if Cw p then setL Bf 0 (p.dbs.take 60) else if Pk p then setL Bf 4 (Ac (Zm p)) else Bf
def Bl (p:PN):Bs:=if Cw p∧60<p.dbs.length then GJ p.xbs (p.dbs.drop 60) else p.xbs
def BR (p:PN):Bs:=Ey p (Dz p) (Bl p)
theorem FI (p:PN):(Dz p).length=60:=by
 unfold Dz
 have h1:Bf.length=60:=by simp[Bf]
 split
 ·rw[AS (by rw[h1,A20];omega),h1]
 ·split
  ·rw[AS (by rw[h1,Av];omega),h1]
  ·exact h1
def xOK (p:PN):Prop:=Cw p→60<p.dbs.length→p.xbs.length=104∧p.dbs.length≤136
theorem L2 {p:PN}(h:p.xbs.length≤104)(hx:xOK p):(Bl p).length≤104:=by
 unfold Bl
 split
 ·rename_i hh
  obtain⟨h1,h2⟩:=hx hh.1 hh.2
  rw[Mh (by omega) (by rw[A27];omega)]
  omega
 ·exact h
theorem GQ {p:PN}(h:p.xbs.length≤104)(hx:xOK p):(BR p).length=256:=QG (FI p) (L2 h hx)
abbrev XB (p:PN)(blk:Bs):Array Value:=HF (Ev (Bk p)) blk (Ej (Bk p))
theorem Oi {v:Value}{bs:Bs}(b:BufV v bs r)(h:0<bs.length):∃ bb all,v=.slice (some ⟨bb,0,none⟩) bs.length all.length∧r=buf bb all∧bs=all.take bs.length∧bs.length≤all.length:=by
 cases b with
 | nil=>simp at h
 | own hn=>
  rename_i bb n all
  have hl:(all.take n).length=n:=by simp[A30 hn]
  exact⟨bb,all,by rw[hl],rfl,by rw[hl],by rw[hl];exact hn⟩
theorem AFv {nd:Nd}{p:PN}{bb na:Nat}{rec1:Value→H→Prop}{x0 x1 x20 x21 x22 x134:Value}(hp:nd.pn=p)(hx:xOK p)(hd:Cw p)(hxb:nd.xbs.length≤104)(hdl:nd.dbs.length<1000000)(bd:BufV nd.data nd.dbs nd.dr)(bx:BufV nd.xin nd.xbs nd.xr)
  (w:AN (pts bb (.cells (XB p Bf) 305 (0,0))+(pts na (.cells nd.cells 197 (0,0))+(nd.dr+(nd.xr+x)))) h)
  (K:∀ v r xr h,BufV v (BR p) r→BufV nd.xin (Bl p) xr→AN (r+(pts na (.cells nd.cells 197 (0,0))+(nd.dr+(xr+x)))) h→Cz Q rec1 x0 x1 v x20 x21 x22 h) :
  GP Q rec1 x0 x1 (Pt na) (Pt bb) x20 x21 x22 x134 (.bool true) h:=by
 have hdb:nd.dbs=p.dbs:=by rw[←hp];rfl
 have hxbs:nd.xbs=p.xbs:=by rw[←hp];rfl
 have hz:Bf.length=60:=by simp[Bf]
 have hblk:Dz p=setL Bf 0 (nd.dbs.take 60):=by unfold Dz;rw[A03 hd,hdb]
 have hb60:(setL Bf 0 (nd.dbs.take 60)).length=60:=by rw[←hblk];exact FI p
 obtain⟨da,dc,hdv⟩:=bd.len
 unfold GP Unf Ucm Umk Ucl
 simp only[go_sem,AF w,Cu (show 0<60 by decide)]
 refine WO w bd.rdX.addL.addR rfl hz.symm fun h w=>?_
 simp only[go_sem,AF w,hdv]
 refine AX (fun hlt=>?_) (fun hge=>?_)
 ·have h60:60<nd.dbs.length:=by omega
  obtain⟨q1,q2⟩:=hx hd (by rw[←hdb];exact h60)
  have hmin:min nd.dbs.length 60=60:=by omega
  rw[hmin]
  obtain⟨db,dall,e1,e2,e3,e4⟩:=Oi bd (by omega)
  obtain⟨xb,xall,f1,f2,f3,f4⟩:=Oi bx (by rw[hxbs];omega)
  have hxl:nd.xbs.length=104:=by rw[hxbs];exact q1
  rw[hxl] at f1 f3 f4
  rw[e1] at hdv
  obtain⟨rfl,rfl⟩:some ⟨db,0,none⟩=da∧dall.length=dc:=by cases hdv;exact⟨rfl,rfl⟩
  have hd136:nd.dbs.length≤136:=by rw[hdb];exact q2
  simp (disch:=omega) only[go_sem,Gc]
  refine Au Gu rfl (rs:=[str [100,97,116,97],.int .u8 7,.slice (some ⟨db,0+60,none⟩) (nd.dbs.length-60) (dall.length-60)]) rfl ?_
  refine Au Si rfl (rs:=[str [100,97,116,97],.int .u8 7,.slice (some ⟨db,0+60,none⟩) (nd.dbs.length-60) (dall.length-60)]) rfl ?_
  refine Ah w Si rfl fun tb h w=>?_
  refine AL w ⟨[str [100,97,116,97],.int .u8 7,.slice (some ⟨db,0+60,none⟩) (nd.dbs.length-60) (dall.length-60)]⟩ ((A2 _ _ _).trans rfl) rfl (by simp) rfl fun h w=>?_
  simp (disch:=omega) only[go_sem,Cu (show 0<1 by decide),AF w,f1]
  have hl60:(nd.dbs.drop 60).length=nd.dbs.length-60:=A27
  have hu:CB (nd.dbs.length-60)≤76:=by unfold CB;omega
  have hu4:CB 4=4:=by decide
  have k2:∀ A B C D E F:Res,A+(B+(C+(D+(E+F))))=E+(A+(D+(B+(C+F)))):=by intros;ac_rfl
  refine Sc (AGN (TX:=306) (l:=[Ds (.slice (some ⟨db,0+60,none⟩) (nd.dbs.length-60) (dall.length-60)) (nd.dbs.drop 60)]) (rX:=pts tb (.cells ⟨[str [100,97,116,97],.int .u8 7,.slice (some ⟨db,0+60,none⟩) (nd.dbs.length-60) (dall.length-60)]⟩ 306 (0,0)))
   (bb:=xb) (all0:=xall) (T:=5) (o:=0+4) (n:=104-4) (c:=xall.length-4) (delta:=0) (x:=buf db dall+(pts bb (.cells (XB p (setL Bf 0 (nd.dbs.take 60))) 305 (0,0))+(pts na (.cells nd.cells 197 (0,0))+x))) (.own' (A07 _) rfl rfl) (w.cast (by rw[f2,e2];exact k2 _ _ _ _ _ _)) ?_ (by omega) (by omega) ?_ (by omega) (by simp) fun h w=>?_)
  ·intro a ha
   rw[A78] at ha
   subst ha
   refine⟨RdX.addL (.inr ⟨db,0+60,dall.length-60,dall.map bc,5,(0,0),0,by simp[Ds],(Res.add_zero _).symm,by simp[Ds];omega,?_,by simp[Ds];omega⟩),by simp[Ds],by simp[Ds],by simp[Ds];omega⟩
   show ((dall.map bc).drop (0+60)).take (nd.dbs.drop 60).length=(nd.dbs.drop 60).map bc
   rw[←List.map_drop,←B11,hl60,←A49,←e3]
  ·show D3 [Ds _ _]+4≤104-4
   unfold D3 XA.need Ds
   simp only[A33,B46,A75,List.sum_nil,A19,A61,A29,Nat.reduceAdd,hl60,hu4]
   omega
  ·have hput:Em (0+4) 0 [Ds (.slice (some ⟨db,0+60,none⟩) (nd.dbs.length-60) (dall.length-60)) (nd.dbs.drop 60)] 0 (104-4) xall=GJ xall (nd.dbs.drop 60):=ZV _ _ _
   rw[hput] at w
   have hxo:Bl p=GJ nd.xbs (nd.dbs.drop 60):=by unfold Bl;rw[A03 ⟨hd,by rw[←hdb];exact h60⟩,hdb,hxbs]
   have hrl:(GJ xall (nd.dbs.drop 60)).length=xall.length:=Mh f4 (by omega)
   have htk:(GJ xall (nd.dbs.drop 60)).take 104=Bl p:=by
    rw[hxo]
    have:nd.xbs=xall.take 104:=f3
    rw[this]
    refine Ug ?_ (by omega) f4
    unfold XA.need Ds
    simp only[A19,A61,A29,Nat.reduceAdd,hl60,hu4]
    omega
   have bx':BufV nd.xin (Bl p) (buf xb (GJ xall (nd.dbs.drop 60))):=by rw[f1];exact .own' (by omega) hrl htk
   have k3:∀ A B C D E F:Res,A+(B+(C+(D+(E+F))))=D+(E+(A+(C+(F+B)))):=by intros;ac_rfl
   refine Tl (nd:={nd with xbs:=Bl p,xr:=buf xb (GJ xall (nd.dbs.drop 60))}) (p:=p) (x:=buf db dall+(x+pts tb (.cells ⟨[str [100,97,116,97],.int .u8 7,.slice (some ⟨db,0+60,none⟩) (nd.dbs.length-60) (dall.length-60)]⟩ 306 (0,0)))) hb60 (L2 (by rw[←hxbs];exact hxb) hx) bx' (w.cast (k3 _ _ _ _ _ _)) fun v r h bv w=>?_
   ·refine K v r (buf xb (GJ xall (nd.dbs.drop 60))) h ?_ bx' (AN.left (y:=pts tb (.cells ⟨[str [100,97,116,97],.int .u8 7,.slice (some ⟨db,0+60,none⟩) (nd.dbs.length-60) (dall.length-60)]⟩ 306 (0,0))) (w.cast ?_))
    ·unfold BR
     rw[hblk]
     exact bv
    ·have k5:∀ R N X D Y T:Res,R+(N+(X+(D+(Y+T))))=R+(N+(D+(X+Y)))+T:=by intros;ac_rfl
     rw[e2]
     exact k5 _ _ _ _ _ _
 ·have h60:¬60<nd.dbs.length:=by omega
  have hxe:Bl p=nd.xbs:=by unfold Bl;rw[A05 (by rw[←hdb];exact fun h=>h60 h.2),hxbs]
  refine Tl (p:=p) hb60 hxb bx (w.cast (Kq6 _ _ _ _ _)) fun v r h bv w=>?_
  refine K v r nd.xr h ?_ (by rw[hxe];exact bx) (w.cast (Kq6 _ _ _ _ _))
  unfold BR
  rw[hblk,hxe]
  exact bv
end
section
variable {h:H} {k:Value→Prop} {kt Q:Kt} {x y r:Res} {wb:Nat} {S S':PS} {ad:Nat→Nat}
theorem G0 {b i o:Nat}{hd tl:List Value}{all:Bs}{v:UInt8}{T:TypeId}{kh:H→Prop}(w:AN (pts b (.cells (HF hd all tl) T (0,0))+x) h)(hi:i=hd.length+o)(ho:o<all.length)
  (K:∀ h,AN (pts b (.cells (HF hd (setL all o [v]) tl) T (0,0))+x) h→kh h):AJ 1 (.pointer (some ⟨b,i,none⟩)) (bc v) h kh:=
 AL w (HF hd (setL all o [v]) tl) (IJ (m:=[v]) hi (by simp;omega)) rfl (by rw[Gh];omega) rfl K
theorem AGK {b i o n c m:Nat}{hd tl:List Value}{all:Bs}{T:TypeId}(w:AN (pts b (.cells (HF hd all tl) T (0,0))+x) h)(hi:i=hd.length+o)(hn:4≤n)(ho:o+4≤all.length)(K:∀ h,AN (pts b (.cells (HF hd (setL all o (Ac m)) tl) T (0,0))+x) h→Q (.tuple #[]) h) :
  VC (.slice (some ⟨b,i,none⟩) n c) (.int .u32 (m:Int)) h Q:=by
 unfold VC
 simp (disch:=omega) only[go_sem,IQ,MZ]
 refine G0 w (o:=o) (by omega) (by omega) fun h w=>?_
 refine G0 w (o:=o+1) (by omega) (by rw[AS (by simp;omega)];omega) fun h w=>?_
 rw[Dd (p:=o+1) (m:=[UInt8.ofNat m]) (m':=[UInt8.ofNat (m/256)]) (by simp) (by simp;omega)] at w
 refine G0 w (o:=o+2) (by omega) (by rw[AS (by simp;omega)];omega) fun h w=>?_
 rw[Dd (p:=o+2) (m:=[UInt8.ofNat m]++[UInt8.ofNat (m/256)]) (m':=[UInt8.ofNat (m/65536)]) (by simp) (by simp;omega)] at w
 refine G0 w (o:=o+3) (by omega) (by rw[AS (by simp;omega)];omega) fun h w=>K h ?_
 rw[Dd (p:=o+3) (m:=[UInt8.ofNat m]++[UInt8.ofNat (m/256)]++[UInt8.ofNat (m/65536)]) (m':=[UInt8.ofNat (m/16777216)]) (by simp) (by simp;omega)] at w
 exact w
@[go_sem] theorem AEe {k':IntKind}{a:Nat}:AD .shl (.int .u32 (a:Int)) (.int k' 12) k=k (.int .u32 ((a*4096%4294967296:Nat):Int)):=(Ez (s:=12) (by decide)).trans (by rw[w32])
theorem Hs {b o n sz l:Nat}{kk:IntKind}(hl:l<n):AZ (.arr n sz) (.pointer (some ⟨b,o,none⟩)) (some (.int kk (l:Int))) none k=k (.slice (some ⟨b,o+l*sz,none⟩) (n-l) (n-l)):=by
 have hv:A6 (.arr n sz) (.pointer (some ⟨b,o,none⟩)) (some (.int kk (l:Int))) none=some (.slice (some ⟨b,o+l*sz,none⟩) (n-l) (n-l)):=by
  simp only[A6,Dp]
  simp only[Ay]
  rw[A03 ⟨by omega,A07 _⟩,A05 (by omega),Bm]
 exact propext ⟨fun⟨v,a,b⟩=>by rw[hv] at a;cases a;exact b,fun a=>⟨_,hv,a⟩⟩
theorem ABX {nd:Nd}{p:PN}{bb na:Nat}{rec1:Value→H→Prop}{x0 x1 x20 x21 x22:Value}(hp:nd.pn=p)(hok:PNok p)(hd:¬Cw p)(hv:Pk p)(hxb:nd.xbs.length≤104)(bx:BufV nd.xin nd.xbs nd.xr)
  (w:AN (pts bb (.cells (XB p Bf) 305 (0,0))+(pts na (.cells nd.cells 197 (0,0))+(nd.xr+x))) h)
  (K:∀ v r h,BufV v (BR p) r→AN (r+(pts na (.cells nd.cells 197 (0,0))+(nd.xr+x))) h→Cz Q rec1 x0 x1 v x20 x21 x22 h) :
  HX Q rec1 x0 x1 (Pt na) (Pt bb) x20 x21 x22 (.bool true) h:=by
 have hz:Bf.length=60:=by simp[Bf]
 have hmaj:nd.dmaj=p.dmaj:=by rw[←hp];rfl
 have hmin:nd.dmin=p.dmin:=by rw[←hp];rfl
 have hxe:Bl p=nd.xbs:=by unfold Bl;rw[A05 (fun h=>hd h.1),←hp];rfl
 have hblk:Dz p=setL Bf 4 (Ac (Zm p)):=by unfold Dz;rw[A05 hd,A03 hv]
 have h1:=hok.dmaj
 have h2:=hok.dmin
 have a1:p.dmin &&& 255<4294967296:=B06 B20 h2
 have a2:p.dmin &&& 4294967040<4294967296:=B06 B20 h2
 have a3:(p.dmin &&& 255) ||| (p.dmaj*256%4294967296)<4294967296:=B01 (n:=32) a1 (by omega)
 unfold HX Unf Ucl
 simp (disch:=omega) only[go_sem,AF w,hmaj,hmin]
 have e4:(Value.int .i64 4)=.int .i64 ((4:Nat):Int):=rfl
 rw[e4,Hs (by omega)]
 refine Jx (AGK (m:=Zm p) (o:=4) w rfl (by omega) (by rw[hz];omega) fun h w=>?_)
 have hb60:(setL Bf 4 (Ac (Zm p))).length=60:=by rw[←hblk];exact FI p
 refine Tl (p:=p) hb60 hxb bx w fun v r h bv w=>K v r h ?_ w
 unfold BR
 rw[hblk,hxe]
 exact bv
theorem AFQ {nd:Nd}{p:PN}{bb na:Nat}{rec1:Value→H→Prop}{x0 x1 x20 x21 x22:Value}(hp:nd.pn=p)(hd:¬Cw p)(hv:¬Pk p)(hxb:nd.xbs.length≤104)(bx:BufV nd.xin nd.xbs nd.xr)
  (w:AN (pts bb (.cells (XB p Bf) 305 (0,0))+(pts na (.cells nd.cells 197 (0,0))+(nd.xr+x))) h)
  (K:∀ v r h,BufV v (BR p) r→AN (r+(pts na (.cells nd.cells 197 (0,0))+(nd.xr+x))) h→Cz Q rec1 x0 x1 v x20 x21 x22 h) :
  HX Q rec1 x0 x1 (Pt na) (Pt bb) x20 x21 x22 (.bool false) h:=by
 have hz:Bf.length=60:=by simp[Bf]
 have hxe:Bl p=nd.xbs:=by unfold Bl;rw[A05 (fun h=>hd h.1),←hp];rfl
 have hblk:Dz p=Bf:=by unfold Dz;rw[A05 hd,A05 hv]
 unfold HX Unf Ucl
 simp only[go_sem]
 refine Tl (p:=p) hz hxb bx w fun v r h bv w=>K v r h ?_ w
 unfold BR
 rw[hblk,hxe]
 exact bv
theorem AE6 {nd:Nd}{p:PN}{na i:Nat}{iv:Value}{n:Nat}{rec1:Value→H→Prop}{x0 x1:Value}(hp:nd.pn=p)(hok:PNok p)(hx:xOK p)(hm:nd.mode<65536)(hdl:nd.dbs.length<1000000)(hi:i<n)
  (hget:∀ k:Value→Prop,k (Pt na)→AI (.slice 1) iv (.int .i64 (i:Int)) fun a=>AB false 1 a h k) (bd:BufV nd.data nd.dbs nd.dr) (bx:BufV nd.xin nd.xbs nd.xr)
  (w:AN (pts na (.cells nd.cells 197 (0,0))+(nd.dr+(nd.xr+x))) h)
  (K:∀ v r xr h,BufV v (BR p) r→BufV nd.xin (Bl p) xr→AN (r+(pts na (.cells nd.cells 197 (0,0))+(nd.dr+(xr+x)))) h→Cz Q rec1 x0 x1 v iv (.int .i64 (n:Int)) (.int .i64 (i:Int)) h) :
  HT Q rec1 x0 x1 iv (.int .i64 (n:Int)) (.int .i64 (i:Int)) h:=by
 have c1:nd.uid=p.uid:=by rw[←hp];rfl
 have c2:nd.gid=p.gid:=by rw[←hp];rfl
 have c3:nd.size=p.size:=by rw[←hp];rfl
 have c4:nd.mode=p.mode:=by rw[←hp];rfl
 have hxb:nd.xbs.length≤104:=by have:=hok.xbs;rw[←hp] at this;exact this
 have o1:=hok.uid
 have o2:=hok.gid
 have o3:=hok.size
 unfold HT Ucm Uil Uff Uld Umk Ukp Unf Ucl
 simp (disch:=omega) only[go_sem,A04]
 refine hget _ ?_
 simp (maxSteps:=4000000) (disch:=omega) only[go_sem,AF w,Rc,UP]
 subst hp
 refine Au SJ rfl (rs:=Ev (Bk nd.pn)++Bf.map bc++Ej (Bk nd.pn)) (by kernel_rfl) ?_
 refine Ah w SJ rfl fun bb h w=>?_
 refine⟨Ad w rfl,Ad w rfl,Ad w rfl,Ad w rfl,Ad w rfl,Ad w rfl,Ad w rfl,Ad w rfl,Ad w rfl,Ad w rfl,Ad w rfl,Ad w rfl,Ad w rfl,Ad w rfl,Ad w rfl,Ad w rfl,Ad w rfl,Ad w rfl,Ad w rfl,?_⟩
 refine AL w (XB nd.pn Bf) (by kernel_rfl) rfl (by exact A07 91) (by kernel_rfl) fun h w=>?_
 simp (disch:=omega) only[go_sem,AF w]
 have hkk:(nd.mode &&& 61440)=kindB nd.mode:=rfl
 rw[hkk]
 have fin:Cw nd.pn→GP Q rec1 x0 x1 (Pt na) (Pt bb) iv (.int .i64 (n:Int)) (.int .i64 (i:Int)) (.int .u16 (kindB nd.mode:Nat)) (.bool true) h:=fun hd=>AFv rfl hx hd hxb hdl bd bx w K
 refine AX (fun h1=>fin (.inl (by show kindB nd.mode=16384;omega))) fun h1=>?_
 refine AX (fun h2=>fin (.inr (.inl (by show kindB nd.mode=32768;omega)))) fun h2=>?_
 by_cases h3:kindB nd.mode=40960
 ·have e:decide ((kindB nd.mode:Int)=40960)=true:=A04 (by omega)
  rw[e]
  exact fin (.inr (.inr h3))
 ·have hnd:¬Cw nd.pn:=fun hh=>by
   rcases hh with hh|hh|hh
   ·exact h1 (by have:kindB nd.mode=16384:=hh;omega)
   ·exact h2 (by have:kindB nd.mode=32768:=hh;omega)
   ·exact h3 hh
  have hxe:Bl nd.pn=nd.xbs:=by unfold Bl;rw[A05 (fun h=>hnd h.1)];rfl
  have e:decide ((kindB nd.mode:Int)=40960)=false:=A08 (by omega)
  rw[e]
  have K':∀ v r h,BufV v (BR nd.pn) r→AN (r+(pts na (.cells nd.cells 197 (0,0))+(nd.xr+(nd.dr+x)))) h→Cz Q rec1 x0 x1 v iv (.int .i64 (n:Int)) (.int .i64 (i:Int)) h:=fun v r h bv w=>K v r nd.xr h bv (by rw[hxe];exact bx) (w.cast (Kq6 _ _ _ _ _))
  have w':=w.cast (Kq6 _ _ _ _ _)
  unfold GP Unf Ucm Umk Ucl
  simp only[go_sem]
  refine AX (fun h4=>ABX rfl hok hnd (.inl (by show kindB nd.mode=24576;omega)) hxb bx w' K') fun h4=>?_
  by_cases h5:kindB nd.mode=8192
  ·have e:decide ((kindB nd.mode:Int)=8192)=true:=A04 (by omega)
   rw[e]
   exact ABX rfl hok hnd (.inr h5) hxb bx w' K'
  ·have e:decide ((kindB nd.mode:Int)=8192)=false:=A08 (by omega)
   rw[e]
   refine AFQ rfl hnd (fun hh=>?_) hxb bx w' K'
   rcases hh with hh|hh
   ·exact h4 (by have:kindB nd.mode=24576:=hh;omega)
   ·exact h5 hh
end
end Go.Proofs.YtollddkkdgoonaaGreatDoor
