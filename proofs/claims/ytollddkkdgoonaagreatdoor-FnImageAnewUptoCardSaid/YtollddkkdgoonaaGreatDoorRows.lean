/-
  NARROWER THAN 'FOR EVERY INPUT', by the rows' own cells (each row's printed sentence says how): FnImageAnew: laid · FnImageCrowd: laid · FnImageHolds: laid · FnImagePatched: laid · FnImageStats: laid · FnPlanInImage: laid · FnVerityOfImage: laid.
  DERIVED. THE GIVEN ROWS OF THIS SEAT. 7 by the template 'for every input the law returns true; each argument reads behind the call as it read before'; 0 by the template 'total and deterministic' (their statements: YtollddkkdgoonaaGreatDoorTotals.lean).
  GIVEN WITH THE SEED: the statements are not yours to turn. If you find one false, say at which input.
  Laid BY PROGRAM, IN A SANDBOX (cutbox-rows.mjs): the forced cells as the released guide's own fill.sh prints them over the translation 3e89cd9a8ed542a0… (all of the seat's roots in one cut). By AI agents, Wed Nov 11 2026. No macro, syntax, notation, axiom, sorry.
-/
import Derived.Test.YtollddkkdgoonaaGreatDoorChecked
import GoSem.Claim
import GoSem.ClaimJoined
import GoSem.ClaimMapViews
import Derived.JoinedTies
import Derived.KernelRfl
namespace Go.Proofs.YtollddkkdgoonaaGreatDoor
/- THE CELL 'sum', in the pinned program and in every row, IS THE sha256 OF THE DUMP (.gsa) THAT YtollddkkdgoonaaGreatDoorProg.lean LOADS. Nothing in Lean hashes anything: it is a label: what it is worth is what the hold of that sum in a sandbox is worth. -/
noncomputable def Tryz.pinned : Pinned := { name := "ytollddkkdgoonaagreatdoor", sum := "3e89cd9a8ed542a0850d317265abd4d6c687c70a80b48151f5d1d3a1d1db4369", checked := Tryz.checked }
namespace Rows
def none {H : Type} : Left H := { results := [], args := [] }

/- WHAT THE LISTED PACKAGE-LEVEL VARIABLES READ AS WHEN THE CALL BEGINS. Each datum BY PROGRAM (the guide's laid-datum.mjs) off the statement by which the dump's own 'gosem.cut.vars' lays the variable. In a bare row this is a premise. The card (YtollddkkdgoonaaGreatDoorCards.lean) ties it to the program's text. -/
def laid_pub_marram_pub_hcsshim_ext4_inner_compactext4_xattrPrefixes {H : Type} : DataW H := .agg [.agg [.lit (.int .u8 2), .lit (.string [115, 121, 115, 116, 101, 109, 46, 112, 111, 115, 105, 120, 95, 97, 99, 108, 95, 97, 99, 99, 101, 115, 115])], .agg [.lit (.int .u8 3), .lit (.string [115, 121, 115, 116, 101, 109, 46, 112, 111, 115, 105, 120, 95, 97, 99, 108, 95, 100, 101, 102, 97, 117, 108, 116])], .agg [.lit (.int .u8 8), .lit (.string [115, 121, 115, 116, 101, 109, 46, 114, 105, 99, 104, 97, 99, 108])], .agg [.lit (.int .u8 7), .lit (.string [115, 121, 115, 116, 101, 109, 46])], .agg [.lit (.int .u8 1), .lit (.string [117, 115, 101, 114, 46])], .agg [.lit (.int .u8 4), .lit (.string [116, 114, 117, 115, 116, 101, 100, 46])], .agg [.lit (.int .u8 6), .lit (.string [115, 101, 99, 117, 114, 105, 116, 121, 46])]]
def laid_pub_marram_pub_hcsshim_ext4_dmverity_ErrSuperBlockReadFailure {H : Type} : DataW H := .iface "*errors.errorString" (.ptr (.agg [.lit (.string [102, 97, 105, 108, 101, 100, 32, 116, 111, 32, 114, 101, 97, 100, 32, 100, 109, 45, 118, 101, 114, 105, 116, 121, 32, 115, 117, 112, 101, 114, 32, 98, 108, 111, 99, 107])]))
def laid_pub_marram_pub_hcsshim_ext4_dmverity_ErrSuperBlockParseFailure {H : Type} : DataW H := .iface "*errors.errorString" (.ptr (.agg [.lit (.string [102, 97, 105, 108, 101, 100, 32, 116, 111, 32, 112, 97, 114, 115, 101, 32, 100, 109, 45, 118, 101, 114, 105, 116, 121, 32, 115, 117, 112, 101, 114, 32, 98, 108, 111, 99, 107])]))
def laid_pub_marram_pub_hcsshim_ext4_dmverity_ErrRootHashReadFailure {H : Type} : DataW H := .iface "*errors.errorString" (.ptr (.agg [.lit (.string [102, 97, 105, 108, 101, 100, 32, 116, 111, 32, 114, 101, 97, 100, 32, 100, 109, 45, 118, 101, 114, 105, 116, 121, 32, 114, 111, 111, 116, 32, 104, 97, 115, 104])]))
def laid_pub_marram_pub_hcsshim_ext4_dmverity_ErrNotVeritySuperBlock {H : Type} : DataW H := .iface "*errors.errorString" (.ptr (.agg [.lit (.string [105, 110, 118, 97, 108, 105, 100, 32, 100, 109, 45, 118, 101, 114, 105, 116, 121, 32, 115, 117, 112, 101, 114, 45, 98, 108, 111, 99, 107, 32, 115, 105, 103, 110, 97, 116, 117, 114, 101])]))

/-- 'laws.FnImageAnew': WHATEVER THE INPUT: true; the input reads as it did. -/
def fnImageAnewSpec : ChangeSpec := { name := "fnImageAnew", fn := fun _ => fun
  | [d1, d2, d3] => { results := [.lit (.bool true)], args := [d1, d2, d3] }
  | _ => none }
def fnImageAnewRow : OpenClaim := { program := "ytollddkkdgoonaagreatdoor", sum := "3e89cd9a8ed542a0850d317265abd4d6c687c70a80b48151f5d1d3a1d1db4369", func := "pub-marram/laws.FnImageAnew", spec := "fnImageAnew", inPlace := ["internal/bytealg.IndexByteString"], unfollowed := true, recurses := true, named := ["pub-marram/pub/hcsshim/ext4/inner/compactext4.xattrPrefixes"], apart := false, laid := [("pub-marram/pub/hcsshim/ext4/inner/compactext4.xattrPrefixes", laid_pub_marram_pub_hcsshim_ext4_inner_compactext4_xattrPrefixes)] }
def FnImageAnewSaid : Prop := fnImageAnewRow.holds Tryz.pinned (OpenSpec.ofChange fnImageAnewSpec)

/-- ITS FALSE NEIGHBOUR: 'it returns false'. Refute it at one input. -/
def fnImageAnewWrong : ChangeSpec := { name := "fnImageAnew", fn := fun _ => fun
  | [d1, d2, d3] => { results := [.lit (.bool false)], args := [d1, d2, d3] }
  | _ => none }
def FnImageAnewWrongFalsely : Prop := fnImageAnewRow.holds Tryz.pinned (OpenSpec.ofChange fnImageAnewWrong)

/-- 'laws.FnImageCrowd': WHATEVER THE INPUT: true; the input reads as it did. -/
def fnImageCrowdSpec : ChangeSpec := { name := "fnImageCrowd", fn := fun _ => fun
  | [d1, d2, d3] => { results := [.lit (.bool true)], args := [d1, d2, d3] }
  | _ => none }
def fnImageCrowdRow : OpenClaim := { program := "ytollddkkdgoonaagreatdoor", sum := "3e89cd9a8ed542a0850d317265abd4d6c687c70a80b48151f5d1d3a1d1db4369", func := "pub-marram/laws.FnImageCrowd", spec := "fnImageCrowd", inPlace := ["internal/bytealg.IndexByteString"], unfollowed := true, recurses := true, named := ["pub-marram/pub/hcsshim/ext4/inner/compactext4.xattrPrefixes"], apart := false, laid := [("pub-marram/pub/hcsshim/ext4/inner/compactext4.xattrPrefixes", laid_pub_marram_pub_hcsshim_ext4_inner_compactext4_xattrPrefixes)] }
def FnImageCrowdSaid : Prop := fnImageCrowdRow.holds Tryz.pinned (OpenSpec.ofChange fnImageCrowdSpec)

/-- ITS FALSE NEIGHBOUR: 'it returns false'. Refute it at one input. -/
def fnImageCrowdWrong : ChangeSpec := { name := "fnImageCrowd", fn := fun _ => fun
  | [d1, d2, d3] => { results := [.lit (.bool false)], args := [d1, d2, d3] }
  | _ => none }
def FnImageCrowdWrongFalsely : Prop := fnImageCrowdRow.holds Tryz.pinned (OpenSpec.ofChange fnImageCrowdWrong)

/-- 'laws.FnImageHolds': WHATEVER THE INPUT: true; the input reads as it did. -/
def fnImageHoldsSpec : ChangeSpec := { name := "fnImageHolds", fn := fun _ => fun
  | [d1, d2, d3] => { results := [.lit (.bool true)], args := [d1, d2, d3] }
  | _ => none }
def fnImageHoldsRow : OpenClaim := { program := "ytollddkkdgoonaagreatdoor", sum := "3e89cd9a8ed542a0850d317265abd4d6c687c70a80b48151f5d1d3a1d1db4369", func := "pub-marram/laws.FnImageHolds", spec := "fnImageHolds", inPlace := ["internal/bytealg.IndexByteString"], unfollowed := true, recurses := true, named := ["pub-marram/pub/hcsshim/ext4/inner/compactext4.xattrPrefixes"], apart := false, laid := [("pub-marram/pub/hcsshim/ext4/inner/compactext4.xattrPrefixes", laid_pub_marram_pub_hcsshim_ext4_inner_compactext4_xattrPrefixes)] }
def FnImageHoldsSaid : Prop := fnImageHoldsRow.holds Tryz.pinned (OpenSpec.ofChange fnImageHoldsSpec)

/-- ITS FALSE NEIGHBOUR: 'it returns false'. Refute it at one input. -/
def fnImageHoldsWrong : ChangeSpec := { name := "fnImageHolds", fn := fun _ => fun
  | [d1, d2, d3] => { results := [.lit (.bool false)], args := [d1, d2, d3] }
  | _ => none }
def FnImageHoldsWrongFalsely : Prop := fnImageHoldsRow.holds Tryz.pinned (OpenSpec.ofChange fnImageHoldsWrong)

/-- 'laws.FnImagePatched': WHATEVER THE INPUT: true; the input reads as it did. -/
def fnImagePatchedSpec : ChangeSpec := { name := "fnImagePatched", fn := fun _ => fun
  | [d1, d2] => { results := [.lit (.bool true)], args := [d1, d2] }
  | _ => none }
def fnImagePatchedRow : OpenClaim := { program := "ytollddkkdgoonaagreatdoor", sum := "3e89cd9a8ed542a0850d317265abd4d6c687c70a80b48151f5d1d3a1d1db4369", func := "pub-marram/laws.FnImagePatched", spec := "fnImagePatched", inPlace := ["internal/bytealg.IndexByteString"], unfollowed := true, recurses := true, named := ["pub-marram/pub/hcsshim/ext4/inner/compactext4.xattrPrefixes"], apart := false, laid := [("pub-marram/pub/hcsshim/ext4/inner/compactext4.xattrPrefixes", laid_pub_marram_pub_hcsshim_ext4_inner_compactext4_xattrPrefixes)] }
def FnImagePatchedSaid : Prop := fnImagePatchedRow.holds Tryz.pinned (OpenSpec.ofChange fnImagePatchedSpec)

/-- ITS FALSE NEIGHBOUR: 'it returns false'. Refute it at one input. -/
def fnImagePatchedWrong : ChangeSpec := { name := "fnImagePatched", fn := fun _ => fun
  | [d1, d2] => { results := [.lit (.bool false)], args := [d1, d2] }
  | _ => none }
def FnImagePatchedWrongFalsely : Prop := fnImagePatchedRow.holds Tryz.pinned (OpenSpec.ofChange fnImagePatchedWrong)

/-- 'laws.FnImageStats': WHATEVER THE INPUT: true; the input reads as it did. -/
def fnImageStatsSpec : ChangeSpec := { name := "fnImageStats", fn := fun _ => fun
  | [d1, d2, d3] => { results := [.lit (.bool true)], args := [d1, d2, d3] }
  | _ => none }
def fnImageStatsRow : OpenClaim := { program := "ytollddkkdgoonaagreatdoor", sum := "3e89cd9a8ed542a0850d317265abd4d6c687c70a80b48151f5d1d3a1d1db4369", func := "pub-marram/laws.FnImageStats", spec := "fnImageStats", inPlace := ["internal/bytealg.IndexByteString"], unfollowed := true, recurses := true, named := ["pub-marram/pub/hcsshim/ext4/inner/compactext4.xattrPrefixes"], apart := false, laid := [("pub-marram/pub/hcsshim/ext4/inner/compactext4.xattrPrefixes", laid_pub_marram_pub_hcsshim_ext4_inner_compactext4_xattrPrefixes)] }
def FnImageStatsSaid : Prop := fnImageStatsRow.holds Tryz.pinned (OpenSpec.ofChange fnImageStatsSpec)

/-- ITS FALSE NEIGHBOUR: 'it returns false'. Refute it at one input. -/
def fnImageStatsWrong : ChangeSpec := { name := "fnImageStats", fn := fun _ => fun
  | [d1, d2, d3] => { results := [.lit (.bool false)], args := [d1, d2, d3] }
  | _ => none }
def FnImageStatsWrongFalsely : Prop := fnImageStatsRow.holds Tryz.pinned (OpenSpec.ofChange fnImageStatsWrong)

/-- 'laws.FnPlanInImage': WHATEVER THE INPUT: true; the input reads as it did. -/
def fnPlanInImageSpec : ChangeSpec := { name := "fnPlanInImage", fn := fun _ => fun
  | [d1, d2] => { results := [.lit (.bool true)], args := [d1, d2] }
  | _ => none }
def fnPlanInImageRow : OpenClaim := { program := "ytollddkkdgoonaagreatdoor", sum := "3e89cd9a8ed542a0850d317265abd4d6c687c70a80b48151f5d1d3a1d1db4369", func := "pub-marram/laws.FnPlanInImage", spec := "fnPlanInImage", inPlace := ["internal/bytealg.IndexByteString"], unfollowed := true, recurses := true, named := ["pub-marram/pub/hcsshim/ext4/inner/compactext4.xattrPrefixes"], apart := false, laid := [("pub-marram/pub/hcsshim/ext4/inner/compactext4.xattrPrefixes", laid_pub_marram_pub_hcsshim_ext4_inner_compactext4_xattrPrefixes)] }
def FnPlanInImageSaid : Prop := fnPlanInImageRow.holds Tryz.pinned (OpenSpec.ofChange fnPlanInImageSpec)

/-- ITS FALSE NEIGHBOUR: 'it returns false'. Refute it at one input. -/
def fnPlanInImageWrong : ChangeSpec := { name := "fnPlanInImage", fn := fun _ => fun
  | [d1, d2] => { results := [.lit (.bool false)], args := [d1, d2] }
  | _ => none }
def FnPlanInImageWrongFalsely : Prop := fnPlanInImageRow.holds Tryz.pinned (OpenSpec.ofChange fnPlanInImageWrong)

/-- 'laws.FnVerityOfImage': WHATEVER THE INPUT: true; the input reads as it did. -/
def fnVerityOfImageSpec : ChangeSpec := { name := "fnVerityOfImage", fn := fun _ => fun
  | [d1, d2, d3] => { results := [.lit (.bool true)], args := [d1, d2, d3] }
  | _ => none }
def fnVerityOfImageRow : OpenClaim := { program := "ytollddkkdgoonaagreatdoor", sum := "3e89cd9a8ed542a0850d317265abd4d6c687c70a80b48151f5d1d3a1d1db4369", func := "pub-marram/laws.FnVerityOfImage", spec := "fnVerityOfImage", inPlace := ["internal/bytealg.IndexByteString"], unfollowed := true, recurses := true, named := ["pub-marram/pub/hcsshim/ext4/inner/compactext4.xattrPrefixes", "pub-marram/pub/hcsshim/ext4/dmverity.ErrSuperBlockReadFailure", "pub-marram/pub/hcsshim/ext4/dmverity.ErrRootHashReadFailure", "pub-marram/pub/hcsshim/ext4/dmverity.ErrNotVeritySuperBlock", "pub-marram/pub/hcsshim/ext4/dmverity.ErrSuperBlockParseFailure"], apart := false, laid := [("pub-marram/pub/hcsshim/ext4/dmverity.ErrSuperBlockReadFailure", laid_pub_marram_pub_hcsshim_ext4_dmverity_ErrSuperBlockReadFailure), ("pub-marram/pub/hcsshim/ext4/dmverity.ErrSuperBlockParseFailure", laid_pub_marram_pub_hcsshim_ext4_dmverity_ErrSuperBlockParseFailure), ("pub-marram/pub/hcsshim/ext4/dmverity.ErrRootHashReadFailure", laid_pub_marram_pub_hcsshim_ext4_dmverity_ErrRootHashReadFailure), ("pub-marram/pub/hcsshim/ext4/dmverity.ErrNotVeritySuperBlock", laid_pub_marram_pub_hcsshim_ext4_dmverity_ErrNotVeritySuperBlock), ("pub-marram/pub/hcsshim/ext4/inner/compactext4.xattrPrefixes", laid_pub_marram_pub_hcsshim_ext4_inner_compactext4_xattrPrefixes)] }
def FnVerityOfImageSaid : Prop := fnVerityOfImageRow.holds Tryz.pinned (OpenSpec.ofChange fnVerityOfImageSpec)

/-- ITS FALSE NEIGHBOUR: 'it returns false'. Refute it at one input. -/
def fnVerityOfImageWrong : ChangeSpec := { name := "fnVerityOfImage", fn := fun _ => fun
  | [d1, d2, d3] => { results := [.lit (.bool false)], args := [d1, d2, d3] }
  | _ => none }
def FnVerityOfImageWrongFalsely : Prop := fnVerityOfImageRow.holds Tryz.pinned (OpenSpec.ofChange fnVerityOfImageWrong)

/- THE SECOND FORM. 'bulk': how many values and letters a reading holds, each counted each time it is reached (what is shared counts as often as it is met; a slice's spare places count too). A statement '..UptoSaid' is the law's where the arguments, and the package variables that the reading takes, are together of bulk at most 1048576: NARROWER than '..Said'. Prove '..Said' where nothing that the law and all that it calls make is longer than what came in: it says more and counts as full. Else prove '..UptoSaid'. A law counts once. -/
mutual
def uptoBulk {H : Type} : DataW H → Nat
  | .lit (.string bytes) => bytes.length + 1
  | .lit _ => 1
  | .nil => 1
  | .ptr d => uptoBulk d + 1
  | .slice elems spare => uptoBulkAll elems + uptoBulkAll spare + 1
  | .agg parts => uptoBulkAll parts + 1
  | .iface _ d => uptoBulk d + 1
  | .map entries => uptoBulkEntries entries + 1
  | .held _ => 1
def uptoBulkAll {H : Type} : List (DataW H) → Nat
  | [] => 0
  | d :: r => uptoBulk d + uptoBulkAll r
def uptoBulkEntries {H : Type} : List (Lit × DataW H) → Nat
  | [] => 0
  | x :: r => uptoBulkEntry x + uptoBulkEntries r
def uptoBulkEntry {H : Type} : Lit × DataW H → Nat
  | (.string bytes, d) => bytes.length + uptoBulk d + 1
  | (_, d) => uptoBulk d + 1
 end
def uptoSmall : (H : Type) → List (DataW H) → Bool := fun _ ds => decide (uptoBulkAll ds ≤ 1048576)
def OpenSpec.upto (s : _root_.Go.ChangeSpec) : _root_.Go.OpenSpec := { _root_.Go.OpenSpec.ofChange s with cond := some uptoSmall }

/-- 'laws.FnImageAnew', WHERE WHAT IT READS IS OF BULK AT MOST 1048576: true; the input reads as it did. -/
def fnImageAnewUptoRow : OpenClaim := { program := "ytollddkkdgoonaagreatdoor", sum := "3e89cd9a8ed542a0850d317265abd4d6c687c70a80b48151f5d1d3a1d1db4369", func := "pub-marram/laws.FnImageAnew", spec := "fnImageAnew", inPlace := ["internal/bytealg.IndexByteString"], unfollowed := true, recurses := true, named := ["pub-marram/pub/hcsshim/ext4/inner/compactext4.xattrPrefixes"], apart := false, laid := [("pub-marram/pub/hcsshim/ext4/inner/compactext4.xattrPrefixes", laid_pub_marram_pub_hcsshim_ext4_inner_compactext4_xattrPrefixes)], narrowed := true }
def FnImageAnewUptoSaid : Prop := fnImageAnewUptoRow.holds Tryz.pinned (OpenSpec.upto fnImageAnewSpec)

/-- 'laws.FnImageCrowd', WHERE WHAT IT READS IS OF BULK AT MOST 1048576: true; the input reads as it did. -/
def fnImageCrowdUptoRow : OpenClaim := { program := "ytollddkkdgoonaagreatdoor", sum := "3e89cd9a8ed542a0850d317265abd4d6c687c70a80b48151f5d1d3a1d1db4369", func := "pub-marram/laws.FnImageCrowd", spec := "fnImageCrowd", inPlace := ["internal/bytealg.IndexByteString"], unfollowed := true, recurses := true, named := ["pub-marram/pub/hcsshim/ext4/inner/compactext4.xattrPrefixes"], apart := false, laid := [("pub-marram/pub/hcsshim/ext4/inner/compactext4.xattrPrefixes", laid_pub_marram_pub_hcsshim_ext4_inner_compactext4_xattrPrefixes)], narrowed := true }
def FnImageCrowdUptoSaid : Prop := fnImageCrowdUptoRow.holds Tryz.pinned (OpenSpec.upto fnImageCrowdSpec)

/-- 'laws.FnImageHolds', WHERE WHAT IT READS IS OF BULK AT MOST 1048576: true; the input reads as it did. -/
def fnImageHoldsUptoRow : OpenClaim := { program := "ytollddkkdgoonaagreatdoor", sum := "3e89cd9a8ed542a0850d317265abd4d6c687c70a80b48151f5d1d3a1d1db4369", func := "pub-marram/laws.FnImageHolds", spec := "fnImageHolds", inPlace := ["internal/bytealg.IndexByteString"], unfollowed := true, recurses := true, named := ["pub-marram/pub/hcsshim/ext4/inner/compactext4.xattrPrefixes"], apart := false, laid := [("pub-marram/pub/hcsshim/ext4/inner/compactext4.xattrPrefixes", laid_pub_marram_pub_hcsshim_ext4_inner_compactext4_xattrPrefixes)], narrowed := true }
def FnImageHoldsUptoSaid : Prop := fnImageHoldsUptoRow.holds Tryz.pinned (OpenSpec.upto fnImageHoldsSpec)

/-- 'laws.FnImagePatched', WHERE WHAT IT READS IS OF BULK AT MOST 1048576: true; the input reads as it did. -/
def fnImagePatchedUptoRow : OpenClaim := { program := "ytollddkkdgoonaagreatdoor", sum := "3e89cd9a8ed542a0850d317265abd4d6c687c70a80b48151f5d1d3a1d1db4369", func := "pub-marram/laws.FnImagePatched", spec := "fnImagePatched", inPlace := ["internal/bytealg.IndexByteString"], unfollowed := true, recurses := true, named := ["pub-marram/pub/hcsshim/ext4/inner/compactext4.xattrPrefixes"], apart := false, laid := [("pub-marram/pub/hcsshim/ext4/inner/compactext4.xattrPrefixes", laid_pub_marram_pub_hcsshim_ext4_inner_compactext4_xattrPrefixes)], narrowed := true }
def FnImagePatchedUptoSaid : Prop := fnImagePatchedUptoRow.holds Tryz.pinned (OpenSpec.upto fnImagePatchedSpec)

/-- 'laws.FnImageStats', WHERE WHAT IT READS IS OF BULK AT MOST 1048576: true; the input reads as it did. -/
def fnImageStatsUptoRow : OpenClaim := { program := "ytollddkkdgoonaagreatdoor", sum := "3e89cd9a8ed542a0850d317265abd4d6c687c70a80b48151f5d1d3a1d1db4369", func := "pub-marram/laws.FnImageStats", spec := "fnImageStats", inPlace := ["internal/bytealg.IndexByteString"], unfollowed := true, recurses := true, named := ["pub-marram/pub/hcsshim/ext4/inner/compactext4.xattrPrefixes"], apart := false, laid := [("pub-marram/pub/hcsshim/ext4/inner/compactext4.xattrPrefixes", laid_pub_marram_pub_hcsshim_ext4_inner_compactext4_xattrPrefixes)], narrowed := true }
def FnImageStatsUptoSaid : Prop := fnImageStatsUptoRow.holds Tryz.pinned (OpenSpec.upto fnImageStatsSpec)

/-- 'laws.FnPlanInImage', WHERE WHAT IT READS IS OF BULK AT MOST 1048576: true; the input reads as it did. -/
def fnPlanInImageUptoRow : OpenClaim := { program := "ytollddkkdgoonaagreatdoor", sum := "3e89cd9a8ed542a0850d317265abd4d6c687c70a80b48151f5d1d3a1d1db4369", func := "pub-marram/laws.FnPlanInImage", spec := "fnPlanInImage", inPlace := ["internal/bytealg.IndexByteString"], unfollowed := true, recurses := true, named := ["pub-marram/pub/hcsshim/ext4/inner/compactext4.xattrPrefixes"], apart := false, laid := [("pub-marram/pub/hcsshim/ext4/inner/compactext4.xattrPrefixes", laid_pub_marram_pub_hcsshim_ext4_inner_compactext4_xattrPrefixes)], narrowed := true }
def FnPlanInImageUptoSaid : Prop := fnPlanInImageUptoRow.holds Tryz.pinned (OpenSpec.upto fnPlanInImageSpec)

/-- 'laws.FnVerityOfImage', WHERE WHAT IT READS IS OF BULK AT MOST 1048576: true; the input reads as it did. -/
def fnVerityOfImageUptoRow : OpenClaim := { program := "ytollddkkdgoonaagreatdoor", sum := "3e89cd9a8ed542a0850d317265abd4d6c687c70a80b48151f5d1d3a1d1db4369", func := "pub-marram/laws.FnVerityOfImage", spec := "fnVerityOfImage", inPlace := ["internal/bytealg.IndexByteString"], unfollowed := true, recurses := true, named := ["pub-marram/pub/hcsshim/ext4/inner/compactext4.xattrPrefixes", "pub-marram/pub/hcsshim/ext4/dmverity.ErrSuperBlockReadFailure", "pub-marram/pub/hcsshim/ext4/dmverity.ErrRootHashReadFailure", "pub-marram/pub/hcsshim/ext4/dmverity.ErrNotVeritySuperBlock", "pub-marram/pub/hcsshim/ext4/dmverity.ErrSuperBlockParseFailure"], apart := false, laid := [("pub-marram/pub/hcsshim/ext4/dmverity.ErrSuperBlockReadFailure", laid_pub_marram_pub_hcsshim_ext4_dmverity_ErrSuperBlockReadFailure), ("pub-marram/pub/hcsshim/ext4/dmverity.ErrSuperBlockParseFailure", laid_pub_marram_pub_hcsshim_ext4_dmverity_ErrSuperBlockParseFailure), ("pub-marram/pub/hcsshim/ext4/dmverity.ErrRootHashReadFailure", laid_pub_marram_pub_hcsshim_ext4_dmverity_ErrRootHashReadFailure), ("pub-marram/pub/hcsshim/ext4/dmverity.ErrNotVeritySuperBlock", laid_pub_marram_pub_hcsshim_ext4_dmverity_ErrNotVeritySuperBlock), ("pub-marram/pub/hcsshim/ext4/inner/compactext4.xattrPrefixes", laid_pub_marram_pub_hcsshim_ext4_inner_compactext4_xattrPrefixes)], narrowed := true }
def FnVerityOfImageUptoSaid : Prop := fnVerityOfImageUptoRow.holds Tryz.pinned (OpenSpec.upto fnVerityOfImageSpec)

end Rows
end Go.Proofs.YtollddkkdgoonaaGreatDoor
