/-
  DERIVED. GIVEN WITH THE SEED: THE PROGRAM's TIES (one call each: nine closed facts by the kernel) AND EACH ROW's TIE, after the 31st guide's Derived/Test/Toyas{Tie, Card}.lean. No idea stands in it: it is a product of the set-up. Laid BY PROGRAM, IN A SANDBOX (cutbox-door.mjs). By AI agents, Wed Nov 11 2026. No macro, syntax, notation, axiom, sorry.
-/
import Derived.Test.YtollddkkdgoonaaGreatDoorRows
import Derived.LaidByTextLater
import Derived.SevenTiedAt
import Derived.LaidSub
import Derived.LaidOnce
namespace Go.Proofs.YtollddkkdgoonaaGreatDoor
open Go
set_option maxRecDepth 100000
theorem seatTie1 : Tryz.prog.laidByTextLater [("pub-marram/pub/hcsshim/ext4/dmverity.ErrSuperBlockReadFailure", Rows.laid_pub_marram_pub_hcsshim_ext4_dmverity_ErrSuperBlockReadFailure), ("pub-marram/pub/hcsshim/ext4/dmverity.ErrSuperBlockParseFailure", Rows.laid_pub_marram_pub_hcsshim_ext4_dmverity_ErrSuperBlockParseFailure), ("pub-marram/pub/hcsshim/ext4/dmverity.ErrRootHashReadFailure", Rows.laid_pub_marram_pub_hcsshim_ext4_dmverity_ErrRootHashReadFailure), ("pub-marram/pub/hcsshim/ext4/dmverity.ErrNotVeritySuperBlock", Rows.laid_pub_marram_pub_hcsshim_ext4_dmverity_ErrNotVeritySuperBlock), ("pub-marram/pub/hcsshim/ext4/inner/compactext4.xattrPrefixes", Rows.laid_pub_marram_pub_hcsshim_ext4_inner_compactext4_xattrPrefixes)] [.sentinel, .sentinel, .sentinel, .sentinel, .data] true :=
  Program.laidByTextLater_by_one 97 8 15 (by kernel_rfl) (by kernel_rfl) (by kernel_rfl) (by kernel_rfl) (by kernel_rfl) (by kernel_rfl) (fun _ _ => by kernel_rfl)
theorem noOwnUnsafe : Tryz.pinned.checked.prog.headLifts.contains "ownunsafe" = false := by kernel_rfl
theorem tie : Tryz.prog.laidByTextLater [("pub-marram/pub/hcsshim/ext4/inner/compactext4.xattrPrefixes", Rows.laid_pub_marram_pub_hcsshim_ext4_inner_compactext4_xattrPrefixes)] [.data] true :=
  Program.laidByTextLater.sub seatTie1 ["pub-marram/pub/hcsshim/ext4/inner/compactext4.xattrPrefixes"] (by kernel_rfl) (by kernel_rfl)
theorem fnImageAnew_row_tie : Rows.fnImageAnewRow.laidByTextAt .later Tryz.pinned [.data] true :=
  OpenClaim.laidByTextAt_later rfl rfl tie noOwnUnsafe
theorem fnImageCrowd_row_tie : Rows.fnImageCrowdRow.laidByTextAt .later Tryz.pinned [.data] true :=
  OpenClaim.laidByTextAt_later rfl rfl tie noOwnUnsafe
theorem fnImageHolds_row_tie : Rows.fnImageHoldsRow.laidByTextAt .later Tryz.pinned [.data] true :=
  OpenClaim.laidByTextAt_later rfl rfl tie noOwnUnsafe
theorem fnImagePatched_row_tie : Rows.fnImagePatchedRow.laidByTextAt .later Tryz.pinned [.data] true :=
  OpenClaim.laidByTextAt_later rfl rfl tie noOwnUnsafe
theorem fnImageStats_row_tie : Rows.fnImageStatsRow.laidByTextAt .later Tryz.pinned [.data] true :=
  OpenClaim.laidByTextAt_later rfl rfl tie noOwnUnsafe
theorem fnPlanInImage_row_tie : Rows.fnPlanInImageRow.laidByTextAt .later Tryz.pinned [.data] true :=
  OpenClaim.laidByTextAt_later rfl rfl tie noOwnUnsafe
theorem tie2 : Tryz.prog.laidByTextLater [("pub-marram/pub/hcsshim/ext4/dmverity.ErrSuperBlockReadFailure", Rows.laid_pub_marram_pub_hcsshim_ext4_dmverity_ErrSuperBlockReadFailure), ("pub-marram/pub/hcsshim/ext4/dmverity.ErrSuperBlockParseFailure", Rows.laid_pub_marram_pub_hcsshim_ext4_dmverity_ErrSuperBlockParseFailure), ("pub-marram/pub/hcsshim/ext4/dmverity.ErrRootHashReadFailure", Rows.laid_pub_marram_pub_hcsshim_ext4_dmverity_ErrRootHashReadFailure), ("pub-marram/pub/hcsshim/ext4/dmverity.ErrNotVeritySuperBlock", Rows.laid_pub_marram_pub_hcsshim_ext4_dmverity_ErrNotVeritySuperBlock), ("pub-marram/pub/hcsshim/ext4/inner/compactext4.xattrPrefixes", Rows.laid_pub_marram_pub_hcsshim_ext4_inner_compactext4_xattrPrefixes)] [.sentinel, .sentinel, .sentinel, .sentinel, .data] true :=
  Program.laidByTextLater.sub seatTie1 ["pub-marram/pub/hcsshim/ext4/dmverity.ErrSuperBlockReadFailure", "pub-marram/pub/hcsshim/ext4/dmverity.ErrSuperBlockParseFailure", "pub-marram/pub/hcsshim/ext4/dmverity.ErrRootHashReadFailure", "pub-marram/pub/hcsshim/ext4/dmverity.ErrNotVeritySuperBlock", "pub-marram/pub/hcsshim/ext4/inner/compactext4.xattrPrefixes"] (by kernel_rfl) (by kernel_rfl)
theorem fnVerityOfImage_row_tie : Rows.fnVerityOfImageRow.laidByTextAt .later Tryz.pinned [.sentinel, .sentinel, .sentinel, .sentinel, .data] true :=
  OpenClaim.laidByTextAt_later rfl rfl tie2 noOwnUnsafe
theorem fnImageAnewUpto_row_tie : Rows.fnImageAnewUptoRow.laidByTextAt .later Tryz.pinned [.data] true :=
  OpenClaim.laidByTextAt_later rfl rfl tie noOwnUnsafe
theorem fnImageCrowdUpto_row_tie : Rows.fnImageCrowdUptoRow.laidByTextAt .later Tryz.pinned [.data] true :=
  OpenClaim.laidByTextAt_later rfl rfl tie noOwnUnsafe
theorem fnImageHoldsUpto_row_tie : Rows.fnImageHoldsUptoRow.laidByTextAt .later Tryz.pinned [.data] true :=
  OpenClaim.laidByTextAt_later rfl rfl tie noOwnUnsafe
theorem fnImagePatchedUpto_row_tie : Rows.fnImagePatchedUptoRow.laidByTextAt .later Tryz.pinned [.data] true :=
  OpenClaim.laidByTextAt_later rfl rfl tie noOwnUnsafe
theorem fnImageStatsUpto_row_tie : Rows.fnImageStatsUptoRow.laidByTextAt .later Tryz.pinned [.data] true :=
  OpenClaim.laidByTextAt_later rfl rfl tie noOwnUnsafe
theorem fnPlanInImageUpto_row_tie : Rows.fnPlanInImageUptoRow.laidByTextAt .later Tryz.pinned [.data] true :=
  OpenClaim.laidByTextAt_later rfl rfl tie noOwnUnsafe
theorem fnVerityOfImageUpto_row_tie : Rows.fnVerityOfImageUptoRow.laidByTextAt .later Tryz.pinned [.sentinel, .sentinel, .sentinel, .sentinel, .data] true :=
  OpenClaim.laidByTextAt_later rfl rfl tie2 noOwnUnsafe
end Go.Proofs.YtollddkkdgoonaaGreatDoor
