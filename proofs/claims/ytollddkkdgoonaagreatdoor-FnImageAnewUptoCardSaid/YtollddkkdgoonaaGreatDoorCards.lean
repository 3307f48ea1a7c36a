/-
  DERIVED. GIVEN WITH THE SEED: THE CARDS: each row of YtollddkkdgoonaaGreatDoorRows.lean that lists a variable, with what it lists TIED to the program's text (the seventh form; the later family's looks); each row that meets fmt, with fmt's text TOLD by the authors' own Lean function (tested against real Go, not proved from fmt's source: count such statements apart). THE CARD IS WHAT COUNTS. Prove the row's statement (the work); the ties are given (YtollddkkdgoonaaGreatDoorTie.lean); close each card by the builder's one call (the guide's Derived/Test/ToyasCard.lean, 'card_holds'). Laid BY PROGRAM, IN A SANDBOX (cutbox-door.mjs). By AI agents, Wed Nov 11 2026. No macro, syntax, notation, axiom, sorry.
-/
import Derived.Test.YtollddkkdgoonaaGreatDoorRows
import GoSem.ClaimSeven
namespace Go.Proofs.YtollddkkdgoonaaGreatDoor
namespace Rows

/-- THE TIED CARD OF 'laws.FnImageAnew'. -/
def fnImageAnewCard : Claim7 := { stood := { row := fnImageAnewRow, standIns := [], harness := (true, "67964e39f1ba97bd2f774f05300e149eb55feb4713c4e1665691a204b1ef3006"), looks := true }, kinds := [], alts := [], laidByText := true, laidKinds := [.data], laidTests := true, laidLooks := .later }
def FnImageAnewCardSaid : Prop := Claim7.holds Tryz.pinned (.plain (OpenSpec.ofChange fnImageAnewSpec)) fnImageAnewCard

/-- THE TIED CARD OF 'laws.FnImageCrowd'. -/
def fnImageCrowdCard : Claim7 := { stood := { row := fnImageCrowdRow, standIns := [], harness := (true, "67964e39f1ba97bd2f774f05300e149eb55feb4713c4e1665691a204b1ef3006"), looks := true }, kinds := [], alts := [], laidByText := true, laidKinds := [.data], laidTests := true, laidLooks := .later }
def FnImageCrowdCardSaid : Prop := Claim7.holds Tryz.pinned (.plain (OpenSpec.ofChange fnImageCrowdSpec)) fnImageCrowdCard

/-- THE TIED CARD OF 'laws.FnImageHolds'. -/
def fnImageHoldsCard : Claim7 := { stood := { row := fnImageHoldsRow, standIns := [], harness := (true, "67964e39f1ba97bd2f774f05300e149eb55feb4713c4e1665691a204b1ef3006"), looks := true }, kinds := [], alts := [], laidByText := true, laidKinds := [.data], laidTests := true, laidLooks := .later }
def FnImageHoldsCardSaid : Prop := Claim7.holds Tryz.pinned (.plain (OpenSpec.ofChange fnImageHoldsSpec)) fnImageHoldsCard

/-- THE TIED CARD OF 'laws.FnImagePatched'. -/
def fnImagePatchedCard : Claim7 := { stood := { row := fnImagePatchedRow, standIns := [], harness := (true, "67964e39f1ba97bd2f774f05300e149eb55feb4713c4e1665691a204b1ef3006"), looks := true }, kinds := [], alts := [], laidByText := true, laidKinds := [.data], laidTests := true, laidLooks := .later }
def FnImagePatchedCardSaid : Prop := Claim7.holds Tryz.pinned (.plain (OpenSpec.ofChange fnImagePatchedSpec)) fnImagePatchedCard

/-- THE TIED CARD OF 'laws.FnImageStats'. -/
def fnImageStatsCard : Claim7 := { stood := { row := fnImageStatsRow, standIns := [], harness := (true, "67964e39f1ba97bd2f774f05300e149eb55feb4713c4e1665691a204b1ef3006"), looks := true }, kinds := [], alts := [], laidByText := true, laidKinds := [.data], laidTests := true, laidLooks := .later }
def FnImageStatsCardSaid : Prop := Claim7.holds Tryz.pinned (.plain (OpenSpec.ofChange fnImageStatsSpec)) fnImageStatsCard

/-- THE TIED CARD OF 'laws.FnPlanInImage'. -/
def fnPlanInImageCard : Claim7 := { stood := { row := fnPlanInImageRow, standIns := [], harness := (true, "67964e39f1ba97bd2f774f05300e149eb55feb4713c4e1665691a204b1ef3006"), looks := true }, kinds := [], alts := [], laidByText := true, laidKinds := [.data], laidTests := true, laidLooks := .later }
def FnPlanInImageCardSaid : Prop := Claim7.holds Tryz.pinned (.plain (OpenSpec.ofChange fnPlanInImageSpec)) fnPlanInImageCard

/-- THE TIED CARD OF 'laws.FnVerityOfImage'. -/
def fnVerityOfImageCard : Claim7 := { stood := { row := fnVerityOfImageRow, standIns := [], harness := (true, "67964e39f1ba97bd2f774f05300e149eb55feb4713c4e1665691a204b1ef3006"), looks := true }, kinds := [], alts := [], laidByText := true, laidKinds := [.sentinel, .sentinel, .sentinel, .sentinel, .data], laidTests := true, laidLooks := .later }
def FnVerityOfImageCardSaid : Prop := Claim7.holds Tryz.pinned (.plain (OpenSpec.ofChange fnVerityOfImageSpec)) fnVerityOfImageCard

/-- THE SECOND FORM's CARD OF 'laws.FnImageAnew'. -/
def fnImageAnewUptoCard : Claim7 := { stood := { row := fnImageAnewUptoRow, standIns := [], harness := (true, "67964e39f1ba97bd2f774f05300e149eb55feb4713c4e1665691a204b1ef3006"), looks := true }, kinds := [], alts := [], laidByText := true, laidKinds := [.data], laidTests := true, laidLooks := .later }
def FnImageAnewUptoCardSaid : Prop := Claim7.holds Tryz.pinned (.plain (OpenSpec.upto fnImageAnewSpec)) fnImageAnewUptoCard

/-- THE SECOND FORM's CARD OF 'laws.FnImageCrowd'. -/
def fnImageCrowdUptoCard : Claim7 := { stood := { row := fnImageCrowdUptoRow, standIns := [], harness := (true, "67964e39f1ba97bd2f774f05300e149eb55feb4713c4e1665691a204b1ef3006"), looks := true }, kinds := [], alts := [], laidByText := true, laidKinds := [.data], laidTests := true, laidLooks := .later }
def FnImageCrowdUptoCardSaid : Prop := Claim7.holds Tryz.pinned (.plain (OpenSpec.upto fnImageCrowdSpec)) fnImageCrowdUptoCard

/-- THE SECOND FORM's CARD OF 'laws.FnImageHolds'. -/
def fnImageHoldsUptoCard : Claim7 := { stood := { row := fnImageHoldsUptoRow, standIns := [], harness := (true, "67964e39f1ba97bd2f774f05300e149eb55feb4713c4e1665691a204b1ef3006"), looks := true }, kinds := [], alts := [], laidByText := true, laidKinds := [.data], laidTests := true, laidLooks := .later }
def FnImageHoldsUptoCardSaid : Prop := Claim7.holds Tryz.pinned (.plain (OpenSpec.upto fnImageHoldsSpec)) fnImageHoldsUptoCard

/-- THE SECOND FORM's CARD OF 'laws.FnImagePatched'. -/
def fnImagePatchedUptoCard : Claim7 := { stood := { row := fnImagePatchedUptoRow, standIns := [], harness := (true, "67964e39f1ba97bd2f774f05300e149eb55feb4713c4e1665691a204b1ef3006"), looks := true }, kinds := [], alts := [], laidByText := true, laidKinds := [.data], laidTests := true, laidLooks := .later }
def FnImagePatchedUptoCardSaid : Prop := Claim7.holds Tryz.pinned (.plain (OpenSpec.upto fnImagePatchedSpec)) fnImagePatchedUptoCard

/-- THE SECOND FORM's CARD OF 'laws.FnImageStats'. -/
def fnImageStatsUptoCard : Claim7 := { stood := { row := fnImageStatsUptoRow, standIns := [], harness := (true, "67964e39f1ba97bd2f774f05300e149eb55feb4713c4e1665691a204b1ef3006"), looks := true }, kinds := [], alts := [], laidByText := true, laidKinds := [.data], laidTests := true, laidLooks := .later }
def FnImageStatsUptoCardSaid : Prop := Claim7.holds Tryz.pinned (.plain (OpenSpec.upto fnImageStatsSpec)) fnImageStatsUptoCard

/-- THE SECOND FORM's CARD OF 'laws.FnPlanInImage'. -/
def fnPlanInImageUptoCard : Claim7 := { stood := { row := fnPlanInImageUptoRow, standIns := [], harness := (true, "67964e39f1ba97bd2f774f05300e149eb55feb4713c4e1665691a204b1ef3006"), looks := true }, kinds := [], alts := [], laidByText := true, laidKinds := [.data], laidTests := true, laidLooks := .later }
def FnPlanInImageUptoCardSaid : Prop := Claim7.holds Tryz.pinned (.plain (OpenSpec.upto fnPlanInImageSpec)) fnPlanInImageUptoCard

/-- THE SECOND FORM's CARD OF 'laws.FnVerityOfImage'. -/
def fnVerityOfImageUptoCard : Claim7 := { stood := { row := fnVerityOfImageUptoRow, standIns := [], harness := (true, "67964e39f1ba97bd2f774f05300e149eb55feb4713c4e1665691a204b1ef3006"), looks := true }, kinds := [], alts := [], laidByText := true, laidKinds := [.sentinel, .sentinel, .sentinel, .sentinel, .data], laidTests := true, laidLooks := .later }
def FnVerityOfImageUptoCardSaid : Prop := Claim7.holds Tryz.pinned (.plain (OpenSpec.upto fnVerityOfImageSpec)) fnVerityOfImageUptoCard
end Rows
end Go.Proofs.YtollddkkdgoonaaGreatDoor
