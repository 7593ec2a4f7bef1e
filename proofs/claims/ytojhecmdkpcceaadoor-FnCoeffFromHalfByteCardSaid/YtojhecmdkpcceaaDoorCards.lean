/-
  DERIVED. GIVEN WITH THE SEED: THE CARDS: each row of YtojhecmdkpcceaaDoorRows.lean that lists a variable, with what it lists TIED to the program's text (the seventh form; the later family's looks); each row that meets fmt, with fmt's text TOLD by the authors' own Lean function (tested against real Go, not proved from fmt's source: count such statements apart). THE CARD IS WHAT COUNTS. Prove the row's statement (the work); the ties are given (YtojhecmdkpcceaaDoorTie.lean); close each card by the builder's one call (the guide's Derived/Test/ToyasCard.lean, 'card_holds'). Laid BY PROGRAM, IN A SANDBOX (cutbox-door.mjs). By AI agents, Wed Nov 11 2026. No macro, syntax, notation, axiom, sorry.
-/
import Derived.Test.YtojhecmdkpcceaaDoorRows
import GoSem.ClaimSeven
namespace Go.Proofs.YtojhecmdkpcceaaDoor
namespace Rows

/-- THE TIED CARD OF 'laws.FnToMontgomery'. -/
def fnToMontgomeryCard : Claim7 := { stood := { row := fnToMontgomeryRow, standIns := [], harness := (true, "1830e2dcaf00b0dc0a264a7fe96720d1921ed87bf09ff9d38272b220d02d8262"), looks := false }, kinds := [], alts := [], laidByText := true, laidKinds := [.sentinel], laidTests := true, laidLooks := .later }
def FnToMontgomeryCardSaid : Prop := Claim7.holds Tryd.pinned (.plain (OpenSpec.ofChange fnToMontgomerySpec)) fnToMontgomeryCard

/-- THE TIED CARD OF 'laws.FnMontgomeryBack'. -/
def fnMontgomeryBackCard : Claim7 := { stood := { row := fnMontgomeryBackRow, standIns := [], harness := (true, "1830e2dcaf00b0dc0a264a7fe96720d1921ed87bf09ff9d38272b220d02d8262"), looks := false }, kinds := [], alts := [], laidByText := true, laidKinds := [.sentinel], laidTests := true, laidLooks := .later }
def FnMontgomeryBackCardSaid : Prop := Claim7.holds Tryd.pinned (.plain (OpenSpec.ofChange fnMontgomeryBackSpec)) fnMontgomeryBackCard

/-- THE TIED CARD OF 'laws.FnCoeffFromHalfByte'. -/
def fnCoeffFromHalfByteCard : Claim7 := { stood := { row := fnCoeffFromHalfByteRow, standIns := [], harness := (true, "1830e2dcaf00b0dc0a264a7fe96720d1921ed87bf09ff9d38272b220d02d8262"), looks := false }, kinds := [], alts := [], laidByText := true, laidKinds := [.data, .data, .data], laidTests := true, laidLooks := .later }
def FnCoeffFromHalfByteCardSaid : Prop := Claim7.holds Tryd.pinned (.plain (OpenSpec.ofChange fnCoeffFromHalfByteSpec)) fnCoeffFromHalfByteCard

/-- THE SECOND FORM's CARD OF 'laws.FnToMontgomery'. -/
def fnToMontgomeryUptoCard : Claim7 := { stood := { row := fnToMontgomeryUptoRow, standIns := [], harness := (true, "1830e2dcaf00b0dc0a264a7fe96720d1921ed87bf09ff9d38272b220d02d8262"), looks := false }, kinds := [], alts := [], laidByText := true, laidKinds := [.sentinel], laidTests := true, laidLooks := .later }
def FnToMontgomeryUptoCardSaid : Prop := Claim7.holds Tryd.pinned (.plain (OpenSpec.upto fnToMontgomerySpec)) fnToMontgomeryUptoCard

/-- THE SECOND FORM's CARD OF 'laws.FnMontgomeryBack'. -/
def fnMontgomeryBackUptoCard : Claim7 := { stood := { row := fnMontgomeryBackUptoRow, standIns := [], harness := (true, "1830e2dcaf00b0dc0a264a7fe96720d1921ed87bf09ff9d38272b220d02d8262"), looks := false }, kinds := [], alts := [], laidByText := true, laidKinds := [.sentinel], laidTests := true, laidLooks := .later }
def FnMontgomeryBackUptoCardSaid : Prop := Claim7.holds Tryd.pinned (.plain (OpenSpec.upto fnMontgomeryBackSpec)) fnMontgomeryBackUptoCard

/-- THE SECOND FORM's CARD OF 'laws.FnCoeffFromHalfByte'. -/
def fnCoeffFromHalfByteUptoCard : Claim7 := { stood := { row := fnCoeffFromHalfByteUptoRow, standIns := [], harness := (true, "1830e2dcaf00b0dc0a264a7fe96720d1921ed87bf09ff9d38272b220d02d8262"), looks := false }, kinds := [], alts := [], laidByText := true, laidKinds := [.data, .data, .data], laidTests := true, laidLooks := .later }
def FnCoeffFromHalfByteUptoCardSaid : Prop := Claim7.holds Tryd.pinned (.plain (OpenSpec.upto fnCoeffFromHalfByteSpec)) fnCoeffFromHalfByteUptoCard
end Rows
end Go.Proofs.YtojhecmdkpcceaaDoor
