/-
  DERIVED. GIVEN WITH THE SEED: THE CARDS: each row of YtkckbfjimlmjhaaDoorRows.lean that lists a variable, with what it lists TIED to the program's text (the seventh form; the later family's looks); each row that meets fmt, with fmt's text TOLD by the authors' own Lean function (tested against real Go, not proved from fmt's source: count such statements apart). THE CARD IS WHAT COUNTS. Prove the row's statement (the work); the ties are given (YtkckbfjimlmjhaaDoorTie.lean); close each card by the builder's one call (the guide's Derived/Test/ToyasCard.lean, 'card_holds'). Laid BY PROGRAM, IN A SANDBOX (cutbox-door.mjs). By AI agents, Wed Nov 11 2026. No macro, syntax, notation, axiom, sorry.
-/
import Derived.Test.YtkckbfjimlmjhaaDoorRows
import GoSem.ClaimSeven
namespace Go.Proofs.YtkckbfjimlmjhaaDoor
namespace Rows

/-- THE TIED CARD OF 'laws.FnHighBits'. -/
def fnHighBitsCard : Claim7 := { stood := { row := fnHighBitsRow, standIns := [], harness := (true, "dba5fedb640a0bbac1c271df7b69ccb72679d5602707f97e29807f1797e157ac"), looks := false }, kinds := [], alts := [], laidByText := true, laidKinds := [.data, .data, .data], laidTests := true, laidLooks := .later }
def FnHighBitsCardSaid : Prop := Claim7.holds Tryd.pinned (.plain (OpenSpec.ofChange fnHighBitsSpec)) fnHighBitsCard

/-- THE TIED CARD OF 'laws.FnUseHint'. -/
def fnUseHintCard : Claim7 := { stood := { row := fnUseHintRow, standIns := [], harness := (true, "dba5fedb640a0bbac1c271df7b69ccb72679d5602707f97e29807f1797e157ac"), looks := false }, kinds := [], alts := [], laidByText := true, laidKinds := [.data, .data, .data], laidTests := true, laidLooks := .later }
def FnUseHintCardSaid : Prop := Claim7.holds Tryd.pinned (.plain (OpenSpec.ofChange fnUseHintSpec)) fnUseHintCard

/-- THE TIED CARD OF 'laws.FnMakeHint'. -/
def fnMakeHintCard : Claim7 := { stood := { row := fnMakeHintRow, standIns := [], harness := (true, "dba5fedb640a0bbac1c271df7b69ccb72679d5602707f97e29807f1797e157ac"), looks := false }, kinds := [], alts := [], laidByText := true, laidKinds := [.data, .data, .data], laidTests := true, laidLooks := .later }
def FnMakeHintCardSaid : Prop := Claim7.holds Tryd.pinned (.plain (OpenSpec.ofChange fnMakeHintSpec)) fnMakeHintCard

/-- THE TIED CARD OF 'laws.FnLowBitsExceedBound'. -/
def fnLowBitsExceedBoundCard : Claim7 := { stood := { row := fnLowBitsExceedBoundRow, standIns := [], harness := (true, "dba5fedb640a0bbac1c271df7b69ccb72679d5602707f97e29807f1797e157ac"), looks := false }, kinds := [], alts := [], laidByText := true, laidKinds := [.data, .data, .data], laidTests := true, laidLooks := .later }
def FnLowBitsExceedBoundCardSaid : Prop := Claim7.holds Tryd.pinned (.plain (OpenSpec.ofChange fnLowBitsExceedBoundSpec)) fnLowBitsExceedBoundCard

/-- THE SECOND FORM's CARD OF 'laws.FnHighBits'. -/
def fnHighBitsUptoCard : Claim7 := { stood := { row := fnHighBitsUptoRow, standIns := [], harness := (true, "dba5fedb640a0bbac1c271df7b69ccb72679d5602707f97e29807f1797e157ac"), looks := false }, kinds := [], alts := [], laidByText := true, laidKinds := [.data, .data, .data], laidTests := true, laidLooks := .later }
def FnHighBitsUptoCardSaid : Prop := Claim7.holds Tryd.pinned (.plain (OpenSpec.upto fnHighBitsSpec)) fnHighBitsUptoCard

/-- THE SECOND FORM's CARD OF 'laws.FnUseHint'. -/
def fnUseHintUptoCard : Claim7 := { stood := { row := fnUseHintUptoRow, standIns := [], harness := (true, "dba5fedb640a0bbac1c271df7b69ccb72679d5602707f97e29807f1797e157ac"), looks := false }, kinds := [], alts := [], laidByText := true, laidKinds := [.data, .data, .data], laidTests := true, laidLooks := .later }
def FnUseHintUptoCardSaid : Prop := Claim7.holds Tryd.pinned (.plain (OpenSpec.upto fnUseHintSpec)) fnUseHintUptoCard

/-- THE SECOND FORM's CARD OF 'laws.FnMakeHint'. -/
def fnMakeHintUptoCard : Claim7 := { stood := { row := fnMakeHintUptoRow, standIns := [], harness := (true, "dba5fedb640a0bbac1c271df7b69ccb72679d5602707f97e29807f1797e157ac"), looks := false }, kinds := [], alts := [], laidByText := true, laidKinds := [.data, .data, .data], laidTests := true, laidLooks := .later }
def FnMakeHintUptoCardSaid : Prop := Claim7.holds Tryd.pinned (.plain (OpenSpec.upto fnMakeHintSpec)) fnMakeHintUptoCard

/-- THE SECOND FORM's CARD OF 'laws.FnLowBitsExceedBound'. -/
def fnLowBitsExceedBoundUptoCard : Claim7 := { stood := { row := fnLowBitsExceedBoundUptoRow, standIns := [], harness := (true, "dba5fedb640a0bbac1c271df7b69ccb72679d5602707f97e29807f1797e157ac"), looks := false }, kinds := [], alts := [], laidByText := true, laidKinds := [.data, .data, .data], laidTests := true, laidLooks := .later }
def FnLowBitsExceedBoundUptoCardSaid : Prop := Claim7.holds Tryd.pinned (.plain (OpenSpec.upto fnLowBitsExceedBoundSpec)) fnLowBitsExceedBoundUptoCard
end Rows
end Go.Proofs.YtkckbfjimlmjhaaDoor
