/-
  DERIVED. GIVEN WITH THE SEED: THE CARDS: each row of YtpfabgmoadljnaaDoorRows.lean that lists a variable, with what it lists TIED to the program's text (the seventh form; the later family's looks); each row that meets fmt, with fmt's text TOLD by the authors' own Lean function (tested against real Go, not proved from fmt's source: count such statements apart). THE CARD IS WHAT COUNTS. Prove the row's statement (the work); the ties are given (YtpfabgmoadljnaaDoorTie.lean); close each card by the builder's one call (the guide's Derived/Test/ToyasCard.lean, 'card_holds'). Laid BY PROGRAM, IN A SANDBOX (cutbox-door.mjs). By AI agents, Wed Nov 11 2026. No macro, syntax, notation, axiom, sorry.
-/
import Derived.Test.YtpfabgmoadljnaaDoorRows
import GoSem.ClaimSeven
namespace Go.Proofs.YtpfabgmoadljnaaDoor
namespace Rows

/-- THE TIED CARD OF 'laws.FnToNTT'. -/
def fnToNTTCard : Claim7 := { stood := { row := fnToNTTRow, standIns := [], harness := (true, "6df9834dc5dc11c608a87b517ff7396d9872da7b58d956b9f9c4346ab204b07c"), looks := false }, kinds := [], alts := [], laidByText := true, laidKinds := [.data], laidTests := true, laidLooks := .later }
def FnToNTTCardSaid : Prop := Claim7.holds Tryd.pinned (.plain (OpenSpec.ofChange fnToNTTSpec)) fnToNTTCard

/-- THE TIED CARD OF 'laws.FnFromNTT'. -/
def fnFromNTTCard : Claim7 := { stood := { row := fnFromNTTRow, standIns := [], harness := (true, "6df9834dc5dc11c608a87b517ff7396d9872da7b58d956b9f9c4346ab204b07c"), looks := false }, kinds := [], alts := [], laidByText := true, laidKinds := [.data], laidTests := true, laidLooks := .later }
def FnFromNTTCardSaid : Prop := Claim7.holds Tryd.pinned (.plain (OpenSpec.ofChange fnFromNTTSpec)) fnFromNTTCard

/-- THE TIED CARD OF 'laws.FnNTTLinear'. -/
def fnNTTLinearCard : Claim7 := { stood := { row := fnNTTLinearRow, standIns := [], harness := (true, "6df9834dc5dc11c608a87b517ff7396d9872da7b58d956b9f9c4346ab204b07c"), looks := false }, kinds := [], alts := [], laidByText := true, laidKinds := [.data], laidTests := true, laidLooks := .later }
def FnNTTLinearCardSaid : Prop := Claim7.holds Tryd.pinned (.plain (OpenSpec.ofChange fnNTTLinearSpec)) fnNTTLinearCard

/-- THE TIED CARD OF 'laws.FnT1Hat'. -/
def fnT1HatCard : Claim7 := { stood := { row := fnT1HatRow, standIns := [], harness := (true, "6df9834dc5dc11c608a87b517ff7396d9872da7b58d956b9f9c4346ab204b07c"), looks := false }, kinds := [], alts := [], laidByText := true, laidKinds := [.sentinel, .data], laidTests := true, laidLooks := .later }
def FnT1HatCardSaid : Prop := Claim7.holds Tryd.pinned (.plain (OpenSpec.ofChange fnT1HatSpec)) fnT1HatCard

/-- THE TIED CARD OF 'laws.FnNTTBack'. -/
def fnNTTBackCard : Claim7 := { stood := { row := fnNTTBackRow, standIns := [], harness := (true, "6df9834dc5dc11c608a87b517ff7396d9872da7b58d956b9f9c4346ab204b07c"), looks := false }, kinds := [], alts := [], laidByText := true, laidKinds := [.data], laidTests := true, laidLooks := .later }
def FnNTTBackCardSaid : Prop := Claim7.holds Tryd.pinned (.plain (OpenSpec.ofChange fnNTTBackSpec)) fnNTTBackCard

/-- THE TIED CARD OF 'laws.FnNTTProduct'. -/
def fnNTTProductCard : Claim7 := { stood := { row := fnNTTProductRow, standIns := [], harness := (true, "6df9834dc5dc11c608a87b517ff7396d9872da7b58d956b9f9c4346ab204b07c"), looks := false }, kinds := [], alts := [], laidByText := true, laidKinds := [.data], laidTests := true, laidLooks := .later }
def FnNTTProductCardSaid : Prop := Claim7.holds Tryd.pinned (.plain (OpenSpec.ofChange fnNTTProductSpec)) fnNTTProductCard

/-- THE SECOND FORM's CARD OF 'laws.FnToNTT'. -/
def fnToNTTUptoCard : Claim7 := { stood := { row := fnToNTTUptoRow, standIns := [], harness := (true, "6df9834dc5dc11c608a87b517ff7396d9872da7b58d956b9f9c4346ab204b07c"), looks := false }, kinds := [], alts := [], laidByText := true, laidKinds := [.data], laidTests := true, laidLooks := .later }
def FnToNTTUptoCardSaid : Prop := Claim7.holds Tryd.pinned (.plain (OpenSpec.upto fnToNTTSpec)) fnToNTTUptoCard

/-- THE SECOND FORM's CARD OF 'laws.FnFromNTT'. -/
def fnFromNTTUptoCard : Claim7 := { stood := { row := fnFromNTTUptoRow, standIns := [], harness := (true, "6df9834dc5dc11c608a87b517ff7396d9872da7b58d956b9f9c4346ab204b07c"), looks := false }, kinds := [], alts := [], laidByText := true, laidKinds := [.data], laidTests := true, laidLooks := .later }
def FnFromNTTUptoCardSaid : Prop := Claim7.holds Tryd.pinned (.plain (OpenSpec.upto fnFromNTTSpec)) fnFromNTTUptoCard

/-- THE SECOND FORM's CARD OF 'laws.FnNTTLinear'. -/
def fnNTTLinearUptoCard : Claim7 := { stood := { row := fnNTTLinearUptoRow, standIns := [], harness := (true, "6df9834dc5dc11c608a87b517ff7396d9872da7b58d956b9f9c4346ab204b07c"), looks := false }, kinds := [], alts := [], laidByText := true, laidKinds := [.data], laidTests := true, laidLooks := .later }
def FnNTTLinearUptoCardSaid : Prop := Claim7.holds Tryd.pinned (.plain (OpenSpec.upto fnNTTLinearSpec)) fnNTTLinearUptoCard

/-- THE SECOND FORM's CARD OF 'laws.FnT1Hat'. -/
def fnT1HatUptoCard : Claim7 := { stood := { row := fnT1HatUptoRow, standIns := [], harness := (true, "6df9834dc5dc11c608a87b517ff7396d9872da7b58d956b9f9c4346ab204b07c"), looks := false }, kinds := [], alts := [], laidByText := true, laidKinds := [.sentinel, .data], laidTests := true, laidLooks := .later }
def FnT1HatUptoCardSaid : Prop := Claim7.holds Tryd.pinned (.plain (OpenSpec.upto fnT1HatSpec)) fnT1HatUptoCard

/-- THE SECOND FORM's CARD OF 'laws.FnNTTBack'. -/
def fnNTTBackUptoCard : Claim7 := { stood := { row := fnNTTBackUptoRow, standIns := [], harness := (true, "6df9834dc5dc11c608a87b517ff7396d9872da7b58d956b9f9c4346ab204b07c"), looks := false }, kinds := [], alts := [], laidByText := true, laidKinds := [.data], laidTests := true, laidLooks := .later }
def FnNTTBackUptoCardSaid : Prop := Claim7.holds Tryd.pinned (.plain (OpenSpec.upto fnNTTBackSpec)) fnNTTBackUptoCard

/-- THE SECOND FORM's CARD OF 'laws.FnNTTProduct'. -/
def fnNTTProductUptoCard : Claim7 := { stood := { row := fnNTTProductUptoRow, standIns := [], harness := (true, "6df9834dc5dc11c608a87b517ff7396d9872da7b58d956b9f9c4346ab204b07c"), looks := false }, kinds := [], alts := [], laidByText := true, laidKinds := [.data], laidTests := true, laidLooks := .later }
def FnNTTProductUptoCardSaid : Prop := Claim7.holds Tryd.pinned (.plain (OpenSpec.upto fnNTTProductSpec)) fnNTTProductUptoCard
end Rows
end Go.Proofs.YtpfabgmoadljnaaDoor
