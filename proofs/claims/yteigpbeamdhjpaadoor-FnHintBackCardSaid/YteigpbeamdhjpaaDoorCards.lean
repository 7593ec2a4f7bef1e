/-
  DERIVED. GIVEN WITH THE SEED: THE CARDS: each row of YteigpbeamdhjpaaDoorRows.lean that lists a variable, with what it lists TIED to the program's text (the seventh form; the later family's looks); each row that meets fmt, with fmt's text TOLD by the authors' own Lean function (tested against real Go, not proved from fmt's source: count such statements apart). THE CARD IS WHAT COUNTS. Prove the row's statement (the work); the ties are given (YteigpbeamdhjpaaDoorTie.lean); close each card by the builder's one call (the guide's Derived/Test/ToyasCard.lean, 'card_holds'). Laid BY PROGRAM, IN A SANDBOX (cutbox-door.mjs). By AI agents, Wed Nov 11 2026. No macro, syntax, notation, axiom, sorry.
-/
import Derived.Test.YteigpbeamdhjpaaDoorRows
import GoSem.ClaimSeven
namespace Go.Proofs.YteigpbeamdhjpaaDoor
namespace Rows

/-- THE TIED CARD OF 'laws.FnPkEncode'. -/
def fnPkEncodeCard : Claim7 := { stood := { row := fnPkEncodeRow, standIns := [], harness := (true, "04b20828dae100fa3447612895394567b69bd7a0836586518d6b00db9f2c3833"), looks := false }, kinds := [], alts := [], laidByText := true, laidKinds := [.data, .data, .data], laidTests := true, laidLooks := .later }
def FnPkEncodeCardSaid : Prop := Claim7.holds Tryd.pinned (.plain (OpenSpec.ofChange fnPkEncodeSpec)) fnPkEncodeCard

/-- THE TIED CARD OF 'laws.FnPkDecode'. -/
def fnPkDecodeCard : Claim7 := { stood := { row := fnPkDecodeRow, standIns := [], harness := (true, "04b20828dae100fa3447612895394567b69bd7a0836586518d6b00db9f2c3833"), looks := false }, kinds := [], alts := [], laidByText := true, laidKinds := [.data, .data, .data, .sentinel], laidTests := true, laidLooks := .later }
def FnPkDecodeCardSaid : Prop := Claim7.holds Tryd.pinned (.plain (OpenSpec.ofChange fnPkDecodeSpec)) fnPkDecodeCard

/-- THE TIED CARD OF 'laws.FnPkBack'. -/
def fnPkBackCard : Claim7 := { stood := { row := fnPkBackRow, standIns := [], harness := (true, "04b20828dae100fa3447612895394567b69bd7a0836586518d6b00db9f2c3833"), looks := false }, kinds := [], alts := [], laidByText := true, laidKinds := [.data, .data, .data, .sentinel], laidTests := true, laidLooks := .later }
def FnPkBackCardSaid : Prop := Claim7.holds Tryd.pinned (.plain (OpenSpec.ofChange fnPkBackSpec)) fnPkBackCard

/-- THE TIED CARD OF 'laws.FnHintEncode'. -/
def fnHintEncodeCard : Claim7 := { stood := { row := fnHintEncodeRow, standIns := [], harness := (true, "04b20828dae100fa3447612895394567b69bd7a0836586518d6b00db9f2c3833"), looks := false }, kinds := [], alts := [], laidByText := true, laidKinds := [.data, .data, .data], laidTests := true, laidLooks := .later }
def FnHintEncodeCardSaid : Prop := Claim7.holds Tryd.pinned (.plain (OpenSpec.ofChange fnHintEncodeSpec)) fnHintEncodeCard

/-- THE TIED CARD OF 'laws.FnHintDecode'. -/
def fnHintDecodeCard : Claim7 := { stood := { row := fnHintDecodeRow, standIns := [], harness := (true, "04b20828dae100fa3447612895394567b69bd7a0836586518d6b00db9f2c3833"), looks := false }, kinds := [], alts := [], laidByText := true, laidKinds := [.data, .data, .data, .sentinel, .sentinel, .sentinel], laidTests := true, laidLooks := .later }
def FnHintDecodeCardSaid : Prop := Claim7.holds Tryd.pinned (.plain (OpenSpec.ofChange fnHintDecodeSpec)) fnHintDecodeCard

/-- THE TIED CARD OF 'laws.FnHintBack'. -/
def fnHintBackCard : Claim7 := { stood := { row := fnHintBackRow, standIns := [], harness := (true, "04b20828dae100fa3447612895394567b69bd7a0836586518d6b00db9f2c3833"), looks := false }, kinds := [], alts := [], laidByText := true, laidKinds := [.data, .data, .data, .sentinel, .sentinel, .sentinel], laidTests := true, laidLooks := .later }
def FnHintBackCardSaid : Prop := Claim7.holds Tryd.pinned (.plain (OpenSpec.ofChange fnHintBackSpec)) fnHintBackCard

/-- THE SECOND FORM's CARD OF 'laws.FnPkEncode'. -/
def fnPkEncodeUptoCard : Claim7 := { stood := { row := fnPkEncodeUptoRow, standIns := [], harness := (true, "04b20828dae100fa3447612895394567b69bd7a0836586518d6b00db9f2c3833"), looks := false }, kinds := [], alts := [], laidByText := true, laidKinds := [.data, .data, .data], laidTests := true, laidLooks := .later }
def FnPkEncodeUptoCardSaid : Prop := Claim7.holds Tryd.pinned (.plain (OpenSpec.upto fnPkEncodeSpec)) fnPkEncodeUptoCard

/-- THE SECOND FORM's CARD OF 'laws.FnPkDecode'. -/
def fnPkDecodeUptoCard : Claim7 := { stood := { row := fnPkDecodeUptoRow, standIns := [], harness := (true, "04b20828dae100fa3447612895394567b69bd7a0836586518d6b00db9f2c3833"), looks := false }, kinds := [], alts := [], laidByText := true, laidKinds := [.data, .data, .data, .sentinel], laidTests := true, laidLooks := .later }
def FnPkDecodeUptoCardSaid : Prop := Claim7.holds Tryd.pinned (.plain (OpenSpec.upto fnPkDecodeSpec)) fnPkDecodeUptoCard

/-- THE SECOND FORM's CARD OF 'laws.FnPkBack'. -/
def fnPkBackUptoCard : Claim7 := { stood := { row := fnPkBackUptoRow, standIns := [], harness := (true, "04b20828dae100fa3447612895394567b69bd7a0836586518d6b00db9f2c3833"), looks := false }, kinds := [], alts := [], laidByText := true, laidKinds := [.data, .data, .data, .sentinel], laidTests := true, laidLooks := .later }
def FnPkBackUptoCardSaid : Prop := Claim7.holds Tryd.pinned (.plain (OpenSpec.upto fnPkBackSpec)) fnPkBackUptoCard

/-- THE SECOND FORM's CARD OF 'laws.FnHintEncode'. -/
def fnHintEncodeUptoCard : Claim7 := { stood := { row := fnHintEncodeUptoRow, standIns := [], harness := (true, "04b20828dae100fa3447612895394567b69bd7a0836586518d6b00db9f2c3833"), looks := false }, kinds := [], alts := [], laidByText := true, laidKinds := [.data, .data, .data], laidTests := true, laidLooks := .later }
def FnHintEncodeUptoCardSaid : Prop := Claim7.holds Tryd.pinned (.plain (OpenSpec.upto fnHintEncodeSpec)) fnHintEncodeUptoCard

/-- THE SECOND FORM's CARD OF 'laws.FnHintDecode'. -/
def fnHintDecodeUptoCard : Claim7 := { stood := { row := fnHintDecodeUptoRow, standIns := [], harness := (true, "04b20828dae100fa3447612895394567b69bd7a0836586518d6b00db9f2c3833"), looks := false }, kinds := [], alts := [], laidByText := true, laidKinds := [.data, .data, .data, .sentinel, .sentinel, .sentinel], laidTests := true, laidLooks := .later }
def FnHintDecodeUptoCardSaid : Prop := Claim7.holds Tryd.pinned (.plain (OpenSpec.upto fnHintDecodeSpec)) fnHintDecodeUptoCard

/-- THE SECOND FORM's CARD OF 'laws.FnHintBack'. -/
def fnHintBackUptoCard : Claim7 := { stood := { row := fnHintBackUptoRow, standIns := [], harness := (true, "04b20828dae100fa3447612895394567b69bd7a0836586518d6b00db9f2c3833"), looks := false }, kinds := [], alts := [], laidByText := true, laidKinds := [.data, .data, .data, .sentinel, .sentinel, .sentinel], laidTests := true, laidLooks := .later }
def FnHintBackUptoCardSaid : Prop := Claim7.holds Tryd.pinned (.plain (OpenSpec.upto fnHintBackSpec)) fnHintBackUptoCard
end Rows
end Go.Proofs.YteigpbeamdhjpaaDoor
