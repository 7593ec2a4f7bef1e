/-
  DERIVED. GIVEN WITH THE SEED: THE CARDS: each row of YtejolgicllogjaaDoorRows.lean that lists a variable, with what it lists TIED to the program's text (the seventh form; the later family's looks); each row that meets fmt, with fmt's text TOLD by the authors' own Lean function (tested against real Go, not proved from fmt's source: count such statements apart). THE CARD IS WHAT COUNTS. Prove the row's statement (the work); the ties are given (YtejolgicllogjaaDoorTie.lean); close each card by the builder's one call (the guide's Derived/Test/ToyasCard.lean, 'card_holds'). Laid BY PROGRAM, IN A SANDBOX (cutbox-door.mjs). By AI agents, Wed Nov 11 2026. No macro, syntax, notation, axiom, sorry.
-/
import Derived.Test.YtejolgicllogjaaDoorRows
import GoSem.ClaimSeven
namespace Go.Proofs.YtejolgicllogjaaDoor
namespace Rows

/-- THE TIED CARD OF 'laws.FnBitUnpack'. -/
def fnBitUnpackCard : Claim7 := { stood := { row := fnBitUnpackRow, standIns := [], harness := (true, "8fdce15be7650036daff88751f12022b46a479aa350ca5a3e5709d7b08b8d147"), looks := false }, kinds := [], alts := [], laidByText := true, laidKinds := [.data, .data, .data], laidTests := true, laidLooks := .later }
def FnBitUnpackCardSaid : Prop := Claim7.holds Tryd.pinned (.plain (OpenSpec.ofChange fnBitUnpackSpec)) fnBitUnpackCard

/-- THE TIED CARD OF 'laws.FnBitPack'. -/
def fnBitPackCard : Claim7 := { stood := { row := fnBitPackRow, standIns := [], harness := (true, "8fdce15be7650036daff88751f12022b46a479aa350ca5a3e5709d7b08b8d147"), looks := false }, kinds := [], alts := [], laidByText := true, laidKinds := [.data, .data, .data], laidTests := true, laidLooks := .later }
def FnBitPackCardSaid : Prop := Claim7.holds Tryd.pinned (.plain (OpenSpec.ofChange fnBitPackSpec)) fnBitPackCard

/-- THE TIED CARD OF 'laws.FnBitBack'. -/
def fnBitBackCard : Claim7 := { stood := { row := fnBitBackRow, standIns := [], harness := (true, "8fdce15be7650036daff88751f12022b46a479aa350ca5a3e5709d7b08b8d147"), looks := false }, kinds := [], alts := [], laidByText := true, laidKinds := [.data, .data, .data], laidTests := true, laidLooks := .later }
def FnBitBackCardSaid : Prop := Claim7.holds Tryd.pinned (.plain (OpenSpec.ofChange fnBitBackSpec)) fnBitBackCard

/-- THE TIED CARD OF 'laws.FnBitUnpackBack'. -/
def fnBitUnpackBackCard : Claim7 := { stood := { row := fnBitUnpackBackRow, standIns := [], harness := (true, "8fdce15be7650036daff88751f12022b46a479aa350ca5a3e5709d7b08b8d147"), looks := false }, kinds := [], alts := [], laidByText := true, laidKinds := [.data, .data, .data], laidTests := true, laidLooks := .later }
def FnBitUnpackBackCardSaid : Prop := Claim7.holds Tryd.pinned (.plain (OpenSpec.ofChange fnBitUnpackBackSpec)) fnBitUnpackBackCard

/-- THE SECOND FORM's CARD OF 'laws.FnBitUnpack'. -/
def fnBitUnpackUptoCard : Claim7 := { stood := { row := fnBitUnpackUptoRow, standIns := [], harness := (true, "8fdce15be7650036daff88751f12022b46a479aa350ca5a3e5709d7b08b8d147"), looks := false }, kinds := [], alts := [], laidByText := true, laidKinds := [.data, .data, .data], laidTests := true, laidLooks := .later }
def FnBitUnpackUptoCardSaid : Prop := Claim7.holds Tryd.pinned (.plain (OpenSpec.upto fnBitUnpackSpec)) fnBitUnpackUptoCard

/-- THE SECOND FORM's CARD OF 'laws.FnBitPack'. -/
def fnBitPackUptoCard : Claim7 := { stood := { row := fnBitPackUptoRow, standIns := [], harness := (true, "8fdce15be7650036daff88751f12022b46a479aa350ca5a3e5709d7b08b8d147"), looks := false }, kinds := [], alts := [], laidByText := true, laidKinds := [.data, .data, .data], laidTests := true, laidLooks := .later }
def FnBitPackUptoCardSaid : Prop := Claim7.holds Tryd.pinned (.plain (OpenSpec.upto fnBitPackSpec)) fnBitPackUptoCard

/-- THE SECOND FORM's CARD OF 'laws.FnBitBack'. -/
def fnBitBackUptoCard : Claim7 := { stood := { row := fnBitBackUptoRow, standIns := [], harness := (true, "8fdce15be7650036daff88751f12022b46a479aa350ca5a3e5709d7b08b8d147"), looks := false }, kinds := [], alts := [], laidByText := true, laidKinds := [.data, .data, .data], laidTests := true, laidLooks := .later }
def FnBitBackUptoCardSaid : Prop := Claim7.holds Tryd.pinned (.plain (OpenSpec.upto fnBitBackSpec)) fnBitBackUptoCard

/-- THE SECOND FORM's CARD OF 'laws.FnBitUnpackBack'. -/
def fnBitUnpackBackUptoCard : Claim7 := { stood := { row := fnBitUnpackBackUptoRow, standIns := [], harness := (true, "8fdce15be7650036daff88751f12022b46a479aa350ca5a3e5709d7b08b8d147"), looks := false }, kinds := [], alts := [], laidByText := true, laidKinds := [.data, .data, .data], laidTests := true, laidLooks := .later }
def FnBitUnpackBackUptoCardSaid : Prop := Claim7.holds Tryd.pinned (.plain (OpenSpec.upto fnBitUnpackBackSpec)) fnBitUnpackBackUptoCard
end Rows
end Go.Proofs.YtejolgicllogjaaDoor
