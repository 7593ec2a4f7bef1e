/-
  DERIVED. GIVEN WITH THE SEED: THE CARDS: each row of YtanfpnidlgejhaaDoorRows.lean that lists a variable, with what it lists TIED to the program's text (the seventh form; the later family's looks); each row that meets fmt, with fmt's text TOLD by the authors' own Lean function (tested against real Go, not proved from fmt's source: count such statements apart). THE CARD IS WHAT COUNTS. Prove the row's statement (the work); the ties are given (YtanfpnidlgejhaaDoorTie.lean); close each card by the builder's one call (the guide's Derived/Test/ToyasCard.lean, 'card_holds'). Laid BY PROGRAM, IN A SANDBOX (cutbox-door.mjs). By AI agents, Wed Nov 11 2026. No macro, syntax, notation, axiom, sorry.
-/
import Derived.Test.YtanfpnidlgejhaaDoorRows
import GoSem.ClaimSeven
namespace Go.Proofs.YtanfpnidlgejhaaDoor
namespace Rows

/-- THE TIED CARD OF 'laws.FnSigDecode'. -/
def fnSigDecodeCard : Claim7 := { stood := { row := fnSigDecodeRow, standIns := [], harness := (true, "b6fd0beeb545a152a14e43a7e559497d1c84972eadd68a2e10dd7a8cd7e8eeea"), looks := false }, kinds := [], alts := [], laidByText := true, laidKinds := [.data, .data, .data, .sentinel, .sentinel, .sentinel, .sentinel], laidTests := true, laidLooks := .later }
def FnSigDecodeCardSaid : Prop := Claim7.holds Tryd.pinned (.plain (OpenSpec.ofChange fnSigDecodeSpec)) fnSigDecodeCard

/-- THE TIED CARD OF 'laws.FnSigEncode'. -/
def fnSigEncodeCard : Claim7 := { stood := { row := fnSigEncodeRow, standIns := [], harness := (true, "b6fd0beeb545a152a14e43a7e559497d1c84972eadd68a2e10dd7a8cd7e8eeea"), looks := false }, kinds := [], alts := [], laidByText := true, laidKinds := [.data, .data, .data], laidTests := true, laidLooks := .later }
def FnSigEncodeCardSaid : Prop := Claim7.holds Tryd.pinned (.plain (OpenSpec.ofChange fnSigEncodeSpec)) fnSigEncodeCard

/-- THE TIED CARD OF 'laws.FnSigBack'. -/
def fnSigBackCard : Claim7 := { stood := { row := fnSigBackRow, standIns := [], harness := (true, "b6fd0beeb545a152a14e43a7e559497d1c84972eadd68a2e10dd7a8cd7e8eeea"), looks := false }, kinds := [], alts := [], laidByText := true, laidKinds := [.data, .data, .data, .sentinel, .sentinel, .sentinel, .sentinel], laidTests := true, laidLooks := .later }
def FnSigBackCardSaid : Prop := Claim7.holds Tryd.pinned (.plain (OpenSpec.ofChange fnSigBackSpec)) fnSigBackCard

/-- THE SECOND FORM's CARD OF 'laws.FnSigDecode'. -/
def fnSigDecodeUptoCard : Claim7 := { stood := { row := fnSigDecodeUptoRow, standIns := [], harness := (true, "b6fd0beeb545a152a14e43a7e559497d1c84972eadd68a2e10dd7a8cd7e8eeea"), looks := false }, kinds := [], alts := [], laidByText := true, laidKinds := [.data, .data, .data, .sentinel, .sentinel, .sentinel, .sentinel], laidTests := true, laidLooks := .later }
def FnSigDecodeUptoCardSaid : Prop := Claim7.holds Tryd.pinned (.plain (OpenSpec.upto fnSigDecodeSpec)) fnSigDecodeUptoCard

/-- THE SECOND FORM's CARD OF 'laws.FnSigEncode'. -/
def fnSigEncodeUptoCard : Claim7 := { stood := { row := fnSigEncodeUptoRow, standIns := [], harness := (true, "b6fd0beeb545a152a14e43a7e559497d1c84972eadd68a2e10dd7a8cd7e8eeea"), looks := false }, kinds := [], alts := [], laidByText := true, laidKinds := [.data, .data, .data], laidTests := true, laidLooks := .later }
def FnSigEncodeUptoCardSaid : Prop := Claim7.holds Tryd.pinned (.plain (OpenSpec.upto fnSigEncodeSpec)) fnSigEncodeUptoCard

/-- THE SECOND FORM's CARD OF 'laws.FnSigBack'. -/
def fnSigBackUptoCard : Claim7 := { stood := { row := fnSigBackUptoRow, standIns := [], harness := (true, "b6fd0beeb545a152a14e43a7e559497d1c84972eadd68a2e10dd7a8cd7e8eeea"), looks := false }, kinds := [], alts := [], laidByText := true, laidKinds := [.data, .data, .data, .sentinel, .sentinel, .sentinel, .sentinel], laidTests := true, laidLooks := .later }
def FnSigBackUptoCardSaid : Prop := Claim7.holds Tryd.pinned (.plain (OpenSpec.upto fnSigBackSpec)) fnSigBackUptoCard
end Rows
end Go.Proofs.YtanfpnidlgejhaaDoor
