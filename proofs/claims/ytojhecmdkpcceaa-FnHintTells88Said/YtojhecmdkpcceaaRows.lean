/-
  No cell of these rows narrows 'for every input' (looked for: loops, veiled, ifaces, maps, wideKeys, modest, calm, conditions, laid).
  DERIVED. THE GIVEN ROWS OF THIS SEAT. 2 by the template 'for every input the law returns true; each argument reads behind the call as it read before'; 0 by the template 'total and deterministic' (their statements: YtojhecmdkpcceaaTotals.lean).
  GIVEN WITH THE SEED: the statements are not yours to turn. If you find one false, say at which input.
  Laid BY PROGRAM, IN A SANDBOX (cutbox-rows.mjs): the forced cells as the released guide's own fill.sh prints them over the translation d3c7e3cd98d98842… (all of the seat's roots in one cut). By AI agents, Wed Nov 11 2026. No macro, syntax, notation, axiom, sorry.
-/
import Derived.Test.YtojhecmdkpcceaaChecked
import GoSem.Claim
import GoSem.ClaimJoined
import GoSem.ClaimMapViews
import Derived.JoinedTies
import Derived.KernelRfl
namespace Go.Proofs.Ytojhecmdkpcceaa
/- THE CELL 'sum', in the pinned program and in every row, IS THE sha256 OF THE DUMP (.gsa) THAT YtojhecmdkpcceaaProg.lean LOADS. Nothing in Lean hashes anything: it is a label: what it is worth is what the hold of that sum in a sandbox is worth. -/
noncomputable def Try.pinned : Pinned := { name := "ytojhecmdkpcceaa", sum := "d3c7e3cd98d988422cf40e9358cc663324848b1950c36358be9986d9ead6a2df", checked := Try.checked }
namespace Rows
def none {H : Type} : Left H := { results := [], args := [] }

/-- 'laws.FnHintTells32': WHATEVER THE INPUT: true; the input reads as it did. -/
def fnHintTells32Spec : ChangeSpec := { name := "fnHintTells32", fn := fun _ => fun
  | [d1, d2, d3] => { results := [.lit (.bool true)], args := [d1, d2, d3] }
  | _ => none }
def fnHintTells32Row : OpenClaim := { program := "ytojhecmdkpcceaa", sum := "d3c7e3cd98d988422cf40e9358cc663324848b1950c36358be9986d9ead6a2df", func := "loop.example/pub-g03236/laws.FnHintTells32", spec := "fnHintTells32", inPlace := ["math/bits.Sub64"], apart := false }
def FnHintTells32Said : Prop := fnHintTells32Row.holds Try.pinned (OpenSpec.ofChange fnHintTells32Spec)

/-- ITS FALSE NEIGHBOUR: 'it returns false'. Refute it at one input. -/
def fnHintTells32Wrong : ChangeSpec := { name := "fnHintTells32", fn := fun _ => fun
  | [d1, d2, d3] => { results := [.lit (.bool false)], args := [d1, d2, d3] }
  | _ => none }
def FnHintTells32WrongFalsely : Prop := fnHintTells32Row.holds Try.pinned (OpenSpec.ofChange fnHintTells32Wrong)

/-- 'laws.FnHintTells88': WHATEVER THE INPUT: true; the input reads as it did. -/
def fnHintTells88Spec : ChangeSpec := { name := "fnHintTells88", fn := fun _ => fun
  | [d1, d2, d3] => { results := [.lit (.bool true)], args := [d1, d2, d3] }
  | _ => none }
def fnHintTells88Row : OpenClaim := { program := "ytojhecmdkpcceaa", sum := "d3c7e3cd98d988422cf40e9358cc663324848b1950c36358be9986d9ead6a2df", func := "loop.example/pub-g03236/laws.FnHintTells88", spec := "fnHintTells88", inPlace := ["math/bits.Sub64"], apart := false }
def FnHintTells88Said : Prop := fnHintTells88Row.holds Try.pinned (OpenSpec.ofChange fnHintTells88Spec)

/-- ITS FALSE NEIGHBOUR: 'it returns false'. Refute it at one input. -/
def fnHintTells88Wrong : ChangeSpec := { name := "fnHintTells88", fn := fun _ => fun
  | [d1, d2, d3] => { results := [.lit (.bool false)], args := [d1, d2, d3] }
  | _ => none }
def FnHintTells88WrongFalsely : Prop := fnHintTells88Row.holds Try.pinned (OpenSpec.ofChange fnHintTells88Wrong)

/- THE SECOND FORM. 'bulk': how many values and letters a reading holds, each counted each time it is reached (what is shared counts as often as it is met; a slice's spare places count too). A statement '..UptoSaid' is the law's where the arguments, and the package variables that the reading takes, are together of bulk at most 1048576: NARROWER than '..Said'. Prove '..Said' where nothing that the law and all that it calls make is longer than what came in: it says more and counts as full. Else prove '..UptoSaid'. A law counts once. -/
mutual
def uptoBulk {H : Type} : DataW H → Nat
  | .lit (.string bytes) => bytes.length + 1
  | .lit _ => 1
  | .nil => 1
  | .ptr d => uptoBulk d + 1
  | .slice elems spare => uptoBulkAll elems + uptoBulkAll spare + 1
  | .agg parts => uptoBulkAll parts + 1
  | .iface _ d => uptoBulk d + 1
  | .map entries => uptoBulkEntries entries + 1
  | .held _ => 1
def uptoBulkAll {H : Type} : List (DataW H) → Nat
  | [] => 0
  | d :: r => uptoBulk d + uptoBulkAll r
def uptoBulkEntries {H : Type} : List (Lit × DataW H) → Nat
  | [] => 0
  | x :: r => uptoBulkEntry x + uptoBulkEntries r
def uptoBulkEntry {H : Type} : Lit × DataW H → Nat
  | (.string bytes, d) => bytes.length + uptoBulk d + 1
  | (_, d) => uptoBulk d + 1
 end
def uptoSmall : (H : Type) → List (DataW H) → Bool := fun _ ds => decide (uptoBulkAll ds ≤ 1048576)
def OpenSpec.upto (s : _root_.Go.ChangeSpec) : _root_.Go.OpenSpec := { _root_.Go.OpenSpec.ofChange s with cond := some uptoSmall }

/-- 'laws.FnHintTells32', WHERE WHAT IT READS IS OF BULK AT MOST 1048576: true; the input reads as it did. -/
def fnHintTells32UptoRow : OpenClaim := { program := "ytojhecmdkpcceaa", sum := "d3c7e3cd98d988422cf40e9358cc663324848b1950c36358be9986d9ead6a2df", func := "loop.example/pub-g03236/laws.FnHintTells32", spec := "fnHintTells32", inPlace := ["math/bits.Sub64"], apart := false, narrowed := true }
def FnHintTells32UptoSaid : Prop := fnHintTells32UptoRow.holds Try.pinned (OpenSpec.upto fnHintTells32Spec)

/-- 'laws.FnHintTells88', WHERE WHAT IT READS IS OF BULK AT MOST 1048576: true; the input reads as it did. -/
def fnHintTells88UptoRow : OpenClaim := { program := "ytojhecmdkpcceaa", sum := "d3c7e3cd98d988422cf40e9358cc663324848b1950c36358be9986d9ead6a2df", func := "loop.example/pub-g03236/laws.FnHintTells88", spec := "fnHintTells88", inPlace := ["math/bits.Sub64"], apart := false, narrowed := true }
def FnHintTells88UptoSaid : Prop := fnHintTells88UptoRow.holds Try.pinned (OpenSpec.upto fnHintTells88Spec)

end Rows
end Go.Proofs.Ytojhecmdkpcceaa
