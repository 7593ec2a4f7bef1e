/-
  No cell of these rows narrows 'for every input' (looked for: loops, veiled, ifaces, maps, wideKeys, modest, calm, conditions, laid).
  DERIVED. THE GIVEN ROWS OF THIS SEAT. 6 by the template 'for every input the law returns true; each argument reads behind the call as it read before'; 0 by the template 'total and deterministic' (their statements: YtejolgicllogjaaTotals.lean).
  GIVEN WITH THE SEED: the statements are not yours to turn. If you find one false, say at which input.
  Laid BY PROGRAM, IN A SANDBOX (cutbox-rows.mjs): the forced cells as the released guide's own fill.sh prints them over the translation be8f57d46cd56697… (all of the seat's roots in one cut). By AI agents, Wed Nov 11 2026. No macro, syntax, notation, axiom, sorry.
-/
import Derived.Test.YtejolgicllogjaaChecked
import GoSem.Claim
import GoSem.ClaimJoined
import GoSem.ClaimMapViews
import Derived.JoinedTies
import Derived.KernelRfl
namespace Go.Proofs.Ytejolgicllogjaa
/- THE CELL 'sum', in the pinned program and in every row, IS THE sha256 OF THE DUMP (.gsa) THAT YtejolgicllogjaaProg.lean LOADS. Nothing in Lean hashes anything: it is a label: what it is worth is what the hold of that sum in a sandbox is worth. -/
noncomputable def Try.pinned : Pinned := { name := "ytejolgicllogjaa", sum := "be8f57d46cd56697c3de658eb09c3d485ce25a723277c5ba9cdbb4c5f4787751", checked := Try.checked }
namespace Rows
def none {H : Type} : Left H := { results := [], args := [] }

/-- 'laws.FnBitUnpack20': WHATEVER THE INPUT: true; the input reads as it did. -/
def fnBitUnpack20Spec : ChangeSpec := { name := "fnBitUnpack20", fn := fun _ => fun
  | [d] => { results := [.lit (.bool true)], args := [d] }
  | _ => none }
def fnBitUnpack20Row : OpenClaim := { program := "ytejolgicllogjaa", sum := "be8f57d46cd56697c3de658eb09c3d485ce25a723277c5ba9cdbb4c5f4787751", func := "loop.example/pub-g03236/laws.FnBitUnpack20", spec := "fnBitUnpack20", inPlace := ["math/bits.Sub64"], apart := false }
def FnBitUnpack20Said : Prop := fnBitUnpack20Row.holds Try.pinned (OpenSpec.ofChange fnBitUnpack20Spec)

/-- ITS FALSE NEIGHBOUR: 'it returns false'. Refute it at one input. -/
def fnBitUnpack20Wrong : ChangeSpec := { name := "fnBitUnpack20", fn := fun _ => fun
  | [d] => { results := [.lit (.bool false)], args := [d] }
  | _ => none }
def FnBitUnpack20WrongFalsely : Prop := fnBitUnpack20Row.holds Try.pinned (OpenSpec.ofChange fnBitUnpack20Wrong)

/-- 'laws.FnBitUnpack18': WHATEVER THE INPUT: true; the input reads as it did. -/
def fnBitUnpack18Spec : ChangeSpec := { name := "fnBitUnpack18", fn := fun _ => fun
  | [d] => { results := [.lit (.bool true)], args := [d] }
  | _ => none }
def fnBitUnpack18Row : OpenClaim := { program := "ytejolgicllogjaa", sum := "be8f57d46cd56697c3de658eb09c3d485ce25a723277c5ba9cdbb4c5f4787751", func := "loop.example/pub-g03236/laws.FnBitUnpack18", spec := "fnBitUnpack18", inPlace := ["math/bits.Sub64"], apart := false }
def FnBitUnpack18Said : Prop := fnBitUnpack18Row.holds Try.pinned (OpenSpec.ofChange fnBitUnpack18Spec)

/-- ITS FALSE NEIGHBOUR: 'it returns false'. Refute it at one input. -/
def fnBitUnpack18Wrong : ChangeSpec := { name := "fnBitUnpack18", fn := fun _ => fun
  | [d] => { results := [.lit (.bool false)], args := [d] }
  | _ => none }
def FnBitUnpack18WrongFalsely : Prop := fnBitUnpack18Row.holds Try.pinned (OpenSpec.ofChange fnBitUnpack18Wrong)

/-- 'laws.FnBitPack20': WHATEVER THE INPUT: true; the input reads as it did. -/
def fnBitPack20Spec : ChangeSpec := { name := "fnBitPack20", fn := fun _ => fun
  | [d] => { results := [.lit (.bool true)], args := [d] }
  | _ => none }
def fnBitPack20Row : OpenClaim := { program := "ytejolgicllogjaa", sum := "be8f57d46cd56697c3de658eb09c3d485ce25a723277c5ba9cdbb4c5f4787751", func := "loop.example/pub-g03236/laws.FnBitPack20", spec := "fnBitPack20", inPlace := ["math/bits.Sub64"], apart := false }
def FnBitPack20Said : Prop := fnBitPack20Row.holds Try.pinned (OpenSpec.ofChange fnBitPack20Spec)

/-- ITS FALSE NEIGHBOUR: 'it returns false'. Refute it at one input. -/
def fnBitPack20Wrong : ChangeSpec := { name := "fnBitPack20", fn := fun _ => fun
  | [d] => { results := [.lit (.bool false)], args := [d] }
  | _ => none }
def FnBitPack20WrongFalsely : Prop := fnBitPack20Row.holds Try.pinned (OpenSpec.ofChange fnBitPack20Wrong)

/-- 'laws.FnBitPack18': WHATEVER THE INPUT: true; the input reads as it did. -/
def fnBitPack18Spec : ChangeSpec := { name := "fnBitPack18", fn := fun _ => fun
  | [d] => { results := [.lit (.bool true)], args := [d] }
  | _ => none }
def fnBitPack18Row : OpenClaim := { program := "ytejolgicllogjaa", sum := "be8f57d46cd56697c3de658eb09c3d485ce25a723277c5ba9cdbb4c5f4787751", func := "loop.example/pub-g03236/laws.FnBitPack18", spec := "fnBitPack18", inPlace := ["math/bits.Sub64"], apart := false }
def FnBitPack18Said : Prop := fnBitPack18Row.holds Try.pinned (OpenSpec.ofChange fnBitPack18Spec)

/-- ITS FALSE NEIGHBOUR: 'it returns false'. Refute it at one input. -/
def fnBitPack18Wrong : ChangeSpec := { name := "fnBitPack18", fn := fun _ => fun
  | [d] => { results := [.lit (.bool false)], args := [d] }
  | _ => none }
def FnBitPack18WrongFalsely : Prop := fnBitPack18Row.holds Try.pinned (OpenSpec.ofChange fnBitPack18Wrong)

/-- 'laws.FnBitUnpackSlow': WHATEVER THE INPUT: true; the input reads as it did. -/
def fnBitUnpackSlowSpec : ChangeSpec := { name := "fnBitUnpackSlow", fn := fun _ => fun
  | [d1, d2, d3] => { results := [.lit (.bool true)], args := [d1, d2, d3] }
  | _ => none }
def fnBitUnpackSlowRow : OpenClaim := { program := "ytejolgicllogjaa", sum := "be8f57d46cd56697c3de658eb09c3d485ce25a723277c5ba9cdbb4c5f4787751", func := "loop.example/pub-g03236/laws.FnBitUnpackSlow", spec := "fnBitUnpackSlow", inPlace := ["math/bits.Sub64"], apart := false }
def FnBitUnpackSlowSaid : Prop := fnBitUnpackSlowRow.holds Try.pinned (OpenSpec.ofChange fnBitUnpackSlowSpec)

/-- ITS FALSE NEIGHBOUR: 'it returns false'. Refute it at one input. -/
def fnBitUnpackSlowWrong : ChangeSpec := { name := "fnBitUnpackSlow", fn := fun _ => fun
  | [d1, d2, d3] => { results := [.lit (.bool false)], args := [d1, d2, d3] }
  | _ => none }
def FnBitUnpackSlowWrongFalsely : Prop := fnBitUnpackSlowRow.holds Try.pinned (OpenSpec.ofChange fnBitUnpackSlowWrong)

/-- 'laws.FnBitPackSlow': WHATEVER THE INPUT: true; the input reads as it did. -/
def fnBitPackSlowSpec : ChangeSpec := { name := "fnBitPackSlow", fn := fun _ => fun
  | [d1, d2, d3] => { results := [.lit (.bool true)], args := [d1, d2, d3] }
  | _ => none }
def fnBitPackSlowRow : OpenClaim := { program := "ytejolgicllogjaa", sum := "be8f57d46cd56697c3de658eb09c3d485ce25a723277c5ba9cdbb4c5f4787751", func := "loop.example/pub-g03236/laws.FnBitPackSlow", spec := "fnBitPackSlow", inPlace := ["math/bits.Sub64"], apart := false }
def FnBitPackSlowSaid : Prop := fnBitPackSlowRow.holds Try.pinned (OpenSpec.ofChange fnBitPackSlowSpec)

/-- ITS FALSE NEIGHBOUR: 'it returns false'. Refute it at one input. -/
def fnBitPackSlowWrong : ChangeSpec := { name := "fnBitPackSlow", fn := fun _ => fun
  | [d1, d2, d3] => { results := [.lit (.bool false)], args := [d1, d2, d3] }
  | _ => none }
def FnBitPackSlowWrongFalsely : Prop := fnBitPackSlowRow.holds Try.pinned (OpenSpec.ofChange fnBitPackSlowWrong)

/- THE SECOND FORM. 'bulk': how many values and letters a reading holds, each counted each time it is reached (what is shared counts as often as it is met; a slice's spare places count too). A statement '..UptoSaid' is the law's where the arguments, and the package variables that the reading takes, are together of bulk at most 1048576: NARROWER than '..Said'. Prove '..Said' where nothing that the law and all that it calls make is longer than what came in: it says more and counts as full. Else prove '..UptoSaid'. A law counts once. -/
mutual
def uptoBulk {H : Type} : DataW H → Nat
  | .lit (.string bytes) => bytes.length + 1
  | .lit _ => 1
  | .nil => 1
  | .ptr d => uptoBulk d + 1
  | .slice elems spare => uptoBulkAll elems + uptoBulkAll spare + 1
  | .agg parts => uptoBulkAll parts + 1
  | .iface _ d => uptoBulk d + 1
  | .map entries => uptoBulkEntries entries + 1
  | .held _ => 1
def uptoBulkAll {H : Type} : List (DataW H) → Nat
  | [] => 0
  | d :: r => uptoBulk d + uptoBulkAll r
def uptoBulkEntries {H : Type} : List (Lit × DataW H) → Nat
  | [] => 0
  | x :: r => uptoBulkEntry x + uptoBulkEntries r
def uptoBulkEntry {H : Type} : Lit × DataW H → Nat
  | (.string bytes, d) => bytes.length + uptoBulk d + 1
  | (_, d) => uptoBulk d + 1
 end
def uptoSmall : (H : Type) → List (DataW H) → Bool := fun _ ds => decide (uptoBulkAll ds ≤ 1048576)
def OpenSpec.upto (s : _root_.Go.ChangeSpec) : _root_.Go.OpenSpec := { _root_.Go.OpenSpec.ofChange s with cond := some uptoSmall }

/-- 'laws.FnBitUnpack20', WHERE WHAT IT READS IS OF BULK AT MOST 1048576: true; the input reads as it did. -/
def fnBitUnpack20UptoRow : OpenClaim := { program := "ytejolgicllogjaa", sum := "be8f57d46cd56697c3de658eb09c3d485ce25a723277c5ba9cdbb4c5f4787751", func := "loop.example/pub-g03236/laws.FnBitUnpack20", spec := "fnBitUnpack20", inPlace := ["math/bits.Sub64"], apart := false, narrowed := true }
def FnBitUnpack20UptoSaid : Prop := fnBitUnpack20UptoRow.holds Try.pinned (OpenSpec.upto fnBitUnpack20Spec)

/-- 'laws.FnBitUnpack18', WHERE WHAT IT READS IS OF BULK AT MOST 1048576: true; the input reads as it did. -/
def fnBitUnpack18UptoRow : OpenClaim := { program := "ytejolgicllogjaa", sum := "be8f57d46cd56697c3de658eb09c3d485ce25a723277c5ba9cdbb4c5f4787751", func := "loop.example/pub-g03236/laws.FnBitUnpack18", spec := "fnBitUnpack18", inPlace := ["math/bits.Sub64"], apart := false, narrowed := true }
def FnBitUnpack18UptoSaid : Prop := fnBitUnpack18UptoRow.holds Try.pinned (OpenSpec.upto fnBitUnpack18Spec)

/-- 'laws.FnBitPack20', WHERE WHAT IT READS IS OF BULK AT MOST 1048576: true; the input reads as it did. -/
def fnBitPack20UptoRow : OpenClaim := { program := "ytejolgicllogjaa", sum := "be8f57d46cd56697c3de658eb09c3d485ce25a723277c5ba9cdbb4c5f4787751", func := "loop.example/pub-g03236/laws.FnBitPack20", spec := "fnBitPack20", inPlace := ["math/bits.Sub64"], apart := false, narrowed := true }
def FnBitPack20UptoSaid : Prop := fnBitPack20UptoRow.holds Try.pinned (OpenSpec.upto fnBitPack20Spec)

/-- 'laws.FnBitPack18', WHERE WHAT IT READS IS OF BULK AT MOST 1048576: true; the input reads as it did. -/
def fnBitPack18UptoRow : OpenClaim := { program := "ytejolgicllogjaa", sum := "be8f57d46cd56697c3de658eb09c3d485ce25a723277c5ba9cdbb4c5f4787751", func := "loop.example/pub-g03236/laws.FnBitPack18", spec := "fnBitPack18", inPlace := ["math/bits.Sub64"], apart := false, narrowed := true }
def FnBitPack18UptoSaid : Prop := fnBitPack18UptoRow.holds Try.pinned (OpenSpec.upto fnBitPack18Spec)

/-- 'laws.FnBitUnpackSlow', WHERE WHAT IT READS IS OF BULK AT MOST 1048576: true; the input reads as it did. -/
def fnBitUnpackSlowUptoRow : OpenClaim := { program := "ytejolgicllogjaa", sum := "be8f57d46cd56697c3de658eb09c3d485ce25a723277c5ba9cdbb4c5f4787751", func := "loop.example/pub-g03236/laws.FnBitUnpackSlow", spec := "fnBitUnpackSlow", inPlace := ["math/bits.Sub64"], apart := false, narrowed := true }
def FnBitUnpackSlowUptoSaid : Prop := fnBitUnpackSlowUptoRow.holds Try.pinned (OpenSpec.upto fnBitUnpackSlowSpec)

/-- 'laws.FnBitPackSlow', WHERE WHAT IT READS IS OF BULK AT MOST 1048576: true; the input reads as it did. -/
def fnBitPackSlowUptoRow : OpenClaim := { program := "ytejolgicllogjaa", sum := "be8f57d46cd56697c3de658eb09c3d485ce25a723277c5ba9cdbb4c5f4787751", func := "loop.example/pub-g03236/laws.FnBitPackSlow", spec := "fnBitPackSlow", inPlace := ["math/bits.Sub64"], apart := false, narrowed := true }
def FnBitPackSlowUptoSaid : Prop := fnBitPackSlowUptoRow.holds Try.pinned (OpenSpec.upto fnBitPackSlowSpec)

end Rows
end Go.Proofs.Ytejolgicllogjaa
