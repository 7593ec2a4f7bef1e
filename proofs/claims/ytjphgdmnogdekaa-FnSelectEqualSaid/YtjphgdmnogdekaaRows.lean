/-
  No cell of these rows narrows 'for every input' (looked for: loops, veiled, ifaces, maps, wideKeys, modest, calm, conditions, laid).
  DERIVED. THE GIVEN ROWS OF THIS SEAT. 12 by the template 'for every input the law returns true; each argument reads behind the call as it read before'; 0 by the template 'total and deterministic' (their statements: YtjphgdmnogdekaaTotals.lean).
  GIVEN WITH THE SEED: the statements are not yours to turn. If you find one false, say at which input.
  Laid BY PROGRAM, IN A SANDBOX (cutbox-rows.mjs): the forced cells as the released guide's own fill.sh prints them over the translation 6aa8fa723119d28b… (all of the seat's roots in one cut). By AI agents, Wed Nov 11 2026. No macro, syntax, notation, axiom, sorry.
-/
import Derived.Test.YtjphgdmnogdekaaChecked
import GoSem.Claim
import GoSem.ClaimJoined
import GoSem.ClaimMapViews
import Derived.JoinedTies
import Derived.KernelRfl
namespace Go.Proofs.Ytjphgdmnogdekaa
/- THE CELL 'sum', in the pinned program and in every row, IS THE sha256 OF THE DUMP (.gsa) THAT YtjphgdmnogdekaaProg.lean LOADS. Nothing in Lean hashes anything: it is a label: what it is worth is what the hold of that sum in a sandbox is worth. -/
noncomputable def Try.pinned : Pinned := { name := "ytjphgdmnogdekaa", sum := "6aa8fa723119d28b5ae5aa121aaeec35a65b4a4d3c2d66c317ed1fbc1479725d", checked := Try.checked }
namespace Rows
def none {H : Type} : Left H := { results := [], args := [] }

/-- 'laws.FnAdd': WHATEVER THE INPUT: true; the input reads as it did. -/
def fnAddSpec : ChangeSpec := { name := "fnAdd", fn := fun _ => fun
  | [d1, d2] => { results := [.lit (.bool true)], args := [d1, d2] }
  | _ => none }
def fnAddRow : OpenClaim := { program := "ytjphgdmnogdekaa", sum := "6aa8fa723119d28b5ae5aa121aaeec35a65b4a4d3c2d66c317ed1fbc1479725d", func := "loop.example/pub-g03236/laws.FnAdd", spec := "fnAdd", inPlace := ["math/bits.Sub64"], apart := false }
def FnAddSaid : Prop := fnAddRow.holds Try.pinned (OpenSpec.ofChange fnAddSpec)

/-- ITS FALSE NEIGHBOUR: 'it returns false'. Refute it at one input. -/
def fnAddWrong : ChangeSpec := { name := "fnAdd", fn := fun _ => fun
  | [d1, d2] => { results := [.lit (.bool false)], args := [d1, d2] }
  | _ => none }
def FnAddWrongFalsely : Prop := fnAddRow.holds Try.pinned (OpenSpec.ofChange fnAddWrong)

/-- 'laws.FnSub': WHATEVER THE INPUT: true; the input reads as it did. -/
def fnSubSpec : ChangeSpec := { name := "fnSub", fn := fun _ => fun
  | [d1, d2] => { results := [.lit (.bool true)], args := [d1, d2] }
  | _ => none }
def fnSubRow : OpenClaim := { program := "ytjphgdmnogdekaa", sum := "6aa8fa723119d28b5ae5aa121aaeec35a65b4a4d3c2d66c317ed1fbc1479725d", func := "loop.example/pub-g03236/laws.FnSub", spec := "fnSub", inPlace := ["math/bits.Sub64"], apart := false }
def FnSubSaid : Prop := fnSubRow.holds Try.pinned (OpenSpec.ofChange fnSubSpec)

/-- ITS FALSE NEIGHBOUR: 'it returns false'. Refute it at one input. -/
def fnSubWrong : ChangeSpec := { name := "fnSub", fn := fun _ => fun
  | [d1, d2] => { results := [.lit (.bool false)], args := [d1, d2] }
  | _ => none }
def FnSubWrongFalsely : Prop := fnSubRow.holds Try.pinned (OpenSpec.ofChange fnSubWrong)

/-- 'laws.FnMontgomeryMul': WHATEVER THE INPUT: true; the input reads as it did. -/
def fnMontgomeryMulSpec : ChangeSpec := { name := "fnMontgomeryMul", fn := fun _ => fun
  | [d1, d2] => { results := [.lit (.bool true)], args := [d1, d2] }
  | _ => none }
def fnMontgomeryMulRow : OpenClaim := { program := "ytjphgdmnogdekaa", sum := "6aa8fa723119d28b5ae5aa121aaeec35a65b4a4d3c2d66c317ed1fbc1479725d", func := "loop.example/pub-g03236/laws.FnMontgomeryMul", spec := "fnMontgomeryMul", inPlace := ["math/bits.Sub64"], apart := false }
def FnMontgomeryMulSaid : Prop := fnMontgomeryMulRow.holds Try.pinned (OpenSpec.ofChange fnMontgomeryMulSpec)

/-- ITS FALSE NEIGHBOUR: 'it returns false'. Refute it at one input. -/
def fnMontgomeryMulWrong : ChangeSpec := { name := "fnMontgomeryMul", fn := fun _ => fun
  | [d1, d2] => { results := [.lit (.bool false)], args := [d1, d2] }
  | _ => none }
def FnMontgomeryMulWrongFalsely : Prop := fnMontgomeryMulRow.holds Try.pinned (OpenSpec.ofChange fnMontgomeryMulWrong)

/-- 'laws.FnMontgomeryMulSub': WHATEVER THE INPUT: true; the input reads as it did. -/
def fnMontgomeryMulSubSpec : ChangeSpec := { name := "fnMontgomeryMulSub", fn := fun _ => fun
  | [d1, d2, d3] => { results := [.lit (.bool true)], args := [d1, d2, d3] }
  | _ => none }
def fnMontgomeryMulSubRow : OpenClaim := { program := "ytjphgdmnogdekaa", sum := "6aa8fa723119d28b5ae5aa121aaeec35a65b4a4d3c2d66c317ed1fbc1479725d", func := "loop.example/pub-g03236/laws.FnMontgomeryMulSub", spec := "fnMontgomeryMulSub", inPlace := ["math/bits.Sub64"], apart := false }
def FnMontgomeryMulSubSaid : Prop := fnMontgomeryMulSubRow.holds Try.pinned (OpenSpec.ofChange fnMontgomeryMulSubSpec)

/-- ITS FALSE NEIGHBOUR: 'it returns false'. Refute it at one input. -/
def fnMontgomeryMulSubWrong : ChangeSpec := { name := "fnMontgomeryMulSub", fn := fun _ => fun
  | [d1, d2, d3] => { results := [.lit (.bool false)], args := [d1, d2, d3] }
  | _ => none }
def FnMontgomeryMulSubWrongFalsely : Prop := fnMontgomeryMulSubRow.holds Try.pinned (OpenSpec.ofChange fnMontgomeryMulSubWrong)

/-- 'laws.FnMontgomeryAddMul': WHATEVER THE INPUT: true; the input reads as it did. -/
def fnMontgomeryAddMulSpec : ChangeSpec := { name := "fnMontgomeryAddMul", fn := fun _ => fun
  | [d1, d2, d3, d4] => { results := [.lit (.bool true)], args := [d1, d2, d3, d4] }
  | _ => none }
def fnMontgomeryAddMulRow : OpenClaim := { program := "ytjphgdmnogdekaa", sum := "6aa8fa723119d28b5ae5aa121aaeec35a65b4a4d3c2d66c317ed1fbc1479725d", func := "loop.example/pub-g03236/laws.FnMontgomeryAddMul", spec := "fnMontgomeryAddMul", inPlace := ["math/bits.Sub64"], apart := false }
def FnMontgomeryAddMulSaid : Prop := fnMontgomeryAddMulRow.holds Try.pinned (OpenSpec.ofChange fnMontgomeryAddMulSpec)

/-- ITS FALSE NEIGHBOUR: 'it returns false'. Refute it at one input. -/
def fnMontgomeryAddMulWrong : ChangeSpec := { name := "fnMontgomeryAddMul", fn := fun _ => fun
  | [d1, d2, d3, d4] => { results := [.lit (.bool false)], args := [d1, d2, d3, d4] }
  | _ => none }
def FnMontgomeryAddMulWrongFalsely : Prop := fnMontgomeryAddMulRow.holds Try.pinned (OpenSpec.ofChange fnMontgomeryAddMulWrong)

/-- 'laws.FnMontgomeryReduce': WHATEVER THE INPUT: true; the input reads as it did. -/
def fnMontgomeryReduceSpec : ChangeSpec := { name := "fnMontgomeryReduce", fn := fun _ => fun
  | [d] => { results := [.lit (.bool true)], args := [d] }
  | _ => none }
def fnMontgomeryReduceRow : OpenClaim := { program := "ytjphgdmnogdekaa", sum := "6aa8fa723119d28b5ae5aa121aaeec35a65b4a4d3c2d66c317ed1fbc1479725d", func := "loop.example/pub-g03236/laws.FnMontgomeryReduce", spec := "fnMontgomeryReduce", inPlace := ["math/bits.Sub64"], apart := false }
def FnMontgomeryReduceSaid : Prop := fnMontgomeryReduceRow.holds Try.pinned (OpenSpec.ofChange fnMontgomeryReduceSpec)

/-- ITS FALSE NEIGHBOUR: 'it returns false'. Refute it at one input. -/
def fnMontgomeryReduceWrong : ChangeSpec := { name := "fnMontgomeryReduce", fn := fun _ => fun
  | [d] => { results := [.lit (.bool false)], args := [d] }
  | _ => none }
def FnMontgomeryReduceWrongFalsely : Prop := fnMontgomeryReduceRow.holds Try.pinned (OpenSpec.ofChange fnMontgomeryReduceWrong)

/-- 'laws.FnReduceOnce': WHATEVER THE INPUT: true; the input reads as it did. -/
def fnReduceOnceSpec : ChangeSpec := { name := "fnReduceOnce", fn := fun _ => fun
  | [d] => { results := [.lit (.bool true)], args := [d] }
  | _ => none }
def fnReduceOnceRow : OpenClaim := { program := "ytjphgdmnogdekaa", sum := "6aa8fa723119d28b5ae5aa121aaeec35a65b4a4d3c2d66c317ed1fbc1479725d", func := "loop.example/pub-g03236/laws.FnReduceOnce", spec := "fnReduceOnce", inPlace := ["math/bits.Sub64"], apart := false }
def FnReduceOnceSaid : Prop := fnReduceOnceRow.holds Try.pinned (OpenSpec.ofChange fnReduceOnceSpec)

/-- ITS FALSE NEIGHBOUR: 'it returns false'. Refute it at one input. -/
def fnReduceOnceWrong : ChangeSpec := { name := "fnReduceOnce", fn := fun _ => fun
  | [d] => { results := [.lit (.bool false)], args := [d] }
  | _ => none }
def FnReduceOnceWrongFalsely : Prop := fnReduceOnceRow.holds Try.pinned (OpenSpec.ofChange fnReduceOnceWrong)

/-- 'laws.FnFromMontgomery': WHATEVER THE INPUT: true; the input reads as it did. -/
def fnFromMontgomerySpec : ChangeSpec := { name := "fnFromMontgomery", fn := fun _ => fun
  | [d] => { results := [.lit (.bool true)], args := [d] }
  | _ => none }
def fnFromMontgomeryRow : OpenClaim := { program := "ytjphgdmnogdekaa", sum := "6aa8fa723119d28b5ae5aa121aaeec35a65b4a4d3c2d66c317ed1fbc1479725d", func := "loop.example/pub-g03236/laws.FnFromMontgomery", spec := "fnFromMontgomery", inPlace := ["math/bits.Sub64"], apart := false }
def FnFromMontgomerySaid : Prop := fnFromMontgomeryRow.holds Try.pinned (OpenSpec.ofChange fnFromMontgomerySpec)

/-- ITS FALSE NEIGHBOUR: 'it returns false'. Refute it at one input. -/
def fnFromMontgomeryWrong : ChangeSpec := { name := "fnFromMontgomery", fn := fun _ => fun
  | [d] => { results := [.lit (.bool false)], args := [d] }
  | _ => none }
def FnFromMontgomeryWrongFalsely : Prop := fnFromMontgomeryRow.holds Try.pinned (OpenSpec.ofChange fnFromMontgomeryWrong)

/-- 'laws.FnSubToMontgomery': WHATEVER THE INPUT: true; the input reads as it did. -/
def fnSubToMontgomerySpec : ChangeSpec := { name := "fnSubToMontgomery", fn := fun _ => fun
  | [d1, d2] => { results := [.lit (.bool true)], args := [d1, d2] }
  | _ => none }
def fnSubToMontgomeryRow : OpenClaim := { program := "ytjphgdmnogdekaa", sum := "6aa8fa723119d28b5ae5aa121aaeec35a65b4a4d3c2d66c317ed1fbc1479725d", func := "loop.example/pub-g03236/laws.FnSubToMontgomery", spec := "fnSubToMontgomery", inPlace := ["math/bits.Sub64"], apart := false }
def FnSubToMontgomerySaid : Prop := fnSubToMontgomeryRow.holds Try.pinned (OpenSpec.ofChange fnSubToMontgomerySpec)

/-- ITS FALSE NEIGHBOUR: 'it returns false'. Refute it at one input. -/
def fnSubToMontgomeryWrong : ChangeSpec := { name := "fnSubToMontgomery", fn := fun _ => fun
  | [d1, d2] => { results := [.lit (.bool false)], args := [d1, d2] }
  | _ => none }
def FnSubToMontgomeryWrongFalsely : Prop := fnSubToMontgomeryRow.holds Try.pinned (OpenSpec.ofChange fnSubToMontgomeryWrong)

/-- 'laws.FnAbs': WHATEVER THE INPUT: true; the input reads as it did. -/
def fnAbsSpec : ChangeSpec := { name := "fnAbs", fn := fun _ => fun
  | [d] => { results := [.lit (.bool true)], args := [d] }
  | _ => none }
def fnAbsRow : OpenClaim := { program := "ytjphgdmnogdekaa", sum := "6aa8fa723119d28b5ae5aa121aaeec35a65b4a4d3c2d66c317ed1fbc1479725d", func := "loop.example/pub-g03236/laws.FnAbs", spec := "fnAbs", apart := false }
def FnAbsSaid : Prop := fnAbsRow.holds Try.pinned (OpenSpec.ofChange fnAbsSpec)

/-- ITS FALSE NEIGHBOUR: 'it returns false'. Refute it at one input. -/
def fnAbsWrong : ChangeSpec := { name := "fnAbs", fn := fun _ => fun
  | [d] => { results := [.lit (.bool false)], args := [d] }
  | _ => none }
def FnAbsWrongFalsely : Prop := fnAbsRow.holds Try.pinned (OpenSpec.ofChange fnAbsWrong)

/-- 'laws.FnSelectLessOrEqual': WHATEVER THE INPUT: true; the input reads as it did. -/
def fnSelectLessOrEqualSpec : ChangeSpec := { name := "fnSelectLessOrEqual", fn := fun _ => fun
  | [d1, d2, d3, d4] => { results := [.lit (.bool true)], args := [d1, d2, d3, d4] }
  | _ => none }
def fnSelectLessOrEqualRow : OpenClaim := { program := "ytjphgdmnogdekaa", sum := "6aa8fa723119d28b5ae5aa121aaeec35a65b4a4d3c2d66c317ed1fbc1479725d", func := "loop.example/pub-g03236/laws.FnSelectLessOrEqual", spec := "fnSelectLessOrEqual", apart := false }
def FnSelectLessOrEqualSaid : Prop := fnSelectLessOrEqualRow.holds Try.pinned (OpenSpec.ofChange fnSelectLessOrEqualSpec)

/-- ITS FALSE NEIGHBOUR: 'it returns false'. Refute it at one input. -/
def fnSelectLessOrEqualWrong : ChangeSpec := { name := "fnSelectLessOrEqual", fn := fun _ => fun
  | [d1, d2, d3, d4] => { results := [.lit (.bool false)], args := [d1, d2, d3, d4] }
  | _ => none }
def FnSelectLessOrEqualWrongFalsely : Prop := fnSelectLessOrEqualRow.holds Try.pinned (OpenSpec.ofChange fnSelectLessOrEqualWrong)

/-- 'laws.FnSelectEqual': WHATEVER THE INPUT: true; the input reads as it did. -/
def fnSelectEqualSpec : ChangeSpec := { name := "fnSelectEqual", fn := fun _ => fun
  | [d1, d2, d3, d4] => { results := [.lit (.bool true)], args := [d1, d2, d3, d4] }
  | _ => none }
def fnSelectEqualRow : OpenClaim := { program := "ytjphgdmnogdekaa", sum := "6aa8fa723119d28b5ae5aa121aaeec35a65b4a4d3c2d66c317ed1fbc1479725d", func := "loop.example/pub-g03236/laws.FnSelectEqual", spec := "fnSelectEqual", apart := false }
def FnSelectEqualSaid : Prop := fnSelectEqualRow.holds Try.pinned (OpenSpec.ofChange fnSelectEqualSpec)

/-- ITS FALSE NEIGHBOUR: 'it returns false'. Refute it at one input. -/
def fnSelectEqualWrong : ChangeSpec := { name := "fnSelectEqual", fn := fun _ => fun
  | [d1, d2, d3, d4] => { results := [.lit (.bool false)], args := [d1, d2, d3, d4] }
  | _ => none }
def FnSelectEqualWrongFalsely : Prop := fnSelectEqualRow.holds Try.pinned (OpenSpec.ofChange fnSelectEqualWrong)

/- THE SECOND FORM. 'bulk': how many values and letters a reading holds, each counted each time it is reached (what is shared counts as often as it is met; a slice's spare places count too). A statement '..UptoSaid' is the law's where the arguments, and the package variables that the reading takes, are together of bulk at most 1048576: NARROWER than '..Said'. Prove '..Said' where nothing that the law and all that it calls make is longer than what came in: it says more and counts as full. Else prove '..UptoSaid'. A law counts once. -/
mutual
def uptoBulk {H : Type} : DataW H → Nat
  | .lit (.string bytes) => bytes.length + 1
  | .lit _ => 1
  | .nil => 1
  | .ptr d => uptoBulk d + 1
  | .slice elems spare => uptoBulkAll elems + uptoBulkAll spare + 1
  | .agg parts => uptoBulkAll parts + 1
  | .iface _ d => uptoBulk d + 1
  | .map entries => uptoBulkEntries entries + 1
  | .held _ => 1
def uptoBulkAll {H : Type} : List (DataW H) → Nat
  | [] => 0
  | d :: r => uptoBulk d + uptoBulkAll r
def uptoBulkEntries {H : Type} : List (Lit × DataW H) → Nat
  | [] => 0
  | x :: r => uptoBulkEntry x + uptoBulkEntries r
def uptoBulkEntry {H : Type} : Lit × DataW H → Nat
  | (.string bytes, d) => bytes.length + uptoBulk d + 1
  | (_, d) => uptoBulk d + 1
 end
def uptoSmall : (H : Type) → List (DataW H) → Bool := fun _ ds => decide (uptoBulkAll ds ≤ 1048576)
def OpenSpec.upto (s : _root_.Go.ChangeSpec) : _root_.Go.OpenSpec := { _root_.Go.OpenSpec.ofChange s with cond := some uptoSmall }

/-- 'laws.FnAdd', WHERE WHAT IT READS IS OF BULK AT MOST 1048576: true; the input reads as it did. -/
def fnAddUptoRow : OpenClaim := { program := "ytjphgdmnogdekaa", sum := "6aa8fa723119d28b5ae5aa121aaeec35a65b4a4d3c2d66c317ed1fbc1479725d", func := "loop.example/pub-g03236/laws.FnAdd", spec := "fnAdd", inPlace := ["math/bits.Sub64"], apart := false, narrowed := true }
def FnAddUptoSaid : Prop := fnAddUptoRow.holds Try.pinned (OpenSpec.upto fnAddSpec)

/-- 'laws.FnSub', WHERE WHAT IT READS IS OF BULK AT MOST 1048576: true; the input reads as it did. -/
def fnSubUptoRow : OpenClaim := { program := "ytjphgdmnogdekaa", sum := "6aa8fa723119d28b5ae5aa121aaeec35a65b4a4d3c2d66c317ed1fbc1479725d", func := "loop.example/pub-g03236/laws.FnSub", spec := "fnSub", inPlace := ["math/bits.Sub64"], apart := false, narrowed := true }
def FnSubUptoSaid : Prop := fnSubUptoRow.holds Try.pinned (OpenSpec.upto fnSubSpec)

/-- 'laws.FnMontgomeryMul', WHERE WHAT IT READS IS OF BULK AT MOST 1048576: true; the input reads as it did. -/
def fnMontgomeryMulUptoRow : OpenClaim := { program := "ytjphgdmnogdekaa", sum := "6aa8fa723119d28b5ae5aa121aaeec35a65b4a4d3c2d66c317ed1fbc1479725d", func := "loop.example/pub-g03236/laws.FnMontgomeryMul", spec := "fnMontgomeryMul", inPlace := ["math/bits.Sub64"], apart := false, narrowed := true }
def FnMontgomeryMulUptoSaid : Prop := fnMontgomeryMulUptoRow.holds Try.pinned (OpenSpec.upto fnMontgomeryMulSpec)

/-- 'laws.FnMontgomeryMulSub', WHERE WHAT IT READS IS OF BULK AT MOST 1048576: true; the input reads as it did. -/
def fnMontgomeryMulSubUptoRow : OpenClaim := { program := "ytjphgdmnogdekaa", sum := "6aa8fa723119d28b5ae5aa121aaeec35a65b4a4d3c2d66c317ed1fbc1479725d", func := "loop.example/pub-g03236/laws.FnMontgomeryMulSub", spec := "fnMontgomeryMulSub", inPlace := ["math/bits.Sub64"], apart := false, narrowed := true }
def FnMontgomeryMulSubUptoSaid : Prop := fnMontgomeryMulSubUptoRow.holds Try.pinned (OpenSpec.upto fnMontgomeryMulSubSpec)

/-- 'laws.FnMontgomeryAddMul', WHERE WHAT IT READS IS OF BULK AT MOST 1048576: true; the input reads as it did. -/
def fnMontgomeryAddMulUptoRow : OpenClaim := { program := "ytjphgdmnogdekaa", sum := "6aa8fa723119d28b5ae5aa121aaeec35a65b4a4d3c2d66c317ed1fbc1479725d", func := "loop.example/pub-g03236/laws.FnMontgomeryAddMul", spec := "fnMontgomeryAddMul", inPlace := ["math/bits.Sub64"], apart := false, narrowed := true }
def FnMontgomeryAddMulUptoSaid : Prop := fnMontgomeryAddMulUptoRow.holds Try.pinned (OpenSpec.upto fnMontgomeryAddMulSpec)

/-- 'laws.FnMontgomeryReduce', WHERE WHAT IT READS IS OF BULK AT MOST 1048576: true; the input reads as it did. -/
def fnMontgomeryReduceUptoRow : OpenClaim := { program := "ytjphgdmnogdekaa", sum := "6aa8fa723119d28b5ae5aa121aaeec35a65b4a4d3c2d66c317ed1fbc1479725d", func := "loop.example/pub-g03236/laws.FnMontgomeryReduce", spec := "fnMontgomeryReduce", inPlace := ["math/bits.Sub64"], apart := false, narrowed := true }
def FnMontgomeryReduceUptoSaid : Prop := fnMontgomeryReduceUptoRow.holds Try.pinned (OpenSpec.upto fnMontgomeryReduceSpec)

/-- 'laws.FnReduceOnce', WHERE WHAT IT READS IS OF BULK AT MOST 1048576: true; the input reads as it did. -/
def fnReduceOnceUptoRow : OpenClaim := { program := "ytjphgdmnogdekaa", sum := "6aa8fa723119d28b5ae5aa121aaeec35a65b4a4d3c2d66c317ed1fbc1479725d", func := "loop.example/pub-g03236/laws.FnReduceOnce", spec := "fnReduceOnce", inPlace := ["math/bits.Sub64"], apart := false, narrowed := true }
def FnReduceOnceUptoSaid : Prop := fnReduceOnceUptoRow.holds Try.pinned (OpenSpec.upto fnReduceOnceSpec)

/-- 'laws.FnFromMontgomery', WHERE WHAT IT READS IS OF BULK AT MOST 1048576: true; the input reads as it did. -/
def fnFromMontgomeryUptoRow : OpenClaim := { program := "ytjphgdmnogdekaa", sum := "6aa8fa723119d28b5ae5aa121aaeec35a65b4a4d3c2d66c317ed1fbc1479725d", func := "loop.example/pub-g03236/laws.FnFromMontgomery", spec := "fnFromMontgomery", inPlace := ["math/bits.Sub64"], apart := false, narrowed := true }
def FnFromMontgomeryUptoSaid : Prop := fnFromMontgomeryUptoRow.holds Try.pinned (OpenSpec.upto fnFromMontgomerySpec)

/-- 'laws.FnSubToMontgomery', WHERE WHAT IT READS IS OF BULK AT MOST 1048576: true; the input reads as it did. -/
def fnSubToMontgomeryUptoRow : OpenClaim := { program := "ytjphgdmnogdekaa", sum := "6aa8fa723119d28b5ae5aa121aaeec35a65b4a4d3c2d66c317ed1fbc1479725d", func := "loop.example/pub-g03236/laws.FnSubToMontgomery", spec := "fnSubToMontgomery", inPlace := ["math/bits.Sub64"], apart := false, narrowed := true }
def FnSubToMontgomeryUptoSaid : Prop := fnSubToMontgomeryUptoRow.holds Try.pinned (OpenSpec.upto fnSubToMontgomerySpec)

/-- 'laws.FnAbs', WHERE WHAT IT READS IS OF BULK AT MOST 1048576: true; the input reads as it did. -/
def fnAbsUptoRow : OpenClaim := { program := "ytjphgdmnogdekaa", sum := "6aa8fa723119d28b5ae5aa121aaeec35a65b4a4d3c2d66c317ed1fbc1479725d", func := "loop.example/pub-g03236/laws.FnAbs", spec := "fnAbs", apart := false, narrowed := true }
def FnAbsUptoSaid : Prop := fnAbsUptoRow.holds Try.pinned (OpenSpec.upto fnAbsSpec)

/-- 'laws.FnSelectLessOrEqual', WHERE WHAT IT READS IS OF BULK AT MOST 1048576: true; the input reads as it did. -/
def fnSelectLessOrEqualUptoRow : OpenClaim := { program := "ytjphgdmnogdekaa", sum := "6aa8fa723119d28b5ae5aa121aaeec35a65b4a4d3c2d66c317ed1fbc1479725d", func := "loop.example/pub-g03236/laws.FnSelectLessOrEqual", spec := "fnSelectLessOrEqual", apart := false, narrowed := true }
def FnSelectLessOrEqualUptoSaid : Prop := fnSelectLessOrEqualUptoRow.holds Try.pinned (OpenSpec.upto fnSelectLessOrEqualSpec)

/-- 'laws.FnSelectEqual', WHERE WHAT IT READS IS OF BULK AT MOST 1048576: true; the input reads as it did. -/
def fnSelectEqualUptoRow : OpenClaim := { program := "ytjphgdmnogdekaa", sum := "6aa8fa723119d28b5ae5aa121aaeec35a65b4a4d3c2d66c317ed1fbc1479725d", func := "loop.example/pub-g03236/laws.FnSelectEqual", spec := "fnSelectEqual", apart := false, narrowed := true }
def FnSelectEqualUptoSaid : Prop := fnSelectEqualUptoRow.holds Try.pinned (OpenSpec.upto fnSelectEqualSpec)

end Rows
end Go.Proofs.Ytjphgdmnogdekaa
