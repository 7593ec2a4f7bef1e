/-
  No cell of these rows narrows 'for every input' (looked for: loops, veiled, ifaces, maps, wideKeys, modest, calm, conditions, laid).
  DERIVED. THE GIVEN ROWS OF THIS SEAT. 4 by the template 'for every input the law returns true; each argument reads behind the call as it read before'; 0 by the template 'total and deterministic' (their statements: YtkckbfjimlmjhaaTotals.lean).
  GIVEN WITH THE SEED: the statements are not yours to turn. If you find one false, say at which input.
  Laid BY PROGRAM, IN A SANDBOX (cutbox-rows.mjs): the forced cells as the released guide's own fill.sh prints them over the translation d0ee8d8b6c625baa… (all of the seat's roots in one cut). By AI agents, Wed Nov 11 2026. No macro, syntax, notation, axiom, sorry.
-/
import Derived.Test.YtkckbfjimlmjhaaChecked
import GoSem.Claim
import GoSem.ClaimJoined
import GoSem.ClaimMapViews
import Derived.JoinedTies
import Derived.KernelRfl
namespace Go.Proofs.Ytkckbfjimlmjhaa
/- THE CELL 'sum', in the pinned program and in every row, IS THE sha256 OF THE DUMP (.gsa) THAT YtkckbfjimlmjhaaProg.lean LOADS. Nothing in Lean hashes anything: it is a label: what it is worth is what the hold of that sum in a sandbox is worth. -/
noncomputable def Try.pinned : Pinned := { name := "ytkckbfjimlmjhaa", sum := "d0ee8d8b6c625baaac6220f0caca6a3616d71ba40f9733b4f50fcf20eda44a9b", checked := Try.checked }
namespace Rows
def none {H : Type} : Left H := { results := [], args := [] }

/-- 'laws.FnRingAdd': WHATEVER THE INPUT: true; the input reads as it did. -/
def fnRingAddSpec : ChangeSpec := { name := "fnRingAdd", fn := fun _ => fun
  | [d1, d2] => { results := [.lit (.bool true)], args := [d1, d2] }
  | _ => none }
def fnRingAddRow : OpenClaim := { program := "ytkckbfjimlmjhaa", sum := "d0ee8d8b6c625baaac6220f0caca6a3616d71ba40f9733b4f50fcf20eda44a9b", func := "loop.example/pub-g03236/laws.FnRingAdd", spec := "fnRingAdd", inPlace := ["math/bits.Sub64"], apart := false }
def FnRingAddSaid : Prop := fnRingAddRow.holds Try.pinned (OpenSpec.ofChange fnRingAddSpec)

/-- ITS FALSE NEIGHBOUR: 'it returns false'. Refute it at one input. -/
def fnRingAddWrong : ChangeSpec := { name := "fnRingAdd", fn := fun _ => fun
  | [d1, d2] => { results := [.lit (.bool false)], args := [d1, d2] }
  | _ => none }
def FnRingAddWrongFalsely : Prop := fnRingAddRow.holds Try.pinned (OpenSpec.ofChange fnRingAddWrong)

/-- 'laws.FnRingSub': WHATEVER THE INPUT: true; the input reads as it did. -/
def fnRingSubSpec : ChangeSpec := { name := "fnRingSub", fn := fun _ => fun
  | [d1, d2] => { results := [.lit (.bool true)], args := [d1, d2] }
  | _ => none }
def fnRingSubRow : OpenClaim := { program := "ytkckbfjimlmjhaa", sum := "d0ee8d8b6c625baaac6220f0caca6a3616d71ba40f9733b4f50fcf20eda44a9b", func := "loop.example/pub-g03236/laws.FnRingSub", spec := "fnRingSub", inPlace := ["math/bits.Sub64"], apart := false }
def FnRingSubSaid : Prop := fnRingSubRow.holds Try.pinned (OpenSpec.ofChange fnRingSubSpec)

/-- ITS FALSE NEIGHBOUR: 'it returns false'. Refute it at one input. -/
def fnRingSubWrong : ChangeSpec := { name := "fnRingSub", fn := fun _ => fun
  | [d1, d2] => { results := [.lit (.bool false)], args := [d1, d2] }
  | _ => none }
def FnRingSubWrongFalsely : Prop := fnRingSubRow.holds Try.pinned (OpenSpec.ofChange fnRingSubWrong)

/-- 'laws.FnNTTMul': WHATEVER THE INPUT: true; the input reads as it did. -/
def fnNTTMulSpec : ChangeSpec := { name := "fnNTTMul", fn := fun _ => fun
  | [d1, d2] => { results := [.lit (.bool true)], args := [d1, d2] }
  | _ => none }
def fnNTTMulRow : OpenClaim := { program := "ytkckbfjimlmjhaa", sum := "d0ee8d8b6c625baaac6220f0caca6a3616d71ba40f9733b4f50fcf20eda44a9b", func := "loop.example/pub-g03236/laws.FnNTTMul", spec := "fnNTTMul", inPlace := ["math/bits.Sub64"], apart := false }
def FnNTTMulSaid : Prop := fnNTTMulRow.holds Try.pinned (OpenSpec.ofChange fnNTTMulSpec)

/-- ITS FALSE NEIGHBOUR: 'it returns false'. Refute it at one input. -/
def fnNTTMulWrong : ChangeSpec := { name := "fnNTTMul", fn := fun _ => fun
  | [d1, d2] => { results := [.lit (.bool false)], args := [d1, d2] }
  | _ => none }
def FnNTTMulWrongFalsely : Prop := fnNTTMulRow.holds Try.pinned (OpenSpec.ofChange fnNTTMulWrong)

/-- 'laws.FnCoefficientsExceedBound': WHATEVER THE INPUT: true; the input reads as it did. -/
def fnCoefficientsExceedBoundSpec : ChangeSpec := { name := "fnCoefficientsExceedBound", fn := fun _ => fun
  | [d1, d2] => { results := [.lit (.bool true)], args := [d1, d2] }
  | _ => none }
def fnCoefficientsExceedBoundRow : OpenClaim := { program := "ytkckbfjimlmjhaa", sum := "d0ee8d8b6c625baaac6220f0caca6a3616d71ba40f9733b4f50fcf20eda44a9b", func := "loop.example/pub-g03236/laws.FnCoefficientsExceedBound", spec := "fnCoefficientsExceedBound", inPlace := ["math/bits.Sub64"], apart := false }
def FnCoefficientsExceedBoundSaid : Prop := fnCoefficientsExceedBoundRow.holds Try.pinned (OpenSpec.ofChange fnCoefficientsExceedBoundSpec)

/-- ITS FALSE NEIGHBOUR: 'it returns false'. Refute it at one input. -/
def fnCoefficientsExceedBoundWrong : ChangeSpec := { name := "fnCoefficientsExceedBound", fn := fun _ => fun
  | [d1, d2] => { results := [.lit (.bool false)], args := [d1, d2] }
  | _ => none }
def FnCoefficientsExceedBoundWrongFalsely : Prop := fnCoefficientsExceedBoundRow.holds Try.pinned (OpenSpec.ofChange fnCoefficientsExceedBoundWrong)

/- THE SECOND FORM. 'bulk': how many values and letters a reading holds, each counted each time it is reached (what is shared counts as often as it is met; a slice's spare places count too). A statement '..UptoSaid' is the law's where the arguments, and the package variables that the reading takes, are together of bulk at most 1048576: NARROWER than '..Said'. Prove '..Said' where nothing that the law and all that it calls make is longer than what came in: it says more and counts as full. Else prove '..UptoSaid'. A law counts once. -/
mutual
def uptoBulk {H : Type} : DataW H → Nat
  | .lit (.string bytes) => bytes.length + 1
  | .lit _ => 1
  | .nil => 1
  | .ptr d => uptoBulk d + 1
  | .slice elems spare => uptoBulkAll elems + uptoBulkAll spare + 1
  | .agg parts => uptoBulkAll parts + 1
  | .iface _ d => uptoBulk d + 1
  | .map entries => uptoBulkEntries entries + 1
  | .held _ => 1
def uptoBulkAll {H : Type} : List (DataW H) → Nat
  | [] => 0
  | d :: r => uptoBulk d + uptoBulkAll r
def uptoBulkEntries {H : Type} : List (Lit × DataW H) → Nat
  | [] => 0
  | x :: r => uptoBulkEntry x + uptoBulkEntries r
def uptoBulkEntry {H : Type} : Lit × DataW H → Nat
  | (.string bytes, d) => bytes.length + uptoBulk d + 1
  | (_, d) => uptoBulk d + 1
 end
def uptoSmall : (H : Type) → List (DataW H) → Bool := fun _ ds => decide (uptoBulkAll ds ≤ 1048576)
def OpenSpec.upto (s : _root_.Go.ChangeSpec) : _root_.Go.OpenSpec := { _root_.Go.OpenSpec.ofChange s with cond := some uptoSmall }

/-- 'laws.FnRingAdd', WHERE WHAT IT READS IS OF BULK AT MOST 1048576: true; the input reads as it did. -/
def fnRingAddUptoRow : OpenClaim := { program := "ytkckbfjimlmjhaa", sum := "d0ee8d8b6c625baaac6220f0caca6a3616d71ba40f9733b4f50fcf20eda44a9b", func := "loop.example/pub-g03236/laws.FnRingAdd", spec := "fnRingAdd", inPlace := ["math/bits.Sub64"], apart := false, narrowed := true }
def FnRingAddUptoSaid : Prop := fnRingAddUptoRow.holds Try.pinned (OpenSpec.upto fnRingAddSpec)

/-- 'laws.FnRingSub', WHERE WHAT IT READS IS OF BULK AT MOST 1048576: true; the input reads as it did. -/
def fnRingSubUptoRow : OpenClaim := { program := "ytkckbfjimlmjhaa", sum := "d0ee8d8b6c625baaac6220f0caca6a3616d71ba40f9733b4f50fcf20eda44a9b", func := "loop.example/pub-g03236/laws.FnRingSub", spec := "fnRingSub", inPlace := ["math/bits.Sub64"], apart := false, narrowed := true }
def FnRingSubUptoSaid : Prop := fnRingSubUptoRow.holds Try.pinned (OpenSpec.upto fnRingSubSpec)

/-- 'laws.FnNTTMul', WHERE WHAT IT READS IS OF BULK AT MOST 1048576: true; the input reads as it did. -/
def fnNTTMulUptoRow : OpenClaim := { program := "ytkckbfjimlmjhaa", sum := "d0ee8d8b6c625baaac6220f0caca6a3616d71ba40f9733b4f50fcf20eda44a9b", func := "loop.example/pub-g03236/laws.FnNTTMul", spec := "fnNTTMul", inPlace := ["math/bits.Sub64"], apart := false, narrowed := true }
def FnNTTMulUptoSaid : Prop := fnNTTMulUptoRow.holds Try.pinned (OpenSpec.upto fnNTTMulSpec)

/-- 'laws.FnCoefficientsExceedBound', WHERE WHAT IT READS IS OF BULK AT MOST 1048576: true; the input reads as it did. -/
def fnCoefficientsExceedBoundUptoRow : OpenClaim := { program := "ytkckbfjimlmjhaa", sum := "d0ee8d8b6c625baaac6220f0caca6a3616d71ba40f9733b4f50fcf20eda44a9b", func := "loop.example/pub-g03236/laws.FnCoefficientsExceedBound", spec := "fnCoefficientsExceedBound", inPlace := ["math/bits.Sub64"], apart := false, narrowed := true }
def FnCoefficientsExceedBoundUptoSaid : Prop := fnCoefficientsExceedBoundUptoRow.holds Try.pinned (OpenSpec.upto fnCoefficientsExceedBoundSpec)

end Rows
end Go.Proofs.Ytkckbfjimlmjhaa
