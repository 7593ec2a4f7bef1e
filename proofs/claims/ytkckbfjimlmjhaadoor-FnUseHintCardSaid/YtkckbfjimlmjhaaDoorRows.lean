/-
  NARROWER THAN 'FOR EVERY INPUT', by the rows' own cells (each row's printed sentence says how): FnHighBits: laid · FnUseHint: laid · FnMakeHint: laid · FnLowBitsExceedBound: laid.
  DERIVED. THE GIVEN ROWS OF THIS SEAT. 4 by the template 'for every input the law returns true; each argument reads behind the call as it read before'; 0 by the template 'total and deterministic' (their statements: YtkckbfjimlmjhaaDoorTotals.lean).
  GIVEN WITH THE SEED: the statements are not yours to turn. If you find one false, say at which input.
  Laid BY PROGRAM, IN A SANDBOX (cutbox-rows.mjs): the forced cells as the released guide's own fill.sh prints them over the translation fb56e54644395a29… (all of the seat's roots in one cut). By AI agents, Wed Nov 11 2026. No macro, syntax, notation, axiom, sorry.
-/
import Derived.Test.YtkckbfjimlmjhaaDoorChecked
import GoSem.Claim
import GoSem.ClaimJoined
import GoSem.ClaimMapViews
import Derived.JoinedTies
import Derived.KernelRfl
namespace Go.Proofs.YtkckbfjimlmjhaaDoor
/- THE CELL 'sum', in the pinned program and in every row, IS THE sha256 OF THE DUMP (.gsa) THAT YtkckbfjimlmjhaaDoorProg.lean LOADS. Nothing in Lean hashes anything: it is a label: what it is worth is what the hold of that sum in a sandbox is worth. -/
noncomputable def Tryd.pinned : Pinned := { name := "ytkckbfjimlmjhaadoor", sum := "fb56e54644395a2958f0df0dc0717dee1d7c78adbd15a1c90fc2cbb0b10c9a9e", checked := Tryd.checked }
namespace Rows
def none {H : Type} : Left H := { results := [], args := [] }

/- WHAT THE LISTED PACKAGE-LEVEL VARIABLES READ AS WHEN THE CALL BEGINS. Each datum BY PROGRAM (the guide's laid-datum.mjs) off the statement by which the dump's own 'gosem.cut.vars' lays the variable. In a bare row this is a premise. The card (YtkckbfjimlmjhaaDoorCards.lean) ties it to the program's text. -/
def laid_loop_example_pub_g03236_pub_mldsa_params44 {H : Type} : DataW H := .agg [.lit (.int .i64 4), .lit (.int .i64 4), .lit (.int .i64 2), .lit (.int .i64 17), .lit (.int .i64 88), .lit (.int .i64 128), .lit (.int .i64 39), .lit (.int .i64 80)]
def laid_loop_example_pub_g03236_pub_mldsa_params65 {H : Type} : DataW H := .agg [.lit (.int .i64 6), .lit (.int .i64 5), .lit (.int .i64 4), .lit (.int .i64 19), .lit (.int .i64 32), .lit (.int .i64 192), .lit (.int .i64 49), .lit (.int .i64 55)]
def laid_loop_example_pub_g03236_pub_mldsa_params87 {H : Type} : DataW H := .agg [.lit (.int .i64 8), .lit (.int .i64 7), .lit (.int .i64 2), .lit (.int .i64 19), .lit (.int .i64 32), .lit (.int .i64 256), .lit (.int .i64 60), .lit (.int .i64 75)]

/-- 'laws.FnHighBits': WHATEVER THE INPUT: true; the input reads as it did. -/
def fnHighBitsSpec : ChangeSpec := { name := "fnHighBits", vars := ["loop.example/pub-g03236/pub/mldsa.params44", "loop.example/pub-g03236/pub/mldsa.params65", "loop.example/pub-g03236/pub/mldsa.params87"], fn := fun _ => fun
  | [d1, d2, g1, g2, g3] => { results := [.lit (.bool true)], args := [d1, d2], vars := [g1, g2, g3] }
  | _ => none }
def fnHighBitsRow : OpenClaim := { program := "ytkckbfjimlmjhaadoor", sum := "fb56e54644395a2958f0df0dc0717dee1d7c78adbd15a1c90fc2cbb0b10c9a9e", func := "loop.example/pub-g03236/laws.FnHighBits", spec := "fnHighBits", inPlace := ["math/bits.Sub64"], named := ["loop.example/pub-g03236/pub/mldsa.params44", "loop.example/pub-g03236/pub/mldsa.params65", "loop.example/pub-g03236/pub/mldsa.params87"], apart := false, laid := [("loop.example/pub-g03236/pub/mldsa.params44", laid_loop_example_pub_g03236_pub_mldsa_params44), ("loop.example/pub-g03236/pub/mldsa.params65", laid_loop_example_pub_g03236_pub_mldsa_params65), ("loop.example/pub-g03236/pub/mldsa.params87", laid_loop_example_pub_g03236_pub_mldsa_params87)] }
def FnHighBitsSaid : Prop := fnHighBitsRow.holds Tryd.pinned (OpenSpec.ofChange fnHighBitsSpec)

/-- ITS FALSE NEIGHBOUR: 'it returns false'. Refute it at one input. -/
def fnHighBitsWrong : ChangeSpec := { name := "fnHighBits", vars := ["loop.example/pub-g03236/pub/mldsa.params44", "loop.example/pub-g03236/pub/mldsa.params65", "loop.example/pub-g03236/pub/mldsa.params87"], fn := fun _ => fun
  | [d1, d2, g1, g2, g3] => { results := [.lit (.bool false)], args := [d1, d2], vars := [g1, g2, g3] }
  | _ => none }
def FnHighBitsWrongFalsely : Prop := fnHighBitsRow.holds Tryd.pinned (OpenSpec.ofChange fnHighBitsWrong)

/-- 'laws.FnUseHint': WHATEVER THE INPUT: true; the input reads as it did. -/
def fnUseHintSpec : ChangeSpec := { name := "fnUseHint", vars := ["loop.example/pub-g03236/pub/mldsa.params44", "loop.example/pub-g03236/pub/mldsa.params65", "loop.example/pub-g03236/pub/mldsa.params87"], fn := fun _ => fun
  | [d1, d2, d3, g1, g2, g3] => { results := [.lit (.bool true)], args := [d1, d2, d3], vars := [g1, g2, g3] }
  | _ => none }
def fnUseHintRow : OpenClaim := { program := "ytkckbfjimlmjhaadoor", sum := "fb56e54644395a2958f0df0dc0717dee1d7c78adbd15a1c90fc2cbb0b10c9a9e", func := "loop.example/pub-g03236/laws.FnUseHint", spec := "fnUseHint", inPlace := ["math/bits.Sub64"], named := ["loop.example/pub-g03236/pub/mldsa.params44", "loop.example/pub-g03236/pub/mldsa.params65", "loop.example/pub-g03236/pub/mldsa.params87"], apart := false, laid := [("loop.example/pub-g03236/pub/mldsa.params44", laid_loop_example_pub_g03236_pub_mldsa_params44), ("loop.example/pub-g03236/pub/mldsa.params65", laid_loop_example_pub_g03236_pub_mldsa_params65), ("loop.example/pub-g03236/pub/mldsa.params87", laid_loop_example_pub_g03236_pub_mldsa_params87)] }
def FnUseHintSaid : Prop := fnUseHintRow.holds Tryd.pinned (OpenSpec.ofChange fnUseHintSpec)

/-- ITS FALSE NEIGHBOUR: 'it returns false'. Refute it at one input. -/
def fnUseHintWrong : ChangeSpec := { name := "fnUseHint", vars := ["loop.example/pub-g03236/pub/mldsa.params44", "loop.example/pub-g03236/pub/mldsa.params65", "loop.example/pub-g03236/pub/mldsa.params87"], fn := fun _ => fun
  | [d1, d2, d3, g1, g2, g3] => { results := [.lit (.bool false)], args := [d1, d2, d3], vars := [g1, g2, g3] }
  | _ => none }
def FnUseHintWrongFalsely : Prop := fnUseHintRow.holds Tryd.pinned (OpenSpec.ofChange fnUseHintWrong)

/-- 'laws.FnMakeHint': WHATEVER THE INPUT: true; the input reads as it did. -/
def fnMakeHintSpec : ChangeSpec := { name := "fnMakeHint", vars := ["loop.example/pub-g03236/pub/mldsa.params44", "loop.example/pub-g03236/pub/mldsa.params65", "loop.example/pub-g03236/pub/mldsa.params87"], fn := fun _ => fun
  | [d1, d2, d3, d4, g1, g2, g3] => { results := [.lit (.bool true)], args := [d1, d2, d3, d4], vars := [g1, g2, g3] }
  | _ => none }
def fnMakeHintRow : OpenClaim := { program := "ytkckbfjimlmjhaadoor", sum := "fb56e54644395a2958f0df0dc0717dee1d7c78adbd15a1c90fc2cbb0b10c9a9e", func := "loop.example/pub-g03236/laws.FnMakeHint", spec := "fnMakeHint", inPlace := ["math/bits.Sub64"], named := ["loop.example/pub-g03236/pub/mldsa.params44", "loop.example/pub-g03236/pub/mldsa.params65", "loop.example/pub-g03236/pub/mldsa.params87"], apart := false, laid := [("loop.example/pub-g03236/pub/mldsa.params44", laid_loop_example_pub_g03236_pub_mldsa_params44), ("loop.example/pub-g03236/pub/mldsa.params65", laid_loop_example_pub_g03236_pub_mldsa_params65), ("loop.example/pub-g03236/pub/mldsa.params87", laid_loop_example_pub_g03236_pub_mldsa_params87)] }
def FnMakeHintSaid : Prop := fnMakeHintRow.holds Tryd.pinned (OpenSpec.ofChange fnMakeHintSpec)

/-- ITS FALSE NEIGHBOUR: 'it returns false'. Refute it at one input. -/
def fnMakeHintWrong : ChangeSpec := { name := "fnMakeHint", vars := ["loop.example/pub-g03236/pub/mldsa.params44", "loop.example/pub-g03236/pub/mldsa.params65", "loop.example/pub-g03236/pub/mldsa.params87"], fn := fun _ => fun
  | [d1, d2, d3, d4, g1, g2, g3] => { results := [.lit (.bool false)], args := [d1, d2, d3, d4], vars := [g1, g2, g3] }
  | _ => none }
def FnMakeHintWrongFalsely : Prop := fnMakeHintRow.holds Tryd.pinned (OpenSpec.ofChange fnMakeHintWrong)

/-- 'laws.FnLowBitsExceedBound': WHATEVER THE INPUT: true; the input reads as it did. -/
def fnLowBitsExceedBoundSpec : ChangeSpec := { name := "fnLowBitsExceedBound", vars := ["loop.example/pub-g03236/pub/mldsa.params44", "loop.example/pub-g03236/pub/mldsa.params65", "loop.example/pub-g03236/pub/mldsa.params87"], fn := fun _ => fun
  | [d1, d2, d3, g1, g2, g3] => { results := [.lit (.bool true)], args := [d1, d2, d3], vars := [g1, g2, g3] }
  | _ => none }
def fnLowBitsExceedBoundRow : OpenClaim := { program := "ytkckbfjimlmjhaadoor", sum := "fb56e54644395a2958f0df0dc0717dee1d7c78adbd15a1c90fc2cbb0b10c9a9e", func := "loop.example/pub-g03236/laws.FnLowBitsExceedBound", spec := "fnLowBitsExceedBound", inPlace := ["math/bits.Sub64"], named := ["loop.example/pub-g03236/pub/mldsa.params44", "loop.example/pub-g03236/pub/mldsa.params65", "loop.example/pub-g03236/pub/mldsa.params87"], apart := false, laid := [("loop.example/pub-g03236/pub/mldsa.params44", laid_loop_example_pub_g03236_pub_mldsa_params44), ("loop.example/pub-g03236/pub/mldsa.params65", laid_loop_example_pub_g03236_pub_mldsa_params65), ("loop.example/pub-g03236/pub/mldsa.params87", laid_loop_example_pub_g03236_pub_mldsa_params87)] }
def FnLowBitsExceedBoundSaid : Prop := fnLowBitsExceedBoundRow.holds Tryd.pinned (OpenSpec.ofChange fnLowBitsExceedBoundSpec)

/-- ITS FALSE NEIGHBOUR: 'it returns false'. Refute it at one input. -/
def fnLowBitsExceedBoundWrong : ChangeSpec := { name := "fnLowBitsExceedBound", vars := ["loop.example/pub-g03236/pub/mldsa.params44", "loop.example/pub-g03236/pub/mldsa.params65", "loop.example/pub-g03236/pub/mldsa.params87"], fn := fun _ => fun
  | [d1, d2, d3, g1, g2, g3] => { results := [.lit (.bool false)], args := [d1, d2, d3], vars := [g1, g2, g3] }
  | _ => none }
def FnLowBitsExceedBoundWrongFalsely : Prop := fnLowBitsExceedBoundRow.holds Tryd.pinned (OpenSpec.ofChange fnLowBitsExceedBoundWrong)

/- THE SECOND FORM. 'bulk': how many values and letters a reading holds, each counted each time it is reached (what is shared counts as often as it is met; a slice's spare places count too). A statement '..UptoSaid' is the law's where the arguments, and the package variables that the reading takes, are together of bulk at most 1048576: NARROWER than '..Said'. Prove '..Said' where nothing that the law and all that it calls make is longer than what came in: it says more and counts as full. Else prove '..UptoSaid'. A law counts once. -/
mutual
def uptoBulk {H : Type} : DataW H → Nat
  | .lit (.string bytes) => bytes.length + 1
  | .lit _ => 1
  | .nil => 1
  | .ptr d => uptoBulk d + 1
  | .slice elems spare => uptoBulkAll elems + uptoBulkAll spare + 1
  | .agg parts => uptoBulkAll parts + 1
  | .iface _ d => uptoBulk d + 1
  | .map entries => uptoBulkEntries entries + 1
  | .held _ => 1
def uptoBulkAll {H : Type} : List (DataW H) → Nat
  | [] => 0
  | d :: r => uptoBulk d + uptoBulkAll r
def uptoBulkEntries {H : Type} : List (Lit × DataW H) → Nat
  | [] => 0
  | x :: r => uptoBulkEntry x + uptoBulkEntries r
def uptoBulkEntry {H : Type} : Lit × DataW H → Nat
  | (.string bytes, d) => bytes.length + uptoBulk d + 1
  | (_, d) => uptoBulk d + 1
 end
def uptoSmall : (H : Type) → List (DataW H) → Bool := fun _ ds => decide (uptoBulkAll ds ≤ 1048576)
def OpenSpec.upto (s : _root_.Go.ChangeSpec) : _root_.Go.OpenSpec := { _root_.Go.OpenSpec.ofChange s with cond := some uptoSmall }

/-- 'laws.FnHighBits', WHERE WHAT IT READS IS OF BULK AT MOST 1048576: true; the input reads as it did. -/
def fnHighBitsUptoRow : OpenClaim := { program := "ytkckbfjimlmjhaadoor", sum := "fb56e54644395a2958f0df0dc0717dee1d7c78adbd15a1c90fc2cbb0b10c9a9e", func := "loop.example/pub-g03236/laws.FnHighBits", spec := "fnHighBits", inPlace := ["math/bits.Sub64"], named := ["loop.example/pub-g03236/pub/mldsa.params44", "loop.example/pub-g03236/pub/mldsa.params65", "loop.example/pub-g03236/pub/mldsa.params87"], apart := false, laid := [("loop.example/pub-g03236/pub/mldsa.params44", laid_loop_example_pub_g03236_pub_mldsa_params44), ("loop.example/pub-g03236/pub/mldsa.params65", laid_loop_example_pub_g03236_pub_mldsa_params65), ("loop.example/pub-g03236/pub/mldsa.params87", laid_loop_example_pub_g03236_pub_mldsa_params87)], narrowed := true }
def FnHighBitsUptoSaid : Prop := fnHighBitsUptoRow.holds Tryd.pinned (OpenSpec.upto fnHighBitsSpec)

/-- 'laws.FnUseHint', WHERE WHAT IT READS IS OF BULK AT MOST 1048576: true; the input reads as it did. -/
def fnUseHintUptoRow : OpenClaim := { program := "ytkckbfjimlmjhaadoor", sum := "fb56e54644395a2958f0df0dc0717dee1d7c78adbd15a1c90fc2cbb0b10c9a9e", func := "loop.example/pub-g03236/laws.FnUseHint", spec := "fnUseHint", inPlace := ["math/bits.Sub64"], named := ["loop.example/pub-g03236/pub/mldsa.params44", "loop.example/pub-g03236/pub/mldsa.params65", "loop.example/pub-g03236/pub/mldsa.params87"], apart := false, laid := [("loop.example/pub-g03236/pub/mldsa.params44", laid_loop_example_pub_g03236_pub_mldsa_params44), ("loop.example/pub-g03236/pub/mldsa.params65", laid_loop_example_pub_g03236_pub_mldsa_params65), ("loop.example/pub-g03236/pub/mldsa.params87", laid_loop_example_pub_g03236_pub_mldsa_params87)], narrowed := true }
def FnUseHintUptoSaid : Prop := fnUseHintUptoRow.holds Tryd.pinned (OpenSpec.upto fnUseHintSpec)

/-- 'laws.FnMakeHint', WHERE WHAT IT READS IS OF BULK AT MOST 1048576: true; the input reads as it did. -/
def fnMakeHintUptoRow : OpenClaim := { program := "ytkckbfjimlmjhaadoor", sum := "fb56e54644395a2958f0df0dc0717dee1d7c78adbd15a1c90fc2cbb0b10c9a9e", func := "loop.example/pub-g03236/laws.FnMakeHint", spec := "fnMakeHint", inPlace := ["math/bits.Sub64"], named := ["loop.example/pub-g03236/pub/mldsa.params44", "loop.example/pub-g03236/pub/mldsa.params65", "loop.example/pub-g03236/pub/mldsa.params87"], apart := false, laid := [("loop.example/pub-g03236/pub/mldsa.params44", laid_loop_example_pub_g03236_pub_mldsa_params44), ("loop.example/pub-g03236/pub/mldsa.params65", laid_loop_example_pub_g03236_pub_mldsa_params65), ("loop.example/pub-g03236/pub/mldsa.params87", laid_loop_example_pub_g03236_pub_mldsa_params87)], narrowed := true }
def FnMakeHintUptoSaid : Prop := fnMakeHintUptoRow.holds Tryd.pinned (OpenSpec.upto fnMakeHintSpec)

/-- 'laws.FnLowBitsExceedBound', WHERE WHAT IT READS IS OF BULK AT MOST 1048576: true; the input reads as it did. -/
def fnLowBitsExceedBoundUptoRow : OpenClaim := { program := "ytkckbfjimlmjhaadoor", sum := "fb56e54644395a2958f0df0dc0717dee1d7c78adbd15a1c90fc2cbb0b10c9a9e", func := "loop.example/pub-g03236/laws.FnLowBitsExceedBound", spec := "fnLowBitsExceedBound", inPlace := ["math/bits.Sub64"], named := ["loop.example/pub-g03236/pub/mldsa.params44", "loop.example/pub-g03236/pub/mldsa.params65", "loop.example/pub-g03236/pub/mldsa.params87"], apart := false, laid := [("loop.example/pub-g03236/pub/mldsa.params44", laid_loop_example_pub_g03236_pub_mldsa_params44), ("loop.example/pub-g03236/pub/mldsa.params65", laid_loop_example_pub_g03236_pub_mldsa_params65), ("loop.example/pub-g03236/pub/mldsa.params87", laid_loop_example_pub_g03236_pub_mldsa_params87)], narrowed := true }
def FnLowBitsExceedBoundUptoSaid : Prop := fnLowBitsExceedBoundUptoRow.holds Tryd.pinned (OpenSpec.upto fnLowBitsExceedBoundSpec)

end Rows
end Go.Proofs.YtkckbfjimlmjhaaDoor
