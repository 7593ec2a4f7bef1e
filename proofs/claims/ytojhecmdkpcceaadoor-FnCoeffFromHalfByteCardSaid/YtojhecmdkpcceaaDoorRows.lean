/-
  NARROWER THAN 'FOR EVERY INPUT', by the rows' own cells (each row's printed sentence says how): FnToMontgomery: ifaces, laid · FnMontgomeryBack: ifaces, laid · FnCoeffFromHalfByte: laid.
  DERIVED. THE GIVEN ROWS OF THIS SEAT. 3 by the template 'for every input the law returns true; each argument reads behind the call as it read before'; 0 by the template 'total and deterministic' (their statements: YtojhecmdkpcceaaDoorTotals.lean).
  GIVEN WITH THE SEED: the statements are not yours to turn. If you find one false, say at which input.
  Laid BY PROGRAM, IN A SANDBOX (cutbox-rows.mjs): the forced cells as the released guide's own fill.sh prints them over the translation 0a6422e5f8343f0b… (all of the seat's roots in one cut). By AI agents, Wed Nov 11 2026. No macro, syntax, notation, axiom, sorry.
-/
import Derived.Test.YtojhecmdkpcceaaDoorChecked
import GoSem.Claim
import GoSem.ClaimJoined
import GoSem.ClaimMapViews
import Derived.JoinedTies
import Derived.KernelRfl
namespace Go.Proofs.YtojhecmdkpcceaaDoor
/- THE CELL 'sum', in the pinned program and in every row, IS THE sha256 OF THE DUMP (.gsa) THAT YtojhecmdkpcceaaDoorProg.lean LOADS. Nothing in Lean hashes anything: it is a label: what it is worth is what the hold of that sum in a sandbox is worth. -/
noncomputable def Tryd.pinned : Pinned := { name := "ytojhecmdkpcceaadoor", sum := "0a6422e5f8343f0b560a98fc945ada0440b302d24e279423718ede6d9756b422", checked := Tryd.checked }
namespace Rows
def none {H : Type} : Left H := { results := [], args := [] }

/- WHAT THE LISTED PACKAGE-LEVEL VARIABLES READ AS WHEN THE CALL BEGINS. Each datum BY PROGRAM (the guide's laid-datum.mjs) off the statement by which the dump's own 'gosem.cut.vars' lays the variable. In a bare row this is a premise. The card (YtojhecmdkpcceaaDoorCards.lean) ties it to the program's text. -/
def laid_loop_example_pub_g03236_pub_mldsa_errUnreducedFieldElement {H : Type} : DataW H := .iface "*errors.errorString" (.ptr (.agg [.lit (.string [109, 108, 100, 115, 97, 58, 32, 117, 110, 114, 101, 100, 117, 99, 101, 100, 32, 102, 105, 101, 108, 100, 32, 101, 108, 101, 109, 101, 110, 116])]))
def laid_loop_example_pub_g03236_pub_mldsa_params44 {H : Type} : DataW H := .agg [.lit (.int .i64 4), .lit (.int .i64 4), .lit (.int .i64 2), .lit (.int .i64 17), .lit (.int .i64 88), .lit (.int .i64 128), .lit (.int .i64 39), .lit (.int .i64 80)]
def laid_loop_example_pub_g03236_pub_mldsa_params65 {H : Type} : DataW H := .agg [.lit (.int .i64 6), .lit (.int .i64 5), .lit (.int .i64 4), .lit (.int .i64 19), .lit (.int .i64 32), .lit (.int .i64 192), .lit (.int .i64 49), .lit (.int .i64 55)]
def laid_loop_example_pub_g03236_pub_mldsa_params87 {H : Type} : DataW H := .agg [.lit (.int .i64 8), .lit (.int .i64 7), .lit (.int .i64 2), .lit (.int .i64 19), .lit (.int .i64 32), .lit (.int .i64 256), .lit (.int .i64 60), .lit (.int .i64 75)]

/-- 'laws.FnToMontgomery': WHATEVER THE INPUT: true; the input reads as it did. -/
def fnToMontgomerySpec : ChangeSpec := { name := "fnToMontgomery", vars := ["loop.example/pub-g03236/pub/mldsa.errUnreducedFieldElement"], fn := fun _ => fun
  | [d, g1] => { results := [.lit (.bool true)], args := [d], vars := [g1] }
  | _ => none }
def fnToMontgomeryRow : OpenClaim := { program := "ytojhecmdkpcceaadoor", sum := "0a6422e5f8343f0b560a98fc945ada0440b302d24e279423718ede6d9756b422", func := "loop.example/pub-g03236/laws.FnToMontgomery", spec := "fnToMontgomery", inPlace := ["math/bits.Sub64"], named := ["loop.example/pub-g03236/pub/mldsa.errUnreducedFieldElement"], ifaces := true, apart := false, laid := [("loop.example/pub-g03236/pub/mldsa.errUnreducedFieldElement", laid_loop_example_pub_g03236_pub_mldsa_errUnreducedFieldElement)] }
def FnToMontgomerySaid : Prop := fnToMontgomeryRow.holds Tryd.pinned (OpenSpec.ofChange fnToMontgomerySpec)

/-- ITS FALSE NEIGHBOUR: 'it returns false'. Refute it at one input. -/
def fnToMontgomeryWrong : ChangeSpec := { name := "fnToMontgomery", vars := ["loop.example/pub-g03236/pub/mldsa.errUnreducedFieldElement"], fn := fun _ => fun
  | [d, g1] => { results := [.lit (.bool false)], args := [d], vars := [g1] }
  | _ => none }
def FnToMontgomeryWrongFalsely : Prop := fnToMontgomeryRow.holds Tryd.pinned (OpenSpec.ofChange fnToMontgomeryWrong)

/-- 'laws.FnMontgomeryBack': WHATEVER THE INPUT: true; the input reads as it did. -/
def fnMontgomeryBackSpec : ChangeSpec := { name := "fnMontgomeryBack", vars := ["loop.example/pub-g03236/pub/mldsa.errUnreducedFieldElement"], fn := fun _ => fun
  | [d, g1] => { results := [.lit (.bool true)], args := [d], vars := [g1] }
  | _ => none }
def fnMontgomeryBackRow : OpenClaim := { program := "ytojhecmdkpcceaadoor", sum := "0a6422e5f8343f0b560a98fc945ada0440b302d24e279423718ede6d9756b422", func := "loop.example/pub-g03236/laws.FnMontgomeryBack", spec := "fnMontgomeryBack", inPlace := ["math/bits.Sub64"], named := ["loop.example/pub-g03236/pub/mldsa.errUnreducedFieldElement"], ifaces := true, apart := false, laid := [("loop.example/pub-g03236/pub/mldsa.errUnreducedFieldElement", laid_loop_example_pub_g03236_pub_mldsa_errUnreducedFieldElement)] }
def FnMontgomeryBackSaid : Prop := fnMontgomeryBackRow.holds Tryd.pinned (OpenSpec.ofChange fnMontgomeryBackSpec)

/-- ITS FALSE NEIGHBOUR: 'it returns false'. Refute it at one input. -/
def fnMontgomeryBackWrong : ChangeSpec := { name := "fnMontgomeryBack", vars := ["loop.example/pub-g03236/pub/mldsa.errUnreducedFieldElement"], fn := fun _ => fun
  | [d, g1] => { results := [.lit (.bool false)], args := [d], vars := [g1] }
  | _ => none }
def FnMontgomeryBackWrongFalsely : Prop := fnMontgomeryBackRow.holds Tryd.pinned (OpenSpec.ofChange fnMontgomeryBackWrong)

/-- 'laws.FnCoeffFromHalfByte': WHATEVER THE INPUT: true; the input reads as it did. -/
def fnCoeffFromHalfByteSpec : ChangeSpec := { name := "fnCoeffFromHalfByte", vars := ["loop.example/pub-g03236/pub/mldsa.params44", "loop.example/pub-g03236/pub/mldsa.params65", "loop.example/pub-g03236/pub/mldsa.params87"], fn := fun _ => fun
  | [d1, d2, g1, g2, g3] => { results := [.lit (.bool true)], args := [d1, d2], vars := [g1, g2, g3] }
  | _ => none }
def fnCoeffFromHalfByteRow : OpenClaim := { program := "ytojhecmdkpcceaadoor", sum := "0a6422e5f8343f0b560a98fc945ada0440b302d24e279423718ede6d9756b422", func := "loop.example/pub-g03236/laws.FnCoeffFromHalfByte", spec := "fnCoeffFromHalfByte", inPlace := ["math/bits.Sub64"], named := ["loop.example/pub-g03236/pub/mldsa.params44", "loop.example/pub-g03236/pub/mldsa.params65", "loop.example/pub-g03236/pub/mldsa.params87"], apart := false, laid := [("loop.example/pub-g03236/pub/mldsa.params44", laid_loop_example_pub_g03236_pub_mldsa_params44), ("loop.example/pub-g03236/pub/mldsa.params65", laid_loop_example_pub_g03236_pub_mldsa_params65), ("loop.example/pub-g03236/pub/mldsa.params87", laid_loop_example_pub_g03236_pub_mldsa_params87)] }
def FnCoeffFromHalfByteSaid : Prop := fnCoeffFromHalfByteRow.holds Tryd.pinned (OpenSpec.ofChange fnCoeffFromHalfByteSpec)

/-- ITS FALSE NEIGHBOUR: 'it returns false'. Refute it at one input. -/
def fnCoeffFromHalfByteWrong : ChangeSpec := { name := "fnCoeffFromHalfByte", vars := ["loop.example/pub-g03236/pub/mldsa.params44", "loop.example/pub-g03236/pub/mldsa.params65", "loop.example/pub-g03236/pub/mldsa.params87"], fn := fun _ => fun
  | [d1, d2, g1, g2, g3] => { results := [.lit (.bool false)], args := [d1, d2], vars := [g1, g2, g3] }
  | _ => none }
def FnCoeffFromHalfByteWrongFalsely : Prop := fnCoeffFromHalfByteRow.holds Tryd.pinned (OpenSpec.ofChange fnCoeffFromHalfByteWrong)

/- THE SECOND FORM. 'bulk': how many values and letters a reading holds, each counted each time it is reached (what is shared counts as often as it is met; a slice's spare places count too). A statement '..UptoSaid' is the law's where the arguments, and the package variables that the reading takes, are together of bulk at most 1048576: NARROWER than '..Said'. Prove '..Said' where nothing that the law and all that it calls make is longer than what came in: it says more and counts as full. Else prove '..UptoSaid'. A law counts once. -/
mutual
def uptoBulk {H : Type} : DataW H → Nat
  | .lit (.string bytes) => bytes.length + 1
  | .lit _ => 1
  | .nil => 1
  | .ptr d => uptoBulk d + 1
  | .slice elems spare => uptoBulkAll elems + uptoBulkAll spare + 1
  | .agg parts => uptoBulkAll parts + 1
  | .iface _ d => uptoBulk d + 1
  | .map entries => uptoBulkEntries entries + 1
  | .held _ => 1
def uptoBulkAll {H : Type} : List (DataW H) → Nat
  | [] => 0
  | d :: r => uptoBulk d + uptoBulkAll r
def uptoBulkEntries {H : Type} : List (Lit × DataW H) → Nat
  | [] => 0
  | x :: r => uptoBulkEntry x + uptoBulkEntries r
def uptoBulkEntry {H : Type} : Lit × DataW H → Nat
  | (.string bytes, d) => bytes.length + uptoBulk d + 1
  | (_, d) => uptoBulk d + 1
 end
def uptoSmall : (H : Type) → List (DataW H) → Bool := fun _ ds => decide (uptoBulkAll ds ≤ 1048576)
def OpenSpec.upto (s : _root_.Go.ChangeSpec) : _root_.Go.OpenSpec := { _root_.Go.OpenSpec.ofChange s with cond := some uptoSmall }

/-- 'laws.FnToMontgomery', WHERE WHAT IT READS IS OF BULK AT MOST 1048576: true; the input reads as it did. -/
def fnToMontgomeryUptoRow : OpenClaim := { program := "ytojhecmdkpcceaadoor", sum := "0a6422e5f8343f0b560a98fc945ada0440b302d24e279423718ede6d9756b422", func := "loop.example/pub-g03236/laws.FnToMontgomery", spec := "fnToMontgomery", inPlace := ["math/bits.Sub64"], named := ["loop.example/pub-g03236/pub/mldsa.errUnreducedFieldElement"], ifaces := true, apart := false, laid := [("loop.example/pub-g03236/pub/mldsa.errUnreducedFieldElement", laid_loop_example_pub_g03236_pub_mldsa_errUnreducedFieldElement)], narrowed := true }
def FnToMontgomeryUptoSaid : Prop := fnToMontgomeryUptoRow.holds Tryd.pinned (OpenSpec.upto fnToMontgomerySpec)

/-- 'laws.FnMontgomeryBack', WHERE WHAT IT READS IS OF BULK AT MOST 1048576: true; the input reads as it did. -/
def fnMontgomeryBackUptoRow : OpenClaim := { program := "ytojhecmdkpcceaadoor", sum := "0a6422e5f8343f0b560a98fc945ada0440b302d24e279423718ede6d9756b422", func := "loop.example/pub-g03236/laws.FnMontgomeryBack", spec := "fnMontgomeryBack", inPlace := ["math/bits.Sub64"], named := ["loop.example/pub-g03236/pub/mldsa.errUnreducedFieldElement"], ifaces := true, apart := false, laid := [("loop.example/pub-g03236/pub/mldsa.errUnreducedFieldElement", laid_loop_example_pub_g03236_pub_mldsa_errUnreducedFieldElement)], narrowed := true }
def FnMontgomeryBackUptoSaid : Prop := fnMontgomeryBackUptoRow.holds Tryd.pinned (OpenSpec.upto fnMontgomeryBackSpec)

/-- 'laws.FnCoeffFromHalfByte', WHERE WHAT IT READS IS OF BULK AT MOST 1048576: true; the input reads as it did. -/
def fnCoeffFromHalfByteUptoRow : OpenClaim := { program := "ytojhecmdkpcceaadoor", sum := "0a6422e5f8343f0b560a98fc945ada0440b302d24e279423718ede6d9756b422", func := "loop.example/pub-g03236/laws.FnCoeffFromHalfByte", spec := "fnCoeffFromHalfByte", inPlace := ["math/bits.Sub64"], named := ["loop.example/pub-g03236/pub/mldsa.params44", "loop.example/pub-g03236/pub/mldsa.params65", "loop.example/pub-g03236/pub/mldsa.params87"], apart := false, laid := [("loop.example/pub-g03236/pub/mldsa.params44", laid_loop_example_pub_g03236_pub_mldsa_params44), ("loop.example/pub-g03236/pub/mldsa.params65", laid_loop_example_pub_g03236_pub_mldsa_params65), ("loop.example/pub-g03236/pub/mldsa.params87", laid_loop_example_pub_g03236_pub_mldsa_params87)], narrowed := true }
def FnCoeffFromHalfByteUptoSaid : Prop := fnCoeffFromHalfByteUptoRow.holds Tryd.pinned (OpenSpec.upto fnCoeffFromHalfByteSpec)

end Rows
end Go.Proofs.YtojhecmdkpcceaaDoor
