/-
  NARROWER THAN 'FOR EVERY INPUT', by the rows' own cells (each row's printed sentence says how): FnBitUnpack: laid · FnBitPack: laid · FnBitBack: laid · FnBitUnpackBack: laid.
  DERIVED. THE GIVEN ROWS OF THIS SEAT. 4 by the template 'for every input the law returns true; each argument reads behind the call as it read before'; 0 by the template 'total and deterministic' (their statements: YtejolgicllogjaaDoorTotals.lean).
  GIVEN WITH THE SEED: the statements are not yours to turn. If you find one false, say at which input.
  Laid BY PROGRAM, IN A SANDBOX (cutbox-rows.mjs): the forced cells as the released guide's own fill.sh prints them over the translation 34cc59d23c254106… (all of the seat's roots in one cut). By AI agents, Wed Nov 11 2026. No macro, syntax, notation, axiom, sorry.
-/
import Derived.Test.YtejolgicllogjaaDoorChecked
import GoSem.Claim
import GoSem.ClaimJoined
import GoSem.ClaimMapViews
import Derived.JoinedTies
import Derived.KernelRfl
namespace Go.Proofs.YtejolgicllogjaaDoor
/- THE CELL 'sum', in the pinned program and in every row, IS THE sha256 OF THE DUMP (.gsa) THAT YtejolgicllogjaaDoorProg.lean LOADS. Nothing in Lean hashes anything: it is a label: what it is worth is what the hold of that sum in a sandbox is worth. -/
noncomputable def Tryd.pinned : Pinned := { name := "ytejolgicllogjaadoor", sum := "34cc59d23c254106a6eb6ca06a0f60904529aa9c862ddd9c899c25c7334a6c23", checked := Tryd.checked }
namespace Rows
def none {H : Type} : Left H := { results := [], args := [] }

/- WHAT THE LISTED PACKAGE-LEVEL VARIABLES READ AS WHEN THE CALL BEGINS. Each datum BY PROGRAM (the guide's laid-datum.mjs) off the statement by which the dump's own 'gosem.cut.vars' lays the variable. In a bare row this is a premise. The card (YtejolgicllogjaaDoorCards.lean) ties it to the program's text. -/
def laid_loop_example_pub_g03236_pub_mldsa_params44 {H : Type} : DataW H := .agg [.lit (.int .i64 4), .lit (.int .i64 4), .lit (.int .i64 2), .lit (.int .i64 17), .lit (.int .i64 88), .lit (.int .i64 128), .lit (.int .i64 39), .lit (.int .i64 80)]
def laid_loop_example_pub_g03236_pub_mldsa_params65 {H : Type} : DataW H := .agg [.lit (.int .i64 6), .lit (.int .i64 5), .lit (.int .i64 4), .lit (.int .i64 19), .lit (.int .i64 32), .lit (.int .i64 192), .lit (.int .i64 49), .lit (.int .i64 55)]
def laid_loop_example_pub_g03236_pub_mldsa_params87 {H : Type} : DataW H := .agg [.lit (.int .i64 8), .lit (.int .i64 7), .lit (.int .i64 2), .lit (.int .i64 19), .lit (.int .i64 32), .lit (.int .i64 256), .lit (.int .i64 60), .lit (.int .i64 75)]

/-- 'laws.FnBitUnpack': WHATEVER THE INPUT: true; the input reads as it did. -/
def fnBitUnpackSpec : ChangeSpec := { name := "fnBitUnpack", vars := ["loop.example/pub-g03236/pub/mldsa.params44", "loop.example/pub-g03236/pub/mldsa.params65", "loop.example/pub-g03236/pub/mldsa.params87"], fn := fun _ => fun
  | [d1, d2, g1, g2, g3] => { results := [.lit (.bool true)], args := [d1, d2], vars := [g1, g2, g3] }
  | _ => none }
def fnBitUnpackRow : OpenClaim := { program := "ytejolgicllogjaadoor", sum := "34cc59d23c254106a6eb6ca06a0f60904529aa9c862ddd9c899c25c7334a6c23", func := "loop.example/pub-g03236/laws.FnBitUnpack", spec := "fnBitUnpack", inPlace := ["math/bits.Sub64"], named := ["loop.example/pub-g03236/pub/mldsa.params44", "loop.example/pub-g03236/pub/mldsa.params65", "loop.example/pub-g03236/pub/mldsa.params87"], apart := false, laid := [("loop.example/pub-g03236/pub/mldsa.params44", laid_loop_example_pub_g03236_pub_mldsa_params44), ("loop.example/pub-g03236/pub/mldsa.params65", laid_loop_example_pub_g03236_pub_mldsa_params65), ("loop.example/pub-g03236/pub/mldsa.params87", laid_loop_example_pub_g03236_pub_mldsa_params87)] }
def FnBitUnpackSaid : Prop := fnBitUnpackRow.holds Tryd.pinned (OpenSpec.ofChange fnBitUnpackSpec)

/-- ITS FALSE NEIGHBOUR: 'it returns false'. Refute it at one input. -/
def fnBitUnpackWrong : ChangeSpec := { name := "fnBitUnpack", vars := ["loop.example/pub-g03236/pub/mldsa.params44", "loop.example/pub-g03236/pub/mldsa.params65", "loop.example/pub-g03236/pub/mldsa.params87"], fn := fun _ => fun
  | [d1, d2, g1, g2, g3] => { results := [.lit (.bool false)], args := [d1, d2], vars := [g1, g2, g3] }
  | _ => none }
def FnBitUnpackWrongFalsely : Prop := fnBitUnpackRow.holds Tryd.pinned (OpenSpec.ofChange fnBitUnpackWrong)

/-- 'laws.FnBitPack': WHATEVER THE INPUT: true; the input reads as it did. -/
def fnBitPackSpec : ChangeSpec := { name := "fnBitPack", vars := ["loop.example/pub-g03236/pub/mldsa.params44", "loop.example/pub-g03236/pub/mldsa.params65", "loop.example/pub-g03236/pub/mldsa.params87"], fn := fun _ => fun
  | [d1, d2, g1, g2, g3] => { results := [.lit (.bool true)], args := [d1, d2], vars := [g1, g2, g3] }
  | _ => none }
def fnBitPackRow : OpenClaim := { program := "ytejolgicllogjaadoor", sum := "34cc59d23c254106a6eb6ca06a0f60904529aa9c862ddd9c899c25c7334a6c23", func := "loop.example/pub-g03236/laws.FnBitPack", spec := "fnBitPack", inPlace := ["math/bits.Sub64"], named := ["loop.example/pub-g03236/pub/mldsa.params44", "loop.example/pub-g03236/pub/mldsa.params65", "loop.example/pub-g03236/pub/mldsa.params87"], apart := false, laid := [("loop.example/pub-g03236/pub/mldsa.params44", laid_loop_example_pub_g03236_pub_mldsa_params44), ("loop.example/pub-g03236/pub/mldsa.params65", laid_loop_example_pub_g03236_pub_mldsa_params65), ("loop.example/pub-g03236/pub/mldsa.params87", laid_loop_example_pub_g03236_pub_mldsa_params87)] }
def FnBitPackSaid : Prop := fnBitPackRow.holds Tryd.pinned (OpenSpec.ofChange fnBitPackSpec)

/-- ITS FALSE NEIGHBOUR: 'it returns false'. Refute it at one input. -/
def fnBitPackWrong : ChangeSpec := { name := "fnBitPack", vars := ["loop.example/pub-g03236/pub/mldsa.params44", "loop.example/pub-g03236/pub/mldsa.params65", "loop.example/pub-g03236/pub/mldsa.params87"], fn := fun _ => fun
  | [d1, d2, g1, g2, g3] => { results := [.lit (.bool false)], args := [d1, d2], vars := [g1, g2, g3] }
  | _ => none }
def FnBitPackWrongFalsely : Prop := fnBitPackRow.holds Tryd.pinned (OpenSpec.ofChange fnBitPackWrong)

/-- 'laws.FnBitBack': WHATEVER THE INPUT: true; the input reads as it did. -/
def fnBitBackSpec : ChangeSpec := { name := "fnBitBack", vars := ["loop.example/pub-g03236/pub/mldsa.params44", "loop.example/pub-g03236/pub/mldsa.params65", "loop.example/pub-g03236/pub/mldsa.params87"], fn := fun _ => fun
  | [d1, d2, g1, g2, g3] => { results := [.lit (.bool true)], args := [d1, d2], vars := [g1, g2, g3] }
  | _ => none }
def fnBitBackRow : OpenClaim := { program := "ytejolgicllogjaadoor", sum := "34cc59d23c254106a6eb6ca06a0f60904529aa9c862ddd9c899c25c7334a6c23", func := "loop.example/pub-g03236/laws.FnBitBack", spec := "fnBitBack", inPlace := ["math/bits.Sub64"], named := ["loop.example/pub-g03236/pub/mldsa.params44", "loop.example/pub-g03236/pub/mldsa.params65", "loop.example/pub-g03236/pub/mldsa.params87"], apart := false, laid := [("loop.example/pub-g03236/pub/mldsa.params44", laid_loop_example_pub_g03236_pub_mldsa_params44), ("loop.example/pub-g03236/pub/mldsa.params65", laid_loop_example_pub_g03236_pub_mldsa_params65), ("loop.example/pub-g03236/pub/mldsa.params87", laid_loop_example_pub_g03236_pub_mldsa_params87)] }
def FnBitBackSaid : Prop := fnBitBackRow.holds Tryd.pinned (OpenSpec.ofChange fnBitBackSpec)

/-- ITS FALSE NEIGHBOUR: 'it returns false'. Refute it at one input. -/
def fnBitBackWrong : ChangeSpec := { name := "fnBitBack", vars := ["loop.example/pub-g03236/pub/mldsa.params44", "loop.example/pub-g03236/pub/mldsa.params65", "loop.example/pub-g03236/pub/mldsa.params87"], fn := fun _ => fun
  | [d1, d2, g1, g2, g3] => { results := [.lit (.bool false)], args := [d1, d2], vars := [g1, g2, g3] }
  | _ => none }
def FnBitBackWrongFalsely : Prop := fnBitBackRow.holds Tryd.pinned (OpenSpec.ofChange fnBitBackWrong)

/-- 'laws.FnBitUnpackBack': WHATEVER THE INPUT: true; the input reads as it did. -/
def fnBitUnpackBackSpec : ChangeSpec := { name := "fnBitUnpackBack", vars := ["loop.example/pub-g03236/pub/mldsa.params44", "loop.example/pub-g03236/pub/mldsa.params65", "loop.example/pub-g03236/pub/mldsa.params87"], fn := fun _ => fun
  | [d1, d2, g1, g2, g3] => { results := [.lit (.bool true)], args := [d1, d2], vars := [g1, g2, g3] }
  | _ => none }
def fnBitUnpackBackRow : OpenClaim := { program := "ytejolgicllogjaadoor", sum := "34cc59d23c254106a6eb6ca06a0f60904529aa9c862ddd9c899c25c7334a6c23", func := "loop.example/pub-g03236/laws.FnBitUnpackBack", spec := "fnBitUnpackBack", inPlace := ["math/bits.Sub64"], named := ["loop.example/pub-g03236/pub/mldsa.params44", "loop.example/pub-g03236/pub/mldsa.params65", "loop.example/pub-g03236/pub/mldsa.params87"], apart := false, laid := [("loop.example/pub-g03236/pub/mldsa.params44", laid_loop_example_pub_g03236_pub_mldsa_params44), ("loop.example/pub-g03236/pub/mldsa.params65", laid_loop_example_pub_g03236_pub_mldsa_params65), ("loop.example/pub-g03236/pub/mldsa.params87", laid_loop_example_pub_g03236_pub_mldsa_params87)] }
def FnBitUnpackBackSaid : Prop := fnBitUnpackBackRow.holds Tryd.pinned (OpenSpec.ofChange fnBitUnpackBackSpec)

/-- ITS FALSE NEIGHBOUR: 'it returns false'. Refute it at one input. -/
def fnBitUnpackBackWrong : ChangeSpec := { name := "fnBitUnpackBack", vars := ["loop.example/pub-g03236/pub/mldsa.params44", "loop.example/pub-g03236/pub/mldsa.params65", "loop.example/pub-g03236/pub/mldsa.params87"], fn := fun _ => fun
  | [d1, d2, g1, g2, g3] => { results := [.lit (.bool false)], args := [d1, d2], vars := [g1, g2, g3] }
  | _ => none }
def FnBitUnpackBackWrongFalsely : Prop := fnBitUnpackBackRow.holds Tryd.pinned (OpenSpec.ofChange fnBitUnpackBackWrong)

/- THE SECOND FORM. 'bulk': how many values and letters a reading holds, each counted each time it is reached (what is shared counts as often as it is met; a slice's spare places count too). A statement '..UptoSaid' is the law's where the arguments, and the package variables that the reading takes, are together of bulk at most 1048576: NARROWER than '..Said'. Prove '..Said' where nothing that the law and all that it calls make is longer than what came in: it says more and counts as full. Else prove '..UptoSaid'. A law counts once. -/
mutual
def uptoBulk {H : Type} : DataW H → Nat
  | .lit (.string bytes) => bytes.length + 1
  | .lit _ => 1
  | .nil => 1
  | .ptr d => uptoBulk d + 1
  | .slice elems spare => uptoBulkAll elems + uptoBulkAll spare + 1
  | .agg parts => uptoBulkAll parts + 1
  | .iface _ d => uptoBulk d + 1
  | .map entries => uptoBulkEntries entries + 1
  | .held _ => 1
def uptoBulkAll {H : Type} : List (DataW H) → Nat
  | [] => 0
  | d :: r => uptoBulk d + uptoBulkAll r
def uptoBulkEntries {H : Type} : List (Lit × DataW H) → Nat
  | [] => 0
  | x :: r => uptoBulkEntry x + uptoBulkEntries r
def uptoBulkEntry {H : Type} : Lit × DataW H → Nat
  | (.string bytes, d) => bytes.length + uptoBulk d + 1
  | (_, d) => uptoBulk d + 1
 end
def uptoSmall : (H : Type) → List (DataW H) → Bool := fun _ ds => decide (uptoBulkAll ds ≤ 1048576)
def OpenSpec.upto (s : _root_.Go.ChangeSpec) : _root_.Go.OpenSpec := { _root_.Go.OpenSpec.ofChange s with cond := some uptoSmall }

/-- 'laws.FnBitUnpack', WHERE WHAT IT READS IS OF BULK AT MOST 1048576: true; the input reads as it did. -/
def fnBitUnpackUptoRow : OpenClaim := { program := "ytejolgicllogjaadoor", sum := "34cc59d23c254106a6eb6ca06a0f60904529aa9c862ddd9c899c25c7334a6c23", func := "loop.example/pub-g03236/laws.FnBitUnpack", spec := "fnBitUnpack", inPlace := ["math/bits.Sub64"], named := ["loop.example/pub-g03236/pub/mldsa.params44", "loop.example/pub-g03236/pub/mldsa.params65", "loop.example/pub-g03236/pub/mldsa.params87"], apart := false, laid := [("loop.example/pub-g03236/pub/mldsa.params44", laid_loop_example_pub_g03236_pub_mldsa_params44), ("loop.example/pub-g03236/pub/mldsa.params65", laid_loop_example_pub_g03236_pub_mldsa_params65), ("loop.example/pub-g03236/pub/mldsa.params87", laid_loop_example_pub_g03236_pub_mldsa_params87)], narrowed := true }
def FnBitUnpackUptoSaid : Prop := fnBitUnpackUptoRow.holds Tryd.pinned (OpenSpec.upto fnBitUnpackSpec)

/-- 'laws.FnBitPack', WHERE WHAT IT READS IS OF BULK AT MOST 1048576: true; the input reads as it did. -/
def fnBitPackUptoRow : OpenClaim := { program := "ytejolgicllogjaadoor", sum := "34cc59d23c254106a6eb6ca06a0f60904529aa9c862ddd9c899c25c7334a6c23", func := "loop.example/pub-g03236/laws.FnBitPack", spec := "fnBitPack", inPlace := ["math/bits.Sub64"], named := ["loop.example/pub-g03236/pub/mldsa.params44", "loop.example/pub-g03236/pub/mldsa.params65", "loop.example/pub-g03236/pub/mldsa.params87"], apart := false, laid := [("loop.example/pub-g03236/pub/mldsa.params44", laid_loop_example_pub_g03236_pub_mldsa_params44), ("loop.example/pub-g03236/pub/mldsa.params65", laid_loop_example_pub_g03236_pub_mldsa_params65), ("loop.example/pub-g03236/pub/mldsa.params87", laid_loop_example_pub_g03236_pub_mldsa_params87)], narrowed := true }
def FnBitPackUptoSaid : Prop := fnBitPackUptoRow.holds Tryd.pinned (OpenSpec.upto fnBitPackSpec)

/-- 'laws.FnBitBack', WHERE WHAT IT READS IS OF BULK AT MOST 1048576: true; the input reads as it did. -/
def fnBitBackUptoRow : OpenClaim := { program := "ytejolgicllogjaadoor", sum := "34cc59d23c254106a6eb6ca06a0f60904529aa9c862ddd9c899c25c7334a6c23", func := "loop.example/pub-g03236/laws.FnBitBack", spec := "fnBitBack", inPlace := ["math/bits.Sub64"], named := ["loop.example/pub-g03236/pub/mldsa.params44", "loop.example/pub-g03236/pub/mldsa.params65", "loop.example/pub-g03236/pub/mldsa.params87"], apart := false, laid := [("loop.example/pub-g03236/pub/mldsa.params44", laid_loop_example_pub_g03236_pub_mldsa_params44), ("loop.example/pub-g03236/pub/mldsa.params65", laid_loop_example_pub_g03236_pub_mldsa_params65), ("loop.example/pub-g03236/pub/mldsa.params87", laid_loop_example_pub_g03236_pub_mldsa_params87)], narrowed := true }
def FnBitBackUptoSaid : Prop := fnBitBackUptoRow.holds Tryd.pinned (OpenSpec.upto fnBitBackSpec)

/-- 'laws.FnBitUnpackBack', WHERE WHAT IT READS IS OF BULK AT MOST 1048576: true; the input reads as it did. -/
def fnBitUnpackBackUptoRow : OpenClaim := { program := "ytejolgicllogjaadoor", sum := "34cc59d23c254106a6eb6ca06a0f60904529aa9c862ddd9c899c25c7334a6c23", func := "loop.example/pub-g03236/laws.FnBitUnpackBack", spec := "fnBitUnpackBack", inPlace := ["math/bits.Sub64"], named := ["loop.example/pub-g03236/pub/mldsa.params44", "loop.example/pub-g03236/pub/mldsa.params65", "loop.example/pub-g03236/pub/mldsa.params87"], apart := false, laid := [("loop.example/pub-g03236/pub/mldsa.params44", laid_loop_example_pub_g03236_pub_mldsa_params44), ("loop.example/pub-g03236/pub/mldsa.params65", laid_loop_example_pub_g03236_pub_mldsa_params65), ("loop.example/pub-g03236/pub/mldsa.params87", laid_loop_example_pub_g03236_pub_mldsa_params87)], narrowed := true }
def FnBitUnpackBackUptoSaid : Prop := fnBitUnpackBackUptoRow.holds Tryd.pinned (OpenSpec.upto fnBitUnpackBackSpec)

end Rows
end Go.Proofs.YtejolgicllogjaaDoor
