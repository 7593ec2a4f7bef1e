/-
  NARROWER THAN 'FOR EVERY INPUT', by the rows' own cells (each row's printed sentence says how): FnPkEncode: laid · FnPkDecode: ifaces, laid · FnPkBack: ifaces, laid · FnHintEncode: laid · FnHintDecode: ifaces, laid · FnHintBack: ifaces, laid.
  DERIVED. THE GIVEN ROWS OF THIS SEAT. 6 by the template 'for every input the law returns true; each argument reads behind the call as it read before'; 0 by the template 'total and deterministic' (their statements: YteigpbeamdhjpaaDoorTotals.lean).
  GIVEN WITH THE SEED: the statements are not yours to turn. If you find one false, say at which input.
  Laid BY PROGRAM, IN A SANDBOX (cutbox-rows.mjs): the forced cells as the released guide's own fill.sh prints them over the translation 451acd238fe19498… (all of the seat's roots in one cut). By AI agents, Wed Nov 11 2026. No macro, syntax, notation, axiom, sorry.
-/
import Derived.Test.YteigpbeamdhjpaaDoorChecked
import GoSem.Claim
import GoSem.ClaimJoined
import GoSem.ClaimMapViews
import Derived.JoinedTies
import Derived.KernelRfl
namespace Go.Proofs.YteigpbeamdhjpaaDoor
/- THE CELL 'sum', in the pinned program and in every row, IS THE sha256 OF THE DUMP (.gsa) THAT YteigpbeamdhjpaaDoorProg.lean LOADS. Nothing in Lean hashes anything: it is a label: what it is worth is what the hold of that sum in a sandbox is worth. -/
noncomputable def Tryd.pinned : Pinned := { name := "yteigpbeamdhjpaadoor", sum := "451acd238fe1949800cd43087b93d9d94548fbee8c280973fe7a0140d9dbed3e", checked := Tryd.checked }
namespace Rows
def none {H : Type} : Left H := { results := [], args := [] }

/- WHAT THE LISTED PACKAGE-LEVEL VARIABLES READ AS WHEN THE CALL BEGINS. Each datum BY PROGRAM (the guide's laid-datum.mjs) off the statement by which the dump's own 'gosem.cut.vars' lays the variable. In a bare row this is a premise. The card (YteigpbeamdhjpaaDoorCards.lean) ties it to the program's text. -/
def laid_loop_example_pub_g03236_pub_mldsa_params44 {H : Type} : DataW H := .agg [.lit (.int .i64 4), .lit (.int .i64 4), .lit (.int .i64 2), .lit (.int .i64 17), .lit (.int .i64 88), .lit (.int .i64 128), .lit (.int .i64 39), .lit (.int .i64 80)]
def laid_loop_example_pub_g03236_pub_mldsa_params65 {H : Type} : DataW H := .agg [.lit (.int .i64 6), .lit (.int .i64 5), .lit (.int .i64 4), .lit (.int .i64 19), .lit (.int .i64 32), .lit (.int .i64 192), .lit (.int .i64 49), .lit (.int .i64 55)]
def laid_loop_example_pub_g03236_pub_mldsa_params87 {H : Type} : DataW H := .agg [.lit (.int .i64 8), .lit (.int .i64 7), .lit (.int .i64 2), .lit (.int .i64 19), .lit (.int .i64 32), .lit (.int .i64 256), .lit (.int .i64 60), .lit (.int .i64 75)]
def laid_loop_example_pub_g03236_pub_mldsa_errInvalidPublicKeyLength {H : Type} : DataW H := .iface "*errors.errorString" (.ptr (.agg [.lit (.string [109, 108, 100, 115, 97, 58, 32, 105, 110, 118, 97, 108, 105, 100, 32, 112, 117, 98, 108, 105, 99, 32, 107, 101, 121, 32, 108, 101, 110, 103, 116, 104])]))
def laid_loop_example_pub_g03236_pub_mldsa_errInvalidSignatureHintLimits {H : Type} : DataW H := .iface "*errors.errorString" (.ptr (.agg [.lit (.string [109, 108, 100, 115, 97, 58, 32, 105, 110, 118, 97, 108, 105, 100, 32, 115, 105, 103, 110, 97, 116, 117, 114, 101, 32, 101, 110, 99, 111, 100, 105, 110, 103])]))
def laid_loop_example_pub_g03236_pub_mldsa_errInvalidSignatureHintIndexOrder {H : Type} : DataW H := .iface "*errors.errorString" (.ptr (.agg [.lit (.string [109, 108, 100, 115, 97, 58, 32, 105, 110, 118, 97, 108, 105, 100, 32, 115, 105, 103, 110, 97, 116, 117, 114, 101, 32, 101, 110, 99, 111, 100, 105, 110, 103])]))
def laid_loop_example_pub_g03236_pub_mldsa_errInvalidSignatureHintExtraIndices {H : Type} : DataW H := .iface "*errors.errorString" (.ptr (.agg [.lit (.string [109, 108, 100, 115, 97, 58, 32, 105, 110, 118, 97, 108, 105, 100, 32, 115, 105, 103, 110, 97, 116, 117, 114, 101, 32, 101, 110, 99, 111, 100, 105, 110, 103])]))

/-- 'laws.FnPkEncode': WHATEVER THE INPUT: true; the input reads as it did. -/
def fnPkEncodeSpec : ChangeSpec := { name := "fnPkEncode", vars := ["loop.example/pub-g03236/pub/mldsa.params44", "loop.example/pub-g03236/pub/mldsa.params65", "loop.example/pub-g03236/pub/mldsa.params87"], fn := fun _ => fun
  | [d1, d2, d3, g1, g2, g3] => { results := [.lit (.bool true)], args := [d1, d2, d3], vars := [g1, g2, g3] }
  | _ => none }
def fnPkEncodeRow : OpenClaim := { program := "yteigpbeamdhjpaadoor", sum := "451acd238fe1949800cd43087b93d9d94548fbee8c280973fe7a0140d9dbed3e", func := "loop.example/pub-g03236/laws.FnPkEncode", spec := "fnPkEncode", named := ["loop.example/pub-g03236/pub/mldsa.params44", "loop.example/pub-g03236/pub/mldsa.params65", "loop.example/pub-g03236/pub/mldsa.params87"], apart := false, laid := [("loop.example/pub-g03236/pub/mldsa.params44", laid_loop_example_pub_g03236_pub_mldsa_params44), ("loop.example/pub-g03236/pub/mldsa.params65", laid_loop_example_pub_g03236_pub_mldsa_params65), ("loop.example/pub-g03236/pub/mldsa.params87", laid_loop_example_pub_g03236_pub_mldsa_params87)] }
def FnPkEncodeSaid : Prop := fnPkEncodeRow.holds Tryd.pinned (OpenSpec.ofChange fnPkEncodeSpec)

/-- ITS FALSE NEIGHBOUR: 'it returns false'. Refute it at one input. -/
def fnPkEncodeWrong : ChangeSpec := { name := "fnPkEncode", vars := ["loop.example/pub-g03236/pub/mldsa.params44", "loop.example/pub-g03236/pub/mldsa.params65", "loop.example/pub-g03236/pub/mldsa.params87"], fn := fun _ => fun
  | [d1, d2, d3, g1, g2, g3] => { results := [.lit (.bool false)], args := [d1, d2, d3], vars := [g1, g2, g3] }
  | _ => none }
def FnPkEncodeWrongFalsely : Prop := fnPkEncodeRow.holds Tryd.pinned (OpenSpec.ofChange fnPkEncodeWrong)

/-- 'laws.FnPkDecode': WHATEVER THE INPUT: true; the input reads as it did. -/
def fnPkDecodeSpec : ChangeSpec := { name := "fnPkDecode", vars := ["loop.example/pub-g03236/pub/mldsa.params44", "loop.example/pub-g03236/pub/mldsa.params65", "loop.example/pub-g03236/pub/mldsa.params87", "loop.example/pub-g03236/pub/mldsa.errInvalidPublicKeyLength"], fn := fun _ => fun
  | [d1, d2, g1, g2, g3, g4] => { results := [.lit (.bool true)], args := [d1, d2], vars := [g1, g2, g3, g4] }
  | _ => none }
def fnPkDecodeRow : OpenClaim := { program := "yteigpbeamdhjpaadoor", sum := "451acd238fe1949800cd43087b93d9d94548fbee8c280973fe7a0140d9dbed3e", func := "loop.example/pub-g03236/laws.FnPkDecode", spec := "fnPkDecode", named := ["loop.example/pub-g03236/pub/mldsa.params44", "loop.example/pub-g03236/pub/mldsa.params65", "loop.example/pub-g03236/pub/mldsa.params87", "loop.example/pub-g03236/pub/mldsa.errInvalidPublicKeyLength"], ifaces := true, apart := false, laid := [("loop.example/pub-g03236/pub/mldsa.params44", laid_loop_example_pub_g03236_pub_mldsa_params44), ("loop.example/pub-g03236/pub/mldsa.params65", laid_loop_example_pub_g03236_pub_mldsa_params65), ("loop.example/pub-g03236/pub/mldsa.params87", laid_loop_example_pub_g03236_pub_mldsa_params87), ("loop.example/pub-g03236/pub/mldsa.errInvalidPublicKeyLength", laid_loop_example_pub_g03236_pub_mldsa_errInvalidPublicKeyLength)] }
def FnPkDecodeSaid : Prop := fnPkDecodeRow.holds Tryd.pinned (OpenSpec.ofChange fnPkDecodeSpec)

/-- ITS FALSE NEIGHBOUR: 'it returns false'. Refute it at one input. -/
def fnPkDecodeWrong : ChangeSpec := { name := "fnPkDecode", vars := ["loop.example/pub-g03236/pub/mldsa.params44", "loop.example/pub-g03236/pub/mldsa.params65", "loop.example/pub-g03236/pub/mldsa.params87", "loop.example/pub-g03236/pub/mldsa.errInvalidPublicKeyLength"], fn := fun _ => fun
  | [d1, d2, g1, g2, g3, g4] => { results := [.lit (.bool false)], args := [d1, d2], vars := [g1, g2, g3, g4] }
  | _ => none }
def FnPkDecodeWrongFalsely : Prop := fnPkDecodeRow.holds Tryd.pinned (OpenSpec.ofChange fnPkDecodeWrong)

/-- 'laws.FnPkBack': WHATEVER THE INPUT: true; the input reads as it did. -/
def fnPkBackSpec : ChangeSpec := { name := "fnPkBack", vars := ["loop.example/pub-g03236/pub/mldsa.params44", "loop.example/pub-g03236/pub/mldsa.params65", "loop.example/pub-g03236/pub/mldsa.params87", "loop.example/pub-g03236/pub/mldsa.errInvalidPublicKeyLength"], fn := fun _ => fun
  | [d1, d2, g1, g2, g3, g4] => { results := [.lit (.bool true)], args := [d1, d2], vars := [g1, g2, g3, g4] }
  | _ => none }
def fnPkBackRow : OpenClaim := { program := "yteigpbeamdhjpaadoor", sum := "451acd238fe1949800cd43087b93d9d94548fbee8c280973fe7a0140d9dbed3e", func := "loop.example/pub-g03236/laws.FnPkBack", spec := "fnPkBack", named := ["loop.example/pub-g03236/pub/mldsa.params44", "loop.example/pub-g03236/pub/mldsa.params65", "loop.example/pub-g03236/pub/mldsa.params87", "loop.example/pub-g03236/pub/mldsa.errInvalidPublicKeyLength"], ifaces := true, apart := false, laid := [("loop.example/pub-g03236/pub/mldsa.params44", laid_loop_example_pub_g03236_pub_mldsa_params44), ("loop.example/pub-g03236/pub/mldsa.params65", laid_loop_example_pub_g03236_pub_mldsa_params65), ("loop.example/pub-g03236/pub/mldsa.params87", laid_loop_example_pub_g03236_pub_mldsa_params87), ("loop.example/pub-g03236/pub/mldsa.errInvalidPublicKeyLength", laid_loop_example_pub_g03236_pub_mldsa_errInvalidPublicKeyLength)] }
def FnPkBackSaid : Prop := fnPkBackRow.holds Tryd.pinned (OpenSpec.ofChange fnPkBackSpec)

/-- ITS FALSE NEIGHBOUR: 'it returns false'. Refute it at one input. -/
def fnPkBackWrong : ChangeSpec := { name := "fnPkBack", vars := ["loop.example/pub-g03236/pub/mldsa.params44", "loop.example/pub-g03236/pub/mldsa.params65", "loop.example/pub-g03236/pub/mldsa.params87", "loop.example/pub-g03236/pub/mldsa.errInvalidPublicKeyLength"], fn := fun _ => fun
  | [d1, d2, g1, g2, g3, g4] => { results := [.lit (.bool false)], args := [d1, d2], vars := [g1, g2, g3, g4] }
  | _ => none }
def FnPkBackWrongFalsely : Prop := fnPkBackRow.holds Tryd.pinned (OpenSpec.ofChange fnPkBackWrong)

/-- 'laws.FnHintEncode': WHATEVER THE INPUT: true; the input reads as it did. -/
def fnHintEncodeSpec : ChangeSpec := { name := "fnHintEncode", vars := ["loop.example/pub-g03236/pub/mldsa.params44", "loop.example/pub-g03236/pub/mldsa.params65", "loop.example/pub-g03236/pub/mldsa.params87"], fn := fun _ => fun
  | [d1, d2, g1, g2, g3] => { results := [.lit (.bool true)], args := [d1, d2], vars := [g1, g2, g3] }
  | _ => none }
def fnHintEncodeRow : OpenClaim := { program := "yteigpbeamdhjpaadoor", sum := "451acd238fe1949800cd43087b93d9d94548fbee8c280973fe7a0140d9dbed3e", func := "loop.example/pub-g03236/laws.FnHintEncode", spec := "fnHintEncode", named := ["loop.example/pub-g03236/pub/mldsa.params44", "loop.example/pub-g03236/pub/mldsa.params65", "loop.example/pub-g03236/pub/mldsa.params87"], apart := false, laid := [("loop.example/pub-g03236/pub/mldsa.params44", laid_loop_example_pub_g03236_pub_mldsa_params44), ("loop.example/pub-g03236/pub/mldsa.params65", laid_loop_example_pub_g03236_pub_mldsa_params65), ("loop.example/pub-g03236/pub/mldsa.params87", laid_loop_example_pub_g03236_pub_mldsa_params87)] }
def FnHintEncodeSaid : Prop := fnHintEncodeRow.holds Tryd.pinned (OpenSpec.ofChange fnHintEncodeSpec)

/-- ITS FALSE NEIGHBOUR: 'it returns false'. Refute it at one input. -/
def fnHintEncodeWrong : ChangeSpec := { name := "fnHintEncode", vars := ["loop.example/pub-g03236/pub/mldsa.params44", "loop.example/pub-g03236/pub/mldsa.params65", "loop.example/pub-g03236/pub/mldsa.params87"], fn := fun _ => fun
  | [d1, d2, g1, g2, g3] => { results := [.lit (.bool false)], args := [d1, d2], vars := [g1, g2, g3] }
  | _ => none }
def FnHintEncodeWrongFalsely : Prop := fnHintEncodeRow.holds Tryd.pinned (OpenSpec.ofChange fnHintEncodeWrong)

/-- 'laws.FnHintDecode': WHATEVER THE INPUT: true; the input reads as it did. -/
def fnHintDecodeSpec : ChangeSpec := { name := "fnHintDecode", vars := ["loop.example/pub-g03236/pub/mldsa.params44", "loop.example/pub-g03236/pub/mldsa.params65", "loop.example/pub-g03236/pub/mldsa.params87", "loop.example/pub-g03236/pub/mldsa.errInvalidSignatureHintLimits", "loop.example/pub-g03236/pub/mldsa.errInvalidSignatureHintIndexOrder", "loop.example/pub-g03236/pub/mldsa.errInvalidSignatureHintExtraIndices"], fn := fun _ => fun
  | [d1, d2, g1, g2, g3, g4, g5, g6] => { results := [.lit (.bool true)], args := [d1, d2], vars := [g1, g2, g3, g4, g5, g6] }
  | _ => none }
def fnHintDecodeRow : OpenClaim := { program := "yteigpbeamdhjpaadoor", sum := "451acd238fe1949800cd43087b93d9d94548fbee8c280973fe7a0140d9dbed3e", func := "loop.example/pub-g03236/laws.FnHintDecode", spec := "fnHintDecode", named := ["loop.example/pub-g03236/pub/mldsa.params44", "loop.example/pub-g03236/pub/mldsa.params65", "loop.example/pub-g03236/pub/mldsa.params87", "loop.example/pub-g03236/pub/mldsa.errInvalidSignatureHintLimits", "loop.example/pub-g03236/pub/mldsa.errInvalidSignatureHintIndexOrder", "loop.example/pub-g03236/pub/mldsa.errInvalidSignatureHintExtraIndices"], ifaces := true, apart := false, laid := [("loop.example/pub-g03236/pub/mldsa.params44", laid_loop_example_pub_g03236_pub_mldsa_params44), ("loop.example/pub-g03236/pub/mldsa.params65", laid_loop_example_pub_g03236_pub_mldsa_params65), ("loop.example/pub-g03236/pub/mldsa.params87", laid_loop_example_pub_g03236_pub_mldsa_params87), ("loop.example/pub-g03236/pub/mldsa.errInvalidSignatureHintLimits", laid_loop_example_pub_g03236_pub_mldsa_errInvalidSignatureHintLimits), ("loop.example/pub-g03236/pub/mldsa.errInvalidSignatureHintIndexOrder", laid_loop_example_pub_g03236_pub_mldsa_errInvalidSignatureHintIndexOrder), ("loop.example/pub-g03236/pub/mldsa.errInvalidSignatureHintExtraIndices", laid_loop_example_pub_g03236_pub_mldsa_errInvalidSignatureHintExtraIndices)] }
def FnHintDecodeSaid : Prop := fnHintDecodeRow.holds Tryd.pinned (OpenSpec.ofChange fnHintDecodeSpec)

/-- ITS FALSE NEIGHBOUR: 'it returns false'. Refute it at one input. -/
def fnHintDecodeWrong : ChangeSpec := { name := "fnHintDecode", vars := ["loop.example/pub-g03236/pub/mldsa.params44", "loop.example/pub-g03236/pub/mldsa.params65", "loop.example/pub-g03236/pub/mldsa.params87", "loop.example/pub-g03236/pub/mldsa.errInvalidSignatureHintLimits", "loop.example/pub-g03236/pub/mldsa.errInvalidSignatureHintIndexOrder", "loop.example/pub-g03236/pub/mldsa.errInvalidSignatureHintExtraIndices"], fn := fun _ => fun
  | [d1, d2, g1, g2, g3, g4, g5, g6] => { results := [.lit (.bool false)], args := [d1, d2], vars := [g1, g2, g3, g4, g5, g6] }
  | _ => none }
def FnHintDecodeWrongFalsely : Prop := fnHintDecodeRow.holds Tryd.pinned (OpenSpec.ofChange fnHintDecodeWrong)

/-- 'laws.FnHintBack': WHATEVER THE INPUT: true; the input reads as it did. -/
def fnHintBackSpec : ChangeSpec := { name := "fnHintBack", vars := ["loop.example/pub-g03236/pub/mldsa.params44", "loop.example/pub-g03236/pub/mldsa.params65", "loop.example/pub-g03236/pub/mldsa.params87", "loop.example/pub-g03236/pub/mldsa.errInvalidSignatureHintLimits", "loop.example/pub-g03236/pub/mldsa.errInvalidSignatureHintIndexOrder", "loop.example/pub-g03236/pub/mldsa.errInvalidSignatureHintExtraIndices"], fn := fun _ => fun
  | [d1, d2, g1, g2, g3, g4, g5, g6] => { results := [.lit (.bool true)], args := [d1, d2], vars := [g1, g2, g3, g4, g5, g6] }
  | _ => none }
def fnHintBackRow : OpenClaim := { program := "yteigpbeamdhjpaadoor", sum := "451acd238fe1949800cd43087b93d9d94548fbee8c280973fe7a0140d9dbed3e", func := "loop.example/pub-g03236/laws.FnHintBack", spec := "fnHintBack", named := ["loop.example/pub-g03236/pub/mldsa.params44", "loop.example/pub-g03236/pub/mldsa.params65", "loop.example/pub-g03236/pub/mldsa.params87", "loop.example/pub-g03236/pub/mldsa.errInvalidSignatureHintLimits", "loop.example/pub-g03236/pub/mldsa.errInvalidSignatureHintIndexOrder", "loop.example/pub-g03236/pub/mldsa.errInvalidSignatureHintExtraIndices"], ifaces := true, apart := false, laid := [("loop.example/pub-g03236/pub/mldsa.params44", laid_loop_example_pub_g03236_pub_mldsa_params44), ("loop.example/pub-g03236/pub/mldsa.params65", laid_loop_example_pub_g03236_pub_mldsa_params65), ("loop.example/pub-g03236/pub/mldsa.params87", laid_loop_example_pub_g03236_pub_mldsa_params87), ("loop.example/pub-g03236/pub/mldsa.errInvalidSignatureHintLimits", laid_loop_example_pub_g03236_pub_mldsa_errInvalidSignatureHintLimits), ("loop.example/pub-g03236/pub/mldsa.errInvalidSignatureHintIndexOrder", laid_loop_example_pub_g03236_pub_mldsa_errInvalidSignatureHintIndexOrder), ("loop.example/pub-g03236/pub/mldsa.errInvalidSignatureHintExtraIndices", laid_loop_example_pub_g03236_pub_mldsa_errInvalidSignatureHintExtraIndices)] }
def FnHintBackSaid : Prop := fnHintBackRow.holds Tryd.pinned (OpenSpec.ofChange fnHintBackSpec)

/-- ITS FALSE NEIGHBOUR: 'it returns false'. Refute it at one input. -/
def fnHintBackWrong : ChangeSpec := { name := "fnHintBack", vars := ["loop.example/pub-g03236/pub/mldsa.params44", "loop.example/pub-g03236/pub/mldsa.params65", "loop.example/pub-g03236/pub/mldsa.params87", "loop.example/pub-g03236/pub/mldsa.errInvalidSignatureHintLimits", "loop.example/pub-g03236/pub/mldsa.errInvalidSignatureHintIndexOrder", "loop.example/pub-g03236/pub/mldsa.errInvalidSignatureHintExtraIndices"], fn := fun _ => fun
  | [d1, d2, g1, g2, g3, g4, g5, g6] => { results := [.lit (.bool false)], args := [d1, d2], vars := [g1, g2, g3, g4, g5, g6] }
  | _ => none }
def FnHintBackWrongFalsely : Prop := fnHintBackRow.holds Tryd.pinned (OpenSpec.ofChange fnHintBackWrong)

/- THE SECOND FORM. 'bulk': how many values and letters a reading holds, each counted each time it is reached (what is shared counts as often as it is met; a slice's spare places count too). A statement '..UptoSaid' is the law's where the arguments, and the package variables that the reading takes, are together of bulk at most 1048576: NARROWER than '..Said'. Prove '..Said' where nothing that the law and all that it calls make is longer than what came in: it says more and counts as full. Else prove '..UptoSaid'. A law counts once. -/
mutual
def uptoBulk {H : Type} : DataW H → Nat
  | .lit (.string bytes) => bytes.length + 1
  | .lit _ => 1
  | .nil => 1
  | .ptr d => uptoBulk d + 1
  | .slice elems spare => uptoBulkAll elems + uptoBulkAll spare + 1
  | .agg parts => uptoBulkAll parts + 1
  | .iface _ d => uptoBulk d + 1
  | .map entries => uptoBulkEntries entries + 1
  | .held _ => 1
def uptoBulkAll {H : Type} : List (DataW H) → Nat
  | [] => 0
  | d :: r => uptoBulk d + uptoBulkAll r
def uptoBulkEntries {H : Type} : List (Lit × DataW H) → Nat
  | [] => 0
  | x :: r => uptoBulkEntry x + uptoBulkEntries r
def uptoBulkEntry {H : Type} : Lit × DataW H → Nat
  | (.string bytes, d) => bytes.length + uptoBulk d + 1
  | (_, d) => uptoBulk d + 1
 end
def uptoSmall : (H : Type) → List (DataW H) → Bool := fun _ ds => decide (uptoBulkAll ds ≤ 1048576)
def OpenSpec.upto (s : _root_.Go.ChangeSpec) : _root_.Go.OpenSpec := { _root_.Go.OpenSpec.ofChange s with cond := some uptoSmall }

/-- 'laws.FnPkEncode', WHERE WHAT IT READS IS OF BULK AT MOST 1048576: true; the input reads as it did. -/
def fnPkEncodeUptoRow : OpenClaim := { program := "yteigpbeamdhjpaadoor", sum := "451acd238fe1949800cd43087b93d9d94548fbee8c280973fe7a0140d9dbed3e", func := "loop.example/pub-g03236/laws.FnPkEncode", spec := "fnPkEncode", named := ["loop.example/pub-g03236/pub/mldsa.params44", "loop.example/pub-g03236/pub/mldsa.params65", "loop.example/pub-g03236/pub/mldsa.params87"], apart := false, laid := [("loop.example/pub-g03236/pub/mldsa.params44", laid_loop_example_pub_g03236_pub_mldsa_params44), ("loop.example/pub-g03236/pub/mldsa.params65", laid_loop_example_pub_g03236_pub_mldsa_params65), ("loop.example/pub-g03236/pub/mldsa.params87", laid_loop_example_pub_g03236_pub_mldsa_params87)], narrowed := true }
def FnPkEncodeUptoSaid : Prop := fnPkEncodeUptoRow.holds Tryd.pinned (OpenSpec.upto fnPkEncodeSpec)

/-- 'laws.FnPkDecode', WHERE WHAT IT READS IS OF BULK AT MOST 1048576: true; the input reads as it did. -/
def fnPkDecodeUptoRow : OpenClaim := { program := "yteigpbeamdhjpaadoor", sum := "451acd238fe1949800cd43087b93d9d94548fbee8c280973fe7a0140d9dbed3e", func := "loop.example/pub-g03236/laws.FnPkDecode", spec := "fnPkDecode", named := ["loop.example/pub-g03236/pub/mldsa.params44", "loop.example/pub-g03236/pub/mldsa.params65", "loop.example/pub-g03236/pub/mldsa.params87", "loop.example/pub-g03236/pub/mldsa.errInvalidPublicKeyLength"], ifaces := true, apart := false, laid := [("loop.example/pub-g03236/pub/mldsa.params44", laid_loop_example_pub_g03236_pub_mldsa_params44), ("loop.example/pub-g03236/pub/mldsa.params65", laid_loop_example_pub_g03236_pub_mldsa_params65), ("loop.example/pub-g03236/pub/mldsa.params87", laid_loop_example_pub_g03236_pub_mldsa_params87), ("loop.example/pub-g03236/pub/mldsa.errInvalidPublicKeyLength", laid_loop_example_pub_g03236_pub_mldsa_errInvalidPublicKeyLength)], narrowed := true }
def FnPkDecodeUptoSaid : Prop := fnPkDecodeUptoRow.holds Tryd.pinned (OpenSpec.upto fnPkDecodeSpec)

/-- 'laws.FnPkBack', WHERE WHAT IT READS IS OF BULK AT MOST 1048576: true; the input reads as it did. -/
def fnPkBackUptoRow : OpenClaim := { program := "yteigpbeamdhjpaadoor", sum := "451acd238fe1949800cd43087b93d9d94548fbee8c280973fe7a0140d9dbed3e", func := "loop.example/pub-g03236/laws.FnPkBack", spec := "fnPkBack", named := ["loop.example/pub-g03236/pub/mldsa.params44", "loop.example/pub-g03236/pub/mldsa.params65", "loop.example/pub-g03236/pub/mldsa.params87", "loop.example/pub-g03236/pub/mldsa.errInvalidPublicKeyLength"], ifaces := true, apart := false, laid := [("loop.example/pub-g03236/pub/mldsa.params44", laid_loop_example_pub_g03236_pub_mldsa_params44), ("loop.example/pub-g03236/pub/mldsa.params65", laid_loop_example_pub_g03236_pub_mldsa_params65), ("loop.example/pub-g03236/pub/mldsa.params87", laid_loop_example_pub_g03236_pub_mldsa_params87), ("loop.example/pub-g03236/pub/mldsa.errInvalidPublicKeyLength", laid_loop_example_pub_g03236_pub_mldsa_errInvalidPublicKeyLength)], narrowed := true }
def FnPkBackUptoSaid : Prop := fnPkBackUptoRow.holds Tryd.pinned (OpenSpec.upto fnPkBackSpec)

/-- 'laws.FnHintEncode', WHERE WHAT IT READS IS OF BULK AT MOST 1048576: true; the input reads as it did. -/
def fnHintEncodeUptoRow : OpenClaim := { program := "yteigpbeamdhjpaadoor", sum := "451acd238fe1949800cd43087b93d9d94548fbee8c280973fe7a0140d9dbed3e", func := "loop.example/pub-g03236/laws.FnHintEncode", spec := "fnHintEncode", named := ["loop.example/pub-g03236/pub/mldsa.params44", "loop.example/pub-g03236/pub/mldsa.params65", "loop.example/pub-g03236/pub/mldsa.params87"], apart := false, laid := [("loop.example/pub-g03236/pub/mldsa.params44", laid_loop_example_pub_g03236_pub_mldsa_params44), ("loop.example/pub-g03236/pub/mldsa.params65", laid_loop_example_pub_g03236_pub_mldsa_params65), ("loop.example/pub-g03236/pub/mldsa.params87", laid_loop_example_pub_g03236_pub_mldsa_params87)], narrowed := true }
def FnHintEncodeUptoSaid : Prop := fnHintEncodeUptoRow.holds Tryd.pinned (OpenSpec.upto fnHintEncodeSpec)

/-- 'laws.FnHintDecode', WHERE WHAT IT READS IS OF BULK AT MOST 1048576: true; the input reads as it did. -/
def fnHintDecodeUptoRow : OpenClaim := { program := "yteigpbeamdhjpaadoor", sum := "451acd238fe1949800cd43087b93d9d94548fbee8c280973fe7a0140d9dbed3e", func := "loop.example/pub-g03236/laws.FnHintDecode", spec := "fnHintDecode", named := ["loop.example/pub-g03236/pub/mldsa.params44", "loop.example/pub-g03236/pub/mldsa.params65", "loop.example/pub-g03236/pub/mldsa.params87", "loop.example/pub-g03236/pub/mldsa.errInvalidSignatureHintLimits", "loop.example/pub-g03236/pub/mldsa.errInvalidSignatureHintIndexOrder", "loop.example/pub-g03236/pub/mldsa.errInvalidSignatureHintExtraIndices"], ifaces := true, apart := false, laid := [("loop.example/pub-g03236/pub/mldsa.params44", laid_loop_example_pub_g03236_pub_mldsa_params44), ("loop.example/pub-g03236/pub/mldsa.params65", laid_loop_example_pub_g03236_pub_mldsa_params65), ("loop.example/pub-g03236/pub/mldsa.params87", laid_loop_example_pub_g03236_pub_mldsa_params87), ("loop.example/pub-g03236/pub/mldsa.errInvalidSignatureHintLimits", laid_loop_example_pub_g03236_pub_mldsa_errInvalidSignatureHintLimits), ("loop.example/pub-g03236/pub/mldsa.errInvalidSignatureHintIndexOrder", laid_loop_example_pub_g03236_pub_mldsa_errInvalidSignatureHintIndexOrder), ("loop.example/pub-g03236/pub/mldsa.errInvalidSignatureHintExtraIndices", laid_loop_example_pub_g03236_pub_mldsa_errInvalidSignatureHintExtraIndices)], narrowed := true }
def FnHintDecodeUptoSaid : Prop := fnHintDecodeUptoRow.holds Tryd.pinned (OpenSpec.upto fnHintDecodeSpec)

/-- 'laws.FnHintBack', WHERE WHAT IT READS IS OF BULK AT MOST 1048576: true; the input reads as it did. -/
def fnHintBackUptoRow : OpenClaim := { program := "yteigpbeamdhjpaadoor", sum := "451acd238fe1949800cd43087b93d9d94548fbee8c280973fe7a0140d9dbed3e", func := "loop.example/pub-g03236/laws.FnHintBack", spec := "fnHintBack", named := ["loop.example/pub-g03236/pub/mldsa.params44", "loop.example/pub-g03236/pub/mldsa.params65", "loop.example/pub-g03236/pub/mldsa.params87", "loop.example/pub-g03236/pub/mldsa.errInvalidSignatureHintLimits", "loop.example/pub-g03236/pub/mldsa.errInvalidSignatureHintIndexOrder", "loop.example/pub-g03236/pub/mldsa.errInvalidSignatureHintExtraIndices"], ifaces := true, apart := false, laid := [("loop.example/pub-g03236/pub/mldsa.params44", laid_loop_example_pub_g03236_pub_mldsa_params44), ("loop.example/pub-g03236/pub/mldsa.params65", laid_loop_example_pub_g03236_pub_mldsa_params65), ("loop.example/pub-g03236/pub/mldsa.params87", laid_loop_example_pub_g03236_pub_mldsa_params87), ("loop.example/pub-g03236/pub/mldsa.errInvalidSignatureHintLimits", laid_loop_example_pub_g03236_pub_mldsa_errInvalidSignatureHintLimits), ("loop.example/pub-g03236/pub/mldsa.errInvalidSignatureHintIndexOrder", laid_loop_example_pub_g03236_pub_mldsa_errInvalidSignatureHintIndexOrder), ("loop.example/pub-g03236/pub/mldsa.errInvalidSignatureHintExtraIndices", laid_loop_example_pub_g03236_pub_mldsa_errInvalidSignatureHintExtraIndices)], narrowed := true }
def FnHintBackUptoSaid : Prop := fnHintBackUptoRow.holds Tryd.pinned (OpenSpec.upto fnHintBackSpec)

end Rows
end Go.Proofs.YteigpbeamdhjpaaDoor
