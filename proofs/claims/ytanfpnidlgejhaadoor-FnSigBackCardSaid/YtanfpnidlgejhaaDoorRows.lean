/-
  NARROWER THAN 'FOR EVERY INPUT', by the rows' own cells (each row's printed sentence says how): FnSigDecode: ifaces, laid · FnSigEncode: laid · FnSigBack: ifaces, laid.
  DERIVED. THE GIVEN ROWS OF THIS SEAT. 3 by the template 'for every input the law returns true; each argument reads behind the call as it read before'; 0 by the template 'total and deterministic' (their statements: YtanfpnidlgejhaaDoorTotals.lean).
  GIVEN WITH THE SEED: the statements are not yours to turn. If you find one false, say at which input.
  Laid BY PROGRAM, IN A SANDBOX (cutbox-rows.mjs): the forced cells as the released guide's own fill.sh prints them over the translation 23e666b3286f992b… (all of the seat's roots in one cut). By AI agents, Wed Nov 11 2026. No macro, syntax, notation, axiom, sorry.
-/
import Derived.Test.YtanfpnidlgejhaaDoorChecked
import GoSem.Claim
import GoSem.ClaimJoined
import GoSem.ClaimMapViews
import Derived.JoinedTies
import Derived.KernelRfl
namespace Go.Proofs.YtanfpnidlgejhaaDoor
/- THE CELL 'sum', in the pinned program and in every row, IS THE sha256 OF THE DUMP (.gsa) THAT YtanfpnidlgejhaaDoorProg.lean LOADS. Nothing in Lean hashes anything: it is a label: what it is worth is what the hold of that sum in a sandbox is worth. -/
noncomputable def Tryd.pinned : Pinned := { name := "ytanfpnidlgejhaadoor", sum := "23e666b3286f992b95440777743c0ed3a474be674bfd8e839698a9806a34647b", checked := Tryd.checked }
namespace Rows
def none {H : Type} : Left H := { results := [], args := [] }

/- WHAT THE LISTED PACKAGE-LEVEL VARIABLES READ AS WHEN THE CALL BEGINS. Each datum BY PROGRAM (the guide's laid-datum.mjs) off the statement by which the dump's own 'gosem.cut.vars' lays the variable. In a bare row this is a premise. The card (YtanfpnidlgejhaaDoorCards.lean) ties it to the program's text. -/
def laid_loop_example_pub_g03236_pub_mldsa_params44 {H : Type} : DataW H := .agg [.lit (.int .i64 4), .lit (.int .i64 4), .lit (.int .i64 2), .lit (.int .i64 17), .lit (.int .i64 88), .lit (.int .i64 128), .lit (.int .i64 39), .lit (.int .i64 80)]
def laid_loop_example_pub_g03236_pub_mldsa_params65 {H : Type} : DataW H := .agg [.lit (.int .i64 6), .lit (.int .i64 5), .lit (.int .i64 4), .lit (.int .i64 19), .lit (.int .i64 32), .lit (.int .i64 192), .lit (.int .i64 49), .lit (.int .i64 55)]
def laid_loop_example_pub_g03236_pub_mldsa_params87 {H : Type} : DataW H := .agg [.lit (.int .i64 8), .lit (.int .i64 7), .lit (.int .i64 2), .lit (.int .i64 19), .lit (.int .i64 32), .lit (.int .i64 256), .lit (.int .i64 60), .lit (.int .i64 75)]
def laid_loop_example_pub_g03236_pub_mldsa_errInvalidSignatureLength {H : Type} : DataW H := .iface "*errors.errorString" (.ptr (.agg [.lit (.string [109, 108, 100, 115, 97, 58, 32, 105, 110, 118, 97, 108, 105, 100, 32, 115, 105, 103, 110, 97, 116, 117, 114, 101, 32, 108, 101, 110, 103, 116, 104])]))
def laid_loop_example_pub_g03236_pub_mldsa_errInvalidSignatureHintLimits {H : Type} : DataW H := .iface "*errors.errorString" (.ptr (.agg [.lit (.string [109, 108, 100, 115, 97, 58, 32, 105, 110, 118, 97, 108, 105, 100, 32, 115, 105, 103, 110, 97, 116, 117, 114, 101, 32, 101, 110, 99, 111, 100, 105, 110, 103])]))
def laid_loop_example_pub_g03236_pub_mldsa_errInvalidSignatureHintIndexOrder {H : Type} : DataW H := .iface "*errors.errorString" (.ptr (.agg [.lit (.string [109, 108, 100, 115, 97, 58, 32, 105, 110, 118, 97, 108, 105, 100, 32, 115, 105, 103, 110, 97, 116, 117, 114, 101, 32, 101, 110, 99, 111, 100, 105, 110, 103])]))
def laid_loop_example_pub_g03236_pub_mldsa_errInvalidSignatureHintExtraIndices {H : Type} : DataW H := .iface "*errors.errorString" (.ptr (.agg [.lit (.string [109, 108, 100, 115, 97, 58, 32, 105, 110, 118, 97, 108, 105, 100, 32, 115, 105, 103, 110, 97, 116, 117, 114, 101, 32, 101, 110, 99, 111, 100, 105, 110, 103])]))

/-- 'laws.FnSigDecode': WHATEVER THE INPUT: true; the input reads as it did. -/
def fnSigDecodeSpec : ChangeSpec := { name := "fnSigDecode", vars := ["loop.example/pub-g03236/pub/mldsa.params44", "loop.example/pub-g03236/pub/mldsa.params65", "loop.example/pub-g03236/pub/mldsa.params87", "loop.example/pub-g03236/pub/mldsa.errInvalidSignatureLength", "loop.example/pub-g03236/pub/mldsa.errInvalidSignatureHintLimits", "loop.example/pub-g03236/pub/mldsa.errInvalidSignatureHintIndexOrder", "loop.example/pub-g03236/pub/mldsa.errInvalidSignatureHintExtraIndices"], fn := fun _ => fun
  | [d1, d2, g1, g2, g3, g4, g5, g6, g7] => { results := [.lit (.bool true)], args := [d1, d2], vars := [g1, g2, g3, g4, g5, g6, g7] }
  | _ => none }
def fnSigDecodeRow : OpenClaim := { program := "ytanfpnidlgejhaadoor", sum := "23e666b3286f992b95440777743c0ed3a474be674bfd8e839698a9806a34647b", func := "loop.example/pub-g03236/laws.FnSigDecode", spec := "fnSigDecode", inPlace := ["math/bits.Sub64"], named := ["loop.example/pub-g03236/pub/mldsa.params44", "loop.example/pub-g03236/pub/mldsa.params65", "loop.example/pub-g03236/pub/mldsa.params87", "loop.example/pub-g03236/pub/mldsa.errInvalidSignatureLength", "loop.example/pub-g03236/pub/mldsa.errInvalidSignatureHintLimits", "loop.example/pub-g03236/pub/mldsa.errInvalidSignatureHintIndexOrder", "loop.example/pub-g03236/pub/mldsa.errInvalidSignatureHintExtraIndices"], ifaces := true, apart := false, laid := [("loop.example/pub-g03236/pub/mldsa.params44", laid_loop_example_pub_g03236_pub_mldsa_params44), ("loop.example/pub-g03236/pub/mldsa.params65", laid_loop_example_pub_g03236_pub_mldsa_params65), ("loop.example/pub-g03236/pub/mldsa.params87", laid_loop_example_pub_g03236_pub_mldsa_params87), ("loop.example/pub-g03236/pub/mldsa.errInvalidSignatureLength", laid_loop_example_pub_g03236_pub_mldsa_errInvalidSignatureLength), ("loop.example/pub-g03236/pub/mldsa.errInvalidSignatureHintLimits", laid_loop_example_pub_g03236_pub_mldsa_errInvalidSignatureHintLimits), ("loop.example/pub-g03236/pub/mldsa.errInvalidSignatureHintIndexOrder", laid_loop_example_pub_g03236_pub_mldsa_errInvalidSignatureHintIndexOrder), ("loop.example/pub-g03236/pub/mldsa.errInvalidSignatureHintExtraIndices", laid_loop_example_pub_g03236_pub_mldsa_errInvalidSignatureHintExtraIndices)] }
def FnSigDecodeSaid : Prop := fnSigDecodeRow.holds Tryd.pinned (OpenSpec.ofChange fnSigDecodeSpec)

/-- ITS FALSE NEIGHBOUR: 'it returns false'. Refute it at one input. -/
def fnSigDecodeWrong : ChangeSpec := { name := "fnSigDecode", vars := ["loop.example/pub-g03236/pub/mldsa.params44", "loop.example/pub-g03236/pub/mldsa.params65", "loop.example/pub-g03236/pub/mldsa.params87", "loop.example/pub-g03236/pub/mldsa.errInvalidSignatureLength", "loop.example/pub-g03236/pub/mldsa.errInvalidSignatureHintLimits", "loop.example/pub-g03236/pub/mldsa.errInvalidSignatureHintIndexOrder", "loop.example/pub-g03236/pub/mldsa.errInvalidSignatureHintExtraIndices"], fn := fun _ => fun
  | [d1, d2, g1, g2, g3, g4, g5, g6, g7] => { results := [.lit (.bool false)], args := [d1, d2], vars := [g1, g2, g3, g4, g5, g6, g7] }
  | _ => none }
def FnSigDecodeWrongFalsely : Prop := fnSigDecodeRow.holds Tryd.pinned (OpenSpec.ofChange fnSigDecodeWrong)

/-- 'laws.FnSigEncode': WHATEVER THE INPUT: true; the input reads as it did. -/
def fnSigEncodeSpec : ChangeSpec := { name := "fnSigEncode", vars := ["loop.example/pub-g03236/pub/mldsa.params44", "loop.example/pub-g03236/pub/mldsa.params65", "loop.example/pub-g03236/pub/mldsa.params87"], fn := fun _ => fun
  | [d1, d2, d3, d4, g1, g2, g3] => { results := [.lit (.bool true)], args := [d1, d2, d3, d4], vars := [g1, g2, g3] }
  | _ => none }
def fnSigEncodeRow : OpenClaim := { program := "ytanfpnidlgejhaadoor", sum := "23e666b3286f992b95440777743c0ed3a474be674bfd8e839698a9806a34647b", func := "loop.example/pub-g03236/laws.FnSigEncode", spec := "fnSigEncode", inPlace := ["math/bits.Sub64"], named := ["loop.example/pub-g03236/pub/mldsa.params44", "loop.example/pub-g03236/pub/mldsa.params65", "loop.example/pub-g03236/pub/mldsa.params87"], apart := false, laid := [("loop.example/pub-g03236/pub/mldsa.params44", laid_loop_example_pub_g03236_pub_mldsa_params44), ("loop.example/pub-g03236/pub/mldsa.params65", laid_loop_example_pub_g03236_pub_mldsa_params65), ("loop.example/pub-g03236/pub/mldsa.params87", laid_loop_example_pub_g03236_pub_mldsa_params87)] }
def FnSigEncodeSaid : Prop := fnSigEncodeRow.holds Tryd.pinned (OpenSpec.ofChange fnSigEncodeSpec)

/-- ITS FALSE NEIGHBOUR: 'it returns false'. Refute it at one input. -/
def fnSigEncodeWrong : ChangeSpec := { name := "fnSigEncode", vars := ["loop.example/pub-g03236/pub/mldsa.params44", "loop.example/pub-g03236/pub/mldsa.params65", "loop.example/pub-g03236/pub/mldsa.params87"], fn := fun _ => fun
  | [d1, d2, d3, d4, g1, g2, g3] => { results := [.lit (.bool false)], args := [d1, d2, d3, d4], vars := [g1, g2, g3] }
  | _ => none }
def FnSigEncodeWrongFalsely : Prop := fnSigEncodeRow.holds Tryd.pinned (OpenSpec.ofChange fnSigEncodeWrong)

/-- 'laws.FnSigBack': WHATEVER THE INPUT: true; the input reads as it did. -/
def fnSigBackSpec : ChangeSpec := { name := "fnSigBack", vars := ["loop.example/pub-g03236/pub/mldsa.params44", "loop.example/pub-g03236/pub/mldsa.params65", "loop.example/pub-g03236/pub/mldsa.params87", "loop.example/pub-g03236/pub/mldsa.errInvalidSignatureLength", "loop.example/pub-g03236/pub/mldsa.errInvalidSignatureHintLimits", "loop.example/pub-g03236/pub/mldsa.errInvalidSignatureHintIndexOrder", "loop.example/pub-g03236/pub/mldsa.errInvalidSignatureHintExtraIndices"], fn := fun _ => fun
  | [d1, d2, g1, g2, g3, g4, g5, g6, g7] => { results := [.lit (.bool true)], args := [d1, d2], vars := [g1, g2, g3, g4, g5, g6, g7] }
  | _ => none }
def fnSigBackRow : OpenClaim := { program := "ytanfpnidlgejhaadoor", sum := "23e666b3286f992b95440777743c0ed3a474be674bfd8e839698a9806a34647b", func := "loop.example/pub-g03236/laws.FnSigBack", spec := "fnSigBack", inPlace := ["math/bits.Sub64"], named := ["loop.example/pub-g03236/pub/mldsa.params44", "loop.example/pub-g03236/pub/mldsa.params65", "loop.example/pub-g03236/pub/mldsa.params87", "loop.example/pub-g03236/pub/mldsa.errInvalidSignatureLength", "loop.example/pub-g03236/pub/mldsa.errInvalidSignatureHintLimits", "loop.example/pub-g03236/pub/mldsa.errInvalidSignatureHintIndexOrder", "loop.example/pub-g03236/pub/mldsa.errInvalidSignatureHintExtraIndices"], ifaces := true, apart := false, laid := [("loop.example/pub-g03236/pub/mldsa.params44", laid_loop_example_pub_g03236_pub_mldsa_params44), ("loop.example/pub-g03236/pub/mldsa.params65", laid_loop_example_pub_g03236_pub_mldsa_params65), ("loop.example/pub-g03236/pub/mldsa.params87", laid_loop_example_pub_g03236_pub_mldsa_params87), ("loop.example/pub-g03236/pub/mldsa.errInvalidSignatureLength", laid_loop_example_pub_g03236_pub_mldsa_errInvalidSignatureLength), ("loop.example/pub-g03236/pub/mldsa.errInvalidSignatureHintLimits", laid_loop_example_pub_g03236_pub_mldsa_errInvalidSignatureHintLimits), ("loop.example/pub-g03236/pub/mldsa.errInvalidSignatureHintIndexOrder", laid_loop_example_pub_g03236_pub_mldsa_errInvalidSignatureHintIndexOrder), ("loop.example/pub-g03236/pub/mldsa.errInvalidSignatureHintExtraIndices", laid_loop_example_pub_g03236_pub_mldsa_errInvalidSignatureHintExtraIndices)] }
def FnSigBackSaid : Prop := fnSigBackRow.holds Tryd.pinned (OpenSpec.ofChange fnSigBackSpec)

/-- ITS FALSE NEIGHBOUR: 'it returns false'. Refute it at one input. -/
def fnSigBackWrong : ChangeSpec := { name := "fnSigBack", vars := ["loop.example/pub-g03236/pub/mldsa.params44", "loop.example/pub-g03236/pub/mldsa.params65", "loop.example/pub-g03236/pub/mldsa.params87", "loop.example/pub-g03236/pub/mldsa.errInvalidSignatureLength", "loop.example/pub-g03236/pub/mldsa.errInvalidSignatureHintLimits", "loop.example/pub-g03236/pub/mldsa.errInvalidSignatureHintIndexOrder", "loop.example/pub-g03236/pub/mldsa.errInvalidSignatureHintExtraIndices"], fn := fun _ => fun
  | [d1, d2, g1, g2, g3, g4, g5, g6, g7] => { results := [.lit (.bool false)], args := [d1, d2], vars := [g1, g2, g3, g4, g5, g6, g7] }
  | _ => none }
def FnSigBackWrongFalsely : Prop := fnSigBackRow.holds Tryd.pinned (OpenSpec.ofChange fnSigBackWrong)

/- THE SECOND FORM. 'bulk': how many values and letters a reading holds, each counted each time it is reached (what is shared counts as often as it is met; a slice's spare places count too). A statement '..UptoSaid' is the law's where the arguments, and the package variables that the reading takes, are together of bulk at most 1048576: NARROWER than '..Said'. Prove '..Said' where nothing that the law and all that it calls make is longer than what came in: it says more and counts as full. Else prove '..UptoSaid'. A law counts once. -/
mutual
def uptoBulk {H : Type} : DataW H → Nat
  | .lit (.string bytes) => bytes.length + 1
  | .lit _ => 1
  | .nil => 1
  | .ptr d => uptoBulk d + 1
  | .slice elems spare => uptoBulkAll elems + uptoBulkAll spare + 1
  | .agg parts => uptoBulkAll parts + 1
  | .iface _ d => uptoBulk d + 1
  | .map entries => uptoBulkEntries entries + 1
  | .held _ => 1
def uptoBulkAll {H : Type} : List (DataW H) → Nat
  | [] => 0
  | d :: r => uptoBulk d + uptoBulkAll r
def uptoBulkEntries {H : Type} : List (Lit × DataW H) → Nat
  | [] => 0
  | x :: r => uptoBulkEntry x + uptoBulkEntries r
def uptoBulkEntry {H : Type} : Lit × DataW H → Nat
  | (.string bytes, d) => bytes.length + uptoBulk d + 1
  | (_, d) => uptoBulk d + 1
 end
def uptoSmall : (H : Type) → List (DataW H) → Bool := fun _ ds => decide (uptoBulkAll ds ≤ 1048576)
def OpenSpec.upto (s : _root_.Go.ChangeSpec) : _root_.Go.OpenSpec := { _root_.Go.OpenSpec.ofChange s with cond := some uptoSmall }

/-- 'laws.FnSigDecode', WHERE WHAT IT READS IS OF BULK AT MOST 1048576: true; the input reads as it did. -/
def fnSigDecodeUptoRow : OpenClaim := { program := "ytanfpnidlgejhaadoor", sum := "23e666b3286f992b95440777743c0ed3a474be674bfd8e839698a9806a34647b", func := "loop.example/pub-g03236/laws.FnSigDecode", spec := "fnSigDecode", inPlace := ["math/bits.Sub64"], named := ["loop.example/pub-g03236/pub/mldsa.params44", "loop.example/pub-g03236/pub/mldsa.params65", "loop.example/pub-g03236/pub/mldsa.params87", "loop.example/pub-g03236/pub/mldsa.errInvalidSignatureLength", "loop.example/pub-g03236/pub/mldsa.errInvalidSignatureHintLimits", "loop.example/pub-g03236/pub/mldsa.errInvalidSignatureHintIndexOrder", "loop.example/pub-g03236/pub/mldsa.errInvalidSignatureHintExtraIndices"], ifaces := true, apart := false, laid := [("loop.example/pub-g03236/pub/mldsa.params44", laid_loop_example_pub_g03236_pub_mldsa_params44), ("loop.example/pub-g03236/pub/mldsa.params65", laid_loop_example_pub_g03236_pub_mldsa_params65), ("loop.example/pub-g03236/pub/mldsa.params87", laid_loop_example_pub_g03236_pub_mldsa_params87), ("loop.example/pub-g03236/pub/mldsa.errInvalidSignatureLength", laid_loop_example_pub_g03236_pub_mldsa_errInvalidSignatureLength), ("loop.example/pub-g03236/pub/mldsa.errInvalidSignatureHintLimits", laid_loop_example_pub_g03236_pub_mldsa_errInvalidSignatureHintLimits), ("loop.example/pub-g03236/pub/mldsa.errInvalidSignatureHintIndexOrder", laid_loop_example_pub_g03236_pub_mldsa_errInvalidSignatureHintIndexOrder), ("loop.example/pub-g03236/pub/mldsa.errInvalidSignatureHintExtraIndices", laid_loop_example_pub_g03236_pub_mldsa_errInvalidSignatureHintExtraIndices)], narrowed := true }
def FnSigDecodeUptoSaid : Prop := fnSigDecodeUptoRow.holds Tryd.pinned (OpenSpec.upto fnSigDecodeSpec)

/-- 'laws.FnSigEncode', WHERE WHAT IT READS IS OF BULK AT MOST 1048576: true; the input reads as it did. -/
def fnSigEncodeUptoRow : OpenClaim := { program := "ytanfpnidlgejhaadoor", sum := "23e666b3286f992b95440777743c0ed3a474be674bfd8e839698a9806a34647b", func := "loop.example/pub-g03236/laws.FnSigEncode", spec := "fnSigEncode", inPlace := ["math/bits.Sub64"], named := ["loop.example/pub-g03236/pub/mldsa.params44", "loop.example/pub-g03236/pub/mldsa.params65", "loop.example/pub-g03236/pub/mldsa.params87"], apart := false, laid := [("loop.example/pub-g03236/pub/mldsa.params44", laid_loop_example_pub_g03236_pub_mldsa_params44), ("loop.example/pub-g03236/pub/mldsa.params65", laid_loop_example_pub_g03236_pub_mldsa_params65), ("loop.example/pub-g03236/pub/mldsa.params87", laid_loop_example_pub_g03236_pub_mldsa_params87)], narrowed := true }
def FnSigEncodeUptoSaid : Prop := fnSigEncodeUptoRow.holds Tryd.pinned (OpenSpec.upto fnSigEncodeSpec)

/-- 'laws.FnSigBack', WHERE WHAT IT READS IS OF BULK AT MOST 1048576: true; the input reads as it did. -/
def fnSigBackUptoRow : OpenClaim := { program := "ytanfpnidlgejhaadoor", sum := "23e666b3286f992b95440777743c0ed3a474be674bfd8e839698a9806a34647b", func := "loop.example/pub-g03236/laws.FnSigBack", spec := "fnSigBack", inPlace := ["math/bits.Sub64"], named := ["loop.example/pub-g03236/pub/mldsa.params44", "loop.example/pub-g03236/pub/mldsa.params65", "loop.example/pub-g03236/pub/mldsa.params87", "loop.example/pub-g03236/pub/mldsa.errInvalidSignatureLength", "loop.example/pub-g03236/pub/mldsa.errInvalidSignatureHintLimits", "loop.example/pub-g03236/pub/mldsa.errInvalidSignatureHintIndexOrder", "loop.example/pub-g03236/pub/mldsa.errInvalidSignatureHintExtraIndices"], ifaces := true, apart := false, laid := [("loop.example/pub-g03236/pub/mldsa.params44", laid_loop_example_pub_g03236_pub_mldsa_params44), ("loop.example/pub-g03236/pub/mldsa.params65", laid_loop_example_pub_g03236_pub_mldsa_params65), ("loop.example/pub-g03236/pub/mldsa.params87", laid_loop_example_pub_g03236_pub_mldsa_params87), ("loop.example/pub-g03236/pub/mldsa.errInvalidSignatureLength", laid_loop_example_pub_g03236_pub_mldsa_errInvalidSignatureLength), ("loop.example/pub-g03236/pub/mldsa.errInvalidSignatureHintLimits", laid_loop_example_pub_g03236_pub_mldsa_errInvalidSignatureHintLimits), ("loop.example/pub-g03236/pub/mldsa.errInvalidSignatureHintIndexOrder", laid_loop_example_pub_g03236_pub_mldsa_errInvalidSignatureHintIndexOrder), ("loop.example/pub-g03236/pub/mldsa.errInvalidSignatureHintExtraIndices", laid_loop_example_pub_g03236_pub_mldsa_errInvalidSignatureHintExtraIndices)], narrowed := true }
def FnSigBackUptoSaid : Prop := fnSigBackUptoRow.holds Tryd.pinned (OpenSpec.upto fnSigBackSpec)

end Rows
end Go.Proofs.YtanfpnidlgejhaaDoor
