/-
  DERIVED. GIVEN WITH THE SEED: THE PROGRAM's TIES (one call each: nine closed facts by the kernel) AND EACH ROW's TIE, after the 31st guide's Derived/Test/Toyas{Tie, Card}.lean. No idea stands in it: it is a product of the set-up. Laid BY PROGRAM, IN A SANDBOX (cutbox-door.mjs). By AI agents, Wed Nov 11 2026. No macro, syntax, notation, axiom, sorry.
-/
import Derived.Test.YtanfpnidlgejhaaDoorRows
import Derived.LaidByTextLater
import Derived.SevenTiedAt
import Derived.LaidSub
import Derived.LaidOnce
namespace Go.Proofs.YtanfpnidlgejhaaDoor
open Go
set_option maxRecDepth 100000
theorem seatTie1 : Tryd.prog.laidByTextLater [("loop.example/pub-g03236/pub/mldsa.params44", Rows.laid_loop_example_pub_g03236_pub_mldsa_params44), ("loop.example/pub-g03236/pub/mldsa.params65", Rows.laid_loop_example_pub_g03236_pub_mldsa_params65), ("loop.example/pub-g03236/pub/mldsa.params87", Rows.laid_loop_example_pub_g03236_pub_mldsa_params87), ("loop.example/pub-g03236/pub/mldsa.errInvalidSignatureLength", Rows.laid_loop_example_pub_g03236_pub_mldsa_errInvalidSignatureLength), ("loop.example/pub-g03236/pub/mldsa.errInvalidSignatureHintLimits", Rows.laid_loop_example_pub_g03236_pub_mldsa_errInvalidSignatureHintLimits), ("loop.example/pub-g03236/pub/mldsa.errInvalidSignatureHintIndexOrder", Rows.laid_loop_example_pub_g03236_pub_mldsa_errInvalidSignatureHintIndexOrder), ("loop.example/pub-g03236/pub/mldsa.errInvalidSignatureHintExtraIndices", Rows.laid_loop_example_pub_g03236_pub_mldsa_errInvalidSignatureHintExtraIndices)] [.data, .data, .data, .sentinel, .sentinel, .sentinel, .sentinel] true :=
  Program.laidByTextLater_by_one 100 8 9 (by kernel_rfl) (by kernel_rfl) (by kernel_rfl) (by kernel_rfl) (by kernel_rfl) (by kernel_rfl) (fun _ _ => by kernel_rfl)
theorem noOwnUnsafe : Tryd.pinned.checked.prog.headLifts.contains "ownunsafe" = false := by kernel_rfl
theorem tie : Tryd.prog.laidByTextLater [("loop.example/pub-g03236/pub/mldsa.params44", Rows.laid_loop_example_pub_g03236_pub_mldsa_params44), ("loop.example/pub-g03236/pub/mldsa.params65", Rows.laid_loop_example_pub_g03236_pub_mldsa_params65), ("loop.example/pub-g03236/pub/mldsa.params87", Rows.laid_loop_example_pub_g03236_pub_mldsa_params87), ("loop.example/pub-g03236/pub/mldsa.errInvalidSignatureLength", Rows.laid_loop_example_pub_g03236_pub_mldsa_errInvalidSignatureLength), ("loop.example/pub-g03236/pub/mldsa.errInvalidSignatureHintLimits", Rows.laid_loop_example_pub_g03236_pub_mldsa_errInvalidSignatureHintLimits), ("loop.example/pub-g03236/pub/mldsa.errInvalidSignatureHintIndexOrder", Rows.laid_loop_example_pub_g03236_pub_mldsa_errInvalidSignatureHintIndexOrder), ("loop.example/pub-g03236/pub/mldsa.errInvalidSignatureHintExtraIndices", Rows.laid_loop_example_pub_g03236_pub_mldsa_errInvalidSignatureHintExtraIndices)] [.data, .data, .data, .sentinel, .sentinel, .sentinel, .sentinel] true :=
  Program.laidByTextLater.sub seatTie1 ["loop.example/pub-g03236/pub/mldsa.params44", "loop.example/pub-g03236/pub/mldsa.params65", "loop.example/pub-g03236/pub/mldsa.params87", "loop.example/pub-g03236/pub/mldsa.errInvalidSignatureLength", "loop.example/pub-g03236/pub/mldsa.errInvalidSignatureHintLimits", "loop.example/pub-g03236/pub/mldsa.errInvalidSignatureHintIndexOrder", "loop.example/pub-g03236/pub/mldsa.errInvalidSignatureHintExtraIndices"] (by kernel_rfl) (by kernel_rfl)
theorem fnSigDecode_row_tie : Rows.fnSigDecodeRow.laidByTextAt .later Tryd.pinned [.data, .data, .data, .sentinel, .sentinel, .sentinel, .sentinel] true :=
  OpenClaim.laidByTextAt_later rfl rfl tie noOwnUnsafe
theorem fnSigBack_row_tie : Rows.fnSigBackRow.laidByTextAt .later Tryd.pinned [.data, .data, .data, .sentinel, .sentinel, .sentinel, .sentinel] true :=
  OpenClaim.laidByTextAt_later rfl rfl tie noOwnUnsafe
theorem tie2 : Tryd.prog.laidByTextLater [("loop.example/pub-g03236/pub/mldsa.params44", Rows.laid_loop_example_pub_g03236_pub_mldsa_params44), ("loop.example/pub-g03236/pub/mldsa.params65", Rows.laid_loop_example_pub_g03236_pub_mldsa_params65), ("loop.example/pub-g03236/pub/mldsa.params87", Rows.laid_loop_example_pub_g03236_pub_mldsa_params87)] [.data, .data, .data] true :=
  Program.laidByTextLater.sub seatTie1 ["loop.example/pub-g03236/pub/mldsa.params44", "loop.example/pub-g03236/pub/mldsa.params65", "loop.example/pub-g03236/pub/mldsa.params87"] (by kernel_rfl) (by kernel_rfl)
theorem fnSigEncode_row_tie : Rows.fnSigEncodeRow.laidByTextAt .later Tryd.pinned [.data, .data, .data] true :=
  OpenClaim.laidByTextAt_later rfl rfl tie2 noOwnUnsafe
theorem fnSigDecodeUpto_row_tie : Rows.fnSigDecodeUptoRow.laidByTextAt .later Tryd.pinned [.data, .data, .data, .sentinel, .sentinel, .sentinel, .sentinel] true :=
  OpenClaim.laidByTextAt_later rfl rfl tie noOwnUnsafe
theorem fnSigEncodeUpto_row_tie : Rows.fnSigEncodeUptoRow.laidByTextAt .later Tryd.pinned [.data, .data, .data] true :=
  OpenClaim.laidByTextAt_later rfl rfl tie2 noOwnUnsafe
theorem fnSigBackUpto_row_tie : Rows.fnSigBackUptoRow.laidByTextAt .later Tryd.pinned [.data, .data, .data, .sentinel, .sentinel, .sentinel, .sentinel] true :=
  OpenClaim.laidByTextAt_later rfl rfl tie noOwnUnsafe
end Go.Proofs.YtanfpnidlgejhaaDoor
