/-
  DERIVED. GIVEN WITH THE SEED: THE PROGRAM's TIES (one call each: nine closed facts by the kernel) AND EACH ROW's TIE, after the 31st guide's Derived/Test/Toyas{Tie, Card}.lean. No idea stands in it: it is a product of the set-up. Laid BY PROGRAM, IN A SANDBOX (cutbox-door.mjs). By AI agents, Wed Nov 11 2026. No macro, syntax, notation, axiom, sorry.
-/
import Derived.Test.YteigpbeamdhjpaaDoorRows
import Derived.LaidByTextLater
import Derived.SevenTiedAt
import Derived.LaidSub
import Derived.LaidOnce
namespace Go.Proofs.YteigpbeamdhjpaaDoor
open Go
set_option maxRecDepth 100000
theorem seatTie1 : Tryd.prog.laidByTextLater [("loop.example/pub-g03236/pub/mldsa.params44", Rows.laid_loop_example_pub_g03236_pub_mldsa_params44), ("loop.example/pub-g03236/pub/mldsa.params65", Rows.laid_loop_example_pub_g03236_pub_mldsa_params65), ("loop.example/pub-g03236/pub/mldsa.params87", Rows.laid_loop_example_pub_g03236_pub_mldsa_params87), ("loop.example/pub-g03236/pub/mldsa.errInvalidPublicKeyLength", Rows.laid_loop_example_pub_g03236_pub_mldsa_errInvalidPublicKeyLength), ("loop.example/pub-g03236/pub/mldsa.errInvalidSignatureHintLimits", Rows.laid_loop_example_pub_g03236_pub_mldsa_errInvalidSignatureHintLimits), ("loop.example/pub-g03236/pub/mldsa.errInvalidSignatureHintIndexOrder", Rows.laid_loop_example_pub_g03236_pub_mldsa_errInvalidSignatureHintIndexOrder), ("loop.example/pub-g03236/pub/mldsa.errInvalidSignatureHintExtraIndices", Rows.laid_loop_example_pub_g03236_pub_mldsa_errInvalidSignatureHintExtraIndices)] [.data, .data, .data, .sentinel, .sentinel, .sentinel, .sentinel] true :=
  Program.laidByTextLater_by_one 100 8 9 (by kernel_rfl) (by kernel_rfl) (by kernel_rfl) (by kernel_rfl) (by kernel_rfl) (by kernel_rfl) (fun _ _ => by kernel_rfl)
theorem noOwnUnsafe : Tryd.pinned.checked.prog.headLifts.contains "ownunsafe" = false := by kernel_rfl
theorem tie : Tryd.prog.laidByTextLater [("loop.example/pub-g03236/pub/mldsa.params44", Rows.laid_loop_example_pub_g03236_pub_mldsa_params44), ("loop.example/pub-g03236/pub/mldsa.params65", Rows.laid_loop_example_pub_g03236_pub_mldsa_params65), ("loop.example/pub-g03236/pub/mldsa.params87", Rows.laid_loop_example_pub_g03236_pub_mldsa_params87)] [.data, .data, .data] true :=
  Program.laidByTextLater.sub seatTie1 ["loop.example/pub-g03236/pub/mldsa.params44", "loop.example/pub-g03236/pub/mldsa.params65", "loop.example/pub-g03236/pub/mldsa.params87"] (by kernel_rfl) (by kernel_rfl)
theorem fnPkEncode_row_tie : Rows.fnPkEncodeRow.laidByTextAt .later Tryd.pinned [.data, .data, .data] true :=
  OpenClaim.laidByTextAt_later rfl rfl tie noOwnUnsafe
theorem fnHintEncode_row_tie : Rows.fnHintEncodeRow.laidByTextAt .later Tryd.pinned [.data, .data, .data] true :=
  OpenClaim.laidByTextAt_later rfl rfl tie noOwnUnsafe
theorem tie2 : Tryd.prog.laidByTextLater [("loop.example/pub-g03236/pub/mldsa.params44", Rows.laid_loop_example_pub_g03236_pub_mldsa_params44), ("loop.example/pub-g03236/pub/mldsa.params65", Rows.laid_loop_example_pub_g03236_pub_mldsa_params65), ("loop.example/pub-g03236/pub/mldsa.params87", Rows.laid_loop_example_pub_g03236_pub_mldsa_params87), ("loop.example/pub-g03236/pub/mldsa.errInvalidPublicKeyLength", Rows.laid_loop_example_pub_g03236_pub_mldsa_errInvalidPublicKeyLength)] [.data, .data, .data, .sentinel] true :=
  Program.laidByTextLater.sub seatTie1 ["loop.example/pub-g03236/pub/mldsa.params44", "loop.example/pub-g03236/pub/mldsa.params65", "loop.example/pub-g03236/pub/mldsa.params87", "loop.example/pub-g03236/pub/mldsa.errInvalidPublicKeyLength"] (by kernel_rfl) (by kernel_rfl)
theorem fnPkDecode_row_tie : Rows.fnPkDecodeRow.laidByTextAt .later Tryd.pinned [.data, .data, .data, .sentinel] true :=
  OpenClaim.laidByTextAt_later rfl rfl tie2 noOwnUnsafe
theorem fnPkBack_row_tie : Rows.fnPkBackRow.laidByTextAt .later Tryd.pinned [.data, .data, .data, .sentinel] true :=
  OpenClaim.laidByTextAt_later rfl rfl tie2 noOwnUnsafe
theorem tie3 : Tryd.prog.laidByTextLater [("loop.example/pub-g03236/pub/mldsa.params44", Rows.laid_loop_example_pub_g03236_pub_mldsa_params44), ("loop.example/pub-g03236/pub/mldsa.params65", Rows.laid_loop_example_pub_g03236_pub_mldsa_params65), ("loop.example/pub-g03236/pub/mldsa.params87", Rows.laid_loop_example_pub_g03236_pub_mldsa_params87), ("loop.example/pub-g03236/pub/mldsa.errInvalidSignatureHintLimits", Rows.laid_loop_example_pub_g03236_pub_mldsa_errInvalidSignatureHintLimits), ("loop.example/pub-g03236/pub/mldsa.errInvalidSignatureHintIndexOrder", Rows.laid_loop_example_pub_g03236_pub_mldsa_errInvalidSignatureHintIndexOrder), ("loop.example/pub-g03236/pub/mldsa.errInvalidSignatureHintExtraIndices", Rows.laid_loop_example_pub_g03236_pub_mldsa_errInvalidSignatureHintExtraIndices)] [.data, .data, .data, .sentinel, .sentinel, .sentinel] true :=
  Program.laidByTextLater.sub seatTie1 ["loop.example/pub-g03236/pub/mldsa.params44", "loop.example/pub-g03236/pub/mldsa.params65", "loop.example/pub-g03236/pub/mldsa.params87", "loop.example/pub-g03236/pub/mldsa.errInvalidSignatureHintLimits", "loop.example/pub-g03236/pub/mldsa.errInvalidSignatureHintIndexOrder", "loop.example/pub-g03236/pub/mldsa.errInvalidSignatureHintExtraIndices"] (by kernel_rfl) (by kernel_rfl)
theorem fnHintDecode_row_tie : Rows.fnHintDecodeRow.laidByTextAt .later Tryd.pinned [.data, .data, .data, .sentinel, .sentinel, .sentinel] true :=
  OpenClaim.laidByTextAt_later rfl rfl tie3 noOwnUnsafe
theorem fnHintBack_row_tie : Rows.fnHintBackRow.laidByTextAt .later Tryd.pinned [.data, .data, .data, .sentinel, .sentinel, .sentinel] true :=
  OpenClaim.laidByTextAt_later rfl rfl tie3 noOwnUnsafe
theorem fnPkEncodeUpto_row_tie : Rows.fnPkEncodeUptoRow.laidByTextAt .later Tryd.pinned [.data, .data, .data] true :=
  OpenClaim.laidByTextAt_later rfl rfl tie noOwnUnsafe
theorem fnPkDecodeUpto_row_tie : Rows.fnPkDecodeUptoRow.laidByTextAt .later Tryd.pinned [.data, .data, .data, .sentinel] true :=
  OpenClaim.laidByTextAt_later rfl rfl tie2 noOwnUnsafe
theorem fnPkBackUpto_row_tie : Rows.fnPkBackUptoRow.laidByTextAt .later Tryd.pinned [.data, .data, .data, .sentinel] true :=
  OpenClaim.laidByTextAt_later rfl rfl tie2 noOwnUnsafe
theorem fnHintEncodeUpto_row_tie : Rows.fnHintEncodeUptoRow.laidByTextAt .later Tryd.pinned [.data, .data, .data] true :=
  OpenClaim.laidByTextAt_later rfl rfl tie noOwnUnsafe
theorem fnHintDecodeUpto_row_tie : Rows.fnHintDecodeUptoRow.laidByTextAt .later Tryd.pinned [.data, .data, .data, .sentinel, .sentinel, .sentinel] true :=
  OpenClaim.laidByTextAt_later rfl rfl tie3 noOwnUnsafe
theorem fnHintBackUpto_row_tie : Rows.fnHintBackUptoRow.laidByTextAt .later Tryd.pinned [.data, .data, .data, .sentinel, .sentinel, .sentinel] true :=
  OpenClaim.laidByTextAt_later rfl rfl tie3 noOwnUnsafe
end Go.Proofs.YteigpbeamdhjpaaDoor
