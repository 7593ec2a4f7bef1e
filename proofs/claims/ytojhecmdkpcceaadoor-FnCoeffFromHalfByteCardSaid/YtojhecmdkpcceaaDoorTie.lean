/-
  DERIVED. GIVEN WITH THE SEED: THE PROGRAM's TIES (one call each: nine closed facts by the kernel) AND EACH ROW's TIE, after the 31st guide's Derived/Test/Toyas{Tie, Card}.lean. No idea stands in it: it is a product of the set-up. Laid BY PROGRAM, IN A SANDBOX (cutbox-door.mjs). By AI agents, Wed Nov 11 2026. No macro, syntax, notation, axiom, sorry.
-/
import Derived.Test.YtojhecmdkpcceaaDoorRows
import Derived.LaidByTextLater
import Derived.SevenTiedAt
import Derived.LaidSub
import Derived.LaidOnce
namespace Go.Proofs.YtojhecmdkpcceaaDoor
open Go
set_option maxRecDepth 100000
theorem seatTie1 : Tryd.prog.laidByTextLater [("loop.example/pub-g03236/pub/mldsa.errUnreducedFieldElement", Rows.laid_loop_example_pub_g03236_pub_mldsa_errUnreducedFieldElement), ("loop.example/pub-g03236/pub/mldsa.params44", Rows.laid_loop_example_pub_g03236_pub_mldsa_params44), ("loop.example/pub-g03236/pub/mldsa.params65", Rows.laid_loop_example_pub_g03236_pub_mldsa_params65), ("loop.example/pub-g03236/pub/mldsa.params87", Rows.laid_loop_example_pub_g03236_pub_mldsa_params87)] [.sentinel, .data, .data, .data] true :=
  Program.laidByTextLater_by_one 43 8 9 (by kernel_rfl) (by kernel_rfl) (by kernel_rfl) (by kernel_rfl) (by kernel_rfl) (by kernel_rfl) (fun _ _ => by kernel_rfl)
theorem noOwnUnsafe : Tryd.pinned.checked.prog.headLifts.contains "ownunsafe" = false := by kernel_rfl
theorem tie : Tryd.prog.laidByTextLater [("loop.example/pub-g03236/pub/mldsa.errUnreducedFieldElement", Rows.laid_loop_example_pub_g03236_pub_mldsa_errUnreducedFieldElement)] [.sentinel] true :=
  Program.laidByTextLater.sub seatTie1 ["loop.example/pub-g03236/pub/mldsa.errUnreducedFieldElement"] (by kernel_rfl) (by kernel_rfl)
theorem fnToMontgomery_row_tie : Rows.fnToMontgomeryRow.laidByTextAt .later Tryd.pinned [.sentinel] true :=
  OpenClaim.laidByTextAt_later rfl rfl tie noOwnUnsafe
theorem fnMontgomeryBack_row_tie : Rows.fnMontgomeryBackRow.laidByTextAt .later Tryd.pinned [.sentinel] true :=
  OpenClaim.laidByTextAt_later rfl rfl tie noOwnUnsafe
theorem tie2 : Tryd.prog.laidByTextLater [("loop.example/pub-g03236/pub/mldsa.params44", Rows.laid_loop_example_pub_g03236_pub_mldsa_params44), ("loop.example/pub-g03236/pub/mldsa.params65", Rows.laid_loop_example_pub_g03236_pub_mldsa_params65), ("loop.example/pub-g03236/pub/mldsa.params87", Rows.laid_loop_example_pub_g03236_pub_mldsa_params87)] [.data, .data, .data] true :=
  Program.laidByTextLater.sub seatTie1 ["loop.example/pub-g03236/pub/mldsa.params44", "loop.example/pub-g03236/pub/mldsa.params65", "loop.example/pub-g03236/pub/mldsa.params87"] (by kernel_rfl) (by kernel_rfl)
theorem fnCoeffFromHalfByte_row_tie : Rows.fnCoeffFromHalfByteRow.laidByTextAt .later Tryd.pinned [.data, .data, .data] true :=
  OpenClaim.laidByTextAt_later rfl rfl tie2 noOwnUnsafe
theorem fnToMontgomeryUpto_row_tie : Rows.fnToMontgomeryUptoRow.laidByTextAt .later Tryd.pinned [.sentinel] true :=
  OpenClaim.laidByTextAt_later rfl rfl tie noOwnUnsafe
theorem fnMontgomeryBackUpto_row_tie : Rows.fnMontgomeryBackUptoRow.laidByTextAt .later Tryd.pinned [.sentinel] true :=
  OpenClaim.laidByTextAt_later rfl rfl tie noOwnUnsafe
theorem fnCoeffFromHalfByteUpto_row_tie : Rows.fnCoeffFromHalfByteUptoRow.laidByTextAt .later Tryd.pinned [.data, .data, .data] true :=
  OpenClaim.laidByTextAt_later rfl rfl tie2 noOwnUnsafe
end Go.Proofs.YtojhecmdkpcceaaDoor
