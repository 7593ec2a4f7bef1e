/-
  DERIVED. GIVEN WITH THE SEED: THE PROGRAM's TIES (one call each: nine closed facts by the kernel) AND EACH ROW's TIE, after the 31st guide's Derived/Test/Toyas{Tie, Card}.lean. No idea stands in it: it is a product of the set-up. Laid BY PROGRAM, IN A SANDBOX (cutbox-door.mjs). By AI agents, Wed Nov 11 2026. No macro, syntax, notation, axiom, sorry.
-/
import Derived.Test.YtpfabgmoadljnaaDoorRows
import Derived.LaidByTextLater
import Derived.SevenTiedAt
import Derived.LaidSub
import Derived.LaidOnce
namespace Go.Proofs.YtpfabgmoadljnaaDoor
open Go
set_option maxRecDepth 100000
theorem seatTie1 : Tryd.prog.laidByTextLater [("loop.example/pub-g03236/pub/mldsa.errUnreducedFieldElement", Rows.laid_loop_example_pub_g03236_pub_mldsa_errUnreducedFieldElement), ("loop.example/pub-g03236/pub/mldsa.zetas", Rows.laid_loop_example_pub_g03236_pub_mldsa_zetas)] [.sentinel, .data] true :=
  Program.laidByTextLater_by_one 33 8 257 (by kernel_rfl) (by kernel_rfl) (by kernel_rfl) (by kernel_rfl) (by kernel_rfl) (by kernel_rfl) (fun _ _ => by kernel_rfl)
theorem noOwnUnsafe : Tryd.pinned.checked.prog.headLifts.contains "ownunsafe" = false := by kernel_rfl
theorem tie : Tryd.prog.laidByTextLater [("loop.example/pub-g03236/pub/mldsa.zetas", Rows.laid_loop_example_pub_g03236_pub_mldsa_zetas)] [.data] true :=
  Program.laidByTextLater.sub seatTie1 ["loop.example/pub-g03236/pub/mldsa.zetas"] (by kernel_rfl) (by kernel_rfl)
theorem fnToNTT_row_tie : Rows.fnToNTTRow.laidByTextAt .later Tryd.pinned [.data] true :=
  OpenClaim.laidByTextAt_later rfl rfl tie noOwnUnsafe
theorem fnFromNTT_row_tie : Rows.fnFromNTTRow.laidByTextAt .later Tryd.pinned [.data] true :=
  OpenClaim.laidByTextAt_later rfl rfl tie noOwnUnsafe
theorem fnNTTLinear_row_tie : Rows.fnNTTLinearRow.laidByTextAt .later Tryd.pinned [.data] true :=
  OpenClaim.laidByTextAt_later rfl rfl tie noOwnUnsafe
theorem fnNTTBack_row_tie : Rows.fnNTTBackRow.laidByTextAt .later Tryd.pinned [.data] true :=
  OpenClaim.laidByTextAt_later rfl rfl tie noOwnUnsafe
theorem fnNTTProduct_row_tie : Rows.fnNTTProductRow.laidByTextAt .later Tryd.pinned [.data] true :=
  OpenClaim.laidByTextAt_later rfl rfl tie noOwnUnsafe
theorem tie2 : Tryd.prog.laidByTextLater [("loop.example/pub-g03236/pub/mldsa.errUnreducedFieldElement", Rows.laid_loop_example_pub_g03236_pub_mldsa_errUnreducedFieldElement), ("loop.example/pub-g03236/pub/mldsa.zetas", Rows.laid_loop_example_pub_g03236_pub_mldsa_zetas)] [.sentinel, .data] true :=
  Program.laidByTextLater.sub seatTie1 ["loop.example/pub-g03236/pub/mldsa.errUnreducedFieldElement", "loop.example/pub-g03236/pub/mldsa.zetas"] (by kernel_rfl) (by kernel_rfl)
theorem fnT1Hat_row_tie : Rows.fnT1HatRow.laidByTextAt .later Tryd.pinned [.sentinel, .data] true :=
  OpenClaim.laidByTextAt_later rfl rfl tie2 noOwnUnsafe
theorem fnToNTTUpto_row_tie : Rows.fnToNTTUptoRow.laidByTextAt .later Tryd.pinned [.data] true :=
  OpenClaim.laidByTextAt_later rfl rfl tie noOwnUnsafe
theorem fnFromNTTUpto_row_tie : Rows.fnFromNTTUptoRow.laidByTextAt .later Tryd.pinned [.data] true :=
  OpenClaim.laidByTextAt_later rfl rfl tie noOwnUnsafe
theorem fnNTTLinearUpto_row_tie : Rows.fnNTTLinearUptoRow.laidByTextAt .later Tryd.pinned [.data] true :=
  OpenClaim.laidByTextAt_later rfl rfl tie noOwnUnsafe
theorem fnT1HatUpto_row_tie : Rows.fnT1HatUptoRow.laidByTextAt .later Tryd.pinned [.sentinel, .data] true :=
  OpenClaim.laidByTextAt_later rfl rfl tie2 noOwnUnsafe
theorem fnNTTBackUpto_row_tie : Rows.fnNTTBackUptoRow.laidByTextAt .later Tryd.pinned [.data] true :=
  OpenClaim.laidByTextAt_later rfl rfl tie noOwnUnsafe
theorem fnNTTProductUpto_row_tie : Rows.fnNTTProductUptoRow.laidByTextAt .later Tryd.pinned [.data] true :=
  OpenClaim.laidByTextAt_later rfl rfl tie noOwnUnsafe
end Go.Proofs.YtpfabgmoadljnaaDoor
