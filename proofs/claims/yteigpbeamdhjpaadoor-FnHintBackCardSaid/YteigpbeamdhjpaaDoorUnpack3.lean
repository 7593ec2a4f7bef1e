/-
  Bytes read as numbers: the laws.
-/
import Derived.Test.YteigpbeamdhjpaaDoorUnpack2
namespace Go.Proofs.YteigpbeamdhjpaaDoor
open Go.RowKit

theorem rd_of_row {w : World} {a : Option Addr} {len cap : Nat} {zs : List Int} (h : IsRow .u8 w a len cap zs) (h0 : 0 < len) : ∃ x, a = some x ∧ Rd .u8 w x len (fun j => zs.getD j 0) ∧ ∀ i, i < len → 0 ≤ zs.getD i 0 ∧ zs.getD i 0 < 256 := by
  rcases h with ⟨_, h, _⟩ | ⟨x, ha, hl, hm, hz, hc, hw⟩
  · omega
  · refine ⟨x, ha, fun j hj => hc j (by omega), fun i hi => ?_⟩
    have hi' : i < zs.length := by omega
    have := bounds_u8 (hw (zs[i]) (List.getElem_mem hi'))
    rw [List.getD, List.getElem?_eq_getElem hi', Option.getD_some]
    omega




end Go.Proofs.YteigpbeamdhjpaaDoor
