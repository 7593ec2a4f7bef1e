/-
  What 'reduced' of the laws tells: whether all numbers of a list are below the prime.
-/
import Derived.Test.YtanfpnidlgejhaaDoorField
import Derived.Below
import Derived.Deep.WholeRow
namespace Go.Proofs.YtanfpnidlgejhaaDoor
open Go.RowKit

set_option maxHeartbeats 400000 in
theorem lwReduced (b off n c : Nat) (zs : List Int) (w : World) (hl : zs.length = n) (hn : n < 4611686018427387904)
    (hc : ∀ j, j < n → w.cell? ⟨b, off + j, none⟩ = some (.int .u32 (zs.getD j 0))) :
    Calls Tryd.prog 43 #[.slice (some ⟨b, off, none⟩) n c] w fun e w' => e = .returned (.bool (zs.all fun z => decide (z < 8380417))) ∧ w = w' := by
  have HL := Lib.hid hl; clear hl
  have HC := Lib.hid hc; clear hc
  go_enter Tryd.func43, Tryd.ntmps43
  go_wp2
  go_loop [7] (fun i => ∃ k : Nat, k ≤ n ∧ i = .int .i64 k ∧ Hid (∀ j, j < k → zs.getD j 0 < 8380417)) (fun i => n - (intOf i).toNat)
  case atStart => exact ⟨0, Nat.zero_le _, rfl, Lib.hid (fun j hj => by omega)⟩
  case round =>
    obtain ⟨k, hk, rfl, hall⟩ := hrel
    by_cases hlt : k < n
    · have hcell := HC.out k hlt
      obtain ⟨z, hz⟩ : ∃ z, z = zs.getD k 0 := ⟨_, rfl⟩
      rw [← hz] at hcell
      have HZ := Lib.hid hz; clear hz
      by_cases hzq : z < 8380417
      · go_wp2
        go_round
        case rel => exact ⟨k + 1, by omega, by go_num, Lib.hid (fun j hj => by
          by_cases e : j = k
          · subst e; rw [← HZ.out]; exact hzq
          · exact hall.out j (by omega))⟩
        case measure => simp [intOf]; omega
      · go_wp2
        go_ret
        refine ⟨ret_bool ?_, rfl⟩
        symm
        rw [List.all_eq_false]
        have hkl : k < zs.length := by rw [HL.out]; exact hlt
        refine ⟨zs[k], List.getElem_mem hkl, ?_⟩
        have : zs[k] = z := by rw [HZ.out]; simp [List.getD, List.getElem?_eq_getElem hkl]
        rw [this]; simp; omega
    · go_wp2
      go_ret
      refine ⟨ret_bool ?_, rfl⟩
      symm
      rw [List.all_eq_true]
      intro x hx
      obtain ⟨j, hj, rfl⟩ := List.getElem_of_mem hx
      have := hall.out j (by rw [HL.out] at hj; omega)
      simpa [List.getD, List.getElem?_eq_getElem hj] using this

/-- 'reduced' over a list that was just laid. -/
theorem lwReducedNew (zs : List Int) (t : TypeId) (w : World) (hn : zs.length < 4611686018427387904) :
    Calls Tryd.prog 43 #[.slice (some ⟨w.heap.size, 0, none⟩) zs.length zs.length] (w.alloc (.cells (zs.map (Value.int .u32)).toArray t)) fun e w' => e = .returned (.bool (zs.all fun z => decide (z < 8380417))) ∧ w.alloc (.cells (zs.map (Value.int .u32)).toArray t) = w' := by
  refine lwReduced _ _ _ _ zs _ rfl hn (fun j hj => ?_)
  rw [Nat.zero_add, cell_of_row _ _ j _ t (0, 0) (heap_alloc_last w _)]
  simp [List.getD, List.getElem?_eq_getElem hj]

theorem lwReducedAt (zs : List Int) (t : TypeId) (w : World) (g : Nat) (hg : g = w.heap.size) (hn : zs.length < 4611686018427387904) :
    Calls Tryd.prog 43 #[.slice (some ⟨g, 0, none⟩) zs.length zs.length] (w.alloc (.cells (zs.map (Value.int .u32)).toArray t)) fun e w' => e = .returned (.bool (zs.all fun z => decide (z < 8380417))) ∧ w.alloc (.cells (zs.map (Value.int .u32)).toArray t) = w' := by
  subst hg; exact lwReducedNew zs t w hn
end Go.Proofs.YtanfpnidlgejhaaDoor
