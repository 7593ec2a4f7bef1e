/-
  A public key written: the walk.
-/
import Derived.Test.YtanfpnidlgejhaaDoorMat3
import Derived.Test.YtanfpnidlgejhaaDoorPkN
import Derived.Test.YtanfpnidlgejhaaDoorSets
import Derived.Test.YtanfpnidlgejhaaDoorCell
import Derived.Laws.AppendOwn
namespace Go.Proofs.YtanfpnidlgejhaaDoor
open Go.RowKit

/-- How many polynomials a set has. -/
def kk : Nat → Nat
  | 0 => 4
  | 1 => 6
  | _ => 8
theorem kk_ps (s : Nat) (hs : s < 3) : ps s 0 = (kk s : Int) := by
  have h3 : s = 0 ∨ s = 1 ∨ s = 2 := by omega
  rcases h3 with rfl | rfl | rfl <;> rfl
theorem kk_ss (s : Nat) (hs : s < 3) : ss s 0 = (kk s : Int) := by
  have h3 : s = 0 ∨ s = 1 ∨ s = 2 := by omega
  rcases h3 with rfl | rfl | rfl <;> rfl
theorem kk_bd (s : Nat) (hs : s < 3) : 4 ≤ kk s ∧ kk s ≤ 8 := by
  have h3 : s = 0 ∨ s = 1 ∨ s = 2 := by omega
  rcases h3 with rfl | rfl | rfl <;> decide
/-- The first n bytes. -/
def bl (f : Nat → Int) (n : Nat) : List Value := (List.range n).map fun p => Value.int .u8 (f p)
theorem bl_more (f : Nat → Int) (n m : Nat) : bl f n ++ (List.range m).map (fun j => Value.int .u8 (f (n + j))) = bl f (n + m) := by
  unfold bl
  rw [List.range_add, List.map_append, List.map_map]
  rfl
theorem bl_congr (f g : Nat → Int) (n : Nat) (h : ∀ i, i < n → f i = g i) : bl f n = bl g n := by
  unfold bl
  exact List.map_congr_left fun p hp => by rw [h p (List.mem_range.1 hp)]
theorem one_bl (f : Nat → Int) (n : Nat) : ∀ u ∈ (List.range n).map (fun j => Value.int .u8 (f j)), u.oneCell' = true := by
  intro u hu
  obtain ⟨j, _, rfl⟩ := List.mem_map.1 hu
  rfl
theorem bl_5 (f : Nat → Int) (n : Nat) : bl f n ++ [.int .u8 (f n), .int .u8 (f (n + 1)), .int .u8 (f (n + 2)), .int .u8 (f (n + 3)), .int .u8 (f (n + 4))] = bl f (n + 5) := bl_more f n 5
theorem owns_ne {w : World} {base : Nat} {e t : TypeId} {size n m g : Nat} {k : IntKind} {z : Nat → Int} {v : Value} {xs : List Value} (h : w.ownsRow base e size v n xs) (hb : Blk w g k m z t) (ht : t ≠ e) : v.ownBlock ≠ some g := by
  intro hv
  obtain ⟨_, ⟨h1, _⟩ | ⟨g', c, cur, h1, _, hh, _⟩⟩ := h
  · rw [h1] at hv; simp [Value.ownBlock] at hv
  · rw [h1] at hv
    simp [Value.ownBlock] at hv
    subst hv
    unfold Blk at hb
    rw [hb] at hh
    simp at hh
    exact ht hh.2
theorem bl_and (f g : Nat → Int) (n m : Nat) (h : ∀ j, j < m → g j = f (n + j)) : bl f n ++ (List.range m).map (fun j => Value.int .u8 (g j)) = bl f (n + m) := by
  rw [← bl_more f n m]
  congr 1
  exact List.map_congr_left fun j hj => by rw [h j (List.mem_range.1 hj)]
theorem owns_mono {w : World} {base base' : Nat} {e : TypeId} {size n : Nat} {v : Value} {xs : List Value} (h : w.ownsRow base e size v n xs) (hb : base' ≤ base) : w.ownsRow base' e size v n xs := by
  obtain ⟨h1, h0 | ⟨g, c, cur, hv, hg, hr⟩⟩ := h
  · exact ⟨h1, .inl h0⟩
  · exact ⟨h1, .inr ⟨g, c, cur, hv, Nat.le_trans hb hg, hr⟩⟩
theorem news_rd {w : World} {x : Addr} {n : Nat} {f : Nat → Int} (h : Rd .u8 w x n f) : ∀ j u, ((List.range n).map fun i => Value.int .u8 (f i))[j]? = some u → w.cell? (x.add j) = some u := by
  intro j u hj
  have hjl : j < n := by
    have := (List.getElem?_eq_some_iff.1 hj).1
    simpa using this
  rw [h j hjl]
  simpa [hjl] using hj


end Go.Proofs.YtanfpnidlgejhaaDoor
