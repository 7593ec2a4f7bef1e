/-
  Slices of bytes: what a walk reads of them; slices.Clone.
-/
import Derived.Test.YtanfpnidlgejhaaDoorProg
import Derived.Test.YtanfpnidlgejhaaDoorArr
import Derived.Laws.AppendOwn
import Derived.WalkKit
import Derived.Lib.LazyBuf
namespace Go.Proofs.YtanfpnidlgejhaaDoor
open Go.RowKit

/-- From an address on there lie n integers. -/
def Rd (k : IntKind) (w : World) (x : Addr) (n : Nat) (b : Nat → Int) : Prop := ∀ j, j < n → w.cell? (x.add j) = some (.int k (b j))
section
variable {k : IntKind} {w w' : World} {x : Addr} {n : Nat} {b : Nat → Int}
theorem Rd.below (h : Rd k w x n b) (hb : Below w.heap.size w w') : Rd k w' x n b := fun j hj => by
  rw [hb.cell (p := x.add j) (block_lt_of_cell (h j hj)), h j hj]
theorem Rd.drewN (h : Rd k w x n b) (m : Nat) : Rd k (w.drewN m) x n b := h
theorem Rd.at (h : Rd k w x n b) (g off j : Nat) (hx : x = ⟨g, 0, none⟩) (hj : off + j < n) : w.cell? ⟨g, off + j, none⟩ = some (.int k (b (off + j))) := by
  have := h (off + j) hj
  rw [hx] at this
  unfold Addr.add at this
  split at this
  · rename_i e; rw [e] at this ⊢; exact this
  · simpa using this
theorem Rd.lt (h : Rd k w x n b) (hn : 0 < n) : x.block < w.heap.size := by
  have := block_lt_of_cell (h 0 hn)
  simpa [Addr.add] using this
end
theorem ownsRow_empty (w : World) (e : TypeId) (base : Nat) (hb : base ≤ w.heap.size) : (w.alloc (.cells #[] e)).ownsRow base e 1 (.slice (some ⟨w.heap.size, 0, none⟩) 0 0) 0 [] :=
  ⟨by simp, .inr ⟨w.heap.size, 0, #[], rfl, hb, heap_alloc_last w _, Nat.le_refl _, Nat.zero_le _, by simp, by simp⟩⟩
theorem rd_of_owns {w : World} {e : TypeId} {base n : Nat} {v : Value} {b : Nat → Int} {k : IntKind} (hn : 0 < n) (h : w.ownsRow base e 1 v n ((List.range n).map fun j => Value.int k (b j))) :
    ∃ g c, v = .slice (some ⟨g, 0, none⟩) n c ∧ base ≤ g ∧ n ≤ c ∧ c ≤ maxLen ∧ Rd k w ⟨g, 0, none⟩ n b := by
  obtain ⟨_, ⟨_, h0⟩ | ⟨g, c, cur, hv, hg, hh, hc, hm, hs, ht⟩⟩ := h
  · omega
  · refine ⟨g, c, hv, hg, hc, hm, fun j hj => ?_⟩
    have e1 : (Addr.add ⟨g, 0, none⟩ j) = ⟨g, j, none⟩ := by
      unfold Addr.add
      split
      · rename_i e; rw [e]
      · simp
    rw [e1, cell_of_row w g j _ _ _ hh]
    have := congrArg (·[j]?) ht
    simp only [Nat.mul_one, List.getElem?_take, hj, if_true] at this
    rw [← Array.getElem?_toList, this]
    simp [hj]
theorem byteInfo : ∃ i, Tryd.prog.info? 5 = some i ∧ i.zero = some (.int .u8 0) ∧ i.size = 1 ∧ i.bytes = 1 := by
  have h : (Tryd.prog.info? 5).map (fun i => (i.zero, i.size, i.bytes)) = some (some (.int .u8 0), 1, 1) := by kernel_rfl
  cases hi : Tryd.prog.info? 5 with
  | none => rw [hi] at h; cases h
  | some i =>
    rw [hi] at h
    simp only [Option.map_some, Option.some.injEq, Prod.mk.injEq] at h
    exact ⟨i, rfl, h.1, h.2.1, h.2.2⟩
set_option maxHeartbeats 1000000 in
theorem cloneB (x : Addr) (len cap : Nat) (b : Nat → Int) (w : World) (h0 : 0 < len) (h1 : len ≤ 140737488355328) (hr : Rd .u8 w x len b) :
    Calls Tryd.prog 26 #[.slice (some x) len cap] w fun e w' => (∃ g c, e = .returned (.slice (some ⟨g, 0, none⟩) len c) ∧ w.heap.size ≤ g ∧ len ≤ c ∧ c ≤ maxLen ∧ Rd .u8 w' ⟨g, 0, none⟩ len b) ∧ Below w.heap.size w w' := by
  obtain ⟨i, hi, hz0, hz1, hz2⟩ := byteInfo
  have hnil : (binOp .eql 22 (.slice (some x) len cap) (.slice none 0 0)).run Tryd.prog w = .ok (.bool false) w := run_eql_slice_nil w _ _ _ _ _ Tryd.underlying22
  go_enter Tryd.func26, Tryd.ntmps26
  go_wp2_with (first | (at_builtin; refine wpList_append_own _ rfl _ _ 22 rfl w.heap.size 5 i (.int .u8 0) 1 1 Tryd.underlying22 hi hz0 hz1 hz2 rfl (by decide) _ _ _ rfl (ownsRow_empty w _ _ (Nat.le_refl _)) x len cap ((List.range len).map fun j => Value.int .u8 (b j)) rfl ?c1 ?c2 ?c3 ?c4 ?c5 ?c6 ?_))
  case c1 => simp
  case c2 =>
    intro j u hj
    have hlt : j < len := by
      have := (List.getElem?_eq_some_iff.1 hj).1
      simpa using this
    rw [List.getElem?_map, List.getElem?_range hlt] at hj
    cases hj
    exact (hr.below ((Below.refl _ _).alloc (Nat.le_refl _) _)) j hlt
  case c3 =>
    intro u hu
    obtain ⟨j, _, rfl⟩ := List.mem_map.1 hu
    rfl
  case c4 => simp only [maxLen]; omega
  case c5 => omega
  case c6 => simp
  intro v' w1 hown hgr _
  obtain ⟨g, c, rfl, hg, hc, hm, hrd⟩ := rd_of_owns h0 hown
  go_wp2
  go_ret
  exact ⟨⟨g, c, rfl, hg, hc, hm, hrd⟩, ((Below.refl _ _).alloc (Nat.le_refl _) _).grown hgr (by simp) (fun k hk => by cases hk; exact Nat.le_refl _)⟩
end Go.Proofs.YtanfpnidlgejhaaDoor
