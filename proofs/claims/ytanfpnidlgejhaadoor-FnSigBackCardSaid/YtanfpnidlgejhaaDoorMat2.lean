/-
  Slices of arrays: a row loaded, a row stored, slices cloned.
-/
import Derived.Test.YtanfpnidlgejhaaDoorMat
import Derived.Test.YtanfpnidlgejhaaDoorRing
import Derived.Test.YtanfpnidlgejhaaDoorMem
import Derived.Deep.MidRow
namespace Go.Proofs.YtanfpnidlgejhaaDoor
open Go.RowKit

section
variable {P : Program}
theorem run_loadVar_at (w : World) (p : Addr) {k : IntKind} {n : Nat} {z : Nat → Int} {ty e : TypeId} (hu : P.underlying ty = some (.array n e)) (hi : (P.info? ty).map (·.size) = some n) (hc : ∀ j, j < n → w.cell? (p.add j) = some (.int k (z j))) :
    (loadVar ty p).run P w = .ok (.agg (arr k n z)) w := by
  have hl : (loadCells p n).run P w = .ok (arr k n z) w := by
    have := run_loadCells_list (P := P) w p (arr k n z).toList (fun j v hj => by
      have hjn : j < n := by
        have := (List.getElem?_eq_some_iff.1 hj).1
        simpa [arr_size] using this
      rw [hc j hjn]
      rw [Array.getElem?_toList, arr_get _ _ _ _ hjn] at hj
      exact hj)
    simpa [arr_size] using this
  cases hq : P.info? ty with
  | none => simp [hq] at hi
  | some i =>
    have hs : i.size = n := by simpa [hq] using hi
    have hagg : (isAgg ty).run P w = .ok true w := by
      unfold isAgg
      rw [Sem.run_bind, run_underlying hu w]
      simp
    simp [loadVar, Sem.run_bind, hagg, sizeOf, typeInfo, hq, hs, hl]
theorem wp_load_at {o : Oper} {a : Act} {w : World} {K : Act → World → Prop} {Q : Exit → Act → World → Prop} {k : IntKind} {n : Nat} {z : Nat → Int} {ty e : TypeId} (hu : P.underlying ty = some (.array n e)) (hi : (P.info? ty).map (·.size) = some n) (x : Operand) (ho : o.op = .load ty x)
    (p : Addr) (hx : a.eval x = .pointer (some p)) (hc : ∀ j, j < n → w.cell? (p.add j) = some (.int k (z j))) (h : K (a.put o.dst (.agg (arr k n z))) w) : o.wp P a w K Q := by
  unfold Oper.wp execOp
  simp only [ho, hx, Instr.loadAt, Instr.sureAddr, Sem.run_bind, Sem.run_pure, Result.andThen_ok, run_loadVar_at w p hu hi hc]
  exact h
theorem wpList_load_at {ops : Array Oper} {rest : List Oper} {o : Oper} {a : Act} {w : World} {Q : Exit → Act → World → Prop} {k : IntKind} {n : Nat} {z : Nat → Int} {ty e : TypeId} (hu : P.underlying ty = some (.array n e)) (hi : (P.info? ty).map (·.size) = some n) (hgd : o.guard = none) (x : Operand) (ho : o.op = .load ty x)
    (p : Addr) (hx : a.eval x = .pointer (some p)) (hc : ∀ j, j < n → w.cell? (p.add j) = some (.int k (z j))) (h : wpList P ops Q rest (a.put o.dst (.agg (arr k n z))) w) : wpList P ops Q (o :: rest) a w :=
  wpList_plain hgd fun _ hK => wp_load_at hu hi x ho p hx hc (hK _ _ h)
theorem blk_setCells {w : World} {g n m : Nat} {k k' : IntKind} {y : Nat → Int} {t : TypeId} (z : Nat → Int) (hk : k' = k) (hb : Blk w g k m y t) : ∀ (j o : Nat), j ≤ n → Blk (w.setCells g o ((List.range j).map fun i => Value.int k' (z i))) g k m (fun p => if o ≤ p ∧ p < o + j then z (p - o) else y p) t ∧ Ex g w (w.setCells g o ((List.range j).map fun i => Value.int k' (z i))) := by
  subst hk
  intro j
  induction j generalizing w y z with
  | zero => intro o _; exact ⟨hb.congr fun p _ => by rw [if_neg (by omega)], Ex.refl _ _⟩
  | succ j ih =>
    intro o hj
    have e : (List.range (j + 1)).map (fun i => Value.int k' (z i)) = Value.int k' (z 0) :: (List.range j).map fun i => Value.int k' (z (i + 1)) := by
      rw [List.range_succ_eq_map, List.map_cons, List.map_map]
      rfl
    rw [e, World.setCells]
    obtain ⟨h1, h2⟩ := ih (fun i => z (i + 1)) (hb.set o (z 0)) (o + 1) (by omega)
    refine ⟨h1.congr fun p _ => ?_, (Ex.setCell _ _ _ _).trans h2⟩
    by_cases hp : o + 1 ≤ p ∧ p < o + 1 + j
    · rw [if_pos hp, if_pos (by omega)]
      show z (p - (o + 1) + 1) = z (p - o)
      congr 1
      omega
    · rw [if_neg hp]
      by_cases e2 : p = o
      · subst e2; rw [if_pos rfl, if_pos (by omega), Nat.sub_self]
      · rw [if_neg e2, if_neg (by omega)]
theorem arr_list (k : IntKind) (n : Nat) (z : Nat → Int) : (arr k n z).toList = (List.range n).map fun i => Value.int k (z i) := by
  apply List.ext_getElem?
  intro i
  rw [Array.getElem?_toList]
  by_cases hi : i < n
  · rw [arr_get _ _ _ _ hi]; simp [hi]
  · simp [arr, hi]
theorem wp_store_at {o : Oper} {a : Act} {w : World} {K : Act → World → Prop} {Q : Exit → Act → World → Prop} {k : IntKind} {n m : Nat} {z y : Nat → Int} {ty t : TypeId} (hi : (P.info? ty).map (·.size) = some n) (x v : Operand) (ho : o.op = .store ty x v)
    (g off : Nat) (hx : a.eval x = .pointer (some ⟨g, off, none⟩)) (hy : a.eval v = .agg (arr k n z)) (hg : Blk w g k m y t) (hm : off + n ≤ m)
    (h : ∀ w', Blk w' g k m (fun p => if off ≤ p ∧ p < off + n then z (p - off) else y p) t → Ex g w w' → K (a.put o.dst undef) w') : o.wp P a w K Q := by
  have hb := blk_setCells (n := n) z rfl hg n off (Nat.le_refl _)
  refine wp_store_mid ty x v ho g off (arr k n z) hx hy (fun j hj => ?_) (by rw [arr_size]; exact hi) (arr_one _ _ _) ?_
  · rw [arr_size] at hj
    exact ⟨by rw [hg.cell (by omega)]; rfl, hg.frozen _⟩
  · rw [arr_list]
    exact h _ hb.1 hb.2
theorem wpList_store_at {ops : Array Oper} {rest : List Oper} {o : Oper} {a : Act} {w : World} {Q : Exit → Act → World → Prop} {k : IntKind} {n m : Nat} {z y : Nat → Int} {ty t : TypeId} (hi : (P.info? ty).map (·.size) = some n) (hgd : o.guard = none) (x v : Operand) (ho : o.op = .store ty x v)
    (g off : Nat) (hx : a.eval x = .pointer (some ⟨g, off, none⟩)) (hy : a.eval v = .agg (arr k n z)) (hg : Blk w g k m y t) (hm : off + n ≤ m)
    (h : ∀ w', Blk w' g k m (fun p => if off ≤ p ∧ p < off + n then z (p - off) else y p) t → Ex g w w' → wpList P ops Q rest (a.put o.dst undef) w') : wpList P ops Q (o :: rest) a w :=
  wpList_plain hgd fun _ hK => wp_store_at hi x v ho g off hx hy hg hm fun w' h1 h2 => hK _ _ (h w' h1 h2)
end
/-- A slice of arrays that was made: nothing in it, or rows at the head of a block from B on. -/
def MatV (k : IntKind) (B : Nat) (w : World) (a : Option Addr) (n : Nat) (Z : Nat → Nat → Int) : Prop := n = 0 ∨ ∃ g, a = some ⟨g, 0, none⟩ ∧ B ≤ g ∧ MatI k w ⟨g, 0, none⟩ n Z
theorem MatI.row {k : IntKind} {w : World} {x : Addr} {n : Nat} {Z : Nat → Nat → Int} (h : MatI k w x n Z) (r : Nat) (hr : r < n) : ∀ j, j < 256 → w.cell? ((x.add (r * 256)).add j) = some (.int k (Z r j)) := fun j hj => by
  rw [Deep.add_add]; exact h r hr j hj
theorem matV_of_owns {k : IntKind} {w : World} {e : TypeId} {base n : Nat} {v : Value} {Z : Nat → Nat → Int} (h : w.ownsRow base e 256 v n ((List.range (n * 256)).map fun p => Value.int k (Z (p / 256) (p % 256)))) :
    ∃ a c, v = .slice a n c ∧ MatV k base w a n Z ∧ n ≤ c := by
  obtain ⟨_, ⟨h1, h0⟩ | ⟨g, c, cur, hv, hg, hh, hc, hm, hs, ht⟩⟩ := h
  · subst h0; exact ⟨none, 0, h1, .inl rfl, Nat.le_refl _⟩
  · refine ⟨_, c, hv, .inr ⟨g, rfl, hg, fun r hr j hj => ?_⟩, hc⟩
    have e1 : (Addr.add ⟨g, 0, none⟩ (r * 256 + j)) = ⟨g, r * 256 + j, none⟩ := by
      unfold Addr.add
      split
      · rename_i e; rw [e]
      · simp
    have hlt : r * 256 + j < n * 256 := by
      have : (r + 1) * 256 ≤ n * 256 := Nat.mul_le_mul_right 256 (by omega)
      omega
    rw [e1, cell_of_row w g _ _ _ _ hh]
    have := congrArg (·[r * 256 + j]?) ht
    simp only [List.getElem?_take, hlt, if_true] at this
    rw [← Array.getElem?_toList, this]
    simp only [List.getElem?_map, List.getElem?_range hlt, Option.map_some]
    rw [show (r * 256 + j) / 256 = r from by omega, show (r * 256 + j) % 256 = j from by omega]

theorem ownsRow_emptyM (w : World) (e : TypeId) (base : Nat) (hb : base ≤ w.heap.size) : (w.alloc (.cells #[] e)).ownsRow base e 256 (.slice (some ⟨w.heap.size, 0, none⟩) 0 0) 0 [] :=
  ⟨by simp, .inr ⟨w.heap.size, 0, #[], rfl, hb, heap_alloc_last w _, Nat.le_refl _, Nat.zero_le _, by simp, by simp⟩⟩

theorem mInfoB8 : ∃ i z, Tryd.prog.info? 66 = some i ∧ i.zero = some z ∧ i.size = 256 ∧ i.bytes = 256 ∧ z.cells.size = 256 := by
  have h : (Tryd.prog.info? 66).map (fun i => (i.zero.map (·.cells.size), i.size, i.bytes)) = some (some 256, 256, 256) := by kernel_rfl
  cases hi : Tryd.prog.info? 66 with
  | none => rw [hi] at h; cases h
  | some i =>
    rw [hi] at h
    simp only [Option.map_some, Option.some.injEq, Prod.mk.injEq] at h
    obtain ⟨h1, h2, h3⟩ := h
    cases hz : i.zero with
    | none => rw [hz] at h1; cases h1
    | some z =>
      rw [hz] at h1
      simp only [Option.map_some, Option.some.injEq] at h1
      exact ⟨i, z, rfl, hz, h2, h3, h1⟩
set_option maxRecDepth 100000 in
set_option maxHeartbeats 1000000 in
theorem cloneB8 (a : Option Addr) (len cap : Nat) (Z : Nat → Nat → Int) (w : World) (h1 : len ≤ 65536) (hr : IsMat .u8 w a len cap Z) :
    Calls Tryd.prog 38 #[.slice a len cap] w fun e w' => (∃ a' c, e = .returned (.slice a' len c) ∧ MatV .u8 w.heap.size w' a' len Z ∧ len ≤ c) ∧ Below w.heap.size w w' := by
  rcases hr with ⟨rfl, rfl, rfl⟩ | ⟨x, rfl, hlc, _, hm, _⟩
  · have hnil : (binOp .eql 28 (.slice none 0 0) (.slice none 0 0)).run Tryd.prog w = .ok (.bool true) w := run_eql_slice_nil w _ _ _ _ _ Tryd.underlying28
    go_enter Tryd.func38, Tryd.ntmps38
    go_wp2_with fail
    go_ret
    exact ⟨⟨none, 0, rfl, .inl rfl, Nat.le_refl _⟩, Below.refl _ _⟩
  · obtain ⟨i, z, hi, hz0, hz1, hz2, hz3⟩ := mInfoB8
    have hm := hm.mono hlc
    have hnil : (binOp .eql 28 (.slice (some x) len cap) (.slice none 0 0)).run Tryd.prog w = .ok (.bool false) w := run_eql_slice_nil w _ _ _ _ _ Tryd.underlying28
    go_enter Tryd.func38, Tryd.ntmps38
    go_wp2_with (first | (at_builtin; refine wpList_append_own _ rfl _ _ 28 rfl w.heap.size 66 i z 256 256 Tryd.underlying28 hi hz0 hz1 hz2 hz3 (by decide) _ _ _ rfl (ownsRow_emptyM w _ _ (Nat.le_refl _)) x len cap ((List.range (len * 256)).map fun p => Value.int .u8 (Z (p / 256) (p % 256))) rfl ?c1 ?c2 ?c3 ?c4 ?c5 ?c6 ?_))
    case c1 => simp
    case c2 =>
      intro j u hj
      have hlt : j < len * 256 := by
        have := (List.getElem?_eq_some_iff.1 hj).1
        simpa using this
      rw [List.getElem?_map, List.getElem?_range hlt] at hj
      cases hj
      have h := hm (j / 256) (by omega) (j % 256) (by omega)
      rw [show j / 256 * 256 + j % 256 = j from by omega] at h
      exact (Below.cell ((Below.refl w.heap.size w).alloc (Nat.le_refl _) _) (p := x.add j) (block_lt_of_cell h)).trans h
    case c3 =>
      intro u hu
      obtain ⟨j, _, rfl⟩ := List.mem_map.1 hu
      rfl
    case c4 => simp only [maxLen]; omega
    case c5 => omega
    case c6 => simp
    intro v' w1 hown hgr _
    obtain ⟨a', c, rfl, hv, hnc⟩ := matV_of_owns hown
    go_wp2_with fail
    go_ret
    exact ⟨⟨a', c, rfl, hv, hnc⟩, ((Below.refl _ _).alloc (Nat.le_refl _) _).grown hgr (by simp) (fun k hk => by cases hk; exact Nat.le_refl _)⟩


end Go.Proofs.YtanfpnidlgejhaaDoor
