/-
  Slices of arrays of 256 numbers, or marks: what a walk is told of one that came in.
-/
import Derived.Test.YtanfpnidlgejhaaDoorSlice
import Derived.Test.YtanfpnidlgejhaaDoorBool
import Derived.Deep.Slices
namespace Go.Proofs.YtanfpnidlgejhaaDoor
open Go.RowKit

/-- What a walk is told of a slice of arrays that came in: it is nil; or it leads to 'cap' rows of 256 cells. -/
def MatAt (p : Value → Prop) (w : World) (a : Option Addr) (len cap : Nat) : Prop :=
  (a = none ∧ len = 0 ∧ cap = 0) ∨
  ∃ x, a = some x ∧ len ≤ cap ∧ cap ≤ maxLen ∧ ∀ r, r < cap → ∀ j, j < 256 → ∃ v, w.cell? (x.add (r * 256 + j)) = some v ∧ p v
section
variable {H : Type} {enc : TypeId × Value → H} {P : Program} {W : World} {base b : Nat} {held : Bool}
theorem mat_of_trod {t e u : TypeId} {a : Option Addr} {len cap : Nat} {d : DataW H} {ps : List MemPlace} {p : Value → Prop} (ht : P.underlying t = some (.slice e)) (he : P.underlying e = some (.array 256 u)) (ce : P.cellsOf e = 256) (cu : P.cellsOf u = 1)
    (leaf : ∀ fuel cs x, DataW.trod enc P W b (fun _ => true) held fuel u cs = some x → ∃ v, cs = [v] ∧ p v) (h : DataW.Trod enc P W b (fun _ => true) held t (.slice a len cap) d ps) : MatAt p W a len cap := by
  obtain ⟨fuel, hf⟩ := h
  rcases Deep.open_slice ht hf with ⟨hcs, _⟩ | ⟨x, l, c, m, n, D, Pl, hcs, _, hl, hm, hmm, _, hall⟩
  · simp [Value.cells] at hcs
    exact .inl hcs
  · simp [Value.cells] at hcs
    obtain ⟨rfl, rfl, rfl⟩ := hcs
    refine .inr ⟨x, rfl, hl, hm, fun r hr j hj => ?_⟩
    rw [if_pos rfl] at hmm
    obtain ⟨cs', h1, h2⟩ := hall r (by omega)
    rw [ce] at h1
    obtain ⟨_, hlen, hcell⟩ := World.cells?_some h1
    obtain ⟨xs, m', _, _, _, hxs, hel⟩ := DataW.trod_array he h2
    have h3 := hel j hj
    obtain ⟨y, hy⟩ : ∃ y, xs[j]? = some y := ⟨xs[j]'(by omega), List.getElem?_eq_getElem _⟩
    rw [hy, cu] at h3
    obtain ⟨v, hv, hp⟩ := leaf _ _ _ h3
    have h4 : cs'[j]? = some v := by
      have := congrArg (·[0]?) hv
      simpa [List.getElem?_take, List.getElem?_drop] using this
    have h5 := hcell j hj
    rw [Deep.add_add, h4] at h5
    exact ⟨v, h5, hp⟩
end
/-- Rows of integers; rows of marks. -/
def MatI (k : IntKind) (w : World) (x : Addr) (n : Nat) (Z : Nat → Nat → Int) : Prop := ∀ r, r < n → ∀ j, j < 256 → w.cell? (x.add (r * 256 + j)) = some (.int k (Z r j))
def MatB (w : World) (x : Addr) (n : Nat) (Z : Nat → Nat → Bool) : Prop := ∀ r, r < n → ∀ j, j < 256 → w.cell? (x.add (r * 256 + j)) = some (.bool (Z r j))
def IsMat (k : IntKind) (w : World) (a : Option Addr) (len cap : Nat) (Z : Nat → Nat → Int) : Prop :=
  (a = none ∧ len = 0 ∧ cap = 0) ∨ ∃ x, a = some x ∧ len ≤ cap ∧ cap ≤ maxLen ∧ MatI k w x cap Z ∧ ∀ r, r < cap → ∀ j, j < 256 → (Lit.int k (Z r j)).wf = true
def IsMatB (w : World) (a : Option Addr) (len cap : Nat) (Z : Nat → Nat → Bool) : Prop :=
  (a = none ∧ len = 0 ∧ cap = 0) ∨ ∃ x, a = some x ∧ len ≤ cap ∧ cap ≤ maxLen ∧ MatB w x cap Z
theorem isMat_of {k : IntKind} {w : World} {a : Option Addr} {len cap : Nat} (h : MatAt (fun v => ∃ n, v = .int k n ∧ (Lit.int k n).wf = true) w a len cap) : ∃ Z, IsMat k w a len cap Z := by
  rcases h with h | ⟨x, rfl, hl, hm, hall⟩
  · exact ⟨fun _ _ => 0, .inl h⟩
  · refine ⟨fun r j => intOf ((w.cell? (x.add (r * 256 + j))).getD undef), .inr ⟨x, rfl, hl, hm, fun r hr j hj => ?_, fun r hr j hj => ?_⟩⟩
    · obtain ⟨v, hv, n, rfl, _⟩ := hall r hr j hj
      simp only [hv]; rfl
    · obtain ⟨v, hv, n, rfl, hw⟩ := hall r hr j hj
      simp only [hv]; exact hw
theorem isMatB_of {w : World} {a : Option Addr} {len cap : Nat} (h : MatAt (fun v => ∃ n, v = .bool n) w a len cap) : ∃ Z, IsMatB w a len cap Z := by
  rcases h with h | ⟨x, rfl, hl, hm, hall⟩
  · exact ⟨fun _ _ => false, .inl h⟩
  · refine ⟨fun r j => boolOf ((w.cell? (x.add (r * 256 + j))).getD undef), .inr ⟨x, rfl, hl, hm, fun r hr j hj => ?_⟩⟩
    obtain ⟨v, hv, n, rfl⟩ := hall r hr j hj
    simp only [hv]; rfl
section
variable {H : Type} {enc : TypeId × Value → H} {P : Program} {W : World} {base b : Nat} {held : Bool}
theorem open_mat {t e u : TypeId} {k : IntKind} {a : Option Addr} {len cap : Nat} {d : DataW H} {ps : List MemPlace} (ht : P.underlying t = some (.slice e)) (he : P.underlying e = some (.array 256 u)) (hu : P.underlying u = some (.int k)) (ce : P.cellsOf e = 256) (cu : P.cellsOf u = 1)
    (h : DataW.Trod enc P W b (fun _ => true) held t (.slice a len cap) d ps) : ∃ Z, IsMat k W a len cap Z :=
  isMat_of (mat_of_trod ht he ce cu (fun fuel cs x hx => by
    obtain ⟨n, h1, _, h2⟩ := DataW.trod_int hu hx
    exact ⟨_, h1, n, rfl, h2⟩) h)
theorem open_matb {t e u : TypeId} {a : Option Addr} {len cap : Nat} {d : DataW H} {ps : List MemPlace} (ht : P.underlying t = some (.slice e)) (he : P.underlying e = some (.array 256 u)) (hu : P.underlying u = some .bool) (ce : P.cellsOf e = 256) (cu : P.cellsOf u = 1)
    (h : DataW.Trod enc P W b (fun _ => true) held t (.slice a len cap) d ps) : ∃ Z, IsMatB W a len cap Z :=
  isMatB_of (mat_of_trod ht he ce cu (fun fuel cs x hx => by
    obtain ⟨n, h1, _⟩ := DataW.trod_bool hu hx
    exact ⟨_, h1, n, rfl⟩) h)
end
section
variable {k : IntKind} {w w' : World} {x : Addr} {n : Nat} {Z : Nat → Nat → Int} {Y : Nat → Nat → Bool}
theorem MatI.below (h : MatI k w x n Z) (hb : Below w.heap.size w w') : MatI k w' x n Z := fun r hr j hj => by
  rw [hb.cell (p := x.add (r * 256 + j)) (block_lt_of_cell (h r hr j hj)), h r hr j hj]
theorem MatB.below (h : MatB w x n Y) (hb : Below w.heap.size w w') : MatB w' x n Y := fun r hr j hj => by
  rw [hb.cell (p := x.add (r * 256 + j)) (block_lt_of_cell (h r hr j hj)), h r hr j hj]
theorem MatI.mono (h : MatI k w x n Z) {m : Nat} (hm : m ≤ n) : MatI k w x m Z := fun r hr => h r (by omega)
theorem MatB.mono (h : MatB w x n Y) {m : Nat} (hm : m ≤ n) : MatB w x m Y := fun r hr => h r (by omega)
end
end Go.Proofs.YtanfpnidlgejhaaDoor
