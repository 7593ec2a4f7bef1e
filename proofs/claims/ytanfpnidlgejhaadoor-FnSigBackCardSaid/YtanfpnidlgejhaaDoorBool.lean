/-
  Arrays of truth values as functions of their place.
-/
import Derived.Test.YtanfpnidlgejhaaDoorArr
namespace Go.Proofs.YtanfpnidlgejhaaDoor
open Go.WideShapes Go.RowKit

def barr (n : Nat) (h : Nat → Bool) : Array Value := Array.ofFn (n := n) fun i => Value.bool (h i)
theorem barr_size (n : Nat) (h : Nat → Bool) : (barr n h).size = n := by simp [barr]
theorem barr_get (n : Nat) (h : Nat → Bool) (i : Nat) (hi : i < n) : (barr n h)[i]? = some (.bool (h i)) := by simp [barr, hi]
theorem barr_rep (n : Nat) (v : Bool) : Array.replicate n (Value.bool v) = barr n (fun _ => v) := by
  apply Array.ext_getElem?
  intro j
  by_cases hj : j < n
  · rw [barr_get _ _ _ hj]; simp [hj]
  · simp [barr, hj]
def boolOf : Value → Bool
  | .bool b => b
  | _ => false
section
variable {H : Type} {enc : TypeId × Value → H} {P : Program} {W : World} {base b : Nat} {sp : Nat → Bool} {held : Bool} {r : Reach}
theorem open_barr {t e : TypeId} {n : Nat} {v : Value} {d : DataW H} {p : List MemPlace} (ht : P.underlying t = some (.array n e)) (he : P.underlying e = some .bool) (hc : P.cellsOf e = 1) (ha : P.cellsOf t = n)
    (hv : Value.okWide P W r base t v) (h : DataW.Trod enc P W b sp held t v d p) : ∃ z : Nat → Bool, v = .agg (barr n z) := by
  simp only [Value.okWide, ht] at hv
  obtain ⟨cs, rfl, hsz, _⟩ := hv
  obtain ⟨fuel, hf⟩ := h
  obtain ⟨xs, m, _, _, _, hxs, hall⟩ := DataW.trod_array ht hf
  have key : ∀ i, i < n → ∃ z : Bool, cs[i]? = some (.bool z) := by
    intro i hi
    have h1 := hall i hi
    obtain ⟨y, hy⟩ : ∃ y, xs[i]? = some y := ⟨xs[i]'(by omega), List.getElem?_eq_getElem _⟩
    rw [hy, hc] at h1
    obtain ⟨z, hz, _⟩ := DataW.trod_bool he h1
    refine ⟨z, ?_⟩
    have h2 := congrArg List.head? hz
    rw [Nat.mul_one, show (Value.agg cs).cells = cs from rfl] at h2
    have hlt : i < cs.toList.length := by simp; omega
    rw [List.drop_eq_getElem_cons hlt] at h2
    simp at h2
    rw [Array.getElem?_eq_getElem (by omega), h2]
  refine ⟨fun i => boolOf ((cs[i]?).getD undef), ?_⟩
  congr 1
  apply Array.ext_getElem?
  intro i
  by_cases hi : i < n
  · obtain ⟨z, hz⟩ := key i hi
    rw [barr_get _ _ _ hi, hz]; rfl
  · have : cs.size ≤ i := by omega
    simp [barr, hi, this]
end
def BBlk (w : World) (g : Nat) (n : Nat) (z : Nat → Bool) (t : TypeId) : Prop := w.heap[g]? = some (.cells (barr n z) t (0, 0))
section
variable {w : World} {g n : Nat} {z : Nat → Bool} {t : TypeId}
theorem BBlk.cell (h : BBlk w g n z t) {i : Nat} (hi : i < n) : w.cell? ⟨g, i, none⟩ = some (.bool (z i)) := by
  rw [cell_of_row w g i _ _ _ h, barr_get _ _ _ hi]
theorem BBlk.lt (h : BBlk w g n z t) : g < w.heap.size := (Array.getElem?_eq_some_iff.1 h).1
theorem BBlk.new (w : World) (n : Nat) (z : Nat → Bool) (t : TypeId) (e : g = w.heap.size) : BBlk (w.alloc (.cells (barr n z) t)) g n z t := by subst e; exact heap_alloc_last w _
theorem BBlk.alloc (h : BBlk w g n z t) (o : Obj) : BBlk (w.alloc o) g n z t := by
  unfold BBlk at *
  rw [← h]
  exact Below.heap_alloc w o g (BBlk.lt h)
theorem BBlk.below {w' : World} (h : BBlk w g n z t) (hb : Below w.heap.size w w') : BBlk w' g n z t := by unfold BBlk at *; rw [hb.block g (BBlk.lt h), h]
theorem BBlk.drewN (h : BBlk w g n z t) (m : Nat) : BBlk (w.drewN m) g n z t := h
theorem BBlk.other (h : BBlk w g n z t) (a : Addr) (v : Value) (e : g ≠ a.block) : BBlk (w.setCell a v) g n z t := by
  unfold BBlk at *
  rw [Below.heap_setCell w a v g e, h]
theorem BBlk.rowOther (h : BBlk w g n z t) (g' : Nat) (cs : Array Value) (e : g ≠ g') : BBlk (w.setRow g' cs) g n z t := by unfold BBlk at *; rw [setRow_other _ _ _ _ e, h]
end
section
variable {P : Program}
theorem run_index_barr {t e : TypeId} {n : Nat} (ht : P.underlying t = some (.array n e)) (he : ∀ w, (isAgg e).run P w = .ok false w) (hs : ∀ w, (sizeOf e).run P w = .ok 1 w) (z : Nat → Bool) (i : Nat) (hi : i < n) (w : World) :
    (Instr.index t (.agg (barr n z)) (.int .i64 (i : Int))).run P w = .ok (.bool (z i)) w := by
  have h1 : (0 : Int) ≤ (i : Int) ∧ (i : Int) < (n : Int) := by omega
  simp [Instr.index, asIntOf, run_underlying ht, hi, hs, part, he, barr_get n z i hi]
theorem wpList_load_barr {ops : Array Oper} {rest : List Oper} {o : Oper} {a : Act} {w : World} {Q : Exit → Act → World → Prop} {n : Nat} {z : Nat → Bool} {ty t e : TypeId} (hu : P.underlying ty = some (.array n e)) (hi : (P.info? ty).map (·.size) = some n) (hgd : o.guard = none) (x : Operand) (ho : o.op = .load ty x)
    (g : Nat) (hx : a.eval x = .pointer (some ⟨g, 0, none⟩)) (hg : BBlk w g n z t)
    (h : wpList P ops Q rest (a.put o.dst (.agg (barr n z))) w) : wpList P ops Q (o :: rest) a w :=
  wpList_load_row hgd ty x ho g hx t _ _ _ hg hu rfl (by rw [barr_size]; exact hi) h
end
end Go.Proofs.YtanfpnidlgejhaaDoor
