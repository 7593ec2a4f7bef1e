/-
  Arrays of integers as functions of their place, blocks of memory that hold them, and the laws by which a walk meets them.
-/
import Derived.Test.YtanfpnidlgejhaaDoorPlain
import Derived.Below
import Derived.Deep.WholeRow
import Derived.Deep.Draws
import Derived.ProofKit
import Derived.OpenShut
import Derived.WalkSmall
namespace Go.Proofs.YtanfpnidlgejhaaDoor
open Go.WideShapes Go.RowKit

/-- The cells of an array of n integers of one kind. -/
def arr (k : IntKind) (n : Nat) (z : Nat → Int) : Array Value := Array.ofFn (n := n) fun i => Value.int k (z i)
theorem arr_size (k : IntKind) (n : Nat) (z : Nat → Int) : (arr k n z).size = n := by simp [arr]
theorem arr_get (k : IntKind) (n : Nat) (z : Nat → Int) (i : Nat) (h : i < n) : (arr k n z)[i]? = some (.int k (z i)) := by simp [arr, h]
theorem arr_congr {k : IntKind} {n : Nat} {y z : Nat → Int} (h : ∀ i, i < n → y i = z i) : arr k n y = arr k n z := by
  unfold arr
  congr 1
  funext i
  rw [h i i.isLt]
theorem arr_set (k : IntKind) (n : Nat) (z : Nat → Int) (i : Nat) (v : Int) : (arr k n z).setIfInBounds i (.int k v) = arr k n (fun j => if j = i then v else z j) := by
  apply Array.ext_getElem?
  intro j
  rw [Array.getElem?_setIfInBounds]
  by_cases hj : j < n
  · rw [arr_get _ _ _ _ hj, arr_get _ _ _ _ hj, arr_size]
    by_cases e : i = j
    · subst e; simp [hj]
    · rw [if_neg (by simp [e]), if_neg (fun h => e h.symm)]
  · have e1 : (arr k n z)[j]? = none := by simp [arr, hj]
    have e2 : (arr k n (fun j => if j = i then v else z j))[j]? = none := by simp [arr, hj]
    rw [e1, e2, arr_size]
    by_cases e : i = j
    · subst e; simp [hj]
    · simp [e]
theorem arr_rep (k : IntKind) (n : Nat) (v : Int) : Array.replicate n (Value.int k v) = arr k n (fun _ => v) := by
  apply Array.ext_getElem?
  intro j
  by_cases hj : j < n
  · rw [arr_get _ _ _ _ hj]; simp [hj]
  · simp [arr, hj]
theorem arr_one (k : IntKind) (n : Nat) (z : Nat → Int) : (arr k n z).all (·.oneCell') = true := by
  rw [Array.all_eq_true]
  intro i hi
  simp [arr, Value.oneCell']
theorem arr_inj {k : IntKind} {n : Nat} {y z : Nat → Int} (h : arr k n y = arr k n z) (i : Nat) (hi : i < n) : y i = z i := by
  have h1 := arr_get k n y i hi
  rw [h, arr_get k n z i hi] at h1
  simpa using h1.symm

/-! ### An array of integers that came in -/
section
variable {H : Type} {enc : TypeId × Value → H} {P : Program} {W : World} {base b : Nat} {sp : Nat → Bool} {held : Bool} {r : Reach}
theorem open_arr {t e : TypeId} {n : Nat} {k : IntKind} {v : Value} {d : DataW H} {p : List MemPlace} (ht : P.underlying t = some (.array n e)) (he : P.underlying e = some (.int k)) (hc : P.cellsOf e = 1) (ha : P.cellsOf t = n)
    (hv : Value.okWide P W r base t v) (h : DataW.Trod enc P W b sp held t v d p) : ∃ z : Nat → Int, v = .agg (arr k n z) ∧ ∀ i, i < n → (Lit.int k (z i)).wf = true := by
  simp only [Value.okWide, ht] at hv
  obtain ⟨cs, rfl, hsz, _⟩ := hv
  obtain ⟨fuel, hf⟩ := h
  obtain ⟨xs, m, _, _, _, hxs, hall⟩ := DataW.trod_array ht hf
  have key : ∀ i, i < n → ∃ z : Int, cs[i]? = some (.int k z) ∧ (Lit.int k z).wf = true := by
    intro i hi
    have h1 := hall i hi
    obtain ⟨y, hy⟩ : ∃ y, xs[i]? = some y := ⟨xs[i]'(by omega), List.getElem?_eq_getElem _⟩
    rw [hy, hc] at h1
    obtain ⟨z, hz, _, hw⟩ := DataW.trod_int he h1
    refine ⟨z, ?_, hw⟩
    have h2 := congrArg List.head? hz
    rw [Nat.mul_one, show (Value.agg cs).cells = cs from rfl] at h2
    have hlt : i < cs.toList.length := by simp; omega
    rw [List.drop_eq_getElem_cons hlt] at h2
    simp at h2
    rw [Array.getElem?_eq_getElem (by omega), h2]
  refine ⟨fun i => intOf ((cs[i]?).getD undef), ?_, fun i hi => ?_⟩
  · congr 1
    apply Array.ext_getElem?
    intro i
    by_cases hi : i < n
    · obtain ⟨z, hz, _⟩ := key i hi
      rw [arr_get _ _ _ _ hi, hz]; rfl
    · have : cs.size ≤ i := by omega
      simp [arr, hi, this]
  · obtain ⟨z, hz, hw⟩ := key i hi
    simp only [hz]; exact hw
end

/-! ### A block that holds an array -/
def Blk (w : World) (g : Nat) (k : IntKind) (n : Nat) (z : Nat → Int) (t : TypeId) : Prop := w.heap[g]? = some (.cells (arr k n z) t (0, 0))
section
variable {w : World} {g : Nat} {k : IntKind} {n : Nat} {z y : Nat → Int} {t : TypeId}
theorem Blk.cell (h : Blk w g k n z t) {i : Nat} (hi : i < n) : w.cell? ⟨g, i, none⟩ = some (.int k (z i)) := by
  rw [cell_of_row w g i _ _ _ h, arr_get _ _ _ _ hi]
theorem Blk.frozen (h : Blk w g k n z t) (i : Nat) : w.frozen? ⟨g, i, none⟩ = false := frozen_of_row w g i _ _ h
theorem Blk.lt (h : Blk w g k n z t) : g < w.heap.size := (Array.getElem?_eq_some_iff.1 h).1
theorem Blk.congr (h : Blk w g k n z t) (e : ∀ i, i < n → z i = y i) : Blk w g k n y t := by unfold Blk at *; rw [h, arr_congr e]
theorem Blk.new (w : World) (k : IntKind) (n : Nat) (z : Nat → Int) (t : TypeId) (e : g = w.heap.size) : Blk (w.alloc (.cells (arr k n z) t)) g k n z t := by subst e; exact heap_alloc_last w _
theorem Blk.alloc (h : Blk w g k n z t) (o : Obj) : Blk (w.alloc o) g k n z t := by
  unfold Blk at *
  rw [← h]
  exact Below.heap_alloc w o g (Blk.lt h)
theorem Blk.below {w' : World} (h : Blk w g k n z t) (hb : Below w.heap.size w w') : Blk w' g k n z t := by unfold Blk at *; rw [hb.block g (Blk.lt h), h]
theorem Blk.belowAt {w' : World} {B : Nat} (h : Blk w g k n z t) (hb : Below B w w') (hB : g < B) : Blk w' g k n z t := by unfold Blk at *; rw [hb.block g hB, h]
theorem Blk.drewN (h : Blk w g k n z t) (m : Nat) : Blk (w.drewN m) g k n z t := h
theorem Blk.drew (h : Blk w g k n z t) : Blk w.drew g k n z t := h
theorem Blk.set (h : Blk w g k n z t) (i : Nat) (v : Int) : Blk (w.setCell ⟨g, i, none⟩ (.int k v)) g k n (fun j => if j = i then v else z j) t := by
  unfold Blk at *
  rw [heap_setCell_same w g i _ t _ h, arr_set]
theorem Blk.fill {f : Nat → Int} {i : Nat} (h : Blk w g k n (fun j => if j < i then f j else z j) t) : Blk (w.setCell ⟨g, i, none⟩ (.int k (f i))) g k n (fun j => if j < i + 1 then f j else z j) t :=
  (h.set i (f i)).congr fun j _ => by
    by_cases e : j = i
    · subst e; simp
    · by_cases e2 : j < i
      · simp [e, e2, show j < i + 1 by omega]
      · simp [e, e2, show ¬ j < i + 1 by omega]
theorem Blk.other (h : Blk w g k n z t) (a : Addr) (v : Value) (e : g ≠ a.block) : Blk (w.setCell a v) g k n z t := by
  unfold Blk at *
  rw [Below.heap_setCell w a v g e, h]
theorem Blk.row {k' : IntKind} {t' : TypeId} (h : Blk w g k' n y t') (k : IntKind) (z : Nat → Int) : Blk (w.setRow g (arr k n z)) g k n z t' := setRow_heap w g _ _ _ _ h
theorem Blk.rowOther (h : Blk w g k n z t) (g' : Nat) (cs : Array Value) (e : g ≠ g') : Blk (w.setRow g' cs) g k n z t := by unfold Blk at *; rw [setRow_other _ _ _ _ e, h]
theorem Blk.full (h : Blk w g k n (fun j => if j < n then z j else y j) t) : Blk w g k n z t := h.congr fun _ hi => if_pos hi
theorem Blk.start (h : Blk w g k n z t) (f : Nat → Int) : Blk w g k n (fun j => if j < 0 then f j else z j) t := h.congr fun i _ => by simp
end
theorem below_setRow {B : Nat} {a w : World} (h : Below B a w) {g : Nat} (hg : B ≤ g) (cs : Array Value) : Below B a (w.setRow g cs) :=
  ⟨h.os, h.tape, h.output, by rw [setRow_size]; exact h.size, fun k hk => by rw [setRow_other _ _ _ _ (by omega)]; exact h.block k hk⟩
theorem belowChain {w w1 w2 : World} {B : Nat} (h : Below B w w1) (h2 : Below w1.heap.size w1 w2) (hB : B ≤ w1.heap.size) : Below B w w2 := h.trans (h2.mono hB)

/-! ### The laws of a walk -/
section
variable {P : Program}
theorem run_index_arr {t e : TypeId} {n : Nat} {k : IntKind} (ht : P.underlying t = some (.array n e)) (he : ∀ w, (isAgg e).run P w = .ok false w) (hs : ∀ w, (sizeOf e).run P w = .ok 1 w) (z : Nat → Int) (i : Nat) (hi : i < n) (w : World) :
    (Instr.index t (.agg (arr k n z)) (.int .i64 (i : Int))).run P w = .ok (.int k (z i)) w := by
  have h1 : (0 : Int) ≤ (i : Int) ∧ (i : Int) < (n : Int) := by omega
  simp [Instr.index, asIntOf, run_underlying ht, hi, hs, part, he, arr_get k n z i hi]
theorem zero_arr {t : TypeId} {k : IntKind} {n : Nat} (h : (P.info? t).map (fun i => (i.zero, i.size)) = some (some (.agg (Array.replicate n (.int k 0))), n)) (w : World) :
    (zeroValue t).run P w = .ok (.agg (arr k n fun _ => 0)) w := by
  rw [← arr_rep]; exact (zero_of_info h).1 w
theorem build_arr {t : TypeId} {k : IntKind} {n : Nat} (h : P.built t [] = some (Array.replicate n (.int k 0))) (w : World) : (Instr.build t #[]).run P w = .ok (.agg (arr k n fun _ => 0)) w := by
  rw [← arr_rep]; exact run_build w t #[] _ h
theorem at_load {ops : Array Oper} {rest : List Oper} {o : Oper} {a : Act} {w : World} {Q : Exit → Act → World → Prop} (ty : TypeId) (x : Operand) (_ho : o.op = .load ty x) (h : wpList P ops Q (o :: rest) a w) : wpList P ops Q (o :: rest) a w := h
theorem at_loadx {ops : Array Oper} {rest : List Oper} {o : Oper} {a : Act} {w : World} {Q : Exit → Act → World → Prop} (ty : TypeId) (x : Nat) (_ho : o.op = .load ty (.tmp x)) (h : wpList P ops Q (o :: rest) a w) : wpList P ops Q (o :: rest) a w := h
theorem at_store {ops : Array Oper} {rest : List Oper} {o : Oper} {a : Act} {w : World} {Q : Exit → Act → World → Prop} (ty : TypeId) (x y : Operand) (_ho : o.op = .store ty x y) (h : wpList P ops Q (o :: rest) a w) : wpList P ops Q (o :: rest) a w := h
theorem at_storex {ops : Array Oper} {rest : List Oper} {o : Oper} {a : Act} {w : World} {Q : Exit → Act → World → Prop} (ty : TypeId) (x : Nat) (y : Operand) (_ho : o.op = .store ty (.tmp x) y) (h : wpList P ops Q (o :: rest) a w) : wpList P ops Q (o :: rest) a w := h
theorem wpList_load_arr {ops : Array Oper} {rest : List Oper} {o : Oper} {a : Act} {w : World} {Q : Exit → Act → World → Prop} {k : IntKind} {n : Nat} {z : Nat → Int} {ty t e : TypeId} (hu : P.underlying ty = some (.array n e)) (hi : (P.info? ty).map (·.size) = some n) (hgd : o.guard = none) (x : Operand) (ho : o.op = .load ty x)
    (g : Nat) (hx : a.eval x = .pointer (some ⟨g, 0, none⟩)) (hg : Blk w g k n z t)
    (h : wpList P ops Q rest (a.put o.dst (.agg (arr k n z))) w) : wpList P ops Q (o :: rest) a w :=
  wpList_load_row hgd ty x ho g hx t _ _ _ hg hu rfl (by rw [arr_size]; exact hi) h
theorem wpList_store_arr {ops : Array Oper} {rest : List Oper} {o : Oper} {a : Act} {w : World} {Q : Exit → Act → World → Prop} {k k' : IntKind} {n : Nat} {z y : Nat → Int} {ty t : TypeId} (hi : (P.info? ty).map (·.size) = some n) (hgd : o.guard = none) (x v : Operand) (ho : o.op = .store ty x v)
    (g : Nat) (hx : a.eval x = .pointer (some ⟨g, 0, none⟩)) (hy : a.eval v = .agg (arr k n z)) (hg : Blk w g k' n y t)
    (h : wpList P ops Q rest (a.put o.dst undef) (w.setRow g (arr k n z))) : wpList P ops Q (o :: rest) a w :=
  wpList_store_row hgd ty x v ho g _ hx hy t _ hg (by rw [arr_size]; exact hi) (by rw [arr_size, arr_size]) (arr_one _ _ _) h
theorem results_arr {fn : Func} {p : Tmp} {ty t e : TypeId} {k : IntKind} {n : Nat} {z : Nat → Int} (hu : P.underlying ty = some (.array n e)) (hi : (P.info? ty).map (·.size) = some n) (h : fn.results = #[.cell p ty]) (tmps : Array Value) (w : World) (g : Nat)
    (hp : tmps.getD p undef = .pointer (some ⟨g, 0, none⟩)) (hg : Blk w g k n z t) : (results fn tmps).run P w = .ok (.agg (arr k n z)) w :=
  results_cell_row h tmps w g t _ _ _ hp hg hu rfl (by rw [arr_size]; exact hi)
theorem results_arr_tmp {fn : Func} {p u : Tmp} {ty t e : TypeId} {k : IntKind} {n : Nat} {z : Nat → Int} (hu : P.underlying ty = some (.array n e)) (hi : (P.info? ty).map (·.size) = some n) (h : fn.results = #[.cell p ty, .tmp u]) (tmps : Array Value) (w : World) (g : Nat) (v : Value)
    (hp : tmps.getD p undef = .pointer (some ⟨g, 0, none⟩)) (hv : tmps.getD u undef = v) (hg : Blk w g k n z t) : (results fn tmps).run P w = .ok (.tuple #[.agg (arr k n z), v]) w := by
  rw [results_cell_tmp h]
  subst hv
  simp [hp, asAddr, Result.andThen, run_loadVar_row w g t ty _ _ _ hg hu rfl (by rw [arr_size]; exact hi)]
end
end Go.Proofs.YtanfpnidlgejhaaDoor
