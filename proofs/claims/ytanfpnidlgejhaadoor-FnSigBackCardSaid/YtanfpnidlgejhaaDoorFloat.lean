/-
  A region that draws its order, in which variables are made beside calls: loads first, then each order of what is left.
-/
import Derived.Test.YtanfpnidlgejhaaDoorHeld
namespace Go.Proofs.YtanfpnidlgejhaaDoor
open Go.RowKit

section
variable {P : Program} {ops : Array Oper} {md : Region.Mode} {C : World → Prop} {Q : Exit → Act → World → Prop}
/-- What a region leaves, said by itself. -/
theorem wp_region_via {id : Nat} {b : Bool} {a : Act} {w : World} (R : Act → World → Prop) (h1 : (Code.region id ops b).wp P (fun e a w => e = .normal ∧ R a w) a w) (h2 : ∀ a w, R a w → Q .normal a w) : (Code.region id ops b).wp P Q a w :=
  Code.wp_mono (fun e a w h => by obtain ⟨rfl, h⟩ := h; exact h2 a w h) h1
theorem wp_region_viaA {id : Nat} {b : Bool} {a : Act} {w : World} (R : Act → Act → World → Prop) (h1 : (Code.region id ops b).wp P (fun e a' w => e = .normal ∧ R a a' w) a w) (h2 : ∀ a' w, R a a' w → Q .normal a' w) : (Code.region id ops b).wp P Q a w :=
  wp_region_via (R a) h1 h2
def midsB (md : Region.Mode) (ops : Array Oper) : List Nat → Array Bool → Bool
  | [], _ => true
  | i :: r, listed => (Region.ready md ops listed).contains i && Region.free md ops listed i && (match ops[i]? with | some o => isMid o.op | none => false) && midsB md ops r (listed.setIfInBounds i true)
def setAll (listed : Array Bool) : List Nat → Array Bool
  | [] => listed
  | i :: r => setAll (listed.setIfInBounds i true) r
theorem anyH_mids (hsel : Region.noSelect ops = true) (hQ : ∀ c (a : Act) d v w, Q (.panic c) (a.put d v) w → Q (.panic c) a w) {f : Nat} {w : World} : ∀ (r : List Nat) (l : List Oper) (listed : Array Bool) (a : Act), r.map (fun i => ops[i]?) = l.map some → midsB md ops r listed = true → C w →
    wpQuiet P ops C (fun a' => wpAnyH P md ops Q C f (setAll listed r) a' w) l a → wpAnyH P md ops Q C (r.length + f) listed a w
  | [], [], listed, a, _, _, _, h => by rw [List.length_nil, Nat.zero_add]; exact h
  | [], _ :: _, _, _, he, _, _, _ => by simp at he
  | _ :: _, [], _, _, he, _, _, _ => by simp at he
  | i :: r, o :: l, listed, a, he, hB, hC, h => by
    simp only [List.map_cons, List.cons.injEq] at he
    simp only [midsB, Bool.and_eq_true, he.1] at hB
    obtain ⟨⟨⟨h1, h2⟩, h3⟩, h4⟩ := hB
    have hq : qOp P ops C i (wpQuiet P ops C (fun a' => wpAnyH P md ops Q C f (setAll (listed.setIfInBounds i true) r) a' w) l) a := by
      unfold qOp; simp only [he.1]; exact h
    obtain ⟨v, hy, hK⟩ := yieldsIn_of_qOp he.1 hq
    rw [show (i :: r).length + f = (r.length + f) + 1 by simp only [List.length_cons]; omega]
    exact wpAnyH_take he.1 hsel h2 h1 (fun c a w h => hQ c _ _ _ w h) (yieldsIf_of_in h3 hy) hC (anyH_mids hsel hQ r l _ _ he.2 h4 hC hK)
/-- The beginning: some operations that are still come up first. -/
theorem wp_region_mids {id : Nat} {a : Act} {w : World} {l : List Oper} (r : List Nat) (f : Nat) (hm : P.follows .mixedOrders = true) (hsel : Region.noSelect l.toArray = true) (hQ : ∀ c (a : Act) d v w, Q (.panic c) (a.put d v) w → Q (.panic c) a w) (hC : C { w with drawn := w.drawn + 1 })
    (hB : (midsB .any l.toArray r (Array.replicate l.toArray.size false) && decide (r.length + f = l.toArray.size) && (r.all fun i => (l.toArray[i]?).isSome)) = true)
    (h : wpQuiet P l.toArray C (fun a' => wpAnyH P .any l.toArray Q C f (setAll (Array.replicate l.toArray.size false) r) a' { w with drawn := w.drawn + 1 }) (opsAt l.toArray r) a) : (Code.region id l.toArray true).wp P Q a w := by
  simp only [Bool.and_eq_true, decide_eq_true_eq] at hB
  obtain ⟨⟨h1, h2⟩, h3⟩ := hB
  refine wp_region_held (S := C) hm ?_
  have := anyH_mids (md := .any) hsel hQ r _ _ a (opsAt_map r h3) h1 hC h
  rwa [h2] at this
theorem wpOp_alloc {i : Nat} {a : Act} {w : World} {K : Act → World → Prop} (o : Oper) (ho : ops[i]? = some o) (hw : Region.wanted o (yielded ops a.tmps) = true) (ty : TypeId) (hop : o.op = .alloc ty) {k : IntKind} {n : Nat} (hz : ∀ w, (zeroValue ty).run P w = .ok (.agg (arr k n fun _ => 0)) w)
    (h : K (a.put o.dst (.pointer (some ⟨w.heap.size, 0, none⟩))) (w.alloc (.cells (arr k n fun _ => 0) ty))) : wpOp P ops Q i K a w := by
  unfold wpOp
  simp only [ho, hw, if_true]
  refine .inl ?_
  unfold Oper.wp
  simp [execOp, hop, Instr.alloc, hz, Result.andThen]
  exact h
theorem wpOp_assign {i : Nat} {a : Act} {w : World} {K : Act → World → Prop} (o : Oper) (ho : ops[i]? = some o) (hw : Region.wanted o (yielded ops a.tmps) = true) (x : Operand) (hop : o.op = .assign x) (h : K (a.put o.dst (a.eval x)) w) : wpOp P ops Q i K a w := by
  unfold wpOp
  simp only [ho, hw, if_true]
  refine .inl ?_
  unfold Oper.wp
  simp [execOp, hop]
  exact h
theorem wpOp_call {i : Nat} {a : Act} {w : World} {K : Act → World → Prop} (o : Oper) (ho : ops[i]? = some o) (hw : Region.wanted o (yielded ops a.tmps) = true) (f : FuncId) (xs : Array Operand) (ts : Array TypeId) (hop : o.op = .call { callee := .value (.func f), args := xs, argTypes := ts }) (hf : callB P f = true) (args : Array Value) (hargs : xs.map a.eval = args)
    (h : Calls P f args w fun e w2 => ∃ v, e = .returned v ∧ K (a.put o.dst v) w2) : wpOp P ops Q i K a w := by
  have he := run_call_func (P := P) a o f xs ts hop w hf
  rw [hargs] at he
  unfold wpOp
  simp only [ho, hw, if_true]
  refine .inl ?_
  unfold Oper.wp
  rw [he]
  simp only [Oper.upon]
  exact h.mono fun e w2 ⟨v, h1, h2⟩ => by subst h1; exact h2
theorem wpOp_store_arr {i : Nat} {a : Act} {w : World} {K : Act → World → Prop} (o : Oper) (ho : ops[i]? = some o) (hw : Region.wanted o (yielded ops a.tmps) = true) {k k' : IntKind} {n : Nat} {z y : Nat → Int} {ty t : TypeId} (hi : (P.info? ty).map (·.size) = some n) (x v : Operand) (hop : o.op = .store ty x v)
    (g : Nat) (hx : a.eval x = .pointer (some ⟨g, 0, none⟩)) (hy : a.eval v = .agg (arr k n z)) (hg : Blk w g k' n y t)
    (h : K (a.put o.dst undef) (w.setRow g (arr k n z))) : wpOp P ops Q i K a w := by
  unfold wpOp
  simp only [ho, hw, if_true]
  exact .inl (wp_store_row ty x v hop g _ hx hy t _ hg (by rw [arr_size]; exact hi) (by rw [arr_size, arr_size]) (arr_one _ _ _) h)
theorem mem1 {i a : Nat} (h : i ∈ [a]) : i = a := by simpa using h
theorem mem2 {i a b : Nat} (h : i ∈ [a, b]) : i = a ∨ i = b := by simpa using h
theorem mem3 {i a b c : Nat} (h : i ∈ [a, b, c]) : i = a ∨ i = b ∨ i = c := by simpa using h
end
end Go.Proofs.YtanfpnidlgejhaaDoor
