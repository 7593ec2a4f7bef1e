/-
  Package-level variables that a row lists: from what they read as to what a walk meets; and that they read on as they did.
-/
import Derived.Test.YtanfpnidlgejhaaDoorProg
import Derived.Test.YtanfpnidlgejhaaDoorRegion
import Derived.Lib.LaidU8
import Derived.LaidMore
import Derived.LaidLaws
import Derived.Carry
namespace Go.Proofs.YtanfpnidlgejhaaDoor
open Go.RowKit

/-- A variable's block that holds integers of one kind. -/
def GArr (w : World) (g : Nat) (k : IntKind) (n : Nat) (z : Nat → Int) : Prop := ∃ t fr, w.heap[g]? = some (.cells (arr k n z) t fr)
/-- A variable that holds an error that is not nil. -/
def GErr (w : World) (g : Nat) : Prop := ∃ u v, w.cell? ⟨g, 0, none⟩ = some (.iface u v)
section
variable {w w' : World} {g : Nat} {k : IntKind} {n : Nat} {z : Nat → Int}
theorem GArr.lt (h : GArr w g k n z) : g < w.heap.size := by obtain ⟨t, fr, h⟩ := h; exact (Array.getElem?_eq_some_iff.1 h).1
theorem GArr.below (h : GArr w g k n z) (hb : Below w.heap.size w w') : GArr w' g k n z := by
  have hl := GArr.lt h
  obtain ⟨t, fr, h⟩ := h
  exact ⟨t, fr, by rw [hb.block g hl, h]⟩
theorem GArr.alloc (h : GArr w g k n z) (o : Obj) : GArr (w.alloc o) g k n z := h.below ((Below.refl _ _).alloc (Nat.le_refl _) o)
theorem GArr.cell (h : GArr w g k n z) {i : Nat} (hi : i < n) : w.cell? ⟨g, i, none⟩ = some (.int k (z i)) := by
  obtain ⟨t, fr, h⟩ := h
  rw [cell_of_row w g i _ _ _ h, arr_get _ _ _ _ hi]
theorem GErr.below (h : GErr w g) (hb : Below w.heap.size w w') : GErr w' g := by
  obtain ⟨u, v, h⟩ := h
  exact ⟨u, v, by rw [hb.cell (p := ⟨g, 0, none⟩) (block_lt_of_cell h), h]⟩
end
section
variable {P : Program}
theorem eval_global (a : Act) (g : Nat) : a.eval (.global g) = .pointer (some ⟨g, 0, none⟩) := rfl
theorem wpList_load_g {ops : Array Oper} {rest : List Oper} {o : Oper} {a : Act} {w : World} {Q : Exit → Act → World → Prop} {k : IntKind} {n : Nat} {z : Nat → Int} {ty : TypeId} {d : TypeDesc} (hu : P.underlying ty = some d) (hd : (match d with | .struct _ | .array _ _ => true | _ => false) = true) (hi : (P.info? ty).map (·.size) = some n) (hgd : o.guard = none) (x : Operand) (ho : o.op = .load ty x)
    (g : Nat) (hx : a.eval x = .pointer (some ⟨g, 0, none⟩)) (hg : GArr w g k n z)
    (h : wpList P ops Q rest (a.put o.dst (.agg (arr k n z))) w) : wpList P ops Q (o :: rest) a w := by
  obtain ⟨t, fr, hg⟩ := hg
  exact wpList_load_row hgd ty x ho g hx t _ _ _ hg hu hd (by rw [arr_size]; exact hi) h
theorem wpList_load_s {ops : Array Oper} {rest : List Oper} {o : Oper} {a : Act} {w : World} {Q : Exit → Act → World → Prop} {k : IntKind} {n : Nat} {z : Nat → Int} {ty t : TypeId} {d : TypeDesc} (hu : P.underlying ty = some d) (hd : (match d with | .struct _ | .array _ _ => true | _ => false) = true) (hi : (P.info? ty).map (·.size) = some n) (hgd : o.guard = none) (x : Operand) (ho : o.op = .load ty x)
    (g : Nat) (hx : a.eval x = .pointer (some ⟨g, 0, none⟩)) (hg : Blk w g k n z t)
    (h : wpList P ops Q rest (a.put o.dst (.agg (arr k n z))) w) : wpList P ops Q (o :: rest) a w :=
  wpList_load_g hu hd hi hgd x ho g hx ⟨t, _, hg⟩ h
theorem results_s {fn : Func} {p : Tmp} {ty t : TypeId} {k : IntKind} {n : Nat} {z : Nat → Int} {d : TypeDesc} (hu : P.underlying ty = some d) (hd : (match d with | .struct _ | .array _ _ => true | _ => false) = true) (hi : (P.info? ty).map (·.size) = some n) (h : fn.results = #[.cell p ty]) (tmps : Array Value) (w : World) (g : Nat)
    (hp : tmps.getD p undef = .pointer (some ⟨g, 0, none⟩)) (hg : Blk w g k n z t) : (results fn tmps).run P w = .ok (.agg (arr k n z)) w :=
  results_cell_row h tmps w g t _ _ _ hp hg hu hd (by rw [arr_size]; exact hi)
theorem results_s_tmp {fn : Func} {p u : Tmp} {ty t : TypeId} {k : IntKind} {n : Nat} {z : Nat → Int} {d : TypeDesc} (hu : P.underlying ty = some d) (hd : (match d with | .struct _ | .array _ _ => true | _ => false) = true) (hi : (P.info? ty).map (·.size) = some n) (h : fn.results = #[.cell p ty, .tmp u]) (tmps : Array Value) (w : World) (g : Nat) (v : Value)
    (hp : tmps.getD p undef = .pointer (some ⟨g, 0, none⟩)) (hv : tmps.getD u undef = v) (hg : Blk w g k n z t) : (results fn tmps).run P w = .ok (.tuple #[.agg (arr k n z), v]) w := by
  rw [results_cell_tmp h]
  subst hv
  simp [hp, asAddr, Result.andThen, run_loadVar_row w g t ty _ _ _ hg hu hd (by rw [arr_size]; exact hi)]

theorem Blk.cellv {w : World} {g : Nat} {k : IntKind} {n : Nat} {z : Nat → Int} {t : TypeId} (h : Blk w g k n z t) (i : Nat) (v : Int) (hi : i < n) (e : z i = v) : w.cell? ⟨g, i, none⟩ = some (.int k v) := by
  rw [h.cell hi, e]
theorem below_drewM {B : Nat} {a w : World} (h : Below B a w) (n : Nat) : Below B a (w.drewN n) := h.trans ⟨rfl, rfl, rfl, Nat.le_refl _, fun _ _ => rfl⟩
theorem below_drew0 {w : World} (n : Nat) : Below w.heap.size w (w.drewN n) := ⟨rfl, rfl, rfl, Nat.le_refl _, fun _ _ => rfl⟩

/-! ### From a row's list -/
theorem heap_of_var {w : World} {nm : String} {g : Nat} {cs : Array Value} (hg : P.globalNamed nm = some g) (h : w.var? P nm = some cs) : ∃ t fr, w.heap[g]? = some (.cells cs t fr) := by
  simp only [World.var?, hg, Option.bind_some] at h
  split at h
  · rename_i cs' t fr hh
    simp only [Option.some.injEq] at h
    subst h
    exact ⟨t, fr, hh⟩
  · cases h
theorem arr_of_list {k : IntKind} {cs : Array Value} {zs : List Int} (h : cs.toList = zs.map fun z => Value.int k z) : cs = arr k zs.length (fun i => zs.getD i 0) := by
  apply Array.ext_getElem?
  intro i
  rw [← Array.getElem?_toList, h]
  by_cases hi : i < zs.length
  · rw [arr_get _ _ _ _ hi]; simp [List.getD, List.getElem?_eq_getElem hi]
  · simp [arr, hi]
def isIntOf (P : Program) (k : IntKind) (t : TypeId) : Bool := match P.underlying t with | some (.int k') => decide (k' = k) | _ => false
theorem isIntOf_spec {k : IntKind} {t : TypeId} (h : isIntOf P k t = true) : P.underlying t = some (.int k) := by
  unfold isIntOf at h
  split at h
  · rename_i k' hk; rw [hk, of_decide_eq_true h]
  · cases h
theorem garr_of_struct {w : World} {nm : String} {zs : List Int} {k : IntKind} {g : Nat} {t : TypeId} {fs : Array Field} (h : Lib.VarReads P w nm (.agg (zs.map fun z => .lit (.int k z)))) (hg : P.globalNamed nm = some g) (ht : (P.globals[g]?).map (·.type) = some t)
    (hu : P.underlying t = some (.struct fs)) (hf : (fs.toList.zipIdx.all fun x => isIntOf P k x.1.type && x.1.offset == x.2 && P.cellsOf x.1.type == 1) = true) (hct : P.cellsOf t = fs.size) : GArr w g k zs.length (fun i => zs.getD i 0) := by
  obtain ⟨g', t', cs, fuel, p, h1, h2, h3, h4⟩ := h
  obtain rfl := Option.some.inj (hg.symm.trans h1)
  obtain rfl := Option.some.inj (ht.symm.trans h2)
  have hl := Lib.ints_of_struct hu (fun i f hfi => by
    have hm : (f, i) ∈ fs.toList.zipIdx := by rw [List.mem_zipIdx_iff_getElem?]; simpa using hfi
    have := List.all_eq_true.1 hf _ hm
    simp only [Bool.and_eq_true, beq_iff_eq] at this
    exact ⟨isIntOf_spec this.1.1, this.1.2, this.2⟩) hct h4
  obtain ⟨t2, fr, hh⟩ := heap_of_var hg h3
  exact ⟨t2, fr, by rw [hh, ← arr_of_list hl]⟩
theorem garr_of_array {w : World} {nm : String} {zs : List Int} {k : IntKind} {g n : Nat} {t e : TypeId} (h : Lib.VarReads P w nm (.agg (zs.map fun z => .lit (.int k z)))) (hg : P.globalNamed nm = some g) (ht : (P.globals[g]?).map (·.type) = some t)
    (hu : P.underlying t = some (.array n e)) (he : P.underlying e = some (.int k)) (hc : P.cellsOf e = 1) (hct : P.cellsOf t = n) : GArr w g k zs.length (fun i => zs.getD i 0) := by
  obtain ⟨g', t', cs, fuel, p, h1, h2, h3, h4⟩ := h
  obtain rfl := Option.some.inj (hg.symm.trans h1)
  obtain rfl := Option.some.inj (ht.symm.trans h2)
  obtain ⟨xs, m, _, hx, hcl, hxs, hall⟩ := DataW.trod_array hu h4
  have hxz : xs.map (·.1) = zs.map fun z => (DataW.lit (.int k z) : DataW Unit) := by
    have := congrArg Prod.fst hx
    simpa using this.symm
  have hzl : zs.length = n := by have := congrArg List.length hxz; simp at this; omega
  have hl : cs.toList = zs.map fun z => Value.int k z := by
    apply List.ext_getElem?
    intro i
    by_cases hi : i < n
    · have h5 := hall i hi
      obtain ⟨y, hy⟩ : ∃ y, xs[i]? = some y := ⟨xs[i]'(by omega), List.getElem?_eq_getElem _⟩
      rw [hy, hc, Nat.mul_one] at h5
      obtain ⟨z, hz, rfl, _⟩ := DataW.trod_int he h5
      have h6 : cs.toList[i]? = some (.int k z) := by
        have := congrArg (·[0]?) hz
        simpa [List.getElem?_take, List.getElem?_drop] using this
      have h7 : (xs.map (·.1))[i]? = some (DataW.lit (.int k z) : DataW Unit) := by simp [hy]
      rw [hxz] at h7
      simp only [List.getElem?_map, Option.map_eq_some_iff, DataW.lit.injEq, Lit.int.injEq, true_and] at h7
      obtain ⟨z', hz', rfl⟩ := h7
      rw [h6]
      simp [hz']
    · rw [List.getElem?_eq_none (by omega), List.getElem?_eq_none (by simp; omega)]
  obtain ⟨t2, fr, hh⟩ := heap_of_var hg h3
  exact ⟨t2, fr, by rw [hh, ← arr_of_list hl]⟩
theorem gerr_of_sentinel {w : World} {nm name : String} {d : DataW Unit} {g : Nat} {t : TypeId} {ms : Array (String × TypeId)} (h : Lib.VarReads P w nm (.iface name d)) (hg : P.globalNamed nm = some g) (ht : (P.globals[g]?).map (·.type) = some t)
    (hu : P.underlying t = some (.interface ms)) : GErr w g := by
  obtain ⟨g', t', cs, fuel, p, h1, h2, h3, h4⟩ := h
  obtain rfl := Option.some.inj (hg.symm.trans h1)
  obtain rfl := Option.some.inj (ht.symm.trans h2)
  obtain ⟨_, u, v, hcs, _, _⟩ := iface_of_trod hu h4
  refine ⟨u, v, ?_⟩
  rw [World.var?_cell hg h3 0, ← Array.getElem?_toList, hcs]
  rfl

/-- The listed variables read behind the call as they did. -/
theorem below_trodVars {H : Type} {enc : TypeId × Value → H} (hl : laidOutB P = true) {W W' : World} (hb : Below W.heap.size W W') :
    ∀ {ns : List String} {gs : List (DataW H)} {ps : List MemPlace}, (∀ n ∈ ns, ∀ g t, P.globalNamed n = some g → (P.globals[g]?).map (·.type) = some t → P.readableRec t = true ∧ t < P.types.size) →
      DataW.TrodVars enc P W (fun _ => true) ns gs ps → DataW.TrodVars enc P W' (fun b => decide (b < W.heap.size)) ns gs ps
  | [], [], _, _, h => h
  | [], _ :: _, _, _, h => h.elim
  | _ :: _, [], _, _, h => h.elim
  | n :: ns, d :: ds, ps, hr, h => by
    have hlt := DataW.TrodVars.lt h
    obtain ⟨g, t, cs, fuel, p, q, h1, h2, h3, h4, h5, rfl⟩ := h
    obtain ⟨hr1, hr2⟩ := hr n (by simp) g t h1 h2
    obtain ⟨t2, fr, hh⟩ := heap_of_var h1 h3
    have hgl : g < W.heap.size := (Array.getElem?_eq_some_iff.1 hh).1
    have hv : W'.var? P n = some cs := by
      simp only [World.var?, h1, Option.bind_some]
      rw [hb.block g hgl, hh]
    have hT : DataW.Trod enc P W 0 (fun _ => true) true t (.agg cs) d p := ⟨fuel, h4⟩
    obtain ⟨fuel', h4'⟩ := Below.trod hl hr1 hr2 hT hb (fun x hx => hlt x (by simp [hx]))
    exact ⟨g, t, cs, fuel', p, q, h1, h2, hv, h4', below_trodVars hl hb (fun n' hn' => hr n' (by simp [hn'])) h5, rfl⟩
theorem trodVars_cons {H : Type} {enc : TypeId × Value → H} {W : World} {sp : Nat → Bool} {n : String} {ns : List String} {gs : List (DataW H)} {ps : List MemPlace} (h : DataW.TrodVars enc P W sp (n :: ns) gs ps) : ∃ d ds q, gs = d :: ds ∧ DataW.TrodVars enc P W sp ns ds q := by
  cases gs with
  | nil => exact h.elim
  | cons d ds =>
    obtain ⟨g, t, cs, fuel, p, q, h1, h2, h3, h4, h5, h6⟩ := h
    exact ⟨d, ds, q, rfl, h5⟩
end
end Go.Proofs.YtanfpnidlgejhaaDoor
