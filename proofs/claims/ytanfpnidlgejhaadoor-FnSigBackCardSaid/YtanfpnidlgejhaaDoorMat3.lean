/-
  Slices of arrays: made, built of one, read in a class of worlds.
-/
import Derived.Test.YtanfpnidlgejhaaDoorMat2
import Derived.Test.YtanfpnidlgejhaaDoorRegion
import Derived.Great.BuildSlice
import Derived.Laws.MakeOwn
namespace Go.Proofs.YtanfpnidlgejhaaDoor
open Go.RowKit

section
variable {P : Program}
theorem arr_cells_list (k : IntKind) (n : Nat) (z : Nat → Int) : (Value.agg (arr k n z)).cells.toList.toArray = arr k n z := by
  show (arr k n z).toList.toArray = arr k n z
  rfl
theorem at_bs {ops : Array Oper} {rest : List Oper} {o : Oper} {a : Act} {w : World} {Q : Exit → Act → World → Prop} (t : TypeId) (n : Nat) (parts : Array (Nat × Operand)) (_ho : o.op = .buildSlice t n parts) (h : wpList P ops Q (o :: rest) a w) : wpList P ops Q (o :: rest) a w := h
theorem ownsRow_below {w w' : World} {base : Nat} {e : TypeId} {size n : Nat} {v : Value} {xs : List Value} (h : w.ownsRow base e size v n xs) (hb : Below w.heap.size w w') : w'.ownsRow base e size v n xs := by
  obtain ⟨h1, h0 | ⟨g, c, cur, hv, hg, hh, hr⟩⟩ := h
  · exact ⟨h1, .inl h0⟩
  · exact ⟨h1, .inr ⟨g, c, cur, hv, hg, by rw [hb.block g (Array.getElem?_eq_some_iff.1 hh).1, hh], hr⟩⟩
theorem wpList_build1 {ops : Array Oper} {rest : List Oper} {o : Oper} {a : Act} {w : World} {Q : Exit → Act → World → Prop} {k : IntKind} {n : Nat} {z : Nat → Int} {t e : TypeId} (hu : P.underlying t = some (.slice e)) (hi : ∃ i zz, P.info? e = some i ∧ i.zero = some zz ∧ i.size = n ∧ zz.cells.size = n) (h0 : 0 < n) (hn : n ≤ 16777216)
    (hgd : o.guard = none) (x : Operand) (ho : o.op = .buildSlice t 1 #[(0, x)]) (hx : a.eval x = .agg (arr k n z))
    (h : wpList P ops Q rest (a.put o.dst (.slice (some ⟨w.heap.size, 0, none⟩) 1 1)) (w.alloc (.cells (arr k n z) e))) : wpList P ops Q (o :: rest) a w := by
  obtain ⟨i, zz, hi, hz, hs, hzs⟩ := hi
  refine wpList_buildSlice hgd t e 1 _ ho (arr k n z) i zz hu hi hz (by rw [hs]; omega) (by rw [hs]; omega) ?_ h
  have hf := Great.fill_whole (s := n) h0 [.agg (arr k n z)] ((Array.range (1 * i.size)).map (zz.cells[· % zz.cells.size]!)) (fun v hv => by simp at hv; subst hv; exact arr_size k n z) (by simp [hs])
  rw [hs]
  rw [hs] at hf
  simp only [List.map_toArray, List.map_cons, List.map_nil, hx]
  simpa [Value.cells] using hf
theorem madeCells_arr (k : IntKind) (m n : Nat) (hm : 0 < m) : madeCells (Value.agg (arr k m fun _ => 0)).cells n = arr k n (fun _ => 0) := by
  apply Array.ext_getElem?
  intro i
  show (madeCells (arr k m fun _ => 0) n)[i]? = _
  by_cases hi : i < n
  · rw [arr_get _ _ _ _ hi]
    have hlt : i % m < m := Nat.mod_lt _ hm
    have h1 : (arr k m fun _ => 0)[i % m]? = some (.int k 0) := arr_get _ _ _ _ hlt
    simp [madeCells, hi, arr]
    simp [hlt]
  · simp [madeCells, arr, hi]
theorem wpList_make_arr {ops : Array Oper} {rest : List Oper} {o : Oper} {a : Act} {w : World} {Q : Exit → Act → World → Prop} {t e : TypeId} {k : IntKind} {m B : Nat} (hu : P.underlying t = some (.slice e)) (hi : ∃ i, P.info? e = some i ∧ i.zero = some (.agg (arr k m fun _ => 0)) ∧ i.size = m ∧ i.bytes ≤ B) (hm : 0 < m) (hBB : B ≤ 4096)
    (hgd : o.guard = none) (l c : Operand) (ho : o.op = .makeSlice t l c) (kl kc : IntKind) (L n : Nat) (VL VC : Int) (hl : a.eval l = .int kl VL) (hc : a.eval c = .int kc VC) (eL : VL = (L : Int)) (eC : VC = (n : Int)) (hLn : L ≤ n) (hn : n ≤ 1048576)
    (h : wpList P ops Q rest (a.put o.dst (.slice (some ⟨w.heap.size, 0, none⟩) L n)) (w.alloc (.cells (arr k (n * m) fun _ => 0) e))) : wpList P ops Q (o :: rest) a w := by
  refine wpList_plain hgd fun K hK => ?_
  subst eL
  subst eC
  obtain ⟨i, hi, hz, hs, hb⟩ := hi
  have hb' : (i.bytes : Int) * (n : Int) ≤ 281474976710656 := by
    have : i.bytes * n ≤ 4096 * 1048576 := Nat.mul_le_mul (by omega) hn
    have h2 : ((i.bytes * n : Nat) : Int) ≤ 281474976710656 := by omega
    rwa [Int.natCast_mul] at h2
  have hr := run_make (P := P) w t e i _ hu hi hz kl kc L n (by omega) (by omega) hb' (by omega)
  rw [Int.toNat_natCast, Int.toNat_natCast, hs, madeCells_arr _ _ _ hm] at hr
  unfold Oper.wp
  simp [execOp, ho, hl, hc, hr, Result.andThen]
  exact hK _ _ h
theorem quiet_load_at {C : World → Prop} {o : Oper} {a : Act} {K : Act → Prop} {k : IntKind} {n : Nat} {z : Nat → Int} {ty e : TypeId} (hu : P.underlying ty = some (.array n e)) (hi : (P.info? ty).map (·.size) = some n) (x : Operand) (ho : o.op = .load ty x)
    (p : Addr) (hx : a.eval x = .pointer (some p)) (hc : ∀ w, C w → ∀ j, j < n → w.cell? (p.add j) = some (.int k (z j))) (hk : K (a.put o.dst (.agg (arr k n z)))) : o.quiet P a C K :=
  ⟨.agg (arr k n z), fun w hw => by
    unfold Oper.quietAt execOp
    simp only [ho, hx, Instr.loadAt, Instr.sureAddr, Sem.run_bind, Sem.run_pure, Result.andThen_ok, run_loadVar_at w p hu hi (hc w hw)]
    exact ⟨rfl, rfl⟩, hk⟩
end
/-- A slice of arrays is told, in new memory. -/
def MatPost (k : IntKind) (n : Nat) (F : Nat → Nat → Int) (w : World) (e : Ending) (w' : World) : Prop := (∃ a c, e = .returned (.slice a n c) ∧ MatV k w.heap.size w' a n F) ∧ Below w.heap.size w w'
theorem Ex.bel {g : Nat} {w w1 w2 : World} (h : Ex g w w1) (hb : Below w.heap.size w1 w2) : Ex g w w2 :=
  ⟨hb.os.trans h.os, hb.tape.trans h.tape, hb.output.trans h.output, Nat.le_trans h.size hb.size, fun k hk hn => (hb.block k hk).trans (h.block k hk hn)⟩
theorem MatI.ex {k : IntKind} {w w' : World} {g g' n : Nat} {Z : Nat → Nat → Int} (h : MatI k w ⟨g', 0, none⟩ n Z) (hx : Ex g w w') (hne : g' ≠ g) : MatI k w' ⟨g', 0, none⟩ n Z := fun r hr j hj => by
  have h1 := h r hr j hj
  have hl := block_lt_of_cell h1
  have e : (Addr.add ⟨g', 0, none⟩ (r * 256 + j)).block = g' := by unfold Addr.add; split <;> simp
  rw [e] at hl
  have h2 := hx.block g' hl hne
  rw [← h1]
  unfold World.cell?
  rw [e, h2]
theorem MatI.at {k : IntKind} {w : World} {g n : Nat} {Z : Nat → Nat → Int} (h : MatI k w ⟨g, 0, none⟩ n Z) (r j : Nat) (hr : r < n) (hj : j < 256) : w.cell? ⟨g, r * 256 + j, none⟩ = some (.int k (Z r j)) := by
  have h1 := h r hr j hj
  have e1 : (Addr.add ⟨g, 0, none⟩ (r * 256 + j)) = ⟨g, r * 256 + j, none⟩ := by
    unfold Addr.add
    split
    · rename_i e; rw [e]
    · simp
  rwa [e1] at h1
theorem MatI.rowAt {k : IntKind} {w : World} {g n : Nat} {Z : Nat → Nat → Int} (h : MatI k w ⟨g, 0, none⟩ n Z) (r : Nat) (hr : r < n) : ∀ j, j < 256 → w.cell? ((⟨g, r * 256, none⟩ : Addr).add j) = some (.int k (Z r j)) := fun j hj => by
  rw [Addr.add_mid]; exact h.at r j hr hj
theorem isMat_le {k : IntKind} {w w' : World} {a : Option Addr} {len cap : Nat} {Z : Nat → Nat → Int} (h : IsMat k w a len cap Z) (hb : Below w.heap.size w w') : IsMat k w' a len cap Z := by
  rcases h with h | ⟨x, h1, h2, h3, h4, h5⟩
  · exact .inl h
  · exact .inr ⟨x, h1, h2, h3, h4.below hb, h5⟩
theorem matV_le {k : IntKind} {B : Nat} {w w' : World} {a : Option Addr} {n : Nat} {Z : Nat → Nat → Int} (h : MatV k B w a n Z) (hb : Below w.heap.size w w') : MatV k B w' a n Z := by
  rcases h with h | ⟨g, h1, h2, h3⟩
  · exact .inl h
  · exact .inr ⟨g, h1, h2, h3.below hb⟩
end Go.Proofs.YtanfpnidlgejhaaDoor
