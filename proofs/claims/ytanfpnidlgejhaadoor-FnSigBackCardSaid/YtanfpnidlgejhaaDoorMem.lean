/-
  One block that is written while all others stay; buffers that are appended to; bytes as strings; 'make' of integers.
-/
import Derived.Test.YtanfpnidlgejhaaDoorSlice
import Derived.Test.YtanfpnidlgejhaaDoorRegion
import Derived.Laws.CopyOwn
import Derived.Laws.BytesArg
import Derived.Laws.MakeOwn
namespace Go.Proofs.YtanfpnidlgejhaaDoor
open Go.RowKit

/-- All is as it was but for block g. -/
structure Ex (g : Nat) (w w' : World) : Prop where
  os : w'.os = w.os
  tape : w'.tape = w.tape
  output : w'.output = w.output
  size : w.heap.size ≤ w'.heap.size
  block : ∀ k, k < w.heap.size → k ≠ g → w'.heap[k]? = w.heap[k]?
section
variable {g : Nat} {w w1 w2 : World}
theorem Ex.refl (g : Nat) (w : World) : Ex g w w := ⟨rfl, rfl, rfl, Nat.le_refl _, fun _ _ _ => rfl⟩
theorem Ex.trans (h : Ex g w w1) (k : Ex g w1 w2) : Ex g w w2 :=
  ⟨k.os.trans h.os, k.tape.trans h.tape, k.output.trans h.output, Nat.le_trans h.size k.size, fun i hi hn => (k.block i (Nat.lt_of_lt_of_le hi h.size) hn).trans (h.block i hi hn)⟩
theorem Ex.of_below (h : Below w.heap.size w w1) (g : Nat) : Ex g w w1 := ⟨h.os, h.tape, h.output, h.size, fun k hk _ => h.block k hk⟩
theorem Ex.below (h : Ex g w w1) {B : Nat} (hB : B ≤ w.heap.size) (hg : B ≤ g) : Below B w w1 := ⟨h.os, h.tape, h.output, h.size, fun k hk => h.block k (by omega) (by omega)⟩
theorem Ex.blk (h : Ex g w w1) {k : IntKind} {b n : Nat} {z : Nat → Int} {t : TypeId} (hb : Blk w b k n z t) (hne : b ≠ g) : Blk w1 b k n z t := by
  unfold Blk at *
  rw [h.block b (Array.getElem?_eq_some_iff.1 hb).1 hne, hb]
theorem Ex.setCell (w : World) (g i : Nat) (v : Value) : Ex g w (w.setCell ⟨g, i, none⟩ v) :=
  have h := (Below.refl 0 w).setCell (p := ⟨g, i, none⟩) (Nat.zero_le _) v
  ⟨h.os, h.tape, h.output, h.size, fun k _ hn => Below.heap_setCell w _ v k hn⟩
theorem Ex.rd (h : Ex g w w1) {k : IntKind} {x : Addr} {n : Nat} {b : Nat → Int} (hr : Rd k w x n b) (hne : x.block ≠ g) : Rd k w1 x n b := fun j hj => by
  have h1 := hr j hj
  have hl := block_lt_of_cell h1
  have e : (x.add j).block = x.block := by unfold Addr.add; split <;> simp
  rw [e] at hl
  have h2 := h.block x.block hl hne
  rw [← h1]
  unfold World.cell?
  rw [e, h2]
end
section
variable {P : Program}
theorem at_copy {ops : Array Oper} {rest : List Oper} {o : Oper} {a : Act} {w : World} {Q : Exit → Act → World → Prop} (d s : Operand) (dT sT : TypeId) (_ho : o.op = .call { callee := .builtin .copy, args := #[d, s], argTypes := #[dT, sT] }) (h : wpList P ops Q (o :: rest) a w) : wpList P ops Q (o :: rest) a w := h
theorem at_make {ops : Array Oper} {rest : List Oper} {o : Oper} {a : Act} {w : World} {Q : Exit → Act → World → Prop} (t : TypeId) (l c : Operand) (_ho : o.op = .makeSlice t l c) (h : wpList P ops Q (o :: rest) a w) : wpList P ops Q (o :: rest) a w := h
theorem wpList_load_int {ops : Array Oper} {rest : List Oper} {o : Oper} {a : Act} {w : World} {Q : Exit → Act → World → Prop} {ty : TypeId} (ha : ∀ w, (isAgg ty).run P w = .ok false w) (hgd : o.guard = none) (x : Operand) (ho : o.op = .load ty x)
    (g i : Nat) (hx : a.eval x = .pointer (some ⟨g, i, none⟩)) (v : Value) (hc : w.cell? ⟨g, i, none⟩ = some v)
    (h : wpList P ops Q rest (a.put o.dst v) w) : wpList P ops Q (o :: rest) a w := by
  refine wpList_plain hgd fun K hK => ?_
  unfold Oper.wp
  simp [execOp, ho, hx, Instr.loadAt, Instr.sureAddr, loadVar, ha, hc, Result.andThen]
  exact hK _ _ h
theorem wpList_store_int {ops : Array Oper} {rest : List Oper} {o : Oper} {a : Act} {w : World} {Q : Exit → Act → World → Prop} {ty : TypeId} (hs : ∀ w, (sizeOf ty).run P w = .ok 1 w) (hgd : o.guard = none) (x y : Operand) (ho : o.op = .store ty x y)
    (g i : Nat) (hx : a.eval x = .pointer (some ⟨g, i, none⟩)) {k : IntKind} {n : Nat} {z : Nat → Int} {t : TypeId} (v : Int) (hy : a.eval y = .int k v) (hb : Blk w g k n z t) (hi : i < n)
    (h : ∀ w', Blk w' g k n (fun j => if j = i then v else z j) t → Ex g w w' → wpList P ops Q rest (a.put o.dst undef) w') : wpList P ops Q (o :: rest) a w := by
  refine wpList_plain hgd fun K hK => ?_
  have hc := hb.cell hi
  have hf := hb.frozen i
  unfold Oper.wp
  simp [execOp, ho, hx, hy, Instr.storeAt, Instr.sureAddr, storeVar, Value.cells, hs, storeCells, Result.andThen, show (⟨g, i, none⟩ : Addr).add 0 = ⟨g, i, none⟩ from rfl, run_store_int, stored, hc, hf]
  exact hK _ _ (h _ (hb.set i v) (Ex.setCell _ _ _ _))
theorem madeCells_int (k : IntKind) (n : Nat) : madeCells #[.int k 0] n = arr k n (fun _ => 0) := by
  apply Array.ext_getElem?
  intro i
  by_cases hi : i < n
  · rw [arr_get _ _ _ _ hi]; simp [madeCells, hi, Nat.mod_one]
  · simp [madeCells, arr, hi]
theorem wpList_make_int {ops : Array Oper} {rest : List Oper} {o : Oper} {a : Act} {w : World} {Q : Exit → Act → World → Prop} {t e : TypeId} {k : IntKind} (hu : P.underlying t = some (.slice e)) (hi : ∃ i, P.info? e = some i ∧ i.zero = some (.int k 0) ∧ i.size = 1 ∧ i.bytes ≤ 8)
    (hgd : o.guard = none) (l c : Operand) (ho : o.op = .makeSlice t l c) (kl kc : IntKind) (L n : Nat) (VL VC : Int) (hl : a.eval l = .int kl VL) (hc : a.eval c = .int kc VC) (eL : VL = (L : Int)) (eC : VC = (n : Int)) (hLn : L ≤ n) (hn : n ≤ 1099511627776)
    (h : wpList P ops Q rest (a.put o.dst (.slice (some ⟨w.heap.size, 0, none⟩) L n)) (w.alloc (.cells (arr k n fun _ => 0) e))) : wpList P ops Q (o :: rest) a w := by
  refine wpList_plain hgd fun K hK => ?_
  subst eL
  subst eC
  obtain ⟨i, hi, hz, hs, hb⟩ := hi
  have hb' : (i.bytes : Int) * (n : Int) ≤ 281474976710656 := by
    have : i.bytes * n ≤ 8 * 1099511627776 := Nat.mul_le_mul hb hn
    have h2 : ((i.bytes * n : Nat) : Int) ≤ 281474976710656 := by omega
    rwa [Int.natCast_mul] at h2
  have hr := run_make (P := P) w t e i (.int k 0) hu hi hz kl kc L n (by omega) (by omega) hb' (by omega)
  rw [Int.toNat_natCast, Int.toNat_natCast, hs, Nat.mul_one, show (Value.int k 0).cells = #[.int k 0] from rfl, madeCells_int] at hr
  unfold Oper.wp
  simp [execOp, ho, hl, hc, hr, Result.andThen]
  exact hK _ _ h

/-! ### Bytes as a string -/
def bstr (n : Nat) (b : Nat → Int) : ByteArray := ⟨((List.range n).map fun i => UInt8.ofNat (b i).toNat).toArray⟩
theorem bstr_congr {n : Nat} {a b : Nat → Int} (h : ∀ i, i < n → a i = b i) : bstr n a = bstr n b := by
  unfold bstr
  congr 2
  apply List.map_congr_left
  intro i hi
  rw [h i (List.mem_range.1 hi)]
theorem run_bstr (src dst e : TypeId) (hs : P.underlying src = some (.slice e)) (he : P.underlying e = some (.int .u8)) (hd : P.underlying dst = some .string) (x : Addr) (n c : Nat) (b : Nat → Int) (w : World) (h : Rd .u8 w x n b) :
    (convert src dst (.slice (some x) n c)).run P w = .ok (.string (bstr n b)) w := by
  have hl : (loadCells x n).run P w = .ok (((List.range n).map b).map (Value.int .u8)).toArray w := by
    have := run_loadCells_list (P := P) w x (((List.range n).map b).map (Value.int .u8)) (fun j v hj => by
      have hjn : j < n := by
        have := (List.getElem?_eq_some_iff.1 hj).1
        simpa using this
      rw [h j hjn]
      simp [hjn] at hj
      rw [hj])
    simpa using this
  rw [run_convert_bytes_string w src dst e _ n c hs he hd, run_bytesToString w _ n c _ hl, foldl_push_bytes]
  simp [bstr, ByteArray.empty, ByteArray.emptyWithCapacity, Function.comp_def]
  rfl
end
theorem lwAlike (x y : Addr) (n cx cy : Nat) (a b : Nat → Int) (w : World) (hx : Rd .u8 w x n a) (hy : Rd .u8 w y n b) (h : ∀ i, i < n → a i = b i) :
    Calls Tryd.prog 11 #[.slice (some x) n cx, .slice (some y) n cy] w fun e w' => e = .returned (.bool true) ∧ w = w' := by
  have h1 := run_bstr (P := Tryd.prog) _ 9 _ Tryd.underlying22 Tryd.underlying5 Tryd.underlying9 x n cx a w hx
  have h2 := run_bstr (P := Tryd.prog) _ 9 _ Tryd.underlying22 Tryd.underlying5 Tryd.underlying9 y n cy b w hy
  rw [← bstr_congr h] at h2
  clear hx hy h
  generalize bstr n a = s at h1 h2
  go_enter Tryd.func11, Tryd.ntmps11
  go_wp2
  go_ret
  exact ⟨rfl, rfl⟩
/-! ### A buffer that is appended to -/
/-- The buffer is nil; or it stands at the head of a block of bytes from B on with room for n more. -/
def Buf (B : Nat) (w : World) (v : Value) (L n : Nat) (z : Nat → Int) (t : TypeId) : Prop :=
  (v = .slice none 0 0 ∧ L = 0) ∨ ∃ g c, v = .slice (some ⟨g, 0, none⟩) L c ∧ B ≤ g ∧ L + n ≤ c ∧ c ≤ 1099511627776 ∧ Blk w g .u8 c z t
theorem Buf.alloc {B : Nat} {w : World} {v : Value} {L n : Nat} {z : Nat → Int} {t : TypeId} (h : Buf B w v L n z t) (o : Obj) : Buf B (w.alloc o) v L n z t := by
  rcases h with h | ⟨g, c, h1, h2, h3, h4, h5⟩
  · exact .inl h
  · exact .inr ⟨g, c, h1, h2, h3, h4, h5.alloc o⟩
theorem Buf.ne {B : Nat} {w : World} {v : Value} {L n : Nat} {z : Nat → Int} {t : TypeId} (h : Buf B w v L n z t) {g m : Nat} (_hm : w.heap.size < m) (hg : m ≤ g ∨ ∃ c', v = .slice (some ⟨g, 0, none⟩) L c') : g < w.heap.size ∨ m ≤ g := by
  rcases hg with hg | ⟨c', hv⟩
  · exact .inr hg
  · rcases h with ⟨h, _⟩ | ⟨g', c, h1, h2, h3, h4, h5⟩
    · rw [hv] at h; simp at h
    · rw [hv] at h1
      simp at h1
      obtain ⟨rfl, _⟩ := h1
      exact .inl h5.lt
theorem iByte : (Tryd.prog.info? 5).map (·.size) = some 1 := by kernel_rfl
theorem bInfo : ∃ i, Tryd.prog.info? 5 = some i ∧ i.zero = some (.int .u8 0) ∧ i.size = 1 ∧ i.bytes ≤ 8 := by
  obtain ⟨i, h1, h2, h3, h4⟩ := byteInfo
  exact ⟨i, h1, h2, h3, by omega⟩
/-- What an append to a buffer leaves as it was: all but the n new places; the capacity too (a buffer that is nil has L = 0). -/
def Kept (g : Nat) (v : Value) (L n c : Nat) (z z0 : Nat → Int) : Prop := (∀ i, i < L ∨ L + n ≤ i ∧ L ≠ 0 → z i = z0 i) ∧ (L ≠ 0 → v = .slice (some ⟨g, 0, none⟩) L c)
set_option maxHeartbeats 1000000 in
theorem sfa (B : Nat) (v : Value) (L n : Nat) (z0 : Nat → Int) (w : World) (hB : B ≤ w.heap.size) (h0 : 0 < n) (h1 : L + n ≤ 1099511627776) (hv : Buf B w v L n z0 5) :
    Calls Tryd.prog 56 #[v, .int .i64 (n : Int)] w fun e w' => ∃ g c z, e = .returned (.tuple #[.slice (some ⟨g, 0, none⟩) (L + n) c, .slice (some ⟨g, L, none⟩) n (c - L)]) ∧ B ≤ g ∧ L + n ≤ c ∧ c ≤ 1099511627776 ∧ Blk w' g .u8 c z 5 ∧ Kept g v L n c z z0 ∧ Ex g w w' ∧ (w.heap.size ≤ g ∨ ∃ c', v = .slice (some ⟨g, 0, none⟩) L c') := by
  rcases hv with ⟨rfl, rfl⟩ | ⟨g, c, rfl, hg, hc, hcm, hb⟩
  · simp only [Nat.zero_add] at h1 ⊢
    go_enter Tryd.func56, Tryd.ntmps56
    go_wp2_with (first | (with_reducible refine at_make _ _ _ rfl ?_; refine wpList_make_int Tryd.underlying22 bInfo rfl _ _ rfl _ _ n n _ _ rfl rfl rfl rfl (Nat.le_refl _) h1 ?_) | (with_reducible refine at_copy _ _ _ _ rfl ?_; refine wpList_copy_nothing rfl _ _ _ _ rfl _ Tryd.underlying22 iByte _ _ _ _ _ _ rfl rfl (Nat.zero_min _) ?_))
    go_ret2
    refine ⟨w.heap.size, n, fun _ => 0, rfl, hB, Nat.le_refl _, h1, Blk.new _ _ _ _ _ rfl, ⟨fun i hi => by omega, fun h => absurd rfl h⟩, ?_⟩
    exact ⟨Ex.of_below ((Below.refl _ _).alloc (Nat.le_refl _) _) _, .inl (Nat.le_refl _)⟩
  · go_enter Tryd.func56, Tryd.ntmps56
    go_wp2_with fail
    go_ret2
    exact ⟨g, c, z0, rfl, hg, hc, hcm, hb, ⟨fun _ _ => rfl, fun _ => rfl⟩, Ex.refl _ _, .inr ⟨_, rfl⟩⟩
end Go.Proofs.YtanfpnidlgejhaaDoor
