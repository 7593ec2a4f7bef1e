/-
  A signature written: the law.
-/
import Derived.Test.YtanfpnidlgejhaaDoorSig2
namespace Go.Proofs.YtanfpnidlgejhaaDoor
open Go.RowKit

/-- What writes a signature leaves behind. -/
def SPost (s : Nat) (f : Nat → Int) (w : World) (e : Ending) (w' : World) : Prop := ∃ g, e = .returned (.slice (some ⟨g, 0, none⟩) (sgz s) (sgz s)) ∧ w.heap.size ≤ g ∧ Blk w' g .u8 (sgz s) f 5 ∧ Below w.heap.size w w'
theorem wpList_load_arrW {P : Program} {ops : Array Oper} {rest : List Oper} {o : Oper} {a : Act} {w : World} {Q : Exit → Act → World → Prop} {k : IntKind} {n : Nat} {z : Nat → Int} {ty e t : TypeId} (hu : P.underlying ty = some (.array n e)) (hi : (P.info? ty).map (·.size) = some n) (hw : Region.wanted o (yielded ops a.tmps) = true) (x : Operand) (ho : o.op = .load ty x)
    (g : Nat) (hx : a.eval x = .pointer (some ⟨g, 0, none⟩)) (hg : Blk w g k n z t) (h : wpList P ops Q rest (a.put o.dst (.agg (arr k n z))) w) : wpList P ops Q (o :: rest) a w :=
  wpList_step fun K hK => by
    simp only [hw, if_true]
    exact wp_load_arr hu hi x ho g hx hg (hK _ _ h)
theorem sgb_at (s : Nat) (ch : Nat → Int) (V : Nat → Nat → Int) (h : Nat → Int) (i : Nat) (hi : i < mm s) : sgb s ch V h i = sgm s ch V i := if_pos hi
theorem sgb_hint (s : Nat) (ch : Nat → Int) (V : Nat → Nat → Int) (h : Nat → Int) (j : Nat) : sgb s ch V h (mm s + j) = h j := by
  unfold sgb put
  rw [if_neg (by omega), Nat.add_sub_cancel_left]
theorem sgb_ch (s : Nat) (ch : Nat → Int) (V : Nat → Nat → Int) (h : Nat → Int) (i : Nat) (hi : i < cc s) : sgb s ch V h i = ch i := by
  rw [sgb_at _ _ _ _ _ (by unfold mm; omega), sgm_ch _ _ _ _ hi]
theorem sgb_row (s : Nat) (hs : s < 3) (ch : Nat → Int) (V : Nat → Nat → Int) (h : Nat → Int) (r j : Nat) (hr : r < ll s) (hj : j < 32 * dd s) : sgb s ch V h (cc s + r * (32 * dd s) + j) = pby (dd s) (V r) 256 j := by
  have h1 : (r + 1) * (32 * dd s) = r * (32 * dd s) + 32 * dd s := Nat.succ_mul _ _
  have h2 : (r + 1) * (32 * dd s) ≤ ll s * (32 * dd s) := Nat.mul_le_mul_right _ (by omega)
  rw [sgb_at _ _ _ _ _ (by unfold mm; omega), sgm_row s hs _ _ _ _ hj]
theorem sgb_congr (s : Nat) (ch ch' : Nat → Int) (V : Nat → Nat → Int) (h : Nat → Int) (hc : ∀ i, i < cc s → ch i = ch' i) (i : Nat) : sgb s ch V h i = sgb s ch' V h i := by
  unfold sgb put sgm
  by_cases h1 : i < mm s
  · rw [if_pos h1, if_pos h1]
    by_cases h2 : i < cc s
    · rw [if_pos h2, if_pos h2, hc i h2]
    · rw [if_neg h2, if_neg h2]
  · rw [if_neg h1, if_neg h1]
theorem wpOp_append_own {P : Program} {ops : Array Oper} {Q : Exit → Act → World → Prop} {i : Nat} {a : Act} {w : World} {K : Act → World → Prop} (o : Oper) (ho : ops[i]? = some o) (hw : Region.wanted o (yielded ops a.tmps) = true) (s x : Operand) (t : TypeId)
    (hop : o.op = .call { callee := .builtin .append, args := #[s, x], argTypes := #[t, t] })
    (base : Nat) (e : TypeId) (ti : TypeInfo) (z : Value) (size bytes : Nat) (ht : P.underlying t = some (.slice e)) (hi : P.info? e = some ti) (hz : ti.zero = some z)
    (hsize : ti.size = size) (hby : ti.bytes = bytes) (hzs : z.cells.size = size) (hsz : 0 < size)
    (v : Value) (n : Nat) (xs : List Value) (hs : a.eval s = v) (hown : w.ownsRow base e size v n xs)
    (ad : Addr) (m c : Nat) (news : List Value) (hx : a.eval x = .slice (some ad) m c) (hl : news.length = m * size) (hnews : ∀ j u, news[j]? = some u → w.cell? (ad.add j) = some u) (h1 : ∀ u ∈ news, u.oneCell' = true)
    (h63 : n + m ≤ maxLen) (hbytes : (n + m) * bytes ≤ 140737488355328) (hbase : base ≤ w.heap.size)
    (h : ∀ v' w', w'.ownsRow base e size v' (n + m) (xs ++ news) → w.grownBy w' v.ownBlock → K (a.put o.dst v') w') : wpOp P ops Q i K a w := by
  unfold wpOp
  simp only [ho, hw, if_true]
  exact .inl (wp_append_own w s x t hop base e ti z size bytes ht hi hz hsize hby hzs hsz v n xs hs hown ad m c news hx hl hnews h1 h63 hbytes hbase fun v' w' h2 h3 _ => h v' w' h2 h3)

set_option maxRecDepth 100000 in
set_option maxHeartbeats 1000000 in
theorem zzSigEncode (s g1 g2 c1 c2 cx : Nat) (x : Addr) (ch : Nat → Int) (Z : Nat → Nat → Int) (H : Nat → Nat → Bool) (w : World) (hs : s < 3) (hp : Par w) (hr : Rd .u8 w x (cc s) ch) (hz : MatI .u32 w ⟨g1, 0, none⟩ (ll s) Z) (hc2 : kk s ≤ c2) (hm : MatI .u8 w ⟨g2, 0, none⟩ (kk s) (hb H)) (hn : hc H (256 * kk s) ≤ om s)
    (hzb : ∀ r, r < ll s → ∀ i, i < 256 → 0 ≤ Z r i ∧ Z r i < 8380417) (hf : ∀ r, r < ll s → ∀ i, i < 256 → 0 ≤ pval s (Z r) i ∧ pval s (Z r) i < 2 ^ dd s) :
    Calls Tryd.prog 36 #[.int .i64 (nm s), .slice (some x) (cc s) cx, .slice (some ⟨g1, 0, none⟩) (ll s) c1, .slice (some ⟨g2, 0, none⟩) (kk s) c2] w (SPost s (sgb s ch (fun r => pval s (Z r)) (hrow H (om s) (kk s))) w) := by
  have HZ := Lib.hid hz; clear hz
  have HM := Lib.hid hm; clear hm
  have HB := Lib.hid hzb; clear hzb
  have HF := Lib.hid hf; clear hf
  have HN := Lib.hid hn; clear hn
  go_enter Tryd.func36, Tryd.ntmps36
  go_wp2_with fail
  refine (zzSet s _ hs hp).mono ?_
  rintro e w1 ⟨rfl, hb1⟩
  go_wp2_with fail
  refine (sigEncodeW s g1 g2 c1 c2 cx x ch Z H _ hs (hr.below hb1) (HZ.out.below hb1) hc2 (HM.out.below hb1) HN.out HB.out HF.out).mono ?_
  rintro e w2 ⟨g, rfl, hg, hk, hb2⟩
  go_wp2_with fail
  go_ret
  exact ⟨g, rfl, Nat.le_trans hb1.size hg, hk, belowChain hb1 hb2 hb1.size⟩
set_option maxRecDepth 100000 in
set_option maxHeartbeats 1000000 in
theorem implSigEncode (s cx cz ch' : Nat) (x y z : Addr) (ch : Nat → Int) (Z : Nat → Nat → Int) (H : Nat → Nat → Bool) (w : World) (hs : s < 3) (hp : Par w) (hr : Rd .u8 w x (cc s) ch) (hz : MatI .u32 w y (ll s) Z) (hm : MatI .u8 w z (kk s) (hb H)) (hn : hc H (256 * kk s) ≤ om s)
    (hzb : ∀ r, r < ll s → ∀ i, i < 256 → 0 ≤ Z r i ∧ Z r i < 8380417) (hf : ∀ r, r < ll s → ∀ i, i < 256 → 0 ≤ pval s (Z r) i ∧ pval s (Z r) i < 2 ^ dd s) :
    Calls Tryd.prog 20 #[.int .i64 (nm s), .slice (some x) (cc s) cx, .slice (some y) (ll s) cz, .slice (some z) (kk s) ch'] w (SPost s (sgb s ch (fun r => pval s (Z r)) (hrow H (om s) (kk s))) w) := by
  obtain ⟨hc0, hc1⟩ := cc_bd s hs
  obtain ⟨hl0, hl1⟩ := ll_bd s hs
  obtain ⟨hk0, hk1⟩ := kk_bd s hs
  have HZ := Lib.hid hz; clear hz
  have HM := Lib.hid hm; clear hm
  have HB := Lib.hid hzb; clear hzb
  have HF := Lib.hid hf; clear hf
  have HN := Lib.hid hn; clear hn
  go_enter Tryd.func20, Tryd.ntmps20
  go_wp2_with fail
  refine (cloneB x (cc s) cx ch _ (by omega) (by omega) hr).mono ?_
  rintro e w1 ⟨⟨g1, c1, rfl, hg1, hc1, hcm1, hrd1⟩, hb1⟩
  go_wp2_with fail
  refine (implRings y (ll s) cz Z _ (by omega) (HZ.out.below hb1)).mono ?_
  rintro e w2 ⟨⟨a2, c2, rfl, hv2⟩, hb2⟩
  obtain ⟨g2, rfl, hg2, hz2⟩ : ∃ g, a2 = some ⟨g, 0, none⟩ ∧ w1.heap.size ≤ g ∧ MatI .u32 w2 ⟨g, 0, none⟩ (ll s) Z := by
    rcases hv2 with h0 | h
    · omega
    · exact h
  have hB2 := belowChain hb1 hb2 hb1.size
  go_wp2_with fail
  refine (cloneB8I z (kk s) ch' (hb H) _ (by omega) (HM.out.below hB2)).mono ?_
  rintro e w3 ⟨⟨a3, c3, rfl, hv3, hc3⟩, hb3⟩
  obtain ⟨g3, rfl, hg3, hz3⟩ : ∃ g, a3 = some ⟨g, 0, none⟩ ∧ w2.heap.size ≤ g ∧ MatI .u8 w3 ⟨g, 0, none⟩ (kk s) (hb H) := by
    rcases hv3 with h0 | h
    · omega
    · exact h
  have hB3 := belowChain hB2 hb3 hB2.size
  go_wp2_with fail
  refine (zzSigEncode s g2 g3 c2 c3 c1 ⟨g1, 0, none⟩ ch Z H _ hs (hp.below hB3) ((hrd1.below hb2).below hb3) (hz2.below hb3) hc3 hz3 HN.out HB.out HF.out).mono ?_
  rintro e w4 ⟨g, rfl, hg, hk, hb4⟩
  go_wp2_with fail
  go_ret
  exact ⟨g, rfl, Nat.le_trans hB3.size hg, hk, belowChain hB3 hb4 hB3.size⟩

theorem slice64 (a : Addr) (l : Nat) (hl : l ≤ 64) (w : World) : (Instr.sliceAt 46 (.pointer (some a)) none (some (.int .i64 (l : Int))) none).run Tryd.prog w = .ok (.slice (some a) l 64) w := by
  have e : Tryd.prog.arrayLen 46 = 64 := by kernel_rfl
  have e2 : Tryd.prog.elem 46 = 5 := by kernel_rfl
  have h := run_sliceAt_array_h (P := Tryd.prog) w 46 a (by rw [e, e2]; exact Tryd.underlying46) .i64 (l : Int) (by omega) (by rw [e]; omega)
  rw [e, e2, Tryd.sizeOf5] at h
  rw [h]
  simp only [Result.andThen_ok, slicedAt]
  by_cases h0 : (64 : Nat) = 0
  · omega
  · rw [if_neg h0]
    simp [Addr.add]

set_option maxRecDepth 100000 in
set_option maxHeartbeats 1000000 in
theorem walkFnSigEncode (n : Int) (c : Nat → Int) (az : Option Addr) (lz cz : Nat) (Z : Nat → Nat → Int) (ah : Option Addr) (lh ch : Nat) (H : Nat → Nat → Bool) (w : World) (hp : Par w) (n0 : 0 ≤ n) (n1 : n < 256) (_hc : ∀ i, i < 64 → 0 ≤ c i ∧ c i < 256) (hz : IsMat .u32 w az lz cz Z) (hh : IsMatB w ah lh ch H) :
    Calls Tryd.prog 4 #[.int .u8 n, .agg (arr .u8 64 c), .slice az lz cz, .slice ah lh ch] w fun e w' => e = .returned (.bool true) ∧ Below w.heap.size w w' := by
  obtain ⟨bi, bi1, bi2, bi3, bi4⟩ := byteInfo
  obtain ⟨s, hs⟩ : ∃ s : Nat, (s : Int) = n % 3 := ⟨(n % 3).toNat, by omega⟩
  have hs3 : s < 3 := by omega
  obtain ⟨hk0, hk1⟩ := kk_bd s hs3
  obtain ⟨hl0, hl1⟩ := ll_bd s hs3
  obtain ⟨hc0, hc1⟩ := cc_bd s hs3
  obtain ⟨ho0, ho1⟩ := om_bd s hs3
  obtain ⟨hd0, hd1⟩ := dd_bd s hs3
  have hgm : 2 * ss s 4 - 1 = (blN s : Int) := by
    have h3 : s = 0 ∨ s = 1 ∨ s = 2 := by omega
    rcases h3 with rfl | rfl | rfl <;> rfl
  have hgb : 1 ≤ ss s 4 ∧ ss s 4 ≤ 524288 := by
    have h3 : s = 0 ∨ s = 1 ∨ s = 2 := by omega
    rcases h3 with rfl | rfl | rfl <;> decide
  obtain ⟨hg0, hg1⟩ := hgb
  have hdp := Lib.hid (dd_pow s hs3)
  have hm : lh = 0 ∨ ∃ x, ah = some x ∧ MatB w x lh H := by
    rcases hh with ⟨_, h, _⟩ | ⟨x, ha, hl, hm, hmm⟩
    · exact .inl h
    · exact .inr ⟨x, ha, hmm.mono hl⟩
  clear hh
  have HM := Lib.hid hm; clear hm
  have HZ := Lib.hid hz; clear hz
  have f4 := Blk.new w .u8 64 c 46 rfl
  have hB0 := (Below.refl w.heap.size w).alloc (Nat.le_refl _) (.cells (arr .u8 64 c) 46)
  by_cases hq1 : 2147483647 < lz
  · go_enter Tryd.func4, Tryd.ntmps4
    go_wp2_with fail
    go_ret
    exact ⟨rfl, hB0⟩
  by_cases hq2 : 2147483647 < lh
  · go_enter Tryd.func4, Tryd.ntmps4
    go_wp2_with fail
    go_ret
    exact ⟨rfl, hB0⟩
  go_enter Tryd.func4, Tryd.ntmps4
  go_wp2_with fail
  refine (lwSet _ s _ n0 n1 hs).mono ?_
  rintro e w1 ⟨rfl, hb1⟩
  clear hs
  have f4 := f4.below hb1
  have hB1 := belowChain hB0 hb1 hB0.size
  have fs := (Blk.zeros8 w1 24 rfl).row .i64 (ss s)
  have hB2 := below_setRow (hB1.alloc hB1.size (.cells #[.int .i64 0, .int .i64 0, .int .i64 0, .int .i64 0, .int .i64 0, .int .i64 0, .int .i64 0, .int .i64 0] 24)) (g := w1.heap.size) hB1.size (arr .i64 8 (ss s))
  have f4 := (f4.alloc (.cells #[.int .i64 0, .int .i64 0, .int .i64 0, .int .i64 0, .int .i64 0, .int .i64 0, .int .i64 0, .int .i64 0] 24)).rowOther w1.heap.size (arr .i64 8 (ss s)) (by have := f4.lt; omega)
  go_wp2_with (first | (with_reducible refine at_store 24 _ _ rfl ?_; refine wpList_store_arr iSet rfl _ _ rfl _ rfl rfl (Blk.zeros8 _ _ rfl) ?_) | (with_reducible refine at_load 24 _ rfl ?_; refine wpList_load_s Tryd.underlying24 rfl iSet rfl _ rfl _ rfl (fs) ?_))
  refine (hintsOfX s ah lh ch H _ hs3 (by omega) (by
    rcases HM.out with h0 | ⟨x, hx, hm⟩
    · exact .inl h0
    · exact .inr ⟨x, hx, hm.below hB2⟩)).mono ?_
  rintro e w2 ⟨⟨v, v8, rfl, hown, hown8⟩, hb2⟩
  have fs := fs.below hb2
  have f4 := f4.below hb2
  have hB3 := belowChain hB2 hb2 hB2.size
  have hcl := fs.cellv 1 (ll s : Int) (by omega) (ll_ss s hs3)
  have hcc := fs.cellv 7 (cc s : Int) (by omega) (cc_ss s hs3)
  clear hb1 hb2 hB0 hB1 hB2
  cases hok : decide (lh = kk s) && decide (hc H (256 * lh) ≤ om s) with
  | false =>
    go_wp2_with fail
    go_ret
    exact ⟨rfl, hB3⟩
  | true =>
    obtain ⟨hlk, hco⟩ : lh = kk s ∧ hc H (256 * lh) ≤ om s := by simpa using hok
    clear hok
    subst hlk
    have HCO := Lib.hid hco; clear hco
    obtain ⟨gb, cb, rfl, hgb, hmb⟩ := matB_of_owns (by omega) hown
    obtain ⟨a8, c8, rfl, hv8, _⟩ := matV_of_owns (k := .u8) (Z := hb H) hown8
    obtain ⟨g8, rfl, hm8⟩ : ∃ g, a8 = some ⟨g, 0, none⟩ ∧ MatI .u8 w2 ⟨g, 0, none⟩ (kk s) (hb H) := by
      rcases hv8 with h0 | ⟨g, h1, _, h2⟩
      · omega
      · exact ⟨g, h1, h2⟩
    clear hv8 hown hown8
    have HMB := Lib.hid hmb; clear hmb
    have HM8 := Lib.hid hm8; clear hm8
    by_cases hl : lz = ll s
    · subst hl
      obtain ⟨x, rfl, hlc, hcm, hmz, hwz⟩ : ∃ x, az = some x ∧ ll s ≤ cz ∧ cz ≤ maxLen ∧ MatI .u32 w x cz Z ∧ ∀ r, r < cz → ∀ j, j < 256 → (Lit.int .u32 (Z r j)).wf = true := by
        rcases HZ.out with ⟨_, h0, _⟩ | h
        · omega
        · exact h
      have HZ := Lib.hid hmz; clear hmz
      have HW := Lib.hid hwz; clear hwz
      have hne : ((((ll s : Nat) : Int)) != ((ll s : Nat) : Int)) = false := by simp
      have hsl := slice64 ⟨w.heap.size, 0, none⟩ (cc s) (by omega)
      go_wp2_with fail
      have hcell : (w2.alloc (.cells #[.slice (some ⟨w.heap.size, 0, none⟩) (cc s) 64] 22)).cell? ⟨w2.heap.size, 0, none⟩ = some (.slice (some ⟨w.heap.size, 0, none⟩) (cc s) 64) := by
        rw [cell_of_row _ _ _ _ _ _ (heap_alloc_last w2 _)]
        rfl
      refine (spJoined1 w2.heap.size ⟨w.heap.size, 0, none⟩ (cc s) 64 c _ (by omega) (by omega) hcell (Blk.rd (L := 0) (f4.alloc _) (by omega) (fun j _ => by rw [Nat.zero_add]))).mono ?_
      rintro e w4 ⟨⟨v4, rfl, hown4⟩, hb4⟩
      have hown4 := owns_mono hown4 (by simp : w2.heap.size ≤ _)
      have hb4 : Below w2.heap.size w2 w4 := belowChain ((Below.refl w2.heap.size w2).alloc (Nat.le_refl _) (.cells #[.slice (some ⟨w.heap.size, 0, none⟩) (cc s) 64] 22)) hb4 (by simp)
      have hown4 : w4.ownsRow w2.heap.size 5 1 v4 (cc s + 0 * (32 * dd s)) (bl (sgb s c (fun r => pval s (Z r)) (hrow H (om s) (kk s))) (cc s + 0 * (32 * dd s))) := by
        rw [Nat.zero_mul, Nat.add_zero, ← bl_congr c (sgb s c (fun r => pval s (Z r)) (hrow H (om s) (kk s))) _ fun i hi => (sgb_ch s c _ _ i hi).symm]
        exact hown4
      clear hcell hsl hne hcl hcc
      go_wp2_with fail
      have hd1 : decide ((2147483647 : Int) < ((ll s : Nat) : Int)) = false := by rw [decide_eq_false_iff_not]; omega
      have hd2 : decide ((2147483647 : Int) < ((kk s : Nat) : Int)) = false := by rw [decide_eq_false_iff_not]; omega
      try simp only [hd1, hd2, Bool.or_false]
      clear hd1 hd2
      go_loopw [14, 55] (fun v t wr => ∃ r : Nat, r ≤ ll s ∧ t = .int .i64 (r : Int) ∧ wr.ownsRow w2.heap.size 5 1 v (cc s + r * (32 * dd s)) (bl (sgb s c (fun r => pval s (Z r)) (hrow H (om s) (kk s))) (cc s + r * (32 * dd s))) ∧ Below w2.heap.size w2 wr ∧ Hid (∀ q, q < r → (∀ i, i < 256 → 0 ≤ Z q i ∧ Z q i < 8380417) ∧ ∀ i, i < 256 → 0 ≤ pval s (Z q) i ∧ pval s (Z q) i < 2 ^ dd s)) (fun _ t _ => ll s - (intOf t).toNat)
      case atStart => exact ⟨0, by omega, rfl, hown4, hb4, Lib.hid fun q hq => by omega⟩
      case round =>
        clear hown4 hb4
        obtain ⟨r, hr, rfl, hown, hbe, HQ⟩ := hrel
        have hbw := hB3.trans (hbe.mono hB3.size)
        have hs0 := hbe.size
        have hB3s := hB3.size
        by_cases hlt : r < ll s
        · have hrow := Lib.hid ((HZ.out.below hbw).row r (by omega))
          have hsuc : (r + 1) * (32 * dd s) = r * (32 * dd s) + (32 * dd s) := Nat.succ_mul _ _
          have hle : (r + 1) * (32 * dd s) ≤ 7 * (32 * dd s) := Nat.mul_le_mul_right _ (by omega)
          go_wp2_with (first | (with_reducible refine at_loadx 40 57 rfl ?_; refine wpList_load_at Tryd.underlying40 iU rfl _ rfl (x.add (r * 256)) rfl hrow.out ?_) | (with_reducible refine at_storex 40 16 _ rfl ?_; refine wpList_store_arr iU rfl _ _ rfl _ rfl rfl (Blk.new wr .u32 256 (fun _ => 0) 40 rfl) ?_) | (with_reducible refine at_loadx 40 16 rfl ?_; refine wpList_load_arr Tryd.underlying40 iU rfl _ rfl _ rfl ((Blk.new wr .u32 256 (fun _ => 0) 40 rfl).row .u32 (Z r)) ?_))
          have hstep := below_setRow ((Below.refl wr.heap.size wr).alloc (Nat.le_refl _) (.cells (arr .u32 256 (fun _ => 0)) 40)) (g := wr.heap.size) (Nat.le_refl _) (arr .u32 256 (Z r))
          have QB := Lib.hid (fun i (hi : i < 256) => bounds_u32 (HW.out r (by omega) i hi))
          refine (lwPlain (Z r) _ (fun i hi => by have := QB.out i hi; omega)).mono ?_
          rintro e w5 ⟨rfl, hb5⟩
          have hstep := belowChain hstep hb5 hstep.size
          go_wp2_with (first | (with_reducible refine at_storex 43 17 _ rfl ?_; refine wpList_store_arr iP rfl _ _ rfl _ rfl rfl (Blk.new w5 .i64 256 (fun _ => 0) 43 rfl) ?_))
          have ga := (Blk.new w5 .i64 256 (fun _ => 0) 43 rfl).row .i64 (fun i => mred (Z r i))
          have hstep := below_setRow (hstep.alloc hstep.size (.cells (arr .i64 256 (fun _ => 0)) 43)) (g := w5.heap.size) hstep.size (arr .i64 256 (fun i => mred (Z r i)))
          clear hb5
          have fs5 := fs.below (hbe.trans (hstep.mono hs0))
          have hc4 := fs5.cellv 4 (ss s 4) (by omega) rfl
          cases hrx : redB (Z r) with
          | false =>
            go_wp2_with fail
            go_ret
            exact ⟨rfl, hbw.trans (hstep.mono (Nat.le_trans hB3s hs0))⟩
          | true =>
            have QX := Lib.hid (fun i (hi : i < 256) => And.intro (QB.out i hi).1 (redB_true hrx i hi))
            clear hrx
            go_wp2_with (first | (with_reducible refine at_loadx 43 17 rfl ?_; refine wpList_load_arrW Tryd.underlying43 iP rfl _ rfl _ rfl (ga) ?_))
            refine (lwWithin (fun i => mred (Z r i)) (ss s 4 - 1) (ss s 4) _ (by omega) (by omega) (by omega) (by omega) (fun i _ => ⟨mred_lo _, mred_hi _⟩)).mono ?_
            rintro e w6 ⟨rfl, hb6⟩
            have hstep := belowChain hstep hb6 hstep.size
            have ga := ga.below hb6
            have fs6 := fs5.below hb6
            have hc4 := fs6.cellv 4 (ss s 4) (by omega) rfl
            clear hb6 fs5
            cases hwi : withB (fun i => mred (Z r i)) (ss s 4 - 1) (ss s 4) with
            | false =>
              go_wp2_with fail
              go_ret
              exact ⟨rfl, hbw.trans (hstep.mono (Nat.le_trans hB3s hs0))⟩
            | true =>
              have HF := Lib.hid (show ∀ i, i < 256 → 0 ≤ pval s (Z r) i ∧ pval s (Z r) i < 2 ^ dd s from fun i hi => by have := withB_true hwi i hi; have := hdp.out; unfold pval; omega)
              clear hwi
              go_wp2_with (first | (with_reducible refine at_loadx 43 17 rfl ?_; refine wpList_load_arr Tryd.underlying43 iP rfl _ rfl _ rfl (ga) ?_))
              refine (spPackedFrom (fun i => mred (Z r i)) (dd s) (blN s) (ss s 4 - 1) (ss s 4) _ (by omega) (blN_lt s hs3) (blN_dd s) (by omega) (by omega) (by omega) (by omega) (by omega) (by omega) (fun i _ => ⟨mred_lo _, mred_hi _⟩) HF.out).mono ?_
              rintro e w7 ⟨gp, rfl, hgp, hbp, hb7⟩
              have hstep := belowChain hstep hb7 hstep.size
              have hown := ownsRow_below hown hstep
              have hbe := belowChain hbe hstep hs0
              have hs1 := hbe.size
              clear hb7 hstep hrow ga fs6 hc4
              go_wp2_with (first | (at_builtin; refine wpList_append_own _ rfl _ _ 22 rfl w2.heap.size 5 bi (.int .u8 0) 1 1 Tryd.underlying22 bi1 bi2 bi3 bi4 rfl (by decide) _ _ _ rfl (hown) ⟨gp, 0, none⟩ (32 * dd s) (32 * dd s) ((List.range (32 * dd s)).map fun j => Value.int .u8 (pby (dd s) (pval s (Z r)) 256 j)) rfl ?c1 ?c2 ?c3 ?c4 ?c5 ?c6 ?_))
              case c1 => simp
              case c2 => exact news_rd (Blk.rd (L := 0) hbp (by omega) (fun j _ => by rw [Nat.zero_add]; rfl))
              case c3 => exact one_bl (pby (dd s) (pval s (Z r)) 256) (32 * dd s)
              case c4 => simp only [maxLen]; omega
              case c5 => omega
              case c6 => exact hs1
              intro v7 w8 hown7 hgr7 _
              rw [bl_and (sgb s c (fun r => pval s (Z r)) (hrow H (om s) (kk s))) (pby (dd s) (pval s (Z r)) 256) (cc s + r * (32 * dd s)) (32 * dd s) (fun j hj => (sgb_row s hs3 c (fun r => pval s (Z r)) _ r j hlt hj).symm)] at hown7
              have hlt7 := hown.lt
              have hB7 := hbe.grown hgr7 hs1 (fun k hk => (hlt7 k hk).1)
              go_wp2_with fail
              go_roundw
              case rel => exact ⟨r + 1, by omega, by go_num, by rw [hsuc, ← Nat.add_assoc]; exact hown7, hB7, Lib.hid fun q hq => by
                by_cases e : q = r
                · subst e; exact ⟨QX.out, HF.out⟩
                · exact HQ.out q (by omega)⟩
              case measure => simp [intOf]; omega
        · obtain rfl : r = ll s := by omega
          have hmm : cc s + ll s * (32 * dd s) = mm s := rfl
          rw [hmm] at hown
          have hss : sgz s = mm s + (om s + kk s) := rfl
          have hsb := sgz_bd s hs3
          have fsr := fs.below hbe
          have f4r := f4.below hbe
          have HZr := Lib.hid ((HZ.out.mono hlc).below hbw)
          have HM8r := Lib.hid (HM8.out.below hbe)
          have HMBr := Lib.hid (HMB.out.below hbe)
          have hsl := slice64 ⟨w.heap.size, 0, none⟩ (cc s) (by omega)
          go_wp2_with fail
          have e0 : Blk { wr with drawn := wr.drawn + 1 } w1.heap.size .i64 8 (ss s) 24 := fsr
          refine wp_region_mids (C := fun w' => Blk w' w1.heap.size .i64 8 (ss s) 24) [0, 1, 2, 3, 4, 5, 7, 8, 9] 5 (by kernel_rfl) (by kernel_rfl) (fun _ _ d _ _ h => by cases d <;> exact h) e0 (by kernel_rfl) ?_
          simp only [opsAt, List.filterMap_cons, List.filterMap_nil, List.getElem?_toArray, List.getElem?_cons_succ, List.getElem?_cons_zero]
          change wpQuiet _ _ _ _ (_ :: _ :: _ :: _ :: _ :: _ :: _ :: _ :: _ :: []) _
          (first | go_big_quiet_skip | (go_big_quiet_want; go_big_quiet_op; first | go_big_quiet_on | (apply Exists.intro; refine ⟨fun _ _ => rfl, ?_⟩; go_big_quiet_on)))
          (first | go_big_quiet_skip | (go_big_quiet_want; go_big_quiet_op; first | go_big_quiet_on | (apply Exists.intro; refine ⟨fun _ _ => rfl, ?_⟩; go_big_quiet_on)))
          (refine BigFrame.wpQuiet_want rfl (fun K hK => ?_); refine quiet_load_int 3 _ rfl _ 7 rfl .i64 (cc s : Int) Tryd.isAgg3 (fun w' hw' => hw'.cellv 7 _ (by omega) (cc_ss s hs3)) (hK _ ?_); clear hK K; simp only [Act.put, List.setIfInBounds_toArray, List.set_cons_zero, List.set_cons_succ])
          (first | go_big_quiet_skip | (go_big_quiet_want; go_big_quiet_op; first | go_big_quiet_on | (apply Exists.intro; refine ⟨fun _ _ => rfl, ?_⟩; go_big_quiet_on)))
          (first | go_big_quiet_skip | (go_big_quiet_want; go_big_quiet_op; first | go_big_quiet_on | (apply Exists.intro; refine ⟨fun _ _ => rfl, ?_⟩; go_big_quiet_on)))
          (first | go_big_quiet_skip | (go_big_quiet_want; go_big_quiet_op; first | go_big_quiet_on | (apply Exists.intro; refine ⟨fun _ _ => rfl, ?_⟩; go_big_quiet_on)))
          (first | go_big_quiet_skip | (go_big_quiet_want; go_big_quiet_op; first | go_big_quiet_on | (apply Exists.intro; refine ⟨fun _ _ => rfl, ?_⟩; go_big_quiet_on)))
          (refine BigFrame.wpQuiet_want rfl (fun K hK => ?_); refine quiet_load_s Tryd.underlying24 rfl iSet _ rfl _ rfl (fun w' hw' => hw') (hK _ ?_); clear hK K; simp only [Act.put, List.setIfInBounds_toArray, List.set_cons_zero, List.set_cons_succ])
          (first | go_big_quiet_skip | (go_big_quiet_want; go_big_quiet_op; first | go_big_quiet_on | (apply Exists.intro; refine ⟨fun _ _ => rfl, ?_⟩; go_big_quiet_on)))
          refine wpQuiet_nil ?_
          have hstep0 : Below wr.heap.size wr { wr with drawn := wr.drawn + 1 } := abv_drawn wr
          obtain ⟨Wd, hWd⟩ : ∃ Wd : World, Wd = { wr with drawn := wr.drawn + 1 } := ⟨_, rfl⟩
          rw [← hWd] at e0 hstep0 ⊢
          clear hWd
          have hownd := ownsRow_below hown hstep0
          have hbd := belowChain hbe hstep0 hs0
          have hbwd := belowChain hbw hstep0 (Nat.le_trans hB3s hs0)
          have hs2 := hbd.size
          have hltd := hownd.lt
          clear hown hstep0 hsl hbw hbe
          refine anyH_of_seq [6, 10, 11, 12, 13] _ _ _ (by kernel_rfl) ?_
          refine seqH_call _ rfl rfl 20 _ _ rfl (by kernel_rfl) #[.int .i64 (nm s), .slice (some ⟨w.heap.size, 0, none⟩) (cc s) 64, .slice (some x) (ll s) cz, .slice (some ⟨g8, 0, none⟩) (kk s) c8] (by simp only [List.map_toArray, List.map_cons, List.map_nil]; rfl) ?_
          refine (implSigEncode s 64 cz c8 ⟨w.heap.size, 0, none⟩ x ⟨g8, 0, none⟩ c Z H _ hs3 (hp.below hbwd) (Blk.rd (L := 0) (f4.below hbd) (by omega) (fun j _ => by rw [Nat.zero_add])) ((HZ.out.mono hlc).below hbwd) (HM8.out.below hbd) HCO.out (fun q hq => (HQ.out q hq).1) (fun q hq => (HQ.out q hq).2)).mono ?_
          rintro e w5 ⟨g5, rfl, hg5, h5, hb5⟩
          have hownd := ownsRow_below hownd hb5
          have hbd := belowChain hbd hb5 hs2
          have hbwd := belowChain hbwd hb5 (Nat.le_trans hB3s hs2)
          refine ⟨_, rfl, e0.below hb5, ?_⟩
          have e0 := e0.below hb5
          simp only [List.getElem_toArray, List.getElem_cons_succ, List.getElem_cons_zero, Act.put, List.setIfInBounds_toArray, List.set_cons_zero, List.set_cons_succ]
          refine seqH_call _ rfl rfl 21 _ _ rfl (by kernel_rfl) #[.agg (arr .i64 8 (ss s)), .slice (some ⟨gb, 0, none⟩) (kk s) cb] (by simp only [List.map_toArray, List.map_cons, List.map_nil]; rfl) ?_
          refine (packHints s gb cb H _ hs3 (HMB.out.below hbd) HCO.out).mono ?_
          rintro e w6 ⟨g6, rfl, hg6, h6, hb6⟩
          have hs5 := hbd.size
          have hownd := ownsRow_below hownd hb6
          have hbd := belowChain hbd hb6 hs5
          have hbwd := belowChain hbwd hb6 (Nat.le_trans hB3s hs5)
          have h5 := h5.below hb6
          refine ⟨_, rfl, e0.below hb6, ?_⟩
          have e0 := e0.below hb6
          have hs6 := hbd.size
          have hne5 := owns_ne hownd e0 (by decide)
          simp only [List.getElem_toArray, List.getElem_cons_succ, List.getElem_cons_zero, Act.put, List.setIfInBounds_toArray, List.set_cons_zero, List.set_cons_succ]
          refine wpOp_append_own _ rfl rfl _ _ 22 rfl w2.heap.size 5 bi (.int .u8 0) 1 1 Tryd.underlying22 bi1 bi2 bi3 bi4 rfl (by decide) _ _ _ rfl hownd ⟨g6, 0, none⟩ (om s + kk s) (om s + kk s) ((List.range (om s + kk s)).map fun j => Value.int .u8 ((hrow H (om s) (kk s)) j)) rfl (by simp) (news_rd (Blk.rd (L := 0) h6 (by omega) (fun j _ => by rw [Nat.zero_add]))) (one_bl (hrow H (om s) (kk s)) (om s + kk s)) (by simp only [maxLen]; omega) (by omega) hs6 ?_
          intro v7 w7 hown7 hgr7
          rw [bl_and (sgb s c (fun r => pval s (Z r)) (hrow H (om s) (kk s))) (hrow H (om s) (kk s)) (mm s) (om s + kk s) (fun j _ => (sgb_hint s c _ _ j).symm)] at hown7
          have hlt7 := hownd.lt
          have hB7 := hbd.grown hgr7 hs6 (fun k hk => (hlt7 k hk).1)
          have h5 : Blk w7 g5 .u8 (sgz s) (sgb s c (fun r => pval s (Z r)) (hrow H (om s) (kk s))) 5 := by
            unfold Blk at *
            rw [hgr7.block g5 (Array.getElem?_eq_some_iff.1 h5).1 (fun e => by have := (hltd g5 e.symm).2; omega)]
            exact h5
          have hbwd := hB3.trans (hB7.mono hB3s)
          have e0 : Blk w7 w1.heap.size .i64 8 (ss s) 24 := by
            unfold Blk at *
            rw [hgr7.block w1.heap.size (Array.getElem?_eq_some_iff.1 e0).1 (fun e => hne5 e.symm)]
            exact e0
          rw [← hss] at hown7
          obtain ⟨g9, c9, rfl, hg9, _, _, hr9⟩ := rd_of_owns (by omega) hown7
          refine ⟨e0, ?_⟩
          simp only [List.getElem_toArray, List.getElem_cons_succ, List.getElem_cons_zero, Act.put, List.setIfInBounds_toArray, List.set_cons_zero, List.set_cons_succ]
          refine seqH_call _ rfl rfl 11 _ _ rfl (by kernel_rfl) #[.slice (some ⟨g5, 0, none⟩) (sgz s) (sgz s), .slice (some ⟨g9, 0, none⟩) (sgz s) c9] (by simp only [List.map_toArray, List.map_cons, List.map_nil]; rfl) ?_
          refine (lwAlike ⟨g5, 0, none⟩ ⟨g9, 0, none⟩ (sgz s) _ _ _ _ _ (Blk.rd (L := 0) h5 (by omega) (fun j _ => by rw [Nat.zero_add])) hr9 (fun _ _ => rfl)).mono ?_
          rintro e w' ⟨rfl, rfl⟩
          refine ⟨_, rfl, e0, ?_⟩
          simp only [List.getElem_toArray, List.getElem_cons_succ, List.getElem_cons_zero, Act.put, List.setIfInBounds_toArray, List.set_cons_zero, List.set_cons_succ]
          refine wpOp_assign _ rfl rfl _ rfl ⟨e0, ?_⟩
          refine seqH_nil ?_
          go_wp2_with fail
          go_ret
          exact ⟨rfl, hbwd⟩
    · have hne : ((lz : Int) != ((ll s : Nat) : Int)) = true := by simp; omega
      go_wp2_with fail
      go_ret
      exact ⟨rfl, hB3⟩

end Go.Proofs.YtanfpnidlgejhaaDoor
