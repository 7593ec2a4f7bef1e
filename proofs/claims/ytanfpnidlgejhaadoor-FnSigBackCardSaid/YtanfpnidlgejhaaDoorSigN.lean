/-
  Hints read and written: the plain law.
-/
import Derived.Test.YtanfpnidlgejhaaDoorHint10
import Derived.Test.YtanfpnidlgejhaaDoorSig3
import Derived.Test.YtanfpnidlgejhaaDoorHint8
import Derived.Test.YtanfpnidlgejhaaDoorSig7
import Derived.Test.YtanfpnidlgejhaaDoorPackE
namespace Go.Proofs.YtanfpnidlgejhaaDoor
open Go.RowKit

set_option maxRecDepth 100000 in
theorem drow_zero (b : Nat → Int) (O : Nat) (hb : ∀ i, i < O → 0 ≤ b i ∧ b i < 256) (K : Nat) : (∀ r, r < K → ee b O r ≤ O) → ∀ p, K * 256 ≤ p → drow b O K p = 0 := by
  induction K with
  | zero => exact fun _ _ _ => rfl
  | succ K ih =>
    intro hO p hp
    have hp2 : K * 256 ≤ p := by omega
    have ih := ih (fun r hr => hO r (Nat.lt_succ_of_lt hr)) p hp2
    have h1 := hO K (Nat.lt_succ_self K)
    have h : din b K (drow b O K) (st b O K) (ee b O K - st b O K) p = drow b O K p := by
      refine din_off b K (drow b O K) (st b O K) p (ee b O K - st b O K) (fun k hk => ?_)
      have h2 := hb (st b O K + k) (by omega)
      generalize b (st b O K + k) = t at *
      omega
    exact h.trans ih
set_option maxRecDepth 100000 in
theorem drow_at (b : Nat → Int) (O : Nat) (hb : ∀ i, i < O → 0 ≤ b i ∧ b i < 256) : ∀ K, (∀ r, r < K → ee b O r ≤ O) → ∀ r, r < K → ∀ c : Nat, c < 256 → (drow b O K (r * 256 + c) ≠ 0 ↔ ∃ k, st b O r ≤ k ∧ k < ee b O r ∧ b k = (c : Int))
  | 0, _, r, hr, _, _ => by omega
  | K + 1, hO, r, hr, c, hc => by
    have h1 := hO K (by omega)
    rw [drow]
    by_cases e : r = K
    · subst e
      by_cases h : ∃ k, st b O r ≤ k ∧ k < ee b O r ∧ b k = (c : Int)
      · obtain ⟨k, k0, k1, k2⟩ := h
        have h3 := din_hit b r (drow b O r) (st b O r) (k - st b O r) (ee b O r - st b O r) (by omega)
        rw [show st b O r + (k - st b O r) = k from by omega, k2, Int.toNat_natCast] at h3
        rw [h3]
        exact ⟨fun _ => ⟨k, k0, k1, k2⟩, fun _ => by decide⟩
      · rw [din_off _ _ _ _ _ _ (fun k hk he => h ⟨st b O r + k, by omega, by omega, by
          have := hb (st b O r + k) (by omega)
          omega⟩), drow_zero b O hb r (fun q hq => hO q (by omega)) _ (by omega : r * 256 ≤ r * 256 + c)]
        exact ⟨fun h0 => absurd rfl h0, fun h0 => absurd h0 h⟩
    · rw [din_off _ _ _ _ _ _ (fun k hk => by omega)]
      exact drow_at b O hb K (fun q hq => hO q (by omega)) r (by omega) c hc
theorem row_inc {b : Nat → Int} {O r : Nat} (h : okR b O r) (k : Nat) (hk : st b O r ≤ k) : ∀ d, k + d + 1 < ee b O r → b k < b (k + d + 1)
  | 0, h2 => by
    have := h.2.2 (k + 1) (by omega) h2
    simpa using this
  | d + 1, h2 => by
    have h3 := row_inc h k hk d (by omega)
    have h4 := h.2.2 (k + (d + 1) + 1) (by omega) h2
    rw [show k + (d + 1) + 1 - 1 = k + d + 1 from by omega] at h4
    omega
theorem row_lt {b : Nat → Int} {O r : Nat} (h : okR b O r) {k l : Nat} (hk : st b O r ≤ k) (hl : k < l) (h2 : l < ee b O r) : b k < b l := by
  have := row_inc h k hk (l - k - 1) (by omega)
  rwa [show k + (l - k - 1) + 1 = l from by omega] at this
theorem row_scan {b : Nat → Int} {O r : Nat} {H : Nat → Nat → Bool} {f : Nat → Int} (hok : okR b O r) (hH : ∀ c : Nat, c < 256 → (H r c = true ↔ ∃ k, st b O r ≤ k ∧ k < ee b O r ∧ b k = (c : Int))) (hb : ∀ i, i < O → 0 ≤ b i ∧ b i < 256) (hs : hc H (256 * r) = st b O r) :
    ∀ c : Nat, c ≤ 256 → ∃ m, hc H (256 * r + c) = m ∧ st b O r ≤ m ∧ m ≤ ee b O r ∧ (∀ k, st b O r ≤ k → k < m → b k < (c : Int)) ∧ (∀ k, m ≤ k → k < ee b O r → (c : Int) ≤ b k) ∧ ∀ i, hin H f r c i = if st b O r ≤ i ∧ i < m then b i else f i
  | 0, _ => ⟨st b O r, by rw [Nat.add_zero, hs], Nat.le_refl _, hok.1, fun k h1 h2 => by omega, fun k h1 h2 => by
      have h3 := hok.2.1
      exact (hb k (by omega)).1, fun i => by rw [hin, if_neg (by omega)]⟩
  | c + 1, hc => by
    obtain ⟨m, h1, h2, h3, h4, h5, h6⟩ := row_scan hok hH hb hs c (by omega)
    have ha := hc_at H r c (by omega)
    cases h : H r c with
    | true =>
      obtain ⟨k, k0, k1, k2⟩ := (hH c (by omega)).1 h
      have hkm : m ≤ k := by
        apply Classical.byContradiction
        intro hn
        have := h4 k k0 (by omega)
        omega
      have hm : m = k := by
        apply Classical.byContradiction
        intro hn
        have h7 := row_lt hok h2 (show m < k by omega) k1
        have h8 := h5 m (Nat.le_refl _) (by omega)
        omega
      subst hm
      refine ⟨m + 1, by rw [ha, h, h1]; rfl, by omega, by omega, fun q q0 q1 => ?_, fun q q0 q1 => ?_, fun i => ?_⟩
      · by_cases e : q = m
        · rw [e, k2]; omega
        · have := h4 q q0 (by omega)
          omega
      · have := row_lt hok h2 (show m < q by omega) q1
        omega
      · rw [hin, h, if_pos rfl, upd, h1, h6]
        by_cases e : i = m
        · subst e; rw [if_pos rfl, if_pos (by omega), k2]
        · rw [if_neg e]
          by_cases e2 : st b O r ≤ i ∧ i < m
          · rw [if_pos e2, if_pos (by omega)]
          · rw [if_neg e2, if_neg (by omega)]
    | false =>
      have hno : ∀ k, st b O r ≤ k → k < ee b O r → b k ≠ (c : Int) := fun k k0 k1 k2 => by
        have := (hH c (by omega)).2 ⟨k, k0, k1, k2⟩
        rw [h] at this
        cases this
      refine ⟨m, by rw [ha, h, h1]; simp, h2, h3, fun q q0 q1 => ?_, fun q q0 q1 => ?_, fun i => ?_⟩
      · have := h4 q q0 q1
        omega
      · have h7 := h5 q q0 q1
        have h8 := hno q (by omega) q1
        omega
      · rw [hin, h]
        simp only [Bool.false_eq_true, if_false]
        exact h6 i
/-- The hints that bytes tell. -/
def hbits (b : Nat → Int) (O K : Nat) (r c : Nat) : Bool := decide (drow b O K (r * 256 + c) ≠ 0)
theorem hrow_back {b : Nat → Int} {O K : Nat} (hok : okA b O K) (hb : ∀ i, i < O + K → 0 ≤ b i ∧ b i < 256) : ∀ r, r ≤ K → hc (hbits b O K) (256 * r) = st b O r ∧ ∀ i, hrow (hbits b O K) O r i = if i < st b O r ∨ (O ≤ i ∧ i < O + r) then b i else 0
  | 0, _ => ⟨rfl, fun i => by rw [hrow, if_neg (by simp only [st]; omega)]⟩
  | r + 1, hr => by
    obtain ⟨h1, h2⟩ := hrow_back hok hb r (by omega)
    have hrr := hok.1 r (by omega)
    have hb' : ∀ i, i < O → 0 ≤ b i ∧ b i < 256 := fun i hi => hb i (by omega)
    obtain ⟨m, m1, m2, m3, m4, m5, m6⟩ := row_scan (f := hrow (hbits b O K) O r) hrr (fun c hc => by
      unfold hbits
      rw [decide_eq_true_iff]
      exact drow_at b O hb' K (fun q hq => (hok.1 q hq).2.1) r (by omega) c hc) hb' h1 256 (Nat.le_refl _)
    have hme : m = ee b O r := by
      apply Classical.byContradiction
      intro hn
      have h3 := m5 m (Nat.le_refl _) (by omega)
      have h4 := hrr.2.1
      have h5 := hb' m (by omega)
      omega
    subst hme
    have he : hc (hbits b O K) (256 * (r + 1)) = ee b O r := by rw [show 256 * (r + 1) = 256 * r + 256 from by omega]; exact m1
    refine ⟨he, fun i => ?_⟩
    have h4 := hrr.2.1
    have h5 := hrr.1
    rw [hrow, upd, he, m6, h2]
    have hO := hb (O + r) (by omega)
    have heq : ((ee b O r : Nat) : Int) = b (O + r) := by unfold ee; omega
    show (if i = O + r then ((ee b O r : Nat) : Int) else _) = if i < ee b O r ∨ (O ≤ i ∧ i < O + (r + 1)) then b i else 0
    by_cases e : i = O + r
    · subst e
      rw [if_pos rfl, if_pos (by omega), heq]
    · rw [if_neg e]
      by_cases e2 : st b O r ≤ i ∧ i < ee b O r
      · rw [if_pos e2, if_pos (by omega)]
      · rw [if_neg e2]
        by_cases e3 : i < st b O r ∨ (O ≤ i ∧ i < O + r)
        · rw [if_pos e3, if_pos (by omega)]
        · rw [if_neg e3, if_neg (by omega)]
theorem hrow_there {b : Nat → Int} {O K : Nat} (hok : okA b O K) (hb : ∀ i, i < O + K → 0 ≤ b i ∧ b i < 256) (i : Nat) (hi : i < O + K) : hrow (hbits b O K) O K i = b i := by
  have h := (hrow_back hok hb K (Nat.le_refl _)).2 i
  rw [h]
  by_cases e : i < st b O K ∨ (O ≤ i ∧ i < O + K)
  · rw [if_pos e]
  · rw [if_neg e, hok.2 i (by omega) (by omega)]
theorem hbits_le {b : Nat → Int} {O K : Nat} (hok : okA b O K) (hb : ∀ i, i < O + K → 0 ≤ b i ∧ b i < 256) : hc (hbits b O K) (256 * K) ≤ O := by
  rw [(hrow_back hok hb K (Nat.le_refl _)).1]
  cases K with
  | zero => exact Nat.zero_le _
  | succ K => exact (hok.1 K (by omega)).2.1
theorem hbits_hb (b : Nat → Int) (O K r c : Nat) : drow b O K (r * 256 + c) = hb (hbits b O K) r c := by
  unfold hb hbits
  rcases drow01 b O K (r * 256 + c) with h | h <;> simp [h]
theorem zrow_bd (s : Nat) (b : Nat → Int) (r i : Nat) : 0 ≤ zrow s b r i ∧ zrow s b r i < 8380417 := by
  unfold zrow uval
  omega
theorem pval_zrow (s : Nat) (hs : s < 3) (b : Nat → Int) (r i : Nat) : 0 ≤ pval s (zrow s b r) i ∧ pval s (zrow s b r) i < 2 ^ dd s := by
  unfold zrow
  rw [pval_uval s _ hs i]
  exact ubits_bd _ _ _ _
theorem sgb_there (s : Nat) (hs : s < 3) (b : Nat → Int) (hok : okA (hby s b) (om s) (kk s)) (hb : ∀ i, i < sgz s → 0 ≤ b i ∧ b i < 256) (i : Nat) (hi : i < sgz s) :
    sgb s b (fun r => pval s (zrow s b r)) (hrow (hbits (hby s b) (om s) (kk s)) (om s) (kk s)) i = b i := by
  have hd := dd_bd s hs
  have hl := ll_bd s hs
  have hbh : ∀ i, i < om s + kk s → 0 ≤ hby s b i ∧ hby s b i < 256 := fun i hi => hb _ (by unfold sgz; omega)
  by_cases h1 : i < mm s
  · rw [sgb_at _ _ _ _ _ h1]
    by_cases h2 : i < cc s
    · rw [sgm_ch _ _ _ _ h2]
    · obtain ⟨W, hW⟩ : ∃ W, W = 32 * dd s := ⟨_, rfl⟩
      have hmm : mm s = cc s + ll s * W := by rw [hW]; rfl
      obtain ⟨r, j, hr, hj, he⟩ : ∃ r j, r < ll s ∧ j < W ∧ i = cc s + r * W + j := by
        refine ⟨(i - cc s) / W, (i - cc s) % W, ?_, Nat.mod_lt _ (by omega), ?_⟩
        · rw [Nat.div_lt_iff_lt_mul (by omega)]
          omega
        · have := Nat.div_add_mod (i - cc s) W
          rw [Nat.mul_comm] at this
          omega
      have h3 : (r + 1) * W ≤ ll s * W := Nat.mul_le_mul_right _ (by omega)
      rw [Nat.succ_mul] at h3
      have h4 : mm s ≤ sgz s := by unfold sgz; omega
      subst hW
      rw [he, sgm_row s hs _ _ _ _ hj]
      unfold zrow
      rw [pby_uval s (fun j => b (cc s + r * (32 * dd s) + j)) hs (fun k hk => hb _ (by omega)) j hj]
  · obtain ⟨j, rfl⟩ : ∃ j, i = mm s + j := ⟨i - mm s, by omega⟩
    rw [sgb_hint, hrow_there hok hbh j (by unfold sgz at hi; omega)]
    rfl
end Go.Proofs.YtanfpnidlgejhaaDoor
