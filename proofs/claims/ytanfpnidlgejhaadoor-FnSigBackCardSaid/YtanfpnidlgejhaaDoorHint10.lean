/-
  Hints written and read: the plain law.
-/
import Derived.Test.YtanfpnidlgejhaaDoorHint5
namespace Go.Proofs.YtanfpnidlgejhaaDoor
open Go.RowKit
theorem hc_true {H : Nat → Nat → Bool} {r j : Nat} (hj : j < 256) (h : H r j = true) : hc H (256 * r + (j + 1)) = hc H (256 * r + j) + 1 := by
  rw [hc_at H r j hj, h]; rfl
/-- A byte told while row r is written. -/
theorem hin_hit (H : Nat → Nat → Bool) (f : Nat → Int) (r : Nat) : ∀ J, J ≤ 256 → ∀ j, j < J → H r j = true → hin H f r J (hc H (256 * r + j)) = j
  | 0, _, j, hj, _ => by omega
  | J + 1, hJ, j, hj, h => by
    rw [hin]
    by_cases e : j = J
    · subst e
      rw [if_pos h, upd, if_pos rfl]
    · have hlt : hc H (256 * r + j) < hc H (256 * r + J) := by
        have h1 := hc_true (by omega) h
        have h2 := hc_le H (show 256 * r + (j + 1) ≤ 256 * r + J by omega)
        omega
      have ih := hin_hit H f r J (by omega) j (by omega) h
      split
      · rw [upd, if_neg (by omega), ih]
      · exact ih
theorem hin_off (H : Nat → Nat → Bool) (f : Nat → Int) (r : Nat) : ∀ J, J ≤ 256 → ∀ i, (i < hc H (256 * r) ∨ hc H (256 * r + J) ≤ i) → hin H f r J i = f i
  | 0, _, i, _ => rfl
  | J + 1, hJ, i, hi => by
    have h0 := hc_le H (show 256 * r ≤ 256 * r + J by omega)
    have h1 := hc_at H r J (by omega)
    have ih := hin_off H f r J (by omega) i (by omega)
    rw [hin]
    split
    · rename_i h
      rw [h] at h1
      simp only [if_true] at h1
      rw [upd, if_neg (by omega), ih]
    · exact ih
theorem hrow_hit (H : Nat → Nat → Bool) (O : Nat) : ∀ r, hc H (256 * r) ≤ O → ∀ q, q < r → ∀ j, j < 256 → H q j = true → hrow H O r (hc H (256 * q + j)) = j
  | 0, _, q, hq, _, _, _ => by omega
  | r + 1, hO, q, hq, j, hj, h => by
    have h1 := hc_true hj h
    have h2 := hc_le H (show 256 * q + (j + 1) ≤ 256 * (r + 1) by omega)
    rw [hrow, upd, if_neg (by omega)]
    by_cases e : q = r
    · subst e
      exact hin_hit H _ q 256 (Nat.le_refl _) j hj h
    · have h3 := hc_le H (show 256 * q + (j + 1) ≤ 256 * r by omega)
      have h4 := hc_le H (show 256 * r ≤ 256 * (r + 1) by omega)
      rw [hin_off H _ r 256 (Nat.le_refl _) _ (.inl (by omega))]
      exact hrow_hit H O r (by omega) q (by omega) j hj h
theorem hrow_end (H : Nat → Nat → Bool) (O : Nat) : ∀ r, hc H (256 * r) ≤ O → ∀ q, q < r → hrow H O r (O + q) = hc H (256 * (q + 1))
  | 0, _, q, hq => by omega
  | r + 1, hO, q, hq => by
    have h4 := hc_le H (show 256 * r ≤ 256 * (r + 1) by omega)
    rw [hrow, upd]
    by_cases e : q = r
    · rw [e, if_pos rfl]
    · rw [if_neg (by omega), hin_off H _ r 256 (Nat.le_refl _) _ (.inr (by rw [show 256 * r + 256 = 256 * (r + 1) from by omega]; omega))]
      exact hrow_end H O r (by omega) q (by omega)
theorem hrow_zero (H : Nat → Nat → Bool) (O : Nat) : ∀ r, hc H (256 * r) ≤ O → ∀ i, hc H (256 * r) ≤ i → i < O → hrow H O r i = 0
  | 0, _, i, _, _ => rfl
  | r + 1, hO, i, h1, h2 => by
    have h4 := hc_le H (show 256 * r ≤ 256 * (r + 1) by omega)
    rw [hrow, upd, if_neg (by omega), hin_off H _ r 256 (Nat.le_refl _) _ (.inr (by rw [show 256 * r + 256 = 256 * (r + 1) from by omega]; exact h1))]
    exact hrow_zero H O r (by omega) i (by omega) h2
/-- Each place behind a row's start is told by a hint. -/
theorem hc_at_place (H : Nat → Nat → Bool) (r : Nat) : ∀ J, J ≤ 256 → ∀ i, hc H (256 * r) ≤ i → i < hc H (256 * r + J) → ∃ j, j < J ∧ H r j = true ∧ hc H (256 * r + j) = i
  | 0, _, i, h1, h2 => by rw [Nat.add_zero] at h2; omega
  | J + 1, hJ, i, h1, h2 => by
    by_cases e : i < hc H (256 * r + J)
    · obtain ⟨j, hj, h3, h4⟩ := hc_at_place H r J (by omega) i h1 e
      exact ⟨j, by omega, h3, h4⟩
    · have h3 := hc_at H r J (by omega)
      cases h : H r J with
      | true => rw [h] at h3; simp only [if_true] at h3; exact ⟨J, by omega, h, by omega⟩
      | false => rw [h] at h3; simp at h3; omega
theorem hrow_st (H : Nat → Nat → Bool) (O K : Nat) (hO : hc H (256 * K) ≤ O) : ∀ r, r ≤ K → st (hrow H O K) O r = hc H (256 * r)
  | 0, _ => rfl
  | r + 1, hr => by rw [st, ee, hrow_end H O K hO r (by omega), Int.toNat_natCast]
theorem hrow_ok (H : Nat → Nat → Bool) (O K : Nat) (hO : hc H (256 * K) ≤ O) : okA (hrow H O K) O K := by
  refine ⟨fun r hr => ?_, fun i h1 h2 => ?_⟩
  · have he : ee (hrow H O K) O r = hc H (256 * (r + 1)) := hrow_st H O K hO (r + 1) hr
    have hs := hrow_st H O K hO r (by omega)
    have h4 := hc_le H (show 256 * r ≤ 256 * (r + 1) by omega)
    have h5 := hc_le H (show 256 * (r + 1) ≤ 256 * K by omega)
    unfold okR
    rw [he, hs]
    refine ⟨h4, by omega, fun i h1 h2 => ?_⟩
    rw [show 256 * (r + 1) = 256 * r + 256 from by omega] at h2
    obtain ⟨j1, hj1, t1, e1⟩ := hc_at_place H r 256 (Nat.le_refl _) (i - 1) (by omega) (by omega)
    obtain ⟨j2, hj2, t2, e2⟩ := hc_at_place H r 256 (Nat.le_refl _) i (by omega) h2
    have b1 := hrow_hit H O K hO r hr j1 hj1 t1
    have b2 := hrow_hit H O K hO r hr j2 hj2 t2
    rw [e1] at b1
    rw [e2] at b2
    rw [b1, b2]
    have : j1 < j2 := by
      apply Classical.byContradiction
      intro hn
      have := hc_le H (show 256 * r + j2 ≤ 256 * r + j1 by omega)
      omega
    omega
  · rw [hrow_st H O K hO K (Nat.le_refl _)] at h1
    exact hrow_zero H O K hO i h1 h2
theorem din_off (b : Nat → Int) (r : Nat) (f : Nat → Int) (a : Nat) (p : Nat) : ∀ n, (∀ k, k < n → p ≠ r * 256 + (b (a + k)).toNat) → din b r f a n p = f p
  | 0, _ => rfl
  | n + 1, h => by
    rw [din, upd, if_neg (h n (by omega))]
    exact din_off b r f a p n fun k hk => h k (by omega)
theorem din_hit (b : Nat → Int) (r : Nat) (f : Nat → Int) (a : Nat) (k : Nat) : ∀ n, k < n → din b r f a n (r * 256 + (b (a + k)).toNat) = 1
  | 0, h => by omega
  | n + 1, h => by
    rw [din, upd]
    split
    · rfl
    · rename_i hn
      exact din_hit b r f a k n (by
        apply Classical.byContradiction
        intro h2
        have : k = n := by omega
        subst this
        exact hn rfl)
theorem drow_back (H : Nat → Nat → Bool) (O K : Nat) (hO : hc H (256 * K) ≤ O) : ∀ r, r ≤ K → ∀ q c, c < 256 → drow (hrow H O K) O r (q * 256 + c) = if q < r then hb H q c else 0
  | 0, _, q, c, _ => by simp [drow]
  | r + 1, hr, q, c, hc0 => by
    have he : ee (hrow H O K) O r = hc H (256 * (r + 1)) := hrow_st H O K hO (r + 1) hr
    have hs := hrow_st H O K hO r (by omega)
    have h4 := hc_le H (show 256 * r ≤ 256 * (r + 1) by omega)
    have ih := drow_back H O K hO r (by omega) q c hc0
    have pl : ∀ k, k < hc H (256 * (r + 1)) - hc H (256 * r) → ∃ j, j < 256 ∧ H r j = true ∧ (hrow H O K (hc H (256 * r) + k)).toNat = j := fun k hk => by
      obtain ⟨j, h1, h2, h3⟩ := hc_at_place H r 256 (Nat.le_refl _) (hc H (256 * r) + k) (by omega) (by rw [show 256 * r + 256 = 256 * (r + 1) from by omega]; omega)
      refine ⟨j, h1, h2, ?_⟩
      have := hrow_hit H O K hO r (by omega) j h1 h2
      rw [h3] at this
      rw [this, Int.toNat_natCast]
    rw [drow, he, hs]
    by_cases e : q = r
    · subst e
      rw [if_pos (by omega)]
      rw [if_neg (by omega)] at ih
      cases h : H q c with
      | true =>
        have h1 := hrow_hit H O K hO q (by omega) c hc0 h
        have h2 := hc_true hc0 h
        have h3 := hc_le H (show 256 * q + (c + 1) ≤ 256 * (q + 1) by omega)
        have h5 := hc_le H (show 256 * q ≤ 256 * q + c by omega)
        have hd := din_hit (hrow H O K) q (drow (hrow H O K) O q) (hc H (256 * q)) (hc H (256 * q + c) - hc H (256 * q)) (hc H (256 * (q + 1)) - hc H (256 * q)) (by omega)
        rw [show hc H (256 * q) + (hc H (256 * q + c) - hc H (256 * q)) = hc H (256 * q + c) from by omega, h1, Int.toNat_natCast] at hd
        rw [hd, hb, h]; rfl
      | false =>
        rw [din_off _ _ _ _ _ _ (fun k hk => by
          obtain ⟨j, h1, h2, h3⟩ := pl k hk
          rw [h3]
          intro e
          have : c = j := by omega
          subst this
          rw [h] at h2
          cases h2), ih, hb, h]; rfl
    · rw [din_off _ _ _ _ _ _ (fun k hk => by
        obtain ⟨j, h1, h2, h3⟩ := pl k hk
        rw [h3]
        omega), ih]
      by_cases e2 : q < r
      · rw [if_pos e2, if_pos (by omega)]
      · rw [if_neg e2, if_neg (by omega)]
end Go.Proofs.YtanfpnidlgejhaaDoor
