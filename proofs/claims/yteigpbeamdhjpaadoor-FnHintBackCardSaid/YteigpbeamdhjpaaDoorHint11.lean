/-
  Hints written and read: the law.
-/
import Derived.Test.YteigpbeamdhjpaaDoorHint9
import Derived.Test.YteigpbeamdhjpaaDoorHint10
namespace Go.Proofs.YteigpbeamdhjpaaDoor
open Go.RowKit

theorem hin_bd (H : Nat → Nat → Bool) (r : Nat) {f : Nat → Int} (h : ∀ i, 0 ≤ f i ∧ f i < 256) : ∀ J, J ≤ 256 → ∀ i, 0 ≤ hin H f r J i ∧ hin H f r J i < 256
  | 0, _, i => h i
  | J + 1, hJ, i => by
    rw [hin]
    split
    · unfold upd
      split
      · omega
      · exact hin_bd H r h J (by omega) i
    · exact hin_bd H r h J (by omega) i
theorem hrow_bd (H : Nat → Nat → Bool) (O : Nat) (hO : O < 256) : ∀ r, hc H (256 * r) ≤ O → ∀ i, 0 ≤ hrow H O r i ∧ hrow H O r i < 256
  | 0, _, i => by simp [hrow]
  | r + 1, h, i => by
    have h4 := hc_le H (show 256 * r ≤ 256 * (r + 1) by omega)
    rw [hrow]
    unfold upd
    split
    · omega
    · exact hin_bd H r (hrow_bd H O hO r (by omega)) 256 (Nat.le_refl _) i

set_option maxRecDepth 100000 in
set_option maxHeartbeats 1000000 in
theorem walkFnHintBack (n : Int) (ad : Option Addr) (len cap : Nat) (Z : Nat → Nat → Bool) (w : World) (hp : Par w) (he4 : GErr w 4) (he5 : GErr w 5) (he6 : GErr w 6) (n0 : 0 ≤ n) (n1 : n < 256) (h : IsMatB w ad len cap Z) :
    Calls Tryd.prog 8 #[.int .u8 n, .slice ad len cap] w fun e w' => e = .returned (.bool true) ∧ Below w.heap.size w w' := by
  have hlm : len ≤ maxLen := by
    rcases h with ⟨_, h, _⟩ | ⟨x, ha, hl, hm, _⟩
    · rw [h]; exact Nat.zero_le _
    · omega
  simp only [maxLen] at hlm
  obtain ⟨s, hs⟩ : ∃ s : Nat, (s : Int) = n % 3 := ⟨(n % 3).toNat, by omega⟩
  have hs3 : s < 3 := by omega
  obtain ⟨hk0, hk1⟩ := kk_bd s hs3
  obtain ⟨ho0, ho1⟩ := om_bd s hs3
  have hm : len = 0 ∨ ∃ x, ad = some x ∧ MatB w x len Z := by
    rcases h with ⟨_, h, _⟩ | ⟨x, ha, hl, hm, hmm⟩
    · exact .inl h
    · exact .inr ⟨x, ha, hmm.mono hl⟩
  clear h
  have HM := Lib.hid hm; clear hm
  by_cases hg1 : 2147483647 < len
  · go_enter Tryd.func8, Tryd.ntmps8
    go_wp2_with fail
    go_ret
    exact ⟨rfl, Below.refl _ _⟩
  · go_enter Tryd.func8, Tryd.ntmps8
    go_wp2_with fail
    refine (lwSet _ s _ n0 n1 hs).mono ?_
    rintro e w1 ⟨rfl, hb1⟩
    clear hs
    have fs := (Blk.zeros8 w1 25 rfl).row .i64 (ss s)
    have hB2 := below_setRow (hb1.alloc hb1.size (.cells #[.int .i64 0, .int .i64 0, .int .i64 0, .int .i64 0, .int .i64 0, .int .i64 0, .int .i64 0, .int .i64 0] 25)) (g := w1.heap.size) hb1.size (arr .i64 8 (ss s))
    go_wp2_with (first | (with_reducible refine at_store 25 _ _ rfl ?_; refine wpList_store_arr iSet rfl _ _ rfl _ rfl rfl (Blk.zeros8 _ _ rfl) ?_) | (with_reducible refine at_load 25 _ rfl ?_; refine wpList_load_s Tryd.underlying25 rfl iSet rfl _ rfl _ rfl (fs) ?_))
    refine (hintsOfX s ad len cap Z _ hs3 (by omega) (by
      rcases HM.out with h0 | ⟨x, hx, hm⟩
      · exact .inl h0
      · exact .inr ⟨x, hx, hm.below hB2⟩)).mono ?_
    rintro e w2 ⟨⟨v, v8, rfl, hown, hown8⟩, hb2⟩
    have hB3 := belowChain hB2 hb2 hB2.size
    cases hok : decide (len = kk s) && decide (hc Z (256 * len) ≤ om s) with
    | false =>
      go_wp2_with fail
      go_ret
      exact ⟨rfl, hB3⟩
    | true =>
      obtain ⟨hlk, hco⟩ : len = kk s ∧ hc Z (256 * len) ≤ om s := by simpa using hok
      clear hok
      subst hlk
      obtain ⟨gb, cb, rfl, hgb, hmb⟩ := matB_of_owns (by omega) hown
      obtain ⟨a8, c8, rfl, hv8, _⟩ := matV_of_owns (k := .u8) (Z := hb Z) hown8
      obtain ⟨g8, rfl, hm8⟩ : ∃ g, a8 = some ⟨g, 0, none⟩ ∧ MatI .u8 w2 ⟨g, 0, none⟩ (kk s) (hb Z) := by
        rcases hv8 with h0 | ⟨g, h1, _, h2⟩
        · omega
        · exact ⟨g, h1, h2⟩
      clear hv8 hown hown8
      go_wp2_with fail
      refine (implHintEncode s c8 ⟨g8, 0, none⟩ Z _ hs3 (hp.below hB3) hm8 hco).mono ?_
      rintro e w4 ⟨g4, rfl, hg4, h4, hb4⟩
      have hB4 := belowChain hB3 hb4 hB3.size
      have hmb := hmb.below hb4
      go_wp2_with fail
      refine (implHintDecode s (om s + kk s) ⟨g4, 0, none⟩ (hrow Z (om s) (kk s)) _ hs3 (hp.below hB4) (he4.below hB4) (he5.below hB4) (he6.below hB4) (Blk.rd (L := 0) h4 (by omega) (fun j _ => by rw [Nat.zero_add])) (fun i _ => hrow_bd Z (om s) (by omega) (kk s) hco i)).mono ?_
      rintro e w5 ⟨hd, hb5⟩
      have hB5 := belowChain hB4 hb5 hB4.size
      have hmb := hmb.below hb5
      rcases hd with ⟨_, gh, rfl, hgh, hbt⟩ | ⟨hno, _⟩
      · go_wp2_with (first | (go_at_call 24; refine (lwSameHints (kk s) gh gb (kk s) cb (fun r j => drow (hrow Z (om s) (kk s)) (om s) (kk s) (r * 256 + j)) Z _ hk1 (fun r hr j hj => by rw [Addr.add_mid, Nat.zero_add]; exact hbt.cell (by omega)) hmb (fun r hr j hj => by rw [drow_back Z (om s) (kk s) hco (kk s) (Nat.le_refl _) r j hj, if_pos hr])).mono ?_; rintro e w6 ⟨rfl, hb6⟩))
        go_ret
        exact ⟨rfl, belowChain hB5 hb6 hB5.size⟩
      · exact absurd (hrow_ok Z (om s) (kk s) hco) hno

end Go.Proofs.YteigpbeamdhjpaaDoor
