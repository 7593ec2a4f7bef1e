/-
  Hints read: the law.
-/
import Derived.Test.YteigpbeamdhjpaaDoorHint8
namespace Go.Proofs.YteigpbeamdhjpaaDoor
open Go.RowKit

set_option maxRecDepth 100000 in
set_option maxHeartbeats 1000000 in
theorem walkFnHintDecode (n : Int) (ad : Option Addr) (len cap : Nat) (zs : List Int) (w : World) (hp : Par w) (he4 : GErr w 4) (he5 : GErr w 5) (he6 : GErr w 6) (n0 : 0 ≤ n) (n1 : n < 256) (h : IsRow .u8 w ad len cap zs) :
    Calls Tryd.prog 7 #[.int .u8 n, .slice ad len cap] w fun e w' => e = .returned (.bool true) ∧ Below w.heap.size w w' := by
  have hlm : len ≤ maxLen := by
    rcases h with ⟨_, h, _⟩ | ⟨x, ha, hl, hm, _⟩
    · rw [h]; exact Nat.zero_le _
    · omega
  simp only [maxLen] at hlm
  obtain ⟨s, hs⟩ : ∃ s : Nat, (s : Int) = n % 3 := ⟨(n % 3).toNat, by omega⟩
  have hs3 : s < 3 := by omega
  obtain ⟨hk0, hk1⟩ := kk_bd s hs3
  obtain ⟨ho0, ho1⟩ := om_bd s hs3
  have hks := kk_ss s hs3
  have hos := om_ss s hs3
  by_cases hg1 : 2147483647 < len
  · go_enter Tryd.func7, Tryd.ntmps7
    go_wp2_with fail
    go_ret
    exact ⟨rfl, Below.refl _ _⟩
  · go_enter Tryd.func7, Tryd.ntmps7
    go_wp2_with fail
    refine (lwSet _ s _ n0 n1 hs).mono ?_
    rintro e w1 ⟨rfl, hb1⟩
    clear hs
    have fs := (Blk.zeros8 w1 25 rfl).row .i64 (ss s)
    have hB2 := below_setRow (hb1.alloc hb1.size (.cells #[.int .i64 0, .int .i64 0, .int .i64 0, .int .i64 0, .int .i64 0, .int .i64 0, .int .i64 0, .int .i64 0] 25)) (g := w1.heap.size) hb1.size (arr .i64 8 (ss s))
    have hc0 := fs.cellv 0 (kk s : Int) (by omega) hks
    have hc6 := fs.cellv 6 (om s : Int) (by omega) hos
    by_cases hl : len = om s + kk s
    · subst hl
      obtain ⟨x, rfl, hr, hb⟩ := rd_of_row h (by omega)
      obtain ⟨b, hbv⟩ : ∃ b : Nat → Int, b = fun j => zs.getD j 0 := ⟨_, rfl⟩
      rw [← hbv] at hr
      replace hb : ∀ i, i < om s + kk s → 0 ≤ b i ∧ b i < 256 := fun i hi => by rw [hbv]; exact hb i hi
      clear hbv h
      have HB := Lib.hid hb; clear hb
      have HR := Lib.hid hr; clear hr
      have hne : ((((om s + kk s : Nat)) : Int) != ((om s : Nat) : Int) + ((kk s : Nat) : Int)) = false := by simp
      go_wp2_with (first | (with_reducible refine at_store 25 _ _ rfl ?_; refine wpList_store_arr iSet rfl _ _ rfl _ rfl rfl (Blk.zeros8 _ _ rfl) ?_))
      refine (implHintDecode s cap x b _ hs3 (hp.below hB2) (he4.below hB2) (he5.below hB2) (he6.below hB2) (HR.out.below hB2) HB.out).mono ?_
      rintro e w4 ⟨hd, hb4⟩
      have hB4 := belowChain hB2 hb4 hB2.size
      have fs := fs.below hb4
      clear hc0 hc6 hne
      rcases hd with ⟨hok, gh, rfl, hgh, hbt⟩ | ⟨hok, rfl⟩
      · go_wp2_with (first | (with_reducible refine at_load 25 _ rfl ?_; refine wpList_load_s Tryd.underlying25 rfl iSet rfl _ rfl _ rfl (fs) ?_))
        refine (unpackHints s cap x b _ hs3 (HR.out.below hB4) HB.out).mono ?_
        rintro e w5 ⟨hd2, hb5⟩
        have hB5 := belowChain hB4 hb5 hB4.size
        rcases hd2 with ⟨_, gu, rfl, hgu, hbu⟩ | ⟨hno, _⟩
        · have hbt := hbt.below hb5
          go_wp2_with (first | (go_at_call 24; refine (lwSameHints (kk s) gh gu (kk s) (kk s) (fun r j => drow b (om s) (kk s) (r * 256 + j)) (fun r j => decide (drow b (om s) (kk s) (r * 256 + j) ≠ 0)) _ hk1 (fun r hr j hj => by rw [Addr.add_mid, Nat.zero_add]; exact hbt.cell (by omega)) (fun r hr j hj => by rw [Addr.add_mid, Nat.zero_add]; exact hbu.cell (by omega)) (fun r _ j _ => by rcases drow01 b (om s) (kk s) (r * 256 + j) with h | h <;> simp [hb, h])).mono ?_; rintro e w6 ⟨rfl, hb6⟩))
          go_ret
          exact ⟨rfl, belowChain hB5 hb6 hB5.size⟩
        · exact absurd hok hno
      · go_wp2_with (first | (with_reducible refine at_load 25 _ rfl ?_; refine wpList_load_s Tryd.underlying25 rfl iSet rfl _ rfl _ rfl (fs) ?_))
        refine (unpackHints s cap x b _ hs3 (HR.out.below hB4) HB.out).mono ?_
        rintro e w5 ⟨hd2, hb5⟩
        have hB5 := belowChain hB4 hb5 hB4.size
        rcases hd2 with ⟨hyes, _⟩ | ⟨_, rfl⟩
        · exact absurd hyes hok
        · go_wp2_with fail
          go_ret
          exact ⟨rfl, hB5⟩
    · have hne : ((len : Int) != ((om s : Nat) : Int) + ((kk s : Nat) : Int)) = true := by simp; omega
      clear h
      go_wp2_with (first | (with_reducible refine at_store 25 _ _ rfl ?_; refine wpList_store_arr iSet rfl _ _ rfl _ rfl rfl (Blk.zeros8 _ _ rfl) ?_))
      go_ret
      exact ⟨rfl, hB2⟩

end Go.Proofs.YteigpbeamdhjpaaDoor
