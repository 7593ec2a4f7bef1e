/-
  A mask there and back.
-/
import Derived.Test.YtejolgicllogjaaDoorPackD
import Derived.Test.YtejolgicllogjaaDoorEq
namespace Go.Proofs.YtejolgicllogjaaDoor
open Go.RowKit

/-- A mask that was packed, unpacked. -/
theorem uval_pby (s : Nat) (r : Nat → Int) (_hs : s < 3) (hr : ∀ i, i < 256 → 0 ≤ r i ∧ r i < 8380417) (hf : ∀ i, i < 256 → 0 ≤ pval s r i ∧ pval s r i < 2 ^ dd s) (i : Nat) (hi : i < 256) : uval s (pby (dd s) (pval s r) 256) i = r i := by
  unfold uval ubits
  rw [dn_pby (dd s) (pval s r) hf, dn_div (dd s) (pval s r) 256 hf i hi]
  have h := hr i hi
  have h2 := cen_q (mred (r i)) (mred_lo _) (mred_hi _)
  have h3 := mred_shift (r i)
  unfold pval
  rw [h2]
  split <;> omega
theorem pval_uval (s : Nat) (b : Nat → Int) (hs : s < 3) (i : Nat) : pval s (uval s b) i = ubits b (32 * dd s) (dd s) i := by
  have h1 := ubits_bd b (32 * dd s) (dd s) i
  have h2 := dd_pow s hs
  have h3 : ss s 4 ≤ 524288 ∧ 1 ≤ ss s 4 := by
    have h3 : s = 0 ∨ s = 1 ∨ s = 2 := by omega
    rcases h3 with rfl | rfl | rfl <;> decide
  have h4 := mred_lo (uval s b i)
  have h5 := mred_hi (uval s b i)
  unfold pval
  rw [cen_q _ h4 h5]
  have h6 : mred (uval s b i) = (ss s 4 - ubits b (32 * dd s) (dd s) i) % 8380417 := by unfold uval mred; omega
  rw [h6]
  split <;> omega
/-- What was unpacked, packed. -/
theorem pby_uval (s : Nat) (b : Nat → Int) (hs : s < 3) (hb : ∀ i, i < 32 * dd s → 0 ≤ b i ∧ b i < 256) (j : Nat) (hj : j < 32 * dd s) : pby (dd s) (pval s (uval s b)) 256 j = b j := by
  have h : ∀ i, i < 256 → pval s (uval s b) i = dn 8 b (32 * dd s) / 2 ^ (dd s * i) % 2 ^ dd s := fun i _ => pval_uval s b hs i
  rw [pby_ext _ _ _ _ h]
  exact pby_dig (dd s) b hb j hj

set_option maxRecDepth 100000 in
set_option maxHeartbeats 1000000 in
theorem walkFnBitUnpackBack (n : Int) (a : Option Addr) (len cap : Nat) (zs : List Int) (w : World) (hp : Par w) (n0 : 0 ≤ n) (n1 : n < 256) (h : IsRow .u8 w a len cap zs) :
    Calls Tryd.prog 6 #[.int .u8 n, .slice a len cap] w fun e w' => e = .returned (.bool true) ∧ Below w.heap.size w w' := by
  obtain ⟨s, hs⟩ : ∃ s : Nat, (s : Int) = n % 3 := ⟨(n % 3).toNat, by omega⟩
  have hs3 : s < 3 := by omega
  have hgm : 2 * ss s 4 - 1 = (blN s : Int) := by
    have h3 : s = 0 ∨ s = 1 ∨ s = 2 := by omega
    rcases h3 with rfl | rfl | rfl <;> rfl
  have hgb : 1 ≤ ss s 4 ∧ ss s 4 ≤ 524288 := by
    have h3 : s = 0 ∨ s = 1 ∨ s = 2 := by omega
    rcases h3 with rfl | rfl | rfl <;> decide
  obtain ⟨hg0, hg1⟩ := hgb
  have hbl := blN_dd s
  have hd : 18 ≤ dd s ∧ dd s ≤ 20 := by unfold dd; split <;> omega
  obtain ⟨hd0, hd1⟩ := hd
  by_cases hg : 2147483647 < len
  · go_enter Tryd.func6, Tryd.ntmps6
    go_wp2_with fail
    go_ret
    exact ⟨rfl, Below.refl _ _⟩
  · go_enter Tryd.func6, Tryd.ntmps6
    go_wp2_with fail
    refine (lwSet _ s _ n0 n1 hs).mono ?_
    rintro e w1 ⟨rfl, hb1⟩
    clear hs
    have fs := (Blk.zeros8 w1 24 rfl).row .i64 (ss s)
    have hB2 := below_setRow (hb1.alloc hb1.size (.cells #[.int .i64 0, .int .i64 0, .int .i64 0, .int .i64 0, .int .i64 0, .int .i64 0, .int .i64 0, .int .i64 0] 24)) (g := w1.heap.size) hb1.size (arr .i64 8 (ss s))
    have hc4 := fs.cellv 4 (ss s 4) (by omega) rfl
    by_cases hl : len = 32 * dd s
    · subst hl
      obtain ⟨x, rfl, hr, hb⟩ := rd_of_row h (by omega)
      have HB := Lib.hid hb; clear hb
      have HR := Lib.hid (hr.below hB2); clear hr h
      have hne : ((((32 * dd s : Nat) : Int)) != 32 * (dd s : Int)) = false := by simp
      go_wp2_with (first | (with_reducible refine at_store 24 _ _ rfl ?_; refine wpList_store_arr iSet rfl _ _ rfl _ rfl rfl (Blk.zeros8 _ _ rfl) ?_) | (go_at_call 8; refine (spBits (blN s) _ (blN_lt s hs3)).mono ?_; rintro e w' ⟨rfl, rfl⟩; rw [hbl]))
      refine (implBitUnpack s x cap _ _ hs3 (hp.below hB2) HR.out HB.out).mono ?_
      rintro e w3 ⟨rfl, hb3⟩
      have hB3 := belowChain hB2 hb3 hB2.size
      go_wp2_with fail
      refine (implBitPack s _ _ hs3 (hp.below hB3) (fun i _ => by unfold uval; omega) (fun i _ => by rw [pval_uval s _ hs3 i]; exact ubits_bd _ _ _ _)).mono ?_
      rintro e w4 ⟨g, c, rfl, hb, hg, hc, hcm, hb4⟩
      have hB4 := belowChain hB3 hb4 hB3.size
      go_wp2_with fail
      refine (lwAlike ⟨g, 0, none⟩ x (32 * dd s) c cap _ _ _ hb ((HR.out.below hb3).below hb4) (fun j hj => pby_uval s _ hs3 HB.out j hj)).mono ?_
      rintro e w' ⟨rfl, rfl⟩
      go_wp2_with fail
      go_ret
      exact ⟨rfl, hB4⟩
    · have hne : ((len : Int) != 32 * (dd s : Int)) = true := by simp; omega
      clear h
      go_wp2_with (first | (with_reducible refine at_store 24 _ _ rfl ?_; refine wpList_store_arr iSet rfl _ _ rfl _ rfl rfl (Blk.zeros8 _ _ rfl) ?_) | (go_at_call 8; refine (spBits (blN s) _ (blN_lt s hs3)).mono ?_; rintro e w' ⟨rfl, rfl⟩; rw [hbl]))
      go_ret
      exact ⟨rfl, hB2⟩

end Go.Proofs.YtejolgicllogjaaDoor
