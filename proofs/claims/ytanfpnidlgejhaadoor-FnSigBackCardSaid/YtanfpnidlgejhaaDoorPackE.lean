/-
  A mask there and back.
-/
import Derived.Test.YtanfpnidlgejhaaDoorPackD
import Derived.Test.YtanfpnidlgejhaaDoorEq
namespace Go.Proofs.YtanfpnidlgejhaaDoor
open Go.RowKit

/-- A mask that was packed, unpacked. -/
theorem uval_pby (s : Nat) (r : Nat → Int) (_hs : s < 3) (hr : ∀ i, i < 256 → 0 ≤ r i ∧ r i < 8380417) (hf : ∀ i, i < 256 → 0 ≤ pval s r i ∧ pval s r i < 2 ^ dd s) (i : Nat) (hi : i < 256) : uval s (pby (dd s) (pval s r) 256) i = r i := by
  unfold uval ubits
  rw [dn_pby (dd s) (pval s r) hf, dn_div (dd s) (pval s r) 256 hf i hi]
  have h := hr i hi
  have h2 := cen_q (mred (r i)) (mred_lo _) (mred_hi _)
  have h3 := mred_shift (r i)
  unfold pval
  rw [h2]
  split <;> omega
theorem pval_uval (s : Nat) (b : Nat → Int) (hs : s < 3) (i : Nat) : pval s (uval s b) i = ubits b (32 * dd s) (dd s) i := by
  have h1 := ubits_bd b (32 * dd s) (dd s) i
  have h2 := dd_pow s hs
  have h3 : ss s 4 ≤ 524288 ∧ 1 ≤ ss s 4 := by
    have h3 : s = 0 ∨ s = 1 ∨ s = 2 := by omega
    rcases h3 with rfl | rfl | rfl <;> decide
  have h4 := mred_lo (uval s b i)
  have h5 := mred_hi (uval s b i)
  unfold pval
  rw [cen_q _ h4 h5]
  have h6 : mred (uval s b i) = (ss s 4 - ubits b (32 * dd s) (dd s) i) % 8380417 := by unfold uval mred; omega
  rw [h6]
  split <;> omega
/-- What was unpacked, packed. -/
theorem pby_uval (s : Nat) (b : Nat → Int) (hs : s < 3) (hb : ∀ i, i < 32 * dd s → 0 ≤ b i ∧ b i < 256) (j : Nat) (hj : j < 32 * dd s) : pby (dd s) (pval s (uval s b)) 256 j = b j := by
  have h : ∀ i, i < 256 → pval s (uval s b) i = dn 8 b (32 * dd s) / 2 ^ (dd s * i) % 2 ^ dd s := fun i _ => pval_uval s b hs i
  rw [pby_ext _ _ _ _ h]
  exact pby_dig (dd s) b hb j hj


end Go.Proofs.YtanfpnidlgejhaaDoor
