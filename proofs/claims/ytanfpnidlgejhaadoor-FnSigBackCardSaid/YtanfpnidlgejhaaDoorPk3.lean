/-
  A public key read: the walk.
-/
import Derived.Test.YtanfpnidlgejhaaDoorPk2
namespace Go.Proofs.YtanfpnidlgejhaaDoor
open Go.RowKit

/-- The numbers that a public key tells. -/
def pkt (b : Nat → Int) (r i : Nat) : Int := ubits (fun i => b (32 + 320 * r + i)) 320 10 i
theorem u8_mask (i : Nat) (x : Int) (h0 : 0 ≤ x) (h1 : x < 256) (hi : 2 ^ i - 1 < 256) : bits .and .u8 x ((2 ^ i - 1 : Nat) : Int) = x % ((2 ^ i : Nat) : Int) := by
  obtain ⟨X, rfl⟩ := Int.eq_ofNat_of_zero_le h0
  rw [u8_and_nat X _ (by omega) hi, Nat.and_two_pow_sub_one_eq_mod]
  rfl



end Go.Proofs.YtanfpnidlgejhaaDoor
