/-
  The library's bit length, for numbers below 65536; a new error.
-/
import Derived.Test.YtejolgicllogjaaUnpack2
import Derived.Lib.Tables
namespace Go.Proofs.Ytejolgicllogjaa
open Go.RowKit

def tabOk : Bool := (List.range 256).all fun i => Lib.len8 (i : Nat) == (blen 62 i : Int)
set_option maxRecDepth 100000 in
theorem tab_ok : tabOk = true := by decide +kernel
theorem tab_blen (i : Nat) (hi : i < 256) : Lib.len8 (i : Nat) = (blen 62 i : Int) := by
  have h := List.all_eq_true.1 tab_ok i (List.mem_range.2 hi)
  simpa using h
def blenOk : Bool := (List.range 256).all fun i => blen 54 i == blen 62 i
theorem blen_ok : blenOk = true := by decide +kernel
theorem blen_54 (i : Nat) (hi : i < 256) : blen 54 i = blen 62 i := by
  have h := List.all_eq_true.1 blen_ok i (List.mem_range.2 hi)
  simpa using h
theorem blen_up (f n : Nat) (h : n ≠ 0) : blen (f + 1) n = blen f (n / 2) + 1 := by rw [blen, if_neg h]
theorem blen_256 (n : Nat) (h1 : 256 ≤ n) (h2 : n < 65536) : blen 62 n = blen 62 (n / 256) + 8 := by
  rw [blen_up 61 n (by omega), blen_up 60 _ (by omega), blen_up 59 _ (by omega), blen_up 58 _ (by omega), blen_up 57 _ (by omega), blen_up 56 _ (by omega), blen_up 55 _ (by omega), blen_up 54 _ (by omega)]
  rw [← blen_54 (n / 256) (by omega)]
  simp only [Nat.div_div_eq_div_mul]
theorem blen_small (n : Nat) (hn : n < 256) : blen 62 n ≤ 8 := by
  rw [← blen_54 n hn]
  have : (List.range 256).all (fun i => decide (blen 54 i ≤ 8)) = true := by decide +kernel
  have h := List.all_eq_true.1 this n (List.mem_range.2 hn)
  simpa using h
theorem tab_size : (Lib.len8tab.size : Int) = 256 := by
  rw [Lib.len8tab_size]; rfl
theorem tab_get (y : Int) (h : y.toNat < Lib.len8tab.size) : ((Lib.len8tab[y.toNat]'h).toNat : Int) = Lib.len8 y := by
  unfold Lib.len8
  rw [getElem?_pos Lib.len8tab y.toNat h]
  rfl
set_option maxRecDepth 100000 in
set_option maxHeartbeats 4000000 in
theorem bitsLen64 (x : Int) (w : World) (h0 : 0 ≤ x) (h1 : x < 65536) :
    Calls Try.prog 57 #[.int .u64 x] w fun e w' => e = .returned (.int .i64 (blen 62 x.toNat : Int)) ∧ w = w' := by
  obtain ⟨B, hB⟩ : ∃ B : Int, B = (blen 62 x.toNat : Int) := ⟨_, rfl⟩
  rw [← hB]
  have HB := Lib.hid hB; clear hB
  go_enter Try.func57, Try.ntmps57
  go_wp2
  all_goals first
    | (go_ret; refine ⟨congrArg Ending.returned (congrArg (Value.int IntKind.i64) ?_), rfl⟩)
    | (exfalso
       have hs := tab_size
       omega)
  · have hb := blen_256 x.toNat (by omega) (by omega)
    have hs := blen_small (x.toNat / 256) (by omega)
    have ht := tab_blen (x.toNat / 256) (by omega)
    have e : ((x.toNat / 256 : Nat) : Int) = x / 256 := by omega
    rw [e] at ht
    rw [tab_get, ht, HB.out, hb, wrap64_id (blen 62 (x.toNat / 256) : Int) (by omega), wrap64_id _ (by omega)]
    omega
  · have hs := blen_small x.toNat (by omega)
    have ht := tab_blen x.toNat (by omega)
    have e : ((x.toNat : Nat) : Int) = x := by omega
    rw [e] at ht
    rw [tab_get, ht, HB.out, wrap64_id (blen 62 x.toNat : Int) (by omega), wrap64_id _ (by omega)]
theorem bitsLen (x : Int) (w : World) (h0 : 0 ≤ x) (h1 : x < 65536) :
    Calls Try.prog 51 #[.int .u64 x] w fun e w' => e = .returned (.int .i64 (blen 62 x.toNat : Int)) ∧ w = w' := by
  go_enter Try.func51, Try.ntmps51
  go_wp2_with fail
  refine (bitsLen64 x _ h0 h1).mono ?_
  rintro e w' ⟨rfl, rfl⟩
  go_wp2_with fail
  go_ret
  exact ⟨rfl, rfl⟩
set_option maxRecDepth 100000 in
set_option maxHeartbeats 1000000 in
theorem errorsNew (s : ByteArray) (w : World) :
    Calls Try.prog 52 #[.string s] w fun e w' => ∃ t v, e = .returned (.iface t v) ∧ Below w.heap.size w w' := by
  go_enter Try.func52, Try.ntmps52
  go_wp2_with fail
  go_ret
  exact ⟨_, _, rfl, (Below.refl _ _).alloc (Nat.le_refl _) _⟩
end Go.Proofs.Ytejolgicllogjaa
