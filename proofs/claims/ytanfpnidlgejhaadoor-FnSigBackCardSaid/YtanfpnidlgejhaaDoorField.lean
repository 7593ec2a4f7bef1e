/-
  Contracts of the field functions: what each returns for numbers below the prime.
-/
import Derived.Test.YtanfpnidlgejhaaDoorProg
import Derived.Test.YtanfpnidlgejhaaDoorPlain
import Derived.WalkKit
import Derived.WalkLawsBesides
import Derived.IntWalk
import Derived.Lib.Hide
namespace Go.Proofs.YtanfpnidlgejhaaDoor
open Go.RowKit

theorem sub64_ge (x : Int) (w : World) (hx : 8380417 ≤ x) (hx' : x < 18446744073709551616) :
    (callFunc 66 #[.int .u64 x, .int .u64 8380417, .int .u64 0]).run Tryd.prog w = .ok (.value (.tuple #[.int .u64 (x - 8380417), .int .u64 0])) w := by
  rw [run_callFunc_extern (e := sub64Entry) Tryd.func66 (by kernel_rfl) (by kernel_rfl) (by kernel_rfl) (by kernel_rfl), run_sub64_ge x w hx hx']
  rfl
theorem sub64_lt (x : Int) (w : World) (hx : 0 ≤ x) (hx' : x < 8380417) :
    (callFunc 66 #[.int .u64 x, .int .u64 8380417, .int .u64 0]).run Tryd.prog w = .ok (.value (.tuple #[.int .u64 (x - 8380417 + 18446744073709551616), .int .u64 1])) w := by
  rw [run_callFunc_extern (e := sub64Entry) Tryd.func66 (by kernel_rfl) (by kernel_rfl) (by kernel_rfl) (by kernel_rfl), run_sub64_lt x w hx hx']
  rfl

theorem reduceOnce (a : Int) (w : World) (h0 : 0 ≤ a) (h1 : a < 16760834) :
    Calls Tryd.prog 65 #[.int .u32 a] w fun e w' => e = .returned (.int .u32 (a % 8380417)) ∧ w = w' := by
  by_cases h : a < 8380417
  · have hs := fun w => sub64_lt a w h0 h
    obtain ⟨D, hD⟩ : ∃ D, D = a - 8380417 + 18446744073709551616 := ⟨_, rfl⟩
    rw [← hD] at hs
    have HD := Lib.hid hD; clear hD
    go_enter Tryd.func65, Tryd.ntmps65
    go_wp2
    go_ret
    exact ⟨ret_int (sub64_back a D HD.out h0 h), rfl⟩
  · have hs := fun w => sub64_ge a w (by omega) (by omega)
    go_enter Tryd.func65, Tryd.ntmps65
    go_wp2
    go_ret
    exact ⟨ret_int (by omega), rfl⟩

theorem montReduce (x : Int) (w : World) (h0 : 0 ≤ x) (h1 : x < 35993616941842432) :
    Calls Tryd.prog 62 #[.int .u64 x] w fun e w' => e = .returned (.int .u32 (mred x)) ∧ w = w' := by
  have hl := mont_low x h0 h1
  obtain ⟨hl0, hl1⟩ := hl
  go_enter Tryd.func62, Tryd.ntmps62
  go_wp2_with (go_at_call 65; refine (reduceOnce _ _ hl0 hl1).mono ?_; rintro e w' ⟨rfl, rfl⟩)
  go_ret
  exact ⟨ret_int (mont_eq x), rfl⟩



theorem fieldMul (a b : Int) (w : World) (a0 : 0 ≤ a) (a1 : a < 16760834) (b0 : 0 ≤ b) (b1 : b < 8380417) :
    Calls Tryd.prog 59 #[.int .u32 a, .int .u32 b] w fun e w' => e = .returned (.int .u32 (mred (a * b))) ∧ w = w' := by
  obtain ⟨hp0, hp1⟩ := prod_lt a b 16760833 8380416 a0 (by omega) b0 (by omega)
  go_enter Tryd.func59, Tryd.ntmps59
  go_wp2_with (go_at_call 62; refine (montReduce _ _ (by omega) (by omega)).mono ?_; rintro e w' ⟨rfl, rfl⟩)
  go_ret
  exact ⟨rfl, rfl⟩



theorem fromMont (a : Int) (w : World) (a0 : 0 ≤ a) (a1 : a < 4294967296) :
    Calls Tryd.prog 60 #[.int .u32 a] w fun e w' => e = .returned (.int .u32 (mred a)) ∧ w = w' := by
  go_enter Tryd.func60, Tryd.ntmps60
  go_wp2_with (go_at_call 62; refine (montReduce _ _ (by omega) (by omega)).mono ?_; rintro e w' ⟨rfl, rfl⟩)
  go_ret
  exact ⟨rfl, rfl⟩

theorem subToMont (a b : Int) (w : World) (a0 : 0 ≤ a) (a1 : a < 8380417) (b0 : 0 ≤ b) (b1 : b < 8380417) :
    Calls Tryd.prog 57 #[.int .u32 a, .int .u32 b] w fun e w' => e = .returned (.int .u32 ((a - b) * 4193792 % 8380417)) ∧ w = w' := by
  go_enter Tryd.func57, Tryd.ntmps57
  go_wp2_with fail
  rw [show (a - b + 8380417) % 4294967296 = a + 8380417 - b from by omega]
  refine (fieldMul _ _ _ (by omega) (by omega) (by omega) (by omega)).mono ?_
  rintro e w' ⟨rfl, rfl⟩
  go_wp2
  go_ret
  exact ⟨ret_int (by unfold mred; omega), rfl⟩


/-! ### Choices -/
theorem selLE (a b y n : Int) (w : World) (ha0 : -2147483648 ≤ a) (ha1 : a < 2147483648) (hb0 : -2147483648 ≤ b) (hb1 : b < 2147483648) (hy0 : -2147483648 ≤ y) (hy1 : y < 2147483648) (hn0 : -2147483648 ≤ n) (hn1 : n < 2147483648) :
    Calls Tryd.prog 61 #[.int .i32 a, .int .i32 b, .int .i32 y, .int .i32 n] w fun e w' => e = .returned (.int .i32 (if a ≤ b then y else n)) ∧ w = w' := by
  by_cases h : a ≤ b
  · rw [if_pos h]
    go_enter Tryd.func61, Tryd.ntmps61
    go_wp2
    go_ret
    exact ⟨rfl, rfl⟩
  · rw [if_neg h]
    go_enter Tryd.func61, Tryd.ntmps61
    go_wp2
    go_ret
    exact ⟨rfl, rfl⟩



/-! ### The reference's numbers -/
theorem spMod (a : Int) (w : World) (h0 : -4611686018427387904 ≤ a) (h1 : a < 4611686018427387904) :
    Calls Tryd.prog 31 #[.int .i64 a] w fun e w' => e = .returned (.int .i64 (a % 8380417)) ∧ w = w' := by
  by_cases h : 0 ≤ a
  · go_enter Tryd.func31, Tryd.ntmps31
    go_wp2
    go_ret
    exact ⟨rfl, rfl⟩
  · have e : a.tmod 8380417 = if a % 8380417 = 0 then 0 else a % 8380417 - 8380417 := by
      rw [Int.tmod_eq_emod]; split <;> split <;> omega
    by_cases hz : a % 8380417 = 0
    · rw [if_pos hz] at e
      rw [hz]
      go_enter Tryd.func31, Tryd.ntmps31
      go_wp2
      go_ret
      exact ⟨rfl, rfl⟩
    · rw [if_neg hz] at e
      go_enter Tryd.func31, Tryd.ntmps31
      go_wp2
      go_ret
      exact ⟨ret_int (by omega), rfl⟩

theorem spPower (a n : Int) (w : World) (a0 : 0 ≤ a) (a1 : a < 2147483648) (n0 : 0 ≤ n) (n1 : n < 2147483648) :
    Calls Tryd.prog 42 #[.int .i64 a, .int .i64 n] w fun e w' => e = .returned (.int .i64 (powq 64 1 a n)) ∧ w = w' := by
  generalize hr : powq 64 1 a n = r
  have HR := Lib.hid hr; clear hr
  go_enter Tryd.func42, Tryd.ntmps42
  go_wp2
  go_loop [0, 1, 5] (fun sa sn so => ∃ (f : Nat) (a n o : Int), Hid (powq (f + 32) o a n = r) ∧ 0 ≤ a ∧ a < 2147483648 ∧ 0 ≤ n ∧ n < 2147483648 ∧ 0 ≤ o ∧ o < 8380417 ∧ Hid (n < 2 ^ f) ∧ sa = .int .i64 a ∧ sn = .int .i64 n ∧ so = .int .i64 o) (fun _ sn _ => (intOf sn).toNat)
  case atStart => exact ⟨32, a, n, 1, HR, a0, a1, n0, n1, by omega, by omega, Lib.hid (by omega), rfl, rfl, rfl⟩
  case round =>
    obtain ⟨f, a, n, o, hp, a0, a1, n0, n1, o0, o1, hf, rfl, rfl, rfl⟩ := hrel
    obtain ⟨ha2, ha3⟩ := prod_lt a a 2147483647 2147483647 a0 (by omega) a0 (by omega)
    obtain ⟨ho2, ho3⟩ := prod_lt o a 8380416 2147483647 o0 (by omega) a0 (by omega)
    by_cases hn : 0 < n
    · have hp' := hp.out
      cases f with
      | zero => have := hf.out; simp at this; omega
      | succ f =>
      have hf' : n / 2 < 2 ^ f := by have := hf.out; rw [Int.pow_succ] at this; omega
      have Hf := Lib.hid hf'; clear hf'
      rw [show f + 1 + 32 = (f + 32) + 1 from by omega, powq, if_neg (by omega)] at hp'
      clear hp hf
      by_cases hm : n % 2 = 1
      · rw [if_pos hm] at hp'
        have Hp := Lib.hid hp'; clear hp'
        have hb : (n % 2 == 1) = true := by simp [hm]
        have HM := Lib.hid hm; clear hm
        go_wp2
        go_round
        case rel => exact ⟨f, _, _, _, Hp, by omega, by omega, by omega, by omega, by omega, by omega, Hf, rfl, rfl, rfl⟩
        case measure => simp [intOf]; omega
      · rw [if_neg hm] at hp'
        have Hp := Lib.hid hp'; clear hp'
        have hb : (n % 2 == 1) = false := by simp [hm]
        clear hm
        go_wp2
        go_round
        case rel => exact ⟨f, _, _, _, Hp, by omega, by omega, by omega, by omega, by omega, by omega, Hf, rfl, rfl, rfl⟩
        case measure => simp [intOf]; omega
    · have hz : o = r := by have := hp.out; rw [powq, if_pos (by omega)] at this; exact this
      have HZ := Lib.hid hz; clear hz
      go_wp2
      go_ret
      exact ⟨ret_int HZ.out, rfl⟩

theorem spPlain (x : Int) (w : World) (h0 : 0 ≤ x) (h1 : x < 4294967296) :
    Calls Tryd.prog 33 #[.int .i64 x] w fun e w' => e = .returned (.int .i64 (mred x)) ∧ w = w' := by
  go_enter Tryd.func33, Tryd.ntmps33
  go_wp2_with fail
  refine (spPower _ _ _ (by omega) (by omega) (by omega) (by omega)).mono ?_
  rintro e w' ⟨rfl, rfl⟩
  rw [powq_two]
  go_wp2_with fail
  refine (spPower _ _ _ (by omega) (by omega) (by omega) (by omega)).mono ?_
  rintro e w' ⟨rfl, rfl⟩
  rw [powq_inv]
  go_wp2
  go_ret
  exact ⟨rfl, rfl⟩

theorem spMont (n : Int) (w : World) (h0 : -4611686018427387904 ≤ n) (h1 : n < 4611686018427387904) :
    Calls Tryd.prog 29 #[.int .i64 n] w fun e w' => e = .returned (.int .i64 (n * 4193792 % 8380417)) ∧ w = w' := by
  go_enter Tryd.func29, Tryd.ntmps29
  go_wp2_with fail
  refine (spMod _ _ (by omega) (by omega)).mono ?_
  rintro e w' ⟨rfl, rfl⟩
  go_wp2_with fail
  refine (spPower _ _ _ (by omega) (by omega) (by omega) (by omega)).mono ?_
  rintro e w' ⟨rfl, rfl⟩
  rw [powq_two]
  go_wp2
  go_ret
  exact ⟨ret_int (by omega), rfl⟩
end Go.Proofs.YtanfpnidlgejhaaDoor
