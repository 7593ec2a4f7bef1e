/-
  Hints that are the same.
-/
import Derived.Test.YtanfpnidlgejhaaDoorHint7
namespace Go.Proofs.YtanfpnidlgejhaaDoor
open Go.RowKit

theorem upd01 {f : Nat → Int} (h : ∀ p, f p = 0 ∨ f p = 1) (i : Nat) : ∀ p, upd f i 1 p = 0 ∨ upd f i 1 p = 1 := fun p => by
  unfold upd
  split
  · exact .inr rfl
  · exact h p
theorem din01 (b : Nat → Int) (r a : Nat) {f : Nat → Int} (h : ∀ p, f p = 0 ∨ f p = 1) : ∀ k p, din b r f a k p = 0 ∨ din b r f a k p = 1
  | 0 => h
  | k + 1 => upd01 (din01 b r a h k) _
theorem drow01 (b : Nat → Int) (O : Nat) : ∀ r p, drow b O r p = 0 ∨ drow b O r p = 1
  | 0 => fun _ => .inl rfl
  | r + 1 => din01 b r _ (drow01 b O r) _

theorem ixB8 (z : Nat → Int) (j : Nat) (hj : j < 256) (w : World) : (Instr.index 66 (.agg (arr .u8 256 z)) (.int .i64 (j : Int))).run Tryd.prog w = .ok (.int .u8 (z j)) w := run_index_arr Tryd.underlying66 Tryd.isAgg5 Tryd.sizeOf5 z j hj w
set_option maxRecDepth 100000 in
set_option maxHeartbeats 1000000 in
theorem lwSameHints (K g g' c c' : Nat) (F : Nat → Nat → Int) (Y : Nat → Nat → Bool) (w : World) (hK : K ≤ 8) (hm : MatI .u8 w ⟨g, 0, none⟩ K F) (hm' : MatB w ⟨g', 0, none⟩ K Y) (h : ∀ r, r < K → ∀ j, j < 256 → F r j = hb Y r j) :
    Calls Tryd.prog 12 #[.slice (some ⟨g, 0, none⟩) K c, .slice (some ⟨g', 0, none⟩) K c'] w fun e w' => e = .returned (.bool true) ∧ Below w.heap.size w w' := by
  have HM := Lib.hid hm; clear hm
  have HM' := Lib.hid hm'; clear hm'
  have HH := Lib.hid h; clear h
  have hne : ((K : Int) != (K : Int)) = false := by simp
  go_enter Tryd.func12, Tryd.ntmps12
  go_wp2_with fail
  clear hne
  have hbe := Below.refl w.heap.size w
  go_loopw [16] (fun t wr => ∃ r : Nat, r ≤ K ∧ t = .int .i64 (r : Int) ∧ Below w.heap.size w wr) (fun t _ => K - (intOf t).toNat)
  case atStart => exact ⟨0, by omega, rfl, hbe⟩
  case round =>
    clear hbe
    obtain ⟨r, hr, rfl, hbe⟩ := hrel
    have hsz := hbe.size
    by_cases hlt : r < K
    · have hrw := Lib.hid ((HM.out.below hbe).rowAt r hlt)
      go_wp2_with (first | (with_reducible refine at_loadx 66 19 rfl ?_; refine wpList_load_at Tryd.underlying66 iB rfl _ rfl ⟨g, r * 256, none⟩ rfl hrw.out ?_) | (with_reducible refine at_storex 66 6 _ rfl ?_; refine wpList_store_arr iB rfl _ _ rfl _ rfl rfl (Blk.new wr .u8 256 (fun _ => 0) 66 rfl) ?_) | (with_reducible refine at_loadx 66 6 rfl ?_; refine wpList_load_arr Tryd.underlying66 iB rfl _ rfl _ rfl ((Blk.new wr .u8 256 (fun _ => 0) 66 rfl).row .u8 (F r)) ?_))
      have hbe := below_setRow (hbe.alloc hsz (.cells (arr .u8 256 fun _ => 0) 66)) hsz (arr .u8 256 (F r))
      go_loopw [22] (fun t ws => ∃ j : Nat, j ≤ 256 ∧ t = .int .i64 (j : Int) ∧ Below w.heap.size w ws) (fun t _ => 256 - (intOf t).toNat)
      case atStart => exact ⟨0, by omega, rfl, hbe⟩
      case round =>
        clear hbe
        obtain ⟨j, hj, rfl, hbe⟩ := hrel
        by_cases hjl : j < 256
        · have hix := ixB8 (F r) j hjl
          have hcl : wr.cell? ⟨g', r * 256 + j, none⟩ = some (.bool (Y r j)) := by
            have := (HM'.out.below hbe).rowAt r hlt j hjl
            rwa [Addr.add_mid] at this
          have hv := HH.out r hlt j hjl
          cases hY : Y r j with
          | true =>
            simp only [hb, hY, if_true] at hv hcl
            rw [hv] at hix
            clear hv
            go_wp2_with (first | (go_at_call 28; refine (lwOneT _).mono ?_; rintro e w' ⟨rfl, rfl⟩))
            go_roundw
            case rel => exact ⟨j + 1, by omega, by go_num, hbe⟩
            case measure => simp [intOf]; omega
          | false =>
            simp only [hb, hY] at hv hcl
            simp only [Bool.false_eq_true, if_false] at hv
            rw [hv] at hix
            clear hv
            go_wp2_with (first | (go_at_call 28; refine (lwOneF _).mono ?_; rintro e w' ⟨rfl, rfl⟩))
            go_roundw
            case rel => exact ⟨j + 1, by omega, by go_num, hbe⟩
            case measure => simp [intOf]; omega
        · obtain rfl : j = 256 := by omega
          go_wp2_with fail
          go_roundw
          case rel => exact ⟨r + 1, by omega, by go_num, hbe⟩
          case measure => simp [intOf]; omega
    · obtain rfl : r = K := by omega
      go_wp2_with fail
      go_ret
      exact ⟨rfl, hbe⟩

end Go.Proofs.YtanfpnidlgejhaaDoor
