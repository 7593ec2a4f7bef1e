/-
  A public key read: the law.
-/
import Derived.Test.YteigpbeamdhjpaaDoorPk5
namespace Go.Proofs.YteigpbeamdhjpaaDoor
open Go.RowKit

set_option maxRecDepth 100000 in
set_option maxHeartbeats 1000000 in
theorem walkFnPkDecode (n : Int) (ad : Option Addr) (len cap : Nat) (zs : List Int) (w : World) (hp : Par w) (he : GErr w 3) (n0 : 0 ≤ n) (n1 : n < 256) (h : IsRow .u8 w ad len cap zs) :
    Calls Tryd.prog 4 #[.int .u8 n, .slice ad len cap] w fun e w' => e = .returned (.bool true) ∧ Below w.heap.size w w' := by
  have hlm : len ≤ maxLen := by
    rcases h with ⟨_, h, _⟩ | ⟨x, ha, hl, hm, _⟩
    · rw [h]; exact Nat.zero_le _
    · omega
  simp only [maxLen] at hlm
  obtain ⟨s, hs⟩ : ∃ s : Nat, (s : Int) = n % 3 := ⟨(n % 3).toNat, by omega⟩
  have hs3 : s < 3 := by omega
  obtain ⟨hk0, hk1⟩ := kk_bd s hs3
  have hks := kk_ss s hs3
  by_cases hg1 : 2147483647 < len
  · go_enter Tryd.func4, Tryd.ntmps4
    go_wp2_with fail
    go_ret
    exact ⟨rfl, Below.refl _ _⟩
  · go_enter Tryd.func4, Tryd.ntmps4
    go_wp2_with fail
    refine (lwSet _ s _ n0 n1 hs).mono ?_
    rintro e w1 ⟨rfl, hb1⟩
    clear hs
    have fs := (Blk.zeros8 w1 25 rfl).row .i64 (ss s)
    have hB2 := below_setRow (hb1.alloc hb1.size (.cells #[.int .i64 0, .int .i64 0, .int .i64 0, .int .i64 0, .int .i64 0, .int .i64 0, .int .i64 0, .int .i64 0] 25)) (g := w1.heap.size) hb1.size (arr .i64 8 (ss s))
    by_cases hl : len = 32 + 320 * kk s
    · subst hl
      have hcap : 32 + 320 * kk s ≤ cap := by
        rcases h with ⟨_, h, _⟩ | ⟨x, ha, hl, hm, _⟩
        · omega
        · exact hl
      obtain ⟨x, rfl, hr, hb⟩ := rd_of_row h (by omega)
      obtain ⟨b, hbv⟩ : ∃ b : Nat → Int, b = fun j => zs.getD j 0 := ⟨_, rfl⟩
      rw [← hbv] at hr
      replace hb : ∀ i, i < 32 + 320 * kk s → 0 ≤ b i ∧ b i < 256 := fun i hi => by rw [hbv]; exact hb i hi
      clear hbv h
      have HB := Lib.hid hb; clear hb
      have HR := Lib.hid hr; clear hr
      go_wp2_with (first | (with_reducible refine at_store 25 _ _ rfl ?_; refine wpList_store_arr iSet rfl _ _ rfl _ rfl rfl (Blk.zeros8 _ _ rfl) ?_))
      refine (implPkDecode s cap x b _ hs3 (hp.below hB2) (HR.out.below hB2) HB.out).mono ?_
      rintro e w4 ⟨⟨g, gt, c, rfl, hc32, hg, hgt, hrd, hbt⟩, hb4⟩
      have hB4 := belowChain hB2 hb4 hB2.size
      have fs := fs.below hb4
      go_wp2_with (first | (with_reducible refine at_load 25 _ rfl ?_; refine wpList_load_s Tryd.underlying25 rfl iSet rfl _ rfl _ rfl (fs) ?_))
      refine (publicSize s _ hs3).mono ?_
      rintro e w5 ⟨rfl, hb5⟩
      have hB5 := belowChain hB4 hb5 hB4.size
      have fs := fs.below hb5
      have hbt := hbt.below hb5
      have hrd := hrd.below hb5
      have hne : ((((32 + 320 * kk s : Nat)) : Int) != 32 + 320 * ((kk s : Nat) : Int)) = false := by simp
      have hc0 := fs.cellv 0 (kk s : Int) (by omega) hks
      have hnk : ((((kk s : Nat)) : Int) != ((kk s : Nat) : Int)) = false := by simp
      go_wp2_with (first | (go_at_call 14; refine (lwAlike ⟨g, 0, none⟩ x 32 c cap b b _ (fun j hj => hrd j (by omega)) (fun j hj => (HR.out.below hB5) j (by omega)) (fun _ _ => rfl)).mono ?_; rintro e w' ⟨rfl, rfl⟩))
      have hk64 : decide (2147483647 < 32 + 320 * ((kk s : Nat) : Int)) = false := by simp; omega
      try simp only [hk64]
      clear hne hc0 hnk hk64 hrd
      have hbe := hB5
      have hst := Below.refl w5.heap.size w5
      have hs5 := hB5.size
      go_loopw [52] (fun t wr => ∃ r : Nat, r ≤ kk s ∧ t = .int .i64 (r : Int) ∧ Below w.heap.size w wr ∧ Below w5.heap.size w5 wr) (fun t _ => kk s - (intOf t).toNat)
      case atStart => exact ⟨0, by omega, rfl, hbe, hst⟩
      case round =>
        clear hbe hst
        obtain ⟨r, hr, rfl, hbe, hst⟩ := hrel
        have hsz := hbe.size
        have hsz5 := hst.size
        by_cases hlt : r < kk s
        · have hrow : RowKit.Hid (∀ i, i < 256 → wr.cell? ((⟨gt, r * 256, none⟩ : Addr).add i) = some (.int .u16 (pkt b r i))) := Lib.hid fun i hi => by rw [Addr.add_mid, (hbt.below hst).cell (by omega), show (r * 256 + i) / 256 = r from by omega, show (r * 256 + i) % 256 = i from by omega]
          go_wp2_with (first | (with_reducible refine at_loadx 32 55 rfl ?_; refine wpList_load_at Tryd.underlying32 iW rfl _ rfl ⟨gt, r * 256, none⟩ rfl hrow.out ?_) | (with_reducible refine at_storex 32 11 _ rfl ?_; refine wpList_store_arr iW rfl _ _ rfl _ rfl rfl (Blk.new wr .u16 256 (fun _ => 0) 32 rfl) ?_))
          have hbe := below_setRow (hbe.alloc hsz (.cells (arr .u16 256 (fun _ => 0)) 32)) hsz (arr .u16 256 (pkt b r))
          have hst := below_setRow (hst.alloc hsz5 (.cells (arr .u16 256 (fun _ => 0)) 32)) hsz5 (arr .u16 256 (pkt b r))
          have f11 := (Blk.new wr .u16 256 (fun _ => 0) 32 rfl).row .u16 (pkt b r)
          go_wp2
          refine wp_region_below (by kernel_rfl) (by kernel_rfl) ?_
          (refine BigFrame.wpQuiet_want rfl (fun K hK => ?_); refine quiet_load_arr Tryd.underlying32 iW _ rfl _ rfl (fun w' hw' => Blk.below (f11) hw') (hK _ ?_); clear hK K; simp only [Act.put, List.setIfInBounds_toArray, List.set_cons_zero, List.set_cons_succ])
          go_big_quiet_step ((intro hw'; go_at_call 13; exact Calls.in_below hw' (lwWide (pkt b r) _ (fun i _ => by have := pkt_bd b r i; omega))))
          (first | go_big_quiet_skip | (go_big_quiet_want; go_big_quiet_op; first | go_big_quiet_on | (apply Exists.intro; refine ⟨fun _ _ => rfl, ?_⟩; go_big_quiet_on)))
          (first | go_big_quiet_skip | (go_big_quiet_want; go_big_quiet_op; first | go_big_quiet_on | (apply Exists.intro; refine ⟨fun _ _ => rfl, ?_⟩; go_big_quiet_on)))
          (first | go_big_quiet_skip | (go_big_quiet_want; go_big_quiet_op; first | go_big_quiet_on | (apply Exists.intro; refine ⟨fun _ _ => rfl, ?_⟩; go_big_quiet_on)))
          (first | go_big_quiet_skip | (go_big_quiet_want; go_big_quiet_op; first | go_big_quiet_on | (apply Exists.intro; refine ⟨fun _ _ => rfl, ?_⟩; go_big_quiet_on)))
          (first | go_big_quiet_skip | (go_big_quiet_want; go_big_quiet_op; first | go_big_quiet_on | (apply Exists.intro; refine ⟨fun _ _ => rfl, ?_⟩; go_big_quiet_on)))
          (first | go_big_quiet_skip | (go_big_quiet_want; go_big_quiet_op; first | go_big_quiet_on | (apply Exists.intro; refine ⟨fun _ _ => rfl, ?_⟩; go_big_quiet_on)))
          (first | go_big_quiet_skip | (go_big_quiet_want; go_big_quiet_op; first | go_big_quiet_on | (apply Exists.intro; refine ⟨fun _ _ => rfl, ?_⟩; go_big_quiet_on)))
          (first | go_big_quiet_skip | (go_big_quiet_want; go_big_quiet_op; first | go_big_quiet_on | (apply Exists.intro; refine ⟨fun _ _ => rfl, ?_⟩; go_big_quiet_on)))
          (first | go_big_quiet_skip | (go_big_quiet_want; go_big_quiet_op; first | go_big_quiet_on | (apply Exists.intro; refine ⟨fun _ _ => rfl, ?_⟩; go_big_quiet_on)))
          rw [show 32 + 320 * (r + 1) - (32 + 320 * r) = 320 from by omega]
          go_big_quiet_step ((intro hw'; go_at_call 18; exact Calls.in_below hw' ((spUnpacked (x.add (32 + 320 * r)) 320 _ 10 (fun i => b (32 + 320 * r + i)) _ (by omega) (by omega) (((HR.out.below hbe).below hw').sub (by omega)) (fun i hi => HB.out _ (by omega))))))
          (refine BigFrame.wpQuiet_want rfl (fun K hK => ?_); refine quiet_neq_arr Tryd.underlying35 Tryd.underlying3 Tryd.sizeOf3 Tryd.isAgg3 Tryd.eqGuardType35 _ _ _ rfl rfl rfl (fun _ _ => rfl) (hK _ ?_); clear hK K; simp only [Act.put, List.setIfInBounds_toArray, List.set_cons_zero, List.set_cons_succ])
          refine wpQuiet_nil ?_
          intro w7 hb7
          have hbe := belowChain hbe hb7 hbe.size
          have hst := belowChain hst hb7 hst.size
          go_wp2_with fail
          go_roundw
          case rel => exact ⟨r + 1, by omega, by go_num, hbe, hst⟩
          case measure => simp [intOf]; omega
        · obtain rfl : r = kk s := by omega
          go_wp2_with fail
          go_ret
          exact ⟨rfl, hbe⟩
    · go_wp2_with (first | (with_reducible refine at_store 25 _ _ rfl ?_; refine wpList_store_arr iSet rfl _ _ rfl _ rfl rfl (Blk.zeros8 _ _ rfl) ?_))
      refine (implPkDecodeNo s len cap ad zs _ hs3 (hp.below hB2) (he.below hB2) (by omega) hl (isRow_le h hB2)).mono ?_
      rintro e w4 ⟨⟨a4, n4, c4, rfl⟩, hb4⟩
      have hB4 := belowChain hB2 hb4 hB2.size
      have fs := fs.below hb4
      go_wp2_with (first | (with_reducible refine at_load 25 _ rfl ?_; refine wpList_load_s Tryd.underlying25 rfl iSet rfl _ rfl _ rfl (fs) ?_))
      refine (publicSize s _ hs3).mono ?_
      rintro e w5 ⟨rfl, hb5⟩
      have hne : ((len : Int) != 32 + 320 * ((kk s : Nat) : Int)) = true := by simp; omega
      go_wp2_with fail
      go_ret
      exact ⟨rfl, belowChain hB4 hb5 hB4.size⟩

end Go.Proofs.YteigpbeamdhjpaaDoor
