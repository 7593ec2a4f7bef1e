/-
  The law of the transforms of several polynomials of numbers of ten bits.
-/
import Derived.Test.YtpfabgmoadljnaaDoorT1
namespace Go.Proofs.YtpfabgmoadljnaaDoor
open Go.RowKit

def t1p (Z : Nat → Nat → Int) (r j : Nat) : Int := Z r j * 8192 % 8380417
theorem t1p_val (Z : Nat → Nat → Int) (r j : Nat) (hj : j < 256) : t1f Z (r * 256 + j) = nttF (t1p Z r) j * 4193792 % 8380417 := by
  unfold t1f
  rw [show (r * 256 + j) / 256 = r from by omega, show (r * 256 + j) % 256 = j from by omega]
  have h := ntt_mul 4193792 (t1p Z r) j hj
  rw [Int.mul_comm] at h
  rw [← h]
  refine nttF_congr _ _ (fun i _ => ?_) j hj
  unfold t1v t1p
  omega
theorem isMat_le {k : IntKind} {w w' : World} {a : Option Addr} {len cap : Nat} {Z : Nat → Nat → Int} (h : IsMat k w a len cap Z) (hb : Below w.heap.size w w') : IsMat k w' a len cap Z := by
  rcases h with h | ⟨x, h1, h2, h3, h4, h5⟩
  · exact .inl h
  · exact .inr ⟨x, h1, h2, h3, h4.below hb, h5⟩
theorem matV_le {k : IntKind} {B : Nat} {w w' : World} {a : Option Addr} {n : Nat} {Z : Nat → Nat → Int} (h : MatV k B w a n Z) (hb : Below w.heap.size w w') : MatV k B w' a n Z := by
  rcases h with h | ⟨g, h1, h2, h3⟩
  · exact .inl h
  · exact .inr ⟨g, h1, h2, h3.below hb⟩

set_option maxRecDepth 100000 in
set_option maxHeartbeats 2000000 in
theorem walkFnT1Hat (a : Option Addr) (len cap : Nat) (Z : Nat → Nat → Int) (w : World) (_he : GErr w 1) (hg : GArr w 0 .u32 256 zetaV) (h : IsMat .u16 w a len cap Z) :
    Calls Tryd.prog 6 #[.slice a len cap] w fun e w' => e = .returned (.bool true) ∧ Below w.heap.size w w' := by
  have hlm : len ≤ maxLen := by
    rcases h with ⟨_, h, _⟩ | ⟨x, ha, hl, hm, _⟩
    · rw [h]; exact Nat.zero_le _
    · omega
  simp only [maxLen] at hlm
  by_cases hg1 : 2147483647 < len
  · go_enter Tryd.func6, Tryd.ntmps6
    go_wp2_with fail
    go_ret
    exact ⟨rfl, Below.refl _ _⟩
  · by_cases hg8 : 8 < len
    · go_enter Tryd.func6, Tryd.ntmps6
      go_wp2_with fail
      go_ret
      exact ⟨rfl, Below.refl _ _⟩
    · go_enter Tryd.func6, Tryd.ntmps6
      go_wp2_with fail
      refine (lwBelow16 a len cap Z 1024 _ (by omega) (by omega) (by omega) h).mono ?_
      rintro e w1 ⟨rfl, hb1⟩
      cases hmb : matB Z len 1024 with
      | false =>
        go_wp2_with fail
        go_ret
        exact ⟨rfl, hb1⟩
      | true =>
        have hz : ∀ r, r < len → ∀ j, j < 256 → 0 ≤ Z r j ∧ Z r j < 1024 := by
          intro r hr j hj
          refine ⟨?_, matB_all hmb r hr j hj⟩
          rcases h with ⟨_, h0, _⟩ | ⟨x, _, hl, _, _, hw⟩
          · omega
          · have := bounds_u16 (hw r (by omega) j hj); omega
        have HZ := Lib.hid hz; clear hmb hz
        have H := Lib.hid (isMat_le h hb1); clear h
        have HG := Lib.hid (hg.below hb1); clear hg
        go_wp2_with fail
        refine (implT1 a len cap Z _ HG.out (by omega) HZ.out H.out).mono ?_
        rintro e w3 ⟨⟨a3, c3, rfl, hv3⟩, hb3⟩
        have H := Lib.hid (isMat_le H.out hb3)
        have HV := Lib.hid hv3; clear hv3
        have hB3 := belowChain hb1 hb3 hb1.size
        have hs3 := hB3.size
        clear hb1 hb3
        go_wp2_with fail
        go_loopw [29] (fun t wr => ∃ r : Nat, r ≤ len ∧ t = .int .i64 (r : Int) ∧ Below w.heap.size w wr ∧ Below w3.heap.size w3 wr) (fun t _ => len - (intOf t).toNat)
        case atStart => exact ⟨0, by omega, rfl, hB3, Below.refl _ _⟩
        case round =>
          obtain ⟨r, hr, rfl, hbe, hst⟩ := hrel
          by_cases hlt : r < len
          · obtain ⟨x, rfl, hlc, hcm, hm, _⟩ : ∃ x, a = some x ∧ len ≤ cap ∧ cap ≤ maxLen ∧ MatI .u16 w3 x cap Z ∧ ∀ r, r < cap → ∀ j, j < 256 → (Lit.int .u16 (Z r j)).wf = true := by
              rcases H.out with ⟨_, h0, _⟩ | h
              · omega
              · exact h
            obtain ⟨g3, rfl, hg3, hm3⟩ : ∃ g3, a3 = some ⟨g3, 0, none⟩ ∧ w1.heap.size ≤ g3 ∧ MatI .u32 w3 ⟨g3, 0, none⟩ len (fun r j => t1f Z (r * 256 + j)) := by
              rcases HV.out with h0 | h
              · omega
              · exact h
            have hrow := Lib.hid ((hm.below hst).row r (by omega))
            clear hm
            have hs0 := hbe.size
            have hs30 := hst.size
            go_wp2_with (first | (with_reducible refine at_loadx 41 32 rfl ?_; refine wpList_load_at Tryd.underlying41 iW rfl _ rfl (x.add (r * 256)) rfl hrow.out ?_) | (with_reducible refine at_storex 41 5 _ rfl ?_; refine wpList_store_arr iW rfl _ _ rfl _ rfl rfl (Blk.new wr .u16 256 (fun _ => 0) 41 rfl) ?_) | (with_reducible refine at_storex 25 6 _ rfl ?_; refine wpList_store_arr iP rfl _ _ rfl _ rfl rfl (Blk.new ((wr.alloc (.cells (arr .u16 256 (fun _ => 0)) 41)).setRow wr.heap.size (arr .u16 256 (Z r))) .i64 256 (fun _ => 0) 25 (by simp)) ?_) | (with_reducible refine at_loadx 41 5 rfl ?_; refine wpList_load_arr Tryd.underlying41 iW rfl _ rfl _ rfl ((((Blk.new wr .u16 256 (fun _ => 0) 41 rfl).row .u16 (Z r)).alloc _).rowOther _ _ (by simp)) ?_))
            obtain ⟨W6, hW6⟩ : ∃ W6 : World, W6 = (((wr.alloc (.cells (arr .u16 256 (fun _ => 0)) 41)).setRow wr.heap.size (arr .u16 256 (Z r))).alloc (.cells (arr .i64 256 (fun _ => 0)) 25)).setRow (wr.heap.size + 1) (arr .i64 256 (fun _ => 0)) := ⟨_, rfl⟩
            have h6 : Blk W6 (wr.heap.size + 1) .i64 256 (fun _ => 0) 25 := by
              rw [hW6]
              exact (Blk.new _ _ _ _ _ (by simp)).row _ _
            have hbe : Below w.heap.size w W6 := by
              rw [hW6]
              exact below_setRow ((below_setRow (hbe.alloc hs0 (.cells (arr .u16 256 (fun _ => 0)) 41)) hs0 (arr .u16 256 (Z r))).alloc (by simp; omega) (.cells (arr .i64 256 (fun _ => 0)) 25)) (by omega) _
            have hst : Below w3.heap.size w3 W6 := by
              rw [hW6]
              exact below_setRow ((below_setRow (hst.alloc hs30 (.cells (arr .u16 256 (fun _ => 0)) 41)) hs30 (arr .u16 256 (Z r))).alloc (by simp; omega) (.cells (arr .i64 256 (fun _ => 0)) 25)) (by omega) _
            have hg6 : w.heap.size ≤ wr.heap.size + 1 := by omega
            have hg63 : w3.heap.size ≤ wr.heap.size + 1 := by omega
            obtain ⟨G6, hG6⟩ : ∃ G6, G6 = wr.heap.size + 1 := ⟨_, rfl⟩
            rw [← hG6] at h6 hg6 hg63
            rw [← hW6]
            rw [← hG6]
            clear hW6 hG6 hs0 hs30
            go_loopw [36] (fun t ws => ∃ J : Nat, J ≤ 256 ∧ t = .int .i64 (J : Int) ∧ Blk ws G6 .i64 256 (fun j => if j < J then t1p Z r j else 0) 25 ∧ Below w.heap.size w ws ∧ Below w3.heap.size w3 ws) (fun t _ => 256 - (intOf t).toNat)
            case atStart => exact ⟨0, by omega, rfl, h6.congr (fun j _ => (if_neg (by omega)).symm), hbe, hst⟩
            case round =>
              clear h6 hbe hst
              obtain ⟨J, hJ, rfl, h6, hbe, hst⟩ := hrel
              have hsz := hbe.size
              have hsz3 := hst.size
              by_cases hJl : J < 256
              · obtain ⟨hz0, hz1⟩ := HZ.out r hlt J hJl
                obtain ⟨z, hzz⟩ : ∃ z, z = Z r J := ⟨_, rfl⟩
                have hix : ∀ w', (Instr.index 41 (.agg (arr .u16 256 (Z r))) (.int .i64 (J : Int))).run Tryd.prog w' = .ok (.int .u16 z) w' := fun w' => by rw [ixW _ _ _ hJl, hzz]
                rw [← hzz] at hz0 hz1
                have HZZ := Lib.hid hzz; clear hzz
                go_wp2_with (first | (with_reducible refine at_store 3 _ _ rfl ?_; refine wpList_store_int Tryd.sizeOf3 rfl _ _ rfl _ _ rfl _ rfl h6 (by omega) ?_; intro wn hn he; replace hbe := hbe.trans (he.below hsz hg6); replace hst := hst.trans (he.below hsz3 hg63); clear h6; have h6 := hn; clear hn he) | (go_at_call 19; refine (spMod _ _ (by omega) (by omega)).mono ?_; rintro e w' ⟨rfl, rfl⟩))
                go_roundw
                case rel => exact ⟨J + 1, by omega, by go_num, h6.congr (fun p _ => by
                    by_cases e : p = J
                    · subst e; rw [if_pos rfl, if_pos (by omega), t1p, ← HZZ.out]
                    · rw [if_neg e]; by_cases e2 : p < J
                      · rw [if_pos e2, if_pos (by omega)]
                      · rw [if_neg e2, if_neg (by omega)]), hbe, hst⟩
                case measure => simp [intOf]; omega
              · obtain rfl : J = 256 := by omega
                have h6 : Blk _ G6 .i64 256 (t1p Z r) 25 := h6.congr fun p hp => if_pos hp
                have hm3 := hm3.below hst
                go_wp2_with fail
                refine wp_region_below (by kernel_rfl) (by kernel_rfl) ?_
                (first | go_big_quiet_skip | (go_big_quiet_want; go_big_quiet_op; first | go_big_quiet_on | (apply Exists.intro; refine ⟨fun _ _ => rfl, ?_⟩; go_big_quiet_on)))
                (first | go_big_quiet_skip | (go_big_quiet_want; go_big_quiet_op; first | go_big_quiet_on | (apply Exists.intro; refine ⟨fun _ _ => rfl, ?_⟩; go_big_quiet_on)))
                (first | go_big_quiet_skip | (go_big_quiet_want; go_big_quiet_op; first | go_big_quiet_on | (apply Exists.intro; refine ⟨fun _ _ => rfl, ?_⟩; go_big_quiet_on)))
                (refine BigFrame.wpQuiet_want rfl (fun K hK => ?_); refine quiet_load_at Tryd.underlying23 iU _ rfl ⟨g3, r * 256, none⟩ rfl (fun w' hw' j hj => (by rw [Addr.add_mid]; exact (hm3.below hw').at r j hlt hj)) (hK _ ?_); clear hK K; simp only [Act.put, List.setIfInBounds_toArray, List.set_cons_zero, List.set_cons_succ])
                (refine BigFrame.wpQuiet_want rfl (fun K hK => ?_); refine quiet_load_arr Tryd.underlying25 iP _ rfl _ rfl (fun w' hw' => Blk.below (h6) hw') (hK _ ?_); clear hK K; simp only [Act.put, List.setIfInBounds_toArray, List.set_cons_zero, List.set_cons_succ])
                go_big_quiet_step ((intro hw'; go_at_call 12; exact Calls.in_below hw' (spForward (t1p Z r) _ (fun i _ => by unfold t1p; omega))))
                go_big_quiet_step ((intro hw'; go_at_call 20; exact Calls.in_below hw' (lwIs _ _ _ (fun j _ => by have := nttF_bd (t1v Z ((r * 256 + j) / 256)) ((r * 256 + j) % 256); unfold t1f; omega) (fun j hj => ⟨by have := nttF_bd (t1p Z r) j; omega, t1p_val Z r j hj⟩))))
                (first | go_big_quiet_skip | (go_big_quiet_want; go_big_quiet_op; first | go_big_quiet_on | (apply Exists.intro; refine ⟨fun _ _ => rfl, ?_⟩; go_big_quiet_on)))
                refine wpQuiet_nil ?_
                intro w7 hb7
                have hbe := belowChain hbe hb7 hbe.size
                have hst := belowChain hst hb7 hst.size
                go_wp2_with fail
                go_roundw
                case rel => exact ⟨r + 1, by omega, by go_num, hbe, hst⟩
                case measure => simp [intOf]; omega
          · obtain rfl : r = len := by omega
            go_wp2_with fail
            go_ret
            exact ⟨rfl, hbe⟩

end Go.Proofs.YtpfabgmoadljnaaDoor
