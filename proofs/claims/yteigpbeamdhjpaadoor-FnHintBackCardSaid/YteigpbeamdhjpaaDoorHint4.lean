/-
  Hints as bytes: the law.
-/
import Derived.Test.YteigpbeamdhjpaaDoorHint3
import Derived.Test.YteigpbeamdhjpaaDoorHeld
namespace Go.Proofs.YteigpbeamdhjpaaDoor
open Go.RowKit

theorem quiet_load_s {P : Program} {C : World → Prop} {o : Oper} {a : Act} {K : Act → Prop} {k : IntKind} {n : Nat} {z : Nat → Int} {ty t : TypeId} {d : TypeDesc} (hu : P.underlying ty = some d) (hd : (match d with | .struct _ | .array _ _ => true | _ => false) = true) (hi : (P.info? ty).map (·.size) = some n) (x : Operand) (ho : o.op = .load ty x) (g : Nat) (hx : a.eval x = .pointer (some ⟨g, 0, none⟩))
    (hg : ∀ w, C w → Blk w g k n z t) (hk : K (a.put o.dst (.agg (arr k n z)))) : o.quiet P a C K :=
  quiet_load_row ty x ho g hx t _ _ _ hg hu hd (by rw [arr_size]; exact hi) hk

set_option maxRecDepth 100000 in
set_option maxHeartbeats 1000000 in
theorem walkFnHintEncode (n : Int) (ad : Option Addr) (len cap : Nat) (Z : Nat → Nat → Bool) (w : World) (hp : Par w) (n0 : 0 ≤ n) (n1 : n < 256) (h : IsMatB w ad len cap Z) :
    Calls Tryd.prog 6 #[.int .u8 n, .slice ad len cap] w fun e w' => e = .returned (.bool true) ∧ Below w.heap.size w w' := by
  have hlm : len ≤ maxLen := by
    rcases h with ⟨_, h, _⟩ | ⟨x, ha, hl, hm, _⟩
    · rw [h]; exact Nat.zero_le _
    · omega
  simp only [maxLen] at hlm
  obtain ⟨s, hs⟩ : ∃ s : Nat, (s : Int) = n % 3 := ⟨(n % 3).toNat, by omega⟩
  have hs3 : s < 3 := by omega
  obtain ⟨hk0, hk1⟩ := kk_bd s hs3
  have hm : len = 0 ∨ ∃ x, ad = some x ∧ MatB w x len Z := by
    rcases h with ⟨_, h, _⟩ | ⟨x, ha, hl, hm, hmm⟩
    · exact .inl h
    · exact .inr ⟨x, ha, hmm.mono hl⟩
  clear h
  have HM := Lib.hid hm; clear hm
  by_cases hg1 : 2147483647 < len
  · go_enter Tryd.func6, Tryd.ntmps6
    go_wp2_with fail
    go_ret
    exact ⟨rfl, Below.refl _ _⟩
  · go_enter Tryd.func6, Tryd.ntmps6
    go_wp2_with fail
    refine (lwSet _ s _ n0 n1 hs).mono ?_
    rintro e w1 ⟨rfl, hb1⟩
    clear hs
    have fs := (Blk.zeros8 w1 25 rfl).row .i64 (ss s)
    have hB2 := below_setRow (hb1.alloc hb1.size (.cells #[.int .i64 0, .int .i64 0, .int .i64 0, .int .i64 0, .int .i64 0, .int .i64 0, .int .i64 0, .int .i64 0] 25)) (g := w1.heap.size) hb1.size (arr .i64 8 (ss s))
    go_wp2_with (first | (with_reducible refine at_store 25 _ _ rfl ?_; refine wpList_store_arr iSet rfl _ _ rfl _ rfl rfl (Blk.zeros8 _ _ rfl) ?_) | (with_reducible refine at_load 25 _ rfl ?_; refine wpList_load_s Tryd.underlying25 rfl iSet rfl _ rfl _ rfl (fs) ?_))
    refine (hintsOfX s ad len cap Z _ hs3 (by omega) (by
      rcases HM.out with h0 | ⟨x, hx, hm⟩
      · exact .inl h0
      · exact .inr ⟨x, hx, hm.below hB2⟩)).mono ?_
    rintro e w2 ⟨⟨v, v8, rfl, hown, hown8⟩, hb2⟩
    have fs := fs.below hb2
    have hB3 := belowChain hB2 hb2 hB2.size
    go_wp2_with fail
    cases hok : decide (len = kk s) && decide (hc Z (256 * len) ≤ om s) with
    | false =>
      refine wp_region_below (by kernel_rfl) (by kernel_rfl) ?_
      repeat (first | go_big_quiet_skip | (go_big_quiet_want; go_big_quiet_op; first | go_big_quiet_on | (apply Exists.intro; refine ⟨fun _ _ => rfl, ?_⟩; go_big_quiet_on)))
      refine wpQuiet_nil ?_
      intro w3 hb3
      go_wp2_with fail
      go_ret
      exact ⟨rfl, belowChain hB3 hb3 hB3.size⟩
    | true =>
      obtain ⟨hlk, hco⟩ : len = kk s ∧ hc Z (256 * len) ≤ om s := by simpa using hok
      clear hok
      subst hlk
      obtain ⟨gb, cb, rfl, hgb, hmb⟩ := matB_of_owns (by omega) hown
      obtain ⟨a8, c8, rfl, hv8, _⟩ := matV_of_owns (k := .u8) (Z := hb Z) hown8
      obtain ⟨g8, rfl, hg8, hm8⟩ : ∃ g, a8 = some ⟨g, 0, none⟩ ∧ w1.heap.size ≤ g + w1.heap.size ∧ MatI .u8 w2 ⟨g, 0, none⟩ (kk s) (hb Z) := by
        rcases hv8 with h0 | ⟨g, h1, _, h2⟩
        · omega
        · exact ⟨g, h1, by omega, h2⟩
      clear hg8 hv8 hown hown8
      refine wp_region_held_seq (C := Abv _) 3 [3, 4, 6, 7] [5, 8, 9, 10, 11] (by kernel_rfl) (by kernel_rfl) (fun _ _ d _ _ h => by cases d <;> exact h) (abv_drawn _) (by kernel_rfl) ?_
      simp only [List.take_succ_cons, List.take_zero, List.cons_append, List.nil_append, opsAt, List.filterMap_cons, List.filterMap_nil, List.getElem?_toArray, List.getElem?_cons_succ, List.getElem?_cons_zero]
      (first | go_big_quiet_skip | (go_big_quiet_want; go_big_quiet_op; first | go_big_quiet_on | (apply Exists.intro; refine ⟨fun _ _ => rfl, ?_⟩; go_big_quiet_on)))
      (first | go_big_quiet_skip | (go_big_quiet_want; go_big_quiet_op; first | go_big_quiet_on | (apply Exists.intro; refine ⟨fun _ _ => rfl, ?_⟩; go_big_quiet_on)))
      (first | go_big_quiet_skip | (go_big_quiet_want; go_big_quiet_op; first | go_big_quiet_on | (apply Exists.intro; refine ⟨fun _ _ => rfl, ?_⟩; go_big_quiet_on)))
      change wpQuiet _ _ _ _ (_ :: _ :: _ :: _ :: []) _
      (first | go_big_quiet_skip | (go_big_quiet_want; go_big_quiet_op; first | go_big_quiet_on | (apply Exists.intro; refine ⟨fun _ _ => rfl, ?_⟩; go_big_quiet_on)))
      (first | go_big_quiet_skip | (go_big_quiet_want; go_big_quiet_op; first | go_big_quiet_on | (apply Exists.intro; refine ⟨fun _ _ => rfl, ?_⟩; go_big_quiet_on)))
      (refine BigFrame.wpQuiet_want rfl (fun K hK => ?_); refine quiet_load_s Tryd.underlying25 rfl iSet _ rfl _ rfl (fun w' hw' => Blk.below (fs) hw') (hK _ ?_); clear hK K; simp only [Act.put, List.setIfInBounds_toArray, List.set_cons_zero, List.set_cons_succ])
      (first | go_big_quiet_skip | (go_big_quiet_want; go_big_quiet_op; first | go_big_quiet_on | (apply Exists.intro; refine ⟨fun _ _ => rfl, ?_⟩; go_big_quiet_on)))
      refine wpQuiet_nil ?_
      intro w3 hb3
      refine seqH_call _ rfl rfl 20 _ _ rfl (by kernel_rfl) #[.int .i64 (nm s), .slice (some ⟨g8, 0, none⟩) (kk s) c8] (by simp only [List.map_toArray, List.map_cons, List.map_nil]; rfl) ?_
      refine (implHintEncode s c8 ⟨g8, 0, none⟩ Z _ hs3 ((hp.below hB3).below hb3) (hm8.below hb3) hco).mono ?_
      rintro e w4 ⟨g4, rfl, hg4, h4, hb4⟩
      refine ⟨_, rfl, Below.trans hb3 (hb4.mono hb3.size), ?_⟩
      have hb5 := Below.trans hb3 (hb4.mono hb3.size)
      simp only [List.getElem_toArray, List.getElem_cons_succ, List.getElem_cons_zero, Act.put, List.setIfInBounds_toArray, List.set_cons_zero, List.set_cons_succ]
      refine seqH_call _ rfl rfl 21 _ _ rfl (by kernel_rfl) #[.agg (arr .i64 8 (ss s)), .slice (some ⟨gb, 0, none⟩) (kk s) cb] (by simp only [List.map_toArray, List.map_cons, List.map_nil]; rfl) ?_
      refine (packHints s gb cb Z _ hs3 (hmb.below hb5) hco).mono ?_
      rintro e w5 ⟨g5, rfl, hg5, h5, hb6⟩
      refine ⟨_, rfl, Below.trans hb5 (hb6.mono hb5.size), ?_⟩
      have hb7 := Below.trans hb5 (hb6.mono hb5.size)
      have h4 := h4.below hb6
      simp only [List.getElem_toArray, List.getElem_cons_succ, List.getElem_cons_zero, Act.put, List.setIfInBounds_toArray, List.set_cons_zero, List.set_cons_succ]
      refine seqH_call _ rfl rfl 14 _ _ rfl (by kernel_rfl) #[.slice (some ⟨g4, 0, none⟩) (om s + kk s) (om s + kk s), .slice (some ⟨g5, 0, none⟩) (om s + kk s) (om s + kk s)] (by simp only [List.map_toArray, List.map_cons, List.map_nil]; rfl) ?_
      refine (lwAlike ⟨g4, 0, none⟩ ⟨g5, 0, none⟩ (om s + kk s) _ _ _ _ _ (Blk.rd (L := 0) h4 (by omega) (fun j _ => by rw [Nat.zero_add])) (Blk.rd (L := 0) h5 (by omega) (fun j _ => by rw [Nat.zero_add])) (fun _ _ => rfl)).mono ?_
      rintro e w' ⟨rfl, rfl⟩
      refine ⟨_, rfl, hb7, ?_⟩
      simp only [List.getElem_toArray, List.getElem_cons_succ, List.getElem_cons_zero, Act.put, List.setIfInBounds_toArray, List.set_cons_zero, List.set_cons_succ]
      refine seqH_still [10, 11] (r := []) (by kernel_rfl) hb7 ?_
      simp only [opsAt, List.filterMap_cons, List.filterMap_nil, List.getElem?_toArray, List.getElem?_cons_succ, List.getElem?_cons_zero]
      change wpQuiet _ _ _ _ (_ :: _ :: []) _
      repeat (first | go_big_quiet_skip | (go_big_quiet_want; go_big_quiet_op; first | go_big_quiet_on | (apply Exists.intro; refine ⟨fun _ _ => rfl, ?_⟩; go_big_quiet_on)))
      refine wpQuiet_nil ?_
      intro w7 hb7
      refine seqH_nil ?_
      go_wp2_with fail
      go_ret
      exact ⟨rfl, belowChain hB3 hb7 hB3.size⟩

end Go.Proofs.YteigpbeamdhjpaaDoor
