/-
  A public key written: the law.
-/
import Derived.Test.YtanfpnidlgejhaaDoorPk1
import Derived.Test.YtanfpnidlgejhaaDoorPack2
namespace Go.Proofs.YtanfpnidlgejhaaDoor
open Go.RowKit


set_option maxRecDepth 100000 in
set_option maxHeartbeats 1000000 in
theorem spJoined1 (g : Nat) (x : Addr) (l c : Nat) (f : Nat → Int) (w : World) (h0 : 0 < l) (hl : l ≤ 1073741824) (hc : w.cell? ⟨g, 0, none⟩ = some (.slice (some x) l c)) (hr : Rd .u8 w x l f) :
    Calls Tryd.prog 16 #[.slice (some ⟨g, 0, none⟩) 1 1] w fun e w' => (∃ v, e = .returned v ∧ w'.ownsRow w.heap.size 5 1 v l (bl f l)) ∧ Below w.heap.size w w' := by
  obtain ⟨bi, bi1, bi2, bi3, bi4⟩ := byteInfo
  go_enter Tryd.func16, Tryd.ntmps16
  go_wp2_with fail
  go_loopw [3, 9] (fun v t wr => ∃ i : Nat, i ≤ 1 ∧ t = .int .i64 (i : Int) ∧ wr.ownsRow w.heap.size 5 1 v (if i = 0 then 0 else l) (bl f (if i = 0 then 0 else l)) ∧ Below w.heap.size w wr) (fun _ t _ => 1 - (intOf t).toNat)
  case atStart => exact ⟨0, by omega, rfl, ownsRow_empty w _ _ (Nat.le_refl _), (Below.refl _ _).alloc (Nat.le_refl _) _⟩
  case round =>
    obtain ⟨i, hi, rfl, hown, hbe⟩ := hrel
    by_cases hlt : i < 1
    · obtain rfl : i = 0 := by omega
      have hcell : wr.cell? ⟨g, 0, none⟩ = some (.slice (some x) l c) := by
        rw [hbe.cell (p := ⟨g, 0, none⟩) (block_lt_of_cell hc), hc]
      have hr1 := Lib.hid (hr.below hbe)
      have hs0 := hbe.size
      rw [if_pos rfl] at hown
      go_wp2_with (first | (at_builtin; refine wpList_append_own _ rfl _ _ 22 rfl w.heap.size 5 bi (.int .u8 0) 1 1 Tryd.underlying22 bi1 bi2 bi3 bi4 rfl (by decide) _ _ _ rfl (hown) x l c ((List.range l).map fun i => Value.int .u8 (f i)) rfl ?c1 ?c2 ?c3 ?c4 ?c5 ?c6 ?_))
      case c1 => simp
      case c2 => exact news_rd hr1.out
      case c3 => exact one_bl f l
      case c4 => simp only [maxLen]; omega
      case c5 => omega
      case c6 => exact hs0
      intro v1 w1 hown1 hgr1 _
      have hlt1 := hown.lt
      have hB1 := hbe.grown hgr1 hs0 (fun k hk => (hlt1 k hk).1)
      go_wp2_with fail
      go_roundw
      case rel => exact ⟨1, by omega, by go_num, by rw [if_neg (by omega)]; simpa [bl] using hown1, hB1⟩
      case measure => simp [intOf]
    · obtain rfl : i = 1 := by omega
      rw [if_neg (by omega)] at hown
      go_wp2_with fail
      go_ret
      exact ⟨⟨_, rfl, hown⟩, hbe⟩

/-- Bytes are told, in new memory. -/
def BPost (n : Nat) (f : Nat → Int) (w : World) (e : Ending) (w' : World) : Prop := ∃ g c, e = .returned (.slice (some ⟨g, 0, none⟩) n c) ∧ w.heap.size ≤ g ∧ Rd .u8 w' ⟨g, 0, none⟩ n f ∧ Below w.heap.size w w'
theorem bpost_of {n : Nat} {f : Nat → Int} {w w' : World} {t : TypeId} {v : Value} (hn : 0 < n) (h : w'.ownsRow w.heap.size t 1 v n (bl f n)) (hb : Below w.heap.size w w') : BPost n f w (.returned v) w' := by
  obtain ⟨g, c, rfl, hg, _, _, hr⟩ := rd_of_owns hn h
  exact ⟨g, c, rfl, hg, hr, hb⟩


end Go.Proofs.YtanfpnidlgejhaaDoor
