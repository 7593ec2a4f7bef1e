/-
  The parameter sets, as the program's variables and the reference have them.
-/
import Derived.Test.YtanfpnidlgejhaaDoorField
import Derived.Test.YtanfpnidlgejhaaDoorDoor
namespace Go.Proofs.YtanfpnidlgejhaaDoor
open Go.RowKit

/-- The program's parameters of a set (0: 44, 1: 65, 2: 87). -/
def ps : Nat → Nat → Int
  | 0 => fun i => ([4, 4, 2, 17, 88, 128, 39, 80] : List Int).getD i 0
  | 1 => fun i => ([6, 5, 4, 19, 32, 192, 49, 55] : List Int).getD i 0
  | _ => fun i => ([8, 7, 2, 19, 32, 256, 60, 75] : List Int).getD i 0
/-- The reference's. -/
def ss : Nat → Nat → Int
  | 0 => fun i => ([4, 4, 2, 39, 131072, 95232, 80, 32] : List Int).getD i 0
  | 1 => fun i => ([6, 5, 4, 49, 524288, 261888, 55, 48] : List Int).getD i 0
  | _ => fun i => ([8, 7, 2, 60, 524288, 261888, 75, 64] : List Int).getD i 0
def nm : Nat → Int
  | 0 => 44
  | 1 => 65
  | _ => 87
theorem zeros8 : (#[.int .i64 0, .int .i64 0, .int .i64 0, .int .i64 0, .int .i64 0, .int .i64 0, .int .i64 0, .int .i64 0] : Array Value) = arr .i64 8 (fun _ => 0) := rfl
theorem Blk.zeros8 (w : World) (t : TypeId) {g : Nat} (e : g = w.heap.size) : Blk (w.alloc (.cells #[.int .i64 0, .int .i64 0, .int .i64 0, .int .i64 0, .int .i64 0, .int .i64 0, .int .i64 0, .int .i64 0] t)) g .i64 8 (fun _ => 0) t := by
  rw [Proofs.YtanfpnidlgejhaaDoor.zeros8]; exact Blk.new w .i64 8 (fun _ => 0) t e

theorem iSet : (Tryd.prog.info? 24).map (·.size) = some 8 := by kernel_rfl

theorem iPar : (Tryd.prog.info? 76).map (·.size) = some 8 := by kernel_rfl
def Par (w : World) : Prop := GArr w 0 .i64 8 (ps 0) ∧ GArr w 1 .i64 8 (ps 1) ∧ GArr w 2 .i64 8 (ps 2)
theorem Par.below {w w' : World} (h : Par w) (hb : Below w.heap.size w w') : Par w' := ⟨h.1.below hb, h.2.1.below hb, h.2.2.below hb⟩
theorem Par.alloc {w : World} (h : Par w) (o : Obj) : Par (w.alloc o) := h.below ((Below.refl _ _).alloc (Nat.le_refl _) o)
theorem Par.at0 {w : World} (h : Par w) (o : Obj) : GArr (w.alloc o) 0 .i64 8 (ps 0) := (h.alloc o).1
theorem Par.at1 {w : World} (h : Par w) (o : Obj) : GArr (w.alloc o) 1 .i64 8 (ps 1) := (h.alloc o).2.1
theorem Par.at2 {w : World} (h : Par w) (o : Obj) : GArr (w.alloc o) 2 .i64 8 (ps 2) := (h.alloc o).2.2

theorem litSet44 : (#[.int .i64 4, .int .i64 4, .int .i64 2, .int .i64 39, .int .i64 131072, .int .i64 95232, .int .i64 80, .int .i64 32] : Array Value) = arr .i64 8 (ss 0) := rfl
theorem spSet44 (w : World) : Calls Tryd.prog 22 #[] w fun e w' => e = .returned (.agg (arr .i64 8 (ss 0))) ∧ Below w.heap.size w w' := by
  go_enter Tryd.func22, Tryd.ntmps22
  go_wp2_with fail
  rw [litSet44]
  exact bodyPost_ret (v := .agg (arr .i64 8 (ss 0))) (results_s Tryd.underlying24 rfl iSet rfl _ _ _ rfl (Blk.new w _ _ _ _ rfl)) rfl ⟨rfl, (Below.refl _ _).alloc (Nat.le_refl _) _⟩

theorem litSet65 : (#[.int .i64 6, .int .i64 5, .int .i64 4, .int .i64 49, .int .i64 524288, .int .i64 261888, .int .i64 55, .int .i64 48] : Array Value) = arr .i64 8 (ss 1) := rfl
theorem spSet65 (w : World) : Calls Tryd.prog 23 #[] w fun e w' => e = .returned (.agg (arr .i64 8 (ss 1))) ∧ Below w.heap.size w w' := by
  go_enter Tryd.func23, Tryd.ntmps23
  go_wp2_with fail
  rw [litSet65]
  exact bodyPost_ret (v := .agg (arr .i64 8 (ss 1))) (results_s Tryd.underlying24 rfl iSet rfl _ _ _ rfl (Blk.new w _ _ _ _ rfl)) rfl ⟨rfl, (Below.refl _ _).alloc (Nat.le_refl _) _⟩

theorem litSet87 : (#[.int .i64 8, .int .i64 7, .int .i64 2, .int .i64 60, .int .i64 524288, .int .i64 261888, .int .i64 75, .int .i64 64] : Array Value) = arr .i64 8 (ss 2) := rfl
theorem spSet87 (w : World) : Calls Tryd.prog 24 #[] w fun e w' => e = .returned (.agg (arr .i64 8 (ss 2))) ∧ Below w.heap.size w w' := by
  go_enter Tryd.func24, Tryd.ntmps24
  go_wp2_with fail
  rw [litSet87]
  exact bodyPost_ret (v := .agg (arr .i64 8 (ss 2))) (results_s Tryd.underlying24 rfl iSet rfl _ _ _ rfl (Blk.new w _ _ _ _ rfl)) rfl ⟨rfl, (Below.refl _ _).alloc (Nat.le_refl _) _⟩

set_option maxHeartbeats 1000000 in
theorem lwSet (n : Int) (s : Nat) (w : World) (h0 : 0 ≤ n) (h1 : n < 256) (hs : (s : Int) = n % 3) :
    Calls Tryd.prog 6 #[.int .u8 n] w fun e w' => e = .returned (.tuple #[.agg (arr .i64 8 (ss s)), .int .i64 (nm s)]) ∧ Below w.heap.size w w' := by
  have h3 : s = 0 ∨ s = 1 ∨ s = 2 := by omega
  rcases h3 with rfl | rfl | rfl
  · have hb : (n % 3 == 0) = true := by simp; omega
    clear hs
    go_enter Tryd.func6, Tryd.ntmps6
    go_wp2_with (first | (go_at_call 22; refine (spSet44 _).mono ?_; rintro e w1 ⟨rfl, hb1⟩; have hr := Blk.below (Blk.zeros8 w 24 rfl) hb1; have hB := belowChain ((Below.refl w.heap.size w).alloc (Nat.le_refl _) (.cells #[.int .i64 0, .int .i64 0, .int .i64 0, .int .i64 0, .int .i64 0, .int .i64 0, .int .i64 0, .int .i64 0] 24)) hb1 (by first | omega | (simp; done) | (simp; omega))) | (with_reducible refine at_store 24 _ _ rfl ?_; refine wpList_store_arr iSet rfl _ _ rfl _ rfl rfl (hr) ?_))
    exact bodyPost_ret (v := .tuple #[.agg (arr .i64 8 (ss 0)), .int .i64 44]) (results_s_tmp Tryd.underlying24 rfl iSet rfl _ _ _ _ rfl rfl (hr.row _ _)) rfl ⟨rfl, below_setRow hB (by first | omega | (simp; done) | (simp; omega)) _⟩
  · have hb : (n % 3 == 0) = false := by simp; omega
    have hb2 : (n % 3 == 1) = true := by simp; omega
    clear hs
    go_enter Tryd.func6, Tryd.ntmps6
    go_wp2_with (first | (go_at_call 23; refine (spSet65 _).mono ?_; rintro e w1 ⟨rfl, hb1⟩; have hr := Blk.below (Blk.zeros8 w 24 rfl) hb1; have hB := belowChain ((Below.refl w.heap.size w).alloc (Nat.le_refl _) (.cells #[.int .i64 0, .int .i64 0, .int .i64 0, .int .i64 0, .int .i64 0, .int .i64 0, .int .i64 0, .int .i64 0] 24)) hb1 (by first | omega | (simp; done) | (simp; omega))) | (with_reducible refine at_store 24 _ _ rfl ?_; refine wpList_store_arr iSet rfl _ _ rfl _ rfl rfl (hr) ?_))
    exact bodyPost_ret (v := .tuple #[.agg (arr .i64 8 (ss 1)), .int .i64 65]) (results_s_tmp Tryd.underlying24 rfl iSet rfl _ _ _ _ rfl rfl (hr.row _ _)) rfl ⟨rfl, below_setRow hB (by first | omega | (simp; done) | (simp; omega)) _⟩
  · have hb : (n % 3 == 0) = false := by simp; omega
    have hb2 : (n % 3 == 1) = false := by simp; omega
    clear hs
    go_enter Tryd.func6, Tryd.ntmps6
    go_wp2_with (first | (go_at_call 24; refine (spSet87 _).mono ?_; rintro e w1 ⟨rfl, hb1⟩; have hr := Blk.below (Blk.zeros8 w 24 rfl) hb1; have hB := belowChain ((Below.refl w.heap.size w).alloc (Nat.le_refl _) (.cells #[.int .i64 0, .int .i64 0, .int .i64 0, .int .i64 0, .int .i64 0, .int .i64 0, .int .i64 0, .int .i64 0] 24)) hb1 (by first | omega | (simp; done) | (simp; omega))) | (with_reducible refine at_store 24 _ _ rfl ?_; refine wpList_store_arr iSet rfl _ _ rfl _ rfl rfl (hr) ?_))
    exact bodyPost_ret (v := .tuple #[.agg (arr .i64 8 (ss 2)), .int .i64 87]) (results_s_tmp Tryd.underlying24 rfl iSet rfl _ _ _ _ rfl rfl (hr.row _ _)) rfl ⟨rfl, below_setRow hB (by first | omega | (simp; done) | (simp; omega)) _⟩

set_option maxHeartbeats 1000000 in
theorem zzSet (s : Nat) (w : World) (hs : s < 3) (hp : Par w) :
    Calls Tryd.prog 39 #[.int .i64 (nm s)] w fun e w' => e = .returned (.agg (arr .i64 8 (ps s))) ∧ Below w.heap.size w w' := by
  have h3 : s = 0 ∨ s = 1 ∨ s = 2 := by omega
  clear hs
  rcases h3 with rfl | rfl | rfl
  · simp only [nm]
    go_enter Tryd.func39, Tryd.ntmps39
    go_wp2_with (first | (with_reducible refine at_load 76 _ rfl ?_; refine wpList_load_g Tryd.underlying76 rfl iPar rfl _ rfl _ (eval_global _ _) (hp.at0 _) ?_) | (with_reducible refine at_store 76 _ _ rfl ?_; refine wpList_store_arr iPar rfl _ _ rfl _ rfl rfl (Blk.zeros8 _ _ rfl) ?_))
    exact bodyPost_ret (v := .agg (arr .i64 8 (ps 0))) (results_s Tryd.underlying76 rfl iPar rfl _ _ _ rfl ((Blk.zeros8 _ _ rfl).row _ _)) rfl ⟨rfl, below_setRow ((Below.refl _ _).alloc (Nat.le_refl _) _) (Nat.le_refl _) _⟩
  · simp only [nm]
    go_enter Tryd.func39, Tryd.ntmps39
    go_wp2_with (first | (with_reducible refine at_load 76 _ rfl ?_; refine wpList_load_g Tryd.underlying76 rfl iPar rfl _ rfl _ (eval_global _ _) (hp.at1 _) ?_) | (with_reducible refine at_store 76 _ _ rfl ?_; refine wpList_store_arr iPar rfl _ _ rfl _ rfl rfl (Blk.zeros8 _ _ rfl) ?_))
    exact bodyPost_ret (v := .agg (arr .i64 8 (ps 1))) (results_s Tryd.underlying76 rfl iPar rfl _ _ _ rfl ((Blk.zeros8 _ _ rfl).row _ _)) rfl ⟨rfl, below_setRow ((Below.refl _ _).alloc (Nat.le_refl _) _) (Nat.le_refl _) _⟩
  · simp only [nm]
    go_enter Tryd.func39, Tryd.ntmps39
    go_wp2_with (first | (with_reducible refine at_load 76 _ rfl ?_; refine wpList_load_g Tryd.underlying76 rfl iPar rfl _ rfl _ (eval_global _ _) (hp.at2 _) ?_) | (with_reducible refine at_store 76 _ _ rfl ?_; refine wpList_store_arr iPar rfl _ _ rfl _ rfl rfl (Blk.zeros8 _ _ rfl) ?_))
    exact bodyPost_ret (v := .agg (arr .i64 8 (ps 2))) (results_s Tryd.underlying76 rfl iPar rfl _ _ _ rfl ((Blk.zeros8 _ _ rfl).row _ _)) rfl ⟨rfl, below_setRow ((Below.refl _ _).alloc (Nat.le_refl _) _) (Nat.le_refl _) _⟩

end Go.Proofs.YtanfpnidlgejhaaDoor
