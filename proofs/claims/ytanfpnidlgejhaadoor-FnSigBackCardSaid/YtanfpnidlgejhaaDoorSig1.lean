/-
  A signature written: the walk.
-/
import Derived.Test.YtanfpnidlgejhaaDoorHint1
import Derived.Test.YtanfpnidlgejhaaDoorHint4
import Derived.Test.YtanfpnidlgejhaaDoorPackD
import Derived.Test.YtanfpnidlgejhaaDoorHeld
import Derived.Test.YtanfpnidlgejhaaDoorFloat
namespace Go.Proofs.YtanfpnidlgejhaaDoor
open Go.RowKit

/-- How many bytes a challenge has; how many masks there are. -/
def cc : Nat → Nat
  | 0 => 32
  | 1 => 48
  | _ => 64
def ll : Nat → Nat
  | 0 => 4
  | 1 => 5
  | _ => 7
theorem cc_bd (s : Nat) (hs : s < 3) : 32 ≤ cc s ∧ cc s ≤ 64 := by
  have h3 : s = 0 ∨ s = 1 ∨ s = 2 := by omega
  rcases h3 with rfl | rfl | rfl <;> decide
theorem cc_ss (s : Nat) (hs : s < 3) : ss s 7 = (cc s : Int) := by
  have h3 : s = 0 ∨ s = 1 ∨ s = 2 := by omega
  rcases h3 with rfl | rfl | rfl <;> rfl
theorem cc_ps (s : Nat) (hs : s < 3) : ps s 5 = 4 * (cc s : Int) := by
  have h3 : s = 0 ∨ s = 1 ∨ s = 2 := by omega
  rcases h3 with rfl | rfl | rfl <;> rfl
theorem ll_bd (s : Nat) (hs : s < 3) : 4 ≤ ll s ∧ ll s ≤ 7 := by
  have h3 : s = 0 ∨ s = 1 ∨ s = 2 := by omega
  rcases h3 with rfl | rfl | rfl <;> decide
theorem ll_ss (s : Nat) (hs : s < 3) : ss s 1 = (ll s : Int) := by
  have h3 : s = 0 ∨ s = 1 ∨ s = 2 := by omega
  rcases h3 with rfl | rfl | rfl <;> rfl
theorem ll_ps (s : Nat) (hs : s < 3) : ps s 1 = (ll s : Int) := by
  have h3 : s = 0 ∨ s = 1 ∨ s = 2 := by omega
  rcases h3 with rfl | rfl | rfl <;> rfl
theorem dd_bd (s : Nat) (hs : s < 3) : 18 ≤ dd s ∧ dd s ≤ 20 := by
  have h3 : s = 0 ∨ s = 1 ∨ s = 2 := by omega
  rcases h3 with rfl | rfl | rfl <;> decide
theorem dd_ps (s : Nat) (hs : s < 3) : ps s 3 + 1 = (dd s : Int) := by
  have h3 : s = 0 ∨ s = 1 ∨ s = 2 := by omega
  rcases h3 with rfl | rfl | rfl <;> rfl
/-- The bytes behind the masks; the bytes of a signature. -/
def mm (s : Nat) : Nat := cc s + ll s * (32 * dd s)
def sgz (s : Nat) : Nat := mm s + (om s + kk s)
theorem sgz_bd (s : Nat) (hs : s < 3) : sgz s ≤ 8192 := by
  have h3 : s = 0 ∨ s = 1 ∨ s = 2 := by omega
  rcases h3 with rfl | rfl | rfl <;> decide
/-- Bytes from L on. -/
def put (L : Nat) (f z : Nat → Int) : Nat → Int := fun j => if j < L then z j else f (j - L)
def sgm (s : Nat) (ch : Nat → Int) (V : Nat → Nat → Int) (i : Nat) : Int :=
  if i < cc s then ch i else pby (dd s) (V ((i - cc s) / (32 * dd s))) 256 ((i - cc s) % (32 * dd s))
/-- The bytes of a signature: a challenge, masks, hints. -/
def sgb (s : Nat) (ch : Nat → Int) (V : Nat → Nat → Int) (h : Nat → Int) : Nat → Int := put (mm s) h (sgm s ch V)
theorem sgm_ch (s : Nat) (ch : Nat → Int) (V : Nat → Nat → Int) (i : Nat) (hi : i < cc s) : sgm s ch V i = ch i := if_pos hi
theorem sgm_row (s : Nat) (hs : s < 3) (ch : Nat → Int) (V : Nat → Nat → Int) (r j : Nat) (hj : j < 32 * dd s) : sgm s ch V (cc s + r * (32 * dd s) + j) = pby (dd s) (V r) 256 j := by
  have hd := dd_bd s hs
  unfold sgm
  rw [if_neg (by omega), show cc s + r * (32 * dd s) + j - cc s = 32 * dd s * r + j from by rw [Nat.mul_comm (32 * dd s) r]; omega, Nat.mul_add_div (by omega), Nat.div_eq_of_lt hj, Nat.add_zero, Nat.mul_add_mod, Nat.mod_eq_of_lt hj]
theorem Ex.setRow (w : World) (g : Nat) (cs : Array Value) : Ex g w (w.setRow g cs) :=
  have h := below_setRow (Below.refl 0 w) (g := g) (Nat.zero_le _) cs
  ⟨h.os, h.tape, h.output, h.size, fun _ _ hn => setRow_other _ _ _ _ hn⟩
theorem wpList_append_front {P : Program} {ops : Array Oper} {rest : List Oper} {o : Oper} {a : Act} {w : World} {Q : Exit → Act → World → Prop} (hgd : o.guard = none) (s x : Operand) (t : TypeId)
    (ho : o.op = .call { callee := .builtin .append, args := #[s, x], argTypes := #[t, t] }) {e : TypeId} (hu : P.underlying t = some (.slice e)) (hi : (P.info? e).map (·.size) = some 1) (g n c cx : Nat) (p : Addr) {f z : Nat → Int}
    (hs : a.eval s = .slice (some ⟨g, 0, none⟩) 0 c) (hx : a.eval x = .slice (some p) n cx) (hb : Blk w g .u8 c z e) (hr : Rd .u8 w p n f) (hn : n ≤ c)
    (h : ∀ w', Blk w' g .u8 c (fun j => if j < n then f j else z j) e → Ex g w w' → wpList P ops Q rest (a.put o.dst (.slice (some ⟨g, 0, none⟩) n c)) w') : wpList P ops Q (o :: rest) a w := by
  refine wpList_plain hgd fun K hK => ?_
  obtain ⟨i, hi, hsz⟩ := Option.map_eq_some_iff.1 hi
  have hrun := run_append_room (P := P) w t o.type e i hu hi g 0 c (arr .u8 c z) hb p n cx ((List.range n).map fun j => Value.int .u8 (f j)) (by simp [hsz]) (fun j u hj => by
    have hjl : j < n := by
      have := (List.getElem?_eq_some_iff.1 hj).1
      simpa using this
    rw [hr j hjl]
    simpa [hjl] using hj) (fun u hu => by
    obtain ⟨j, _, rfl⟩ := List.mem_map.1 hu
    rfl) (by omega) (by simp [arr_size]; omega)
  have hcs : (((arr .u8 c z).toList.take (0 * i.size) ++ (List.range n).map (fun j => Value.int .u8 (f j)) ++ (arr .u8 c z).toList.drop (0 * i.size + ((List.range n).map fun j => Value.int .u8 (f j)).length)).toArray) = arr .u8 c (fun j => if j < n then f j else z j) := by
    apply Array.ext_getElem?
    intro j
    by_cases hjc : j < c
    · rw [arr_get _ _ _ _ hjc]
      by_cases hjn : j < n
      · simp [hjn, List.getElem?_append]
      · have e1 : n + (j - n) = j := by omega
        simp [hjn, List.getElem?_append, e1, arr, hjc]
    · have e1 : ¬ j < n := by omega
      simp [arr, hjc, e1, List.getElem?_append]
      omega
  rw [hcs] at hrun
  unfold Oper.wp
  simp [execOp, ho, resolve, invoke, builtin, hs, hx, hrun, Result.andThen]
  refine hK _ _ ?_
  have := h _ (hb.row .u8 (fun j => if j < n then f j else z j)) (Ex.setRow w g _)
  simpa using this

set_option maxRecDepth 100000 in
set_option maxHeartbeats 1000000 in
theorem sfaRoom (g L n c : Nat) (w : World) (h0 : 0 < n) (h1 : L + n ≤ c) (hcm : c ≤ 1099511627776) :
    Calls Tryd.prog 56 #[.slice (some ⟨g, 0, none⟩) L c, .int .i64 (n : Int)] w fun e w' => e = .returned (.tuple #[.slice (some ⟨g, 0, none⟩) (L + n) c, .slice (some ⟨g, L, none⟩) n (c - L)]) ∧ w = w' := by
  go_enter Tryd.func56, Tryd.ntmps56
  go_wp2_with fail
  go_ret2
  exact ⟨rfl, rfl⟩

set_option maxRecDepth 100000 in
set_option maxHeartbeats 1000000 in
theorem hintEncodeB (s g c L g2 c2 : Nat) (H : Nat → Nat → Bool) (z0 : Nat → Int) (w : World) (hs : s < 3) (hc2 : kk s ≤ c2) (hm : MatI .u8 w ⟨g2, 0, none⟩ (kk s) (hb H)) (hne : g2 ≠ g) (hn : hc H (256 * kk s) ≤ om s)
    (hLc : L + (om s + kk s) ≤ c) (hcm : c ≤ 65536) (h1 : Blk w g .u8 c z0 5) (hz : ∀ j, L ≤ j → j < c → z0 j = 0) :
    Calls Tryd.prog 50 #[.slice (some ⟨g, 0, none⟩) L c, .slice (some ⟨g2, 0, none⟩) (kk s) c2, .agg (arr .i64 8 (ps s))] w fun e w' => e = .returned (.slice (some ⟨g, 0, none⟩) (L + (om s + kk s)) c) ∧ Blk w' g .u8 c (put L (hrow H (om s) (kk s)) z0) 5 ∧ Ex g w w' := by
  obtain ⟨hk0, hk1⟩ := kk_bd s hs
  obtain ⟨ho0, ho1⟩ := om_bd s hs
  have hkp := kk_ps s hs
  have hop := om_ps s hs
  have HM := Lib.hid hm; clear hm
  have HN := Lib.hid hn; clear hn
  have HZ := Lib.hid hz; clear hz
  obtain ⟨K, hK⟩ : ∃ K, K = kk s := ⟨_, rfl⟩
  obtain ⟨O, hO⟩ : ∃ O, O = om s := ⟨_, rfl⟩
  rw [← hK] at hk0 hk1 hkp hc2 HM HN hLc ⊢
  rw [← hO] at ho0 ho1 hop HN hLc ⊢
  clear hK hO
  have hgl := h1.lt
  have f5 := Blk.new (g := w.heap.size) w .i64 8 (ps s) 76 rfl
  have hck := f5.cellv 0 (K : Int) (by omega) hkp
  have hco := f5.cellv 7 (O : Int) (by omega) hop
  go_enter Tryd.func50, Tryd.ntmps50
  go_wp2_with fail
  refine wp_region_quiet_lit (by kernel_rfl) (by kernel_rfl) ?_
  repeat (go_big_quiet_step (fail))
  refine wpQuiet_nil ?_
  intro _ hw'
  obtain ⟨nq, hw''⟩ := hw'
  subst hw''
  have h1 : Blk ((w.alloc (.cells (arr .i64 8 (ps s)) 76)).drewN nq) g .u8 c z0 5 := h1.alloc _
  have hbe : Ex g w ((w.alloc (.cells (arr .i64 8 (ps s)) 76)).drewN nq) := (Ex.of_below ((Below.refl w.heap.size w).alloc (Nat.le_refl _) (.cells (arr .i64 8 (ps s)) 76)) g).trans ⟨rfl, rfl, rfl, Nat.le_refl _, fun _ _ _ => rfl⟩
  go_wp2_with fail
  refine (sfaRoom g L (O + K) c _ (by omega) hLc (by omega)).mono ?_
  rintro e w1 ⟨rfl, rfl⟩
  have h1 : Blk ((w.alloc (.cells (arr .i64 8 (ps s)) 76)).drewN nq) g .u8 c (put L (fun _ => 0) z0) 5 := h1.congr (fun j hj => by
    unfold put
    by_cases hjL : j < L
    · rw [if_pos hjL]
    · rw [if_neg hjL, HZ.out j (by omega) hj])
  clear hck hco f5
  go_wp2_with fail
  go_loopw [11, 27] (fun x t wr => ∃ r : Nat, r ≤ K ∧ t = .int .i64 (r : Int) ∧ x = .int .u8 (hc H (256 * r) : Int) ∧ Blk wr g .u8 c (put L (hrow H O r) z0) 5 ∧ Ex g w wr) (fun _ t _ => K - (intOf t).toNat)
  case atStart => exact ⟨0, by omega, rfl, rfl, h1, hbe⟩
  case round =>
    clear h1 hbe
    obtain ⟨r, hr, rfl, rfl, h1, hbe⟩ := hrel
    by_cases hlt : r < K
    · go_wp2_with fail
      go_loopw [11, 30] (fun x t ws => ∃ j : Nat, j ≤ 256 ∧ t = .int .i64 (j : Int) ∧ x = .int .u8 (hc H (256 * r + j) : Int) ∧ Blk ws g .u8 c (put L (hin H (hrow H O r) r j) z0) 5 ∧ Ex g w ws) (fun _ t _ => 256 - (intOf t).toNat)
      case atStart => exact ⟨0, by omega, rfl, rfl, h1, hbe⟩
      case round =>
        clear h1 hbe
        obtain ⟨j, hj, rfl, rfl, h1, hbe⟩ := hrel
        by_cases hjl : j < 256
        · have hcl := (HM.out.ex hbe hne).at r j hlt hjl
          have hat := hc_at H r j hjl
          have hle : hc H (256 * r + (j + 1)) ≤ O := Nat.le_trans (hc_le H (by omega)) HN.out
          obtain ⟨C, hC⟩ : ∃ C, C = hc H (256 * r + j) := ⟨_, rfl⟩
          have HC := Lib.hid hC
          rw [← hC] at hat ⊢
          clear hC
          cases hH : H r j with
          | true =>
            simp only [hb, hH, if_true] at hcl hat
            go_wp2_with (first | (with_reducible refine at_load 5 _ rfl ?_; refine wpList_load_int Tryd.isAgg5 rfl _ rfl _ _ rfl _ hcl ?_) | (with_reducible refine at_store 5 _ _ rfl ?_; refine wpList_store_int Tryd.sizeOf5 rfl _ _ rfl _ _ rfl _ rfl h1 (by omega) ?_; intro wn hn he; replace hbe := hbe.trans he; clear h1; have h1 := hn; clear hn he))
            go_roundw
            case rel =>
              exact ⟨j + 1, by omega, by go_num, by rw [hat]; simp, h1.congr (fun p _ => by
                show (if p = L + C then (j : Int) else put L (hin H (hrow H O r) r j) z0 p) = put L (hin H (hrow H O r) r (j + 1)) z0 p
                rw [hin, hH, if_pos rfl, ← HC.out]
                unfold put upd
                by_cases e1 : p < L
                · rw [if_pos e1, if_pos e1, if_neg (by omega)]
                · rw [if_neg e1, if_neg e1]
                  by_cases e2 : p = L + C
                  · rw [if_pos e2, if_pos (by omega)]
                  · rw [if_neg e2, if_neg (by omega)]), hbe⟩
            case measure => simp [intOf]; omega
          | false =>
            simp only [hb, hH] at hcl hat
            go_wp2_with (first | (with_reducible refine at_load 5 _ rfl ?_; refine wpList_load_int Tryd.isAgg5 rfl _ rfl _ _ rfl _ hcl ?_))
            go_roundw
            case rel => exact ⟨j + 1, by omega, by go_num, by rw [hat]; simp, by rw [hin, hH]; exact h1, hbe⟩
            case measure => simp [intOf]; omega
        · obtain rfl : j = 256 := by omega
          go_wp2_with (first | (with_reducible refine at_store 5 _ _ rfl ?_; refine wpList_store_int Tryd.sizeOf5 rfl _ _ rfl _ _ rfl _ rfl h1 (by omega) ?_; intro wn hn he; replace hbe := hbe.trans he; clear h1; have h1 := hn; clear hn he))
          go_roundw
          case rel => exact ⟨r + 1, by omega, by go_num, by rw [show 256 * (r + 1) = 256 * r + 256 from by omega], h1.congr (fun p _ => by
            show (if p = L + (O + r) then ((hc H (256 * r + 256) : Nat) : Int) else put L (hin H (hrow H O r) r 256) z0 p) = put L (hrow H O (r + 1)) z0 p
            rw [hrow, show 256 * (r + 1) = 256 * r + 256 from by omega]
            unfold put upd
            by_cases e1 : p < L
            · rw [if_pos e1, if_pos e1, if_neg (by omega)]
            · rw [if_neg e1, if_neg e1]
              by_cases e2 : p = L + (O + r)
              · rw [if_pos e2, if_pos (by omega)]
              · rw [if_neg e2, if_neg (by omega)]), hbe⟩
          case measure => simp [intOf]; omega
    · obtain rfl : r = K := by omega
      go_wp2_with fail
      go_ret
      exact ⟨rfl, h1, hbe⟩

set_option maxRecDepth 100000 in
set_option maxHeartbeats 1000000 in
theorem sigSizeW (s : Nat) (w : World) (hs : s < 3) : Calls Tryd.prog 46 #[.agg (arr .i64 8 (ps s))] w fun e w' => e = .returned (.int .i64 ((sgz s : Nat) : Int)) ∧ Below w.heap.size w w' := by
  have h3 : s = 0 ∨ s = 1 ∨ s = 2 := by omega
  clear hs
  rcases h3 with rfl | rfl | rfl
  · have f5 := Blk.new (g := w.heap.size) w .i64 8 (ps 0) 76 rfl
    have c0 := f5.cellv 0 4 (by omega) rfl
    have c1 := f5.cellv 1 4 (by omega) rfl
    have c3 := f5.cellv 3 17 (by omega) rfl
    have c5 := f5.cellv 5 128 (by omega) rfl
    have c7 := f5.cellv 7 80 (by omega) rfl
    go_enter Tryd.func46, Tryd.ntmps46
    go_wp2_with fail
    go_ret
    exact ⟨rfl, (Below.refl _ _).alloc (Nat.le_refl _) _⟩
  · have f5 := Blk.new (g := w.heap.size) w .i64 8 (ps 1) 76 rfl
    have c0 := f5.cellv 0 6 (by omega) rfl
    have c1 := f5.cellv 1 5 (by omega) rfl
    have c3 := f5.cellv 3 19 (by omega) rfl
    have c5 := f5.cellv 5 192 (by omega) rfl
    have c7 := f5.cellv 7 55 (by omega) rfl
    go_enter Tryd.func46, Tryd.ntmps46
    go_wp2_with fail
    go_ret
    exact ⟨rfl, (Below.refl _ _).alloc (Nat.le_refl _) _⟩
  · have f5 := Blk.new (g := w.heap.size) w .i64 8 (ps 2) 76 rfl
    have c0 := f5.cellv 0 8 (by omega) rfl
    have c1 := f5.cellv 1 7 (by omega) rfl
    have c3 := f5.cellv 3 19 (by omega) rfl
    have c5 := f5.cellv 5 256 (by omega) rfl
    have c7 := f5.cellv 7 75 (by omega) rfl
    go_enter Tryd.func46, Tryd.ntmps46
    go_wp2_with fail
    go_ret
    exact ⟨rfl, (Below.refl _ _).alloc (Nat.le_refl _) _⟩

end Go.Proofs.YtanfpnidlgejhaaDoor
