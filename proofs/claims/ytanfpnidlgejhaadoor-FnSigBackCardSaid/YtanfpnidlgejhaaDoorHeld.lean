/-
  A region that draws its order: a head that is quiet in a class of worlds, some loads and copies that may come up beside a call that makes memory, and a sequence that is forced but for them. Upon the kit's 'OrdersHeld'.
-/
import Derived.OrdersHeld
import Derived.Test.YtanfpnidlgejhaaDoorRegion
namespace Go.Proofs.YtanfpnidlgejhaaDoor
open Go.RowKit

section
variable {P : Program} {ops : Array Oper} {md : Region.Mode} {C : World → Prop} {Q : Exit → Act → World → Prop}

/-- A forced sequence, the class shown anew behind each operation. -/
def wpSeqH (P : Program) (ops : Array Oper) (Q : Exit → Act → World → Prop) (C : World → Prop) : List Nat → Act → World → Prop
  | [], a, w => Q .normal a w
  | i :: r, a, w => wpOp P ops Q i (fun a' w' => C w' ∧ wpSeqH P ops Q C r a' w') a w
theorem seqH_nil {a : Act} {w : World} (h : Q .normal a w) : wpSeqH P ops Q C [] a w := h
def callB (P : Program) (f : FuncId) : Bool := match P.funcs[f]? with | some fn => !(fn.name == "runtime.NumGoroutine") && fn.body.isSome | none => false
theorem run_call_func (a : Act) (o : Oper) (f : FuncId) (xs : Array Operand) (ts : Array TypeId) (ho : o.op = .call { callee := .value (.func f), args := xs, argTypes := ts }) (w : World) (hf : callB P f = true) :
    (execOp a.eval o).run P w = .ok (.enter f (xs.map a.eval)) w := by
  unfold callB at hf
  cases h1 : P.funcs[f]? with
  | none => rw [h1] at hf; cases hf
  | some fn =>
    rw [h1] at hf
    simp only [Bool.and_eq_true, Bool.not_eq_true', beq_eq_false_iff_ne] at hf
    obtain ⟨h2, h3⟩ := hf
    have hb : fn.body.isNone = false := by cases hb : fn.body <;> simp_all
    have hk : (callFunc f (xs.map a.eval)).run P w = .ok (.enter f (xs.map a.eval)) w := by
      simp only [callFunc, Sem.run_bind, run_program, Result.andThen_ok, h1]
      rw [if_neg (by simpa using h2), if_neg (by simp [hb])]
      rfl
    simp [execOp, ho, resolve, invoke, go_sem, hk]
theorem seqH_call {i : Nat} {r : List Nat} {a : Act} {w : World} (o : Oper) (ho : ops[i]? = some o) (hw : Region.wanted o (yielded ops a.tmps) = true) (f : FuncId) (xs : Array Operand) (ts : Array TypeId) (hop : o.op = .call { callee := .value (.func f), args := xs, argTypes := ts }) (hf : callB P f = true) (args : Array Value) (hargs : xs.map a.eval = args)
    (h : Calls P f args w fun e w2 => ∃ v, e = .returned v ∧ C w2 ∧ wpSeqH P ops Q C r (a.put o.dst v) w2) : wpSeqH P ops Q C (i :: r) a w := by
  have he := run_call_func (P := P) a o f xs ts hop w hf
  rw [hargs] at he
  show wpOp P ops Q i _ a w
  unfold wpOp
  simp only [ho, hw, if_true]
  refine .inl ?_
  unfold Oper.wp
  rw [he]
  simp only [Oper.upon]
  exact h.mono fun e w2 ⟨v, h1, h2, h3⟩ => by subst h1; exact ⟨h2, h3⟩
theorem seqH_quiet : ∀ (s : List Nat) (l : List Oper) {r : List Nat} {a : Act} {w : World}, s.map (fun i => ops[i]?) = l.map some → C w →
    wpQuiet P ops C (fun a' => ∀ w', C w' → wpSeqH P ops Q C r a' w') l a → wpSeqH P ops Q C (s ++ r) a w
  | [], [], _, _, _, _, hC, h => h _ hC
  | [], _ :: _, _, _, _, he, _, _ => by simp at he
  | _ :: _, [], _, _, _, he, _, _ => by simp at he
  | i :: s, o :: l, r, a, w, he, hC, h => by
    simp only [List.map_cons, List.cons.injEq] at he
    show wpOp P ops Q i _ a w
    have hq : qOp P ops C i (wpQuiet P ops C (fun a' => ∀ w', C w' → wpSeqH P ops Q C r a' w') l) a := by
      unfold qOp; simp only [he.1]; exact h
    exact wpOp_of_qOp hC (fun a' w' hC' h' => ⟨hC', seqH_quiet s l he.2 hC' h'⟩) hq

/-- The operations of these numbers. -/
def opsAt (ops : Array Oper) (s : List Nat) : List Oper := s.filterMap fun i => ops[i]?
theorem opsAt_map : ∀ (s : List Nat), (s.all fun i => (ops[i]?).isSome) = true → s.map (fun i => ops[i]?) = (opsAt ops s).map some
  | [], _ => rfl
  | i :: s, h => by
    simp only [List.all_cons, Bool.and_eq_true] at h
    obtain ⟨o, ho⟩ := Option.isSome_iff_exists.1 h.1
    simp only [opsAt, List.map_cons, List.filterMap_cons, ho]
    rw [List.cons.injEq]
    exact ⟨rfl, opsAt_map s h.2⟩
theorem seqH_still (s : List Nat) {r : List Nat} {a : Act} {w : World} (hs : (s.all fun i => (ops[i]?).isSome) = true) (hC : C w)
    (h : wpQuiet P ops C (fun a' => ∀ w', C w' → wpSeqH P ops Q C r a' w') (opsAt ops s) a) : wpSeqH P ops Q C (s ++ r) a w := seqH_quiet s _ (opsAt_map s hs) hC h
def seqHB (md : Region.Mode) (ops : Array Oper) : List Nat → Array Bool → Bool
  | [], listed => Region.ready md ops listed == []
  | i :: r, listed => Region.ready md ops listed == [i] && seqHB md ops r (listed.setIfInBounds i true)
theorem anyH_of_seq : ∀ (r : List Nat) (listed : Array Bool) (a : Act) (w : World), seqHB md ops r listed = true → wpSeqH P ops Q C r a w → wpAnyH P md ops Q C r.length listed a w
  | [], listed, a, w, hB, h => ⟨by simpa [seqHB] using hB, h⟩
  | i :: r, listed, a, w, hB, h => by
    simp only [seqHB, Bool.and_eq_true, beq_iff_eq] at hB
    refine ⟨fun h0 => (by rw [hB.1] at h0; cases h0), fun j hj => ?_⟩
    rw [hB.1] at hj
    simp only [List.mem_singleton] at hj
    subst hj
    exact wpOp_mono (fun a' w' h' => ⟨h'.1, anyH_of_seq r _ a' w' hB.2 h'.2⟩) h

/-- Copies, loads, addresses, arithmetic. -/
def isMid : Op → Bool
  | .move _ => true
  | .load _ _ => true
  | .fieldAddr _ _ _ => true
  | .indexAddr _ _ _ => true
  | .binOp _ _ _ _ _ => true
  | .unOp _ _ _ => true
  | .slice _ _ _ _ _ => true
  | _ => false
theorem yieldsIf_of_val {o : Oper} {v : Value} {a : Act} (m : Sem Value) (he : execOp a.eval o = (do let x ← m; pure (Next.value x))) (h : YieldsIn P ops C o v a) : YieldsIf P ops C o v a := by
  rcases h with ⟨hw, h⟩ | h
  · refine .inl ⟨hw, fun w hC => ?_⟩
    have h1 := h w hC
    unfold Oper.quietAt at h1
    rw [he, Sem.run_bind] at h1 ⊢
    generalize m.run P w = r at h1 ⊢
    cases r with
    | ok u w' =>
      simp only [Result.andThen_ok, Sem.run_pure, Oper.quietUpon] at h1 ⊢
      rw [h1.1, h1.2]
    | halt x w' => simp [Result.andThen, Oper.quietUpon] at h1
  · exact .inr h
theorem yieldsIf_of_in {o : Oper} {v : Value} {a : Act} (hm : isMid o.op = true) (h : YieldsIn P ops C o v a) : YieldsIf P ops C o v a := by
  cases ho : o.op with
  | move x => exact yieldsIf_of_val (pure (a.eval x)) (by simp only [execOp, ho]; rfl) h
  | load t x => exact yieldsIf_of_val (Instr.loadAt t (a.eval x)) (by simp only [execOp, ho]) h
  | fieldAddr t x i => exact yieldsIf_of_val _ (by simp only [execOp, ho]; rfl) h
  | indexAddr t x i => exact yieldsIf_of_val _ (by simp only [execOp, ho]; rfl) h
  | binOp b t x y u => exact yieldsIf_of_val _ (by simp only [execOp, ho]; rfl) h
  | unOp b t x => exact yieldsIf_of_val _ (by simp only [execOp, ho]; rfl) h
  | slice t x lo hi mx => exact yieldsIf_of_val _ (by simp only [execOp, ho]; rfl) h
  | _ => rw [ho] at hm; cases hm
def midB (md : Region.Mode) (ops : Array Oper) (s : List Nat) : List Nat → Array Bool → Bool
  | [], listed => seqHB md ops s listed
  | i :: r, listed => (Region.ready md ops listed).contains i && Region.free md ops listed i && (match ops[i]? with | some o => isMid o.op | none => false) && midB md ops s r (listed.setIfInBounds i true)
theorem anyH_of_mid (hsel : Region.noSelect ops = true) (hQ : ∀ c (a : Act) d v w, Q (.panic c) (a.put d v) w → Q (.panic c) a w) {s : List Nat} : ∀ (r : List Nat) (l : List Oper) (listed : Array Bool) (a : Act) (w : World), r.map (fun i => ops[i]?) = l.map some → midB md ops s r listed = true → C w →
    wpQuiet P ops C (fun a' => ∀ w', C w' → wpSeqH P ops Q C s a' w') l a → wpAnyH P md ops Q C (r.length + s.length) listed a w
  | [], [], listed, a, w, _, hB, hC, h => by rw [List.length_nil, Nat.zero_add]; exact anyH_of_seq s listed a w hB (h _ hC)
  | [], _ :: _, _, _, _, he, _, _, _ => by simp at he
  | _ :: _, [], _, _, _, he, _, _, _ => by simp at he
  | i :: r, o :: l, listed, a, w, he, hB, hC, h => by
    simp only [List.map_cons, List.cons.injEq] at he
    simp only [midB, Bool.and_eq_true, he.1] at hB
    obtain ⟨⟨⟨h1, h2⟩, h3⟩, h4⟩ := hB
    have hq : qOp P ops C i (wpQuiet P ops C (fun a' => ∀ w', C w' → wpSeqH P ops Q C s a' w') l) a := by
      unfold qOp; simp only [he.1]; exact h
    obtain ⟨v, hy, hK⟩ := yieldsIn_of_qOp he.1 hq
    rw [show (i :: r).length + s.length = (r.length + s.length) + 1 by simp only [List.length_cons]; omega]
    exact wpAnyH_take he.1 hsel h2 h1 (fun c a w h => hQ c _ _ _ w h) (yieldsIf_of_in h3 hy) hC (anyH_of_mid hsel hQ r l _ _ w he.2 h4 hC hK)

def tailB (md : Region.Mode) (ops : Array Oper) (n : Nat) : Bool :=
  decide (0 < n) && (List.range (n - 1)).all (fun i => (List.range n).any fun j => decide (i < j) && Region.waitsFor md ops j i) &&
    (List.range ops.size).all (fun t => decide (t < n) || (List.range t).any fun j => decide (n - 1 ≤ j) && Region.waitsFor md ops t j)
theorem waits_listed {listed : Array Bool} {t j : Nat} {ot : Oper} (hot : ops[t]? = some ot) (hall : ∀ e ∈ ot.after, Region.binds md e = true → listed.getD e.on false = true) (h : Region.waitsFor md ops t j = true) : listed.getD j false = true := by
  obtain ⟨oj, hoj, e, he, hb, hon⟩ := Region.waitsFor_spec h
  rw [hot] at hoj
  cases hoj
  rw [← hon]
  exact hall e he hb
theorem tail_waitsW {n : Nat} (hB : tailB md ops n = true) (listed : Array Bool) (inv : HeadInv md ops n listed) : ∀ i, i < n → listed.getD i true = false → ∀ t, n ≤ t → t ∉ Region.ready md ops listed := by
  simp only [tailB, Bool.and_eq_true, decide_eq_true_eq] at hB
  obtain ⟨⟨h0, hs⟩, hc⟩ := hB
  intro i hi hun t ht hr
  obtain ⟨_, ot, hot, hall⟩ := mem_ready.1 hr
  have htlt : t < ops.size := (Array.getElem?_eq_some_iff.1 hot).1
  have h1 := List.all_eq_true.1 hc t (List.mem_range.2 htlt)
  simp only [Bool.or_eq_true, decide_eq_true_eq] at h1
  obtain ⟨j, hj, hj2⟩ := List.any_eq_true.1 (h1.resolve_left (by omega))
  simp only [Bool.and_eq_true, decide_eq_true_eq] at hj2
  have hjt := List.mem_range.1 hj
  have hl := waits_listed hot hall hj2.2
  have hjn : j = n - 1 := by
    rcases Nat.lt_or_ge j n with h | h
    · omega
    · have := inv.tail j h (by omega)
      rw [getD_both this] at hl
      cases hl
  subst hjn
  have key : ∀ d i, n - 1 - i = d → i < n → listed.getD i false = true := by
    intro d
    induction d using Nat.strongRecOn with
    | _ d ih =>
      intro i hd hi
      by_cases e : i = n - 1
      · subst e; exact hl
      · have h2 := List.all_eq_true.1 hs i (List.mem_range.2 (by omega))
        obtain ⟨k, hk, hk2⟩ := List.any_eq_true.1 h2
        simp only [Bool.and_eq_true, decide_eq_true_eq] at hk2
        have hkn := List.mem_range.1 hk
        have hkl := ih (n - 1 - k) (by omega) k rfl hkn
        have hks : k < ops.size := by omega
        exact waits_listed (Array.getElem?_eq_getElem hks) (inv.closed k _ (Array.getElem?_eq_getElem hks) hkl) hk2.2
  have := key _ i rfl hi
  rw [getD_both hun] at this
  cases this
theorem wpAnyT_firstW {n i : Nat} {oi : Oper} {v : Value} {L : Array Bool → Act → Prop} (hi : ops[i]? = some oi) (hsel : ∀ (j : Nat) (o : Oper) cs b, ops[j]? = some o → o.op ≠ .select cs b)
    (tw : ∀ listed, HeadInv md ops n listed → ∀ i, i < n → listed.getD i true = false → ∀ t, n ≤ t → t ∉ Region.ready md ops listed) (hin : i < n) (hdone : ∀ listed a, L listed a → ∀ j ∈ Region.ready md ops listed, n ≤ j) :
    ∀ (f : Nat) (listed : Array Bool) (a : Act), HeadInv md ops n listed →
      (∀ j oj, ops[j]? = some oj → j ≠ i → listed.getD j true = false → (∀ e ∈ oj.after, Region.binds md e = true → e.on ≠ i) → oi.apart ops oj = true) →
      i ∈ Region.ready md ops listed → YieldsIn P ops C oi v a →
      wpAnyT P md ops C n L f (listed.setIfInBounds i true) (a.put oi.dst v) → wpAnyT P md ops C n L (f + 1) listed a := by
  intro f
  induction f with
  | zero =>
    intro listed a inv _ hr hy H
    have hun := (mem_ready.1 hr).1
    refine ⟨fun h => (by rw [h] at hr; cases hr), fun j hj => ?_⟩
    have hjn : j < n := Nat.lt_of_not_le fun h => absurd hj (tw _ inv i hin hun j h)
    refine ⟨hjn, ?_⟩
    by_cases hji : j = i
    · subst hji; exact hy.qOp hi H
    · have := hdone _ _ H j (ready_mono hj hji)
      omega
  | succ f ih =>
    intro listed a inv hfree hr hy H
    have hun := (mem_ready.1 hr).1
    refine ⟨fun h => (by rw [h] at hr; cases hr), fun j hj => ?_⟩
    have hjn : j < n := Nat.lt_of_not_le fun h => absurd hj (tw _ inv i hin hun j h)
    refine ⟨hjn, ?_⟩
    by_cases hji : j = i
    · subst hji; exact hy.qOp hi H
    · have h1 := (H.2 j (ready_mono hj hji)).2
      obtain ⟨hjun, oj, hoj, hall⟩ := mem_ready.1 hj
      have hnot : ∀ e ∈ oj.after, Region.binds md e = true → e.on ≠ i := fun e he hb heq => by
        have h1 := hall e he hb
        rw [heq, getD_both hun] at h1
        cases h1
      have h2 := qOp_put hoj (hfree j oj hoj hji hjun hnot) (fun cs b => hsel i oi cs b hi) (fun cs b => hsel j oj cs b hoj) hy h1
      have hfree' : ∀ k ok, ops[k]? = some ok → k ≠ i → (listed.setIfInBounds j true).getD k true = false →
          (∀ e ∈ ok.after, Region.binds md e = true → e.on ≠ i) → oi.apart ops ok = true := fun k ok hk hki hun hno => by
        refine hfree k ok hk hki ?_ hno
        by_cases hjk : j = k
        · subst hjk; exact hjun
        · rw [getD_set_ne true hjk] at hun; exact hun
      refine qOp_mono (fun a' h3 => ih (listed.setIfInBounds j true) a' (inv.set hj hjn) hfree' (ready_mono hr (Ne.symm hji)) h3.1 ?_) h2
      rw [Array.setIfInBounds_comm _ _ hji]
      exact h3.2

def headB (md : Region.Mode) (ops : Array Oper) (E : Array Bool → Bool) : Nat → Nat → Array Bool → Bool
  | 0, _, listed => E listed
  | m + 1, k, listed => (Region.ready md ops listed).contains k && Region.free md ops listed k && headB md ops E m (k + 1) (listed.setIfInBounds k true)
theorem wpAnyT_head {n : Nat} {E : Array Bool → Bool} {Lq : Act → Prop} (hsel : Region.noSelect ops = true) (tw : tailB md ops n = true) (hE : ∀ listed, E listed = true → ∀ j ∈ Region.ready md ops listed, n ≤ j) :
    ∀ (l : List Oper) (k : Nat) (listed : Array Bool) (a : Act), (∀ j, j < l.length → l[j]? = ops[k + j]?) → k + l.length = n → HeadInv md ops n listed →
    headB md ops E l.length k listed = true → wpQuiet P ops C Lq l a →
    wpAnyT P md ops C n (fun listed' a' => E listed' = true ∧ Lq a') l.length listed a
  | [], k, listed, a, _, hk, _, hB, h => ⟨hB, h⟩
  | o :: l, k, listed, a, hl, hk, inv, hB, h => by
    have h0 : ops[k]? = some o := by simpa using (hl 0 (by simp)).symm
    simp only [List.length_cons, headB, Bool.and_eq_true] at hB
    obtain ⟨⟨hr, hf⟩, hB'⟩ := hB
    have hkn : k < n := by simp only [List.length_cons] at hk; omega
    have hr' : k ∈ Region.ready md ops listed := by simpa using hr
    have hst : qOp P ops C k (wpQuiet P ops C Lq l) a := by unfold qOp; simp only [h0]; exact h
    obtain ⟨v, hy, hK⟩ := yieldsIn_of_qOp h0 hst
    exact wpAnyT_firstW h0 (Region.noSelect_spec hsel) (fun listed inv => tail_waitsW tw listed inv) hkn (fun listed' a' hL => hE listed' hL.1) l.length listed a inv (Region.free_spec h0 hf) hr' hy
      (wpAnyT_head hsel tw hE l (k + 1) _ _ (fun j hj => by have := hl (j + 1) (by simp; omega); simpa [Nat.add_assoc, Nat.add_comm 1 j] using this) (by simp only [List.length_cons] at hk; omega) (inv.set hr' hkn) hB' hK)

theorem wpQuiet_append {L : Act → Prop} : ∀ (l1 l2 : List Oper) (a : Act), wpQuiet P ops C L (l1 ++ l2) a → wpQuiet P ops C (wpQuiet P ops C L l2) l1 a
  | [], _, _, h => h
  | o :: l1, l2, a, h => by
    simp only [List.cons_append, wpQuiet] at h ⊢
    split
    · rename_i hw
      rw [if_pos hw] at h
      exact Oper.quiet_mono (fun a' h' => wpQuiet_append l1 l2 a' h') h
    · rename_i hw
      rw [if_neg hw] at h
      exact wpQuiet_append l1 l2 _ h

def heldB (ops : Array Oper) (n : Nat) (r s : List Nat) : Bool :=
  Region.noSelect ops && decide (n < ops.size) && tailB .any ops n && decide (n + (r.length + s.length) = ops.size) &&
    headB .any ops (fun listed => (Region.ready .any ops listed).all (fun j => decide (n ≤ j)) && midB .any ops s r listed) n 0 (Array.replicate ops.size false)
/-- The law. -/
theorem wp_region_held_seq {id : Nat} {a : Act} {w : World} {l : List Oper} (n : Nat) (r s : List Nat) (hm : P.follows .mixedOrders = true) (hB : heldB l.toArray n r s = true) (hQ : ∀ c (a : Act) d v w, Q (.panic c) (a.put d v) w → Q (.panic c) a w) (hC : C { w with drawn := w.drawn + 1 })
    (hmid : (r.all fun i => (l.toArray[i]?).isSome) = true)
    (h : wpQuiet P l.toArray C (fun a' => ∀ w', C w' → wpSeqH P l.toArray Q C s a' w') (l.take n ++ opsAt l.toArray r) a) : (Code.region id l.toArray true).wp P Q a w := by
  simp only [heldB, Bool.and_eq_true, decide_eq_true_eq] at hB
  obtain ⟨⟨⟨⟨hsel, hn⟩, ht⟩, hsz⟩, hhead⟩ := hB
  have hn' : n < l.length := by simpa using hn
  have htl : (l.take n).length = n := by simp; omega
  have inv0 : HeadInv .any l.toArray n (Array.replicate l.toArray.size false) :=
    ⟨by simp, fun j oj _ hl => (by rw [getD_replicate_false] at hl; cases hl), fun t _ ht => getD_in (by simpa using ht) (getD_replicate_false _ _)⟩
  have H := wpAnyT_head (P := P) (C := C) (md := .any) (ops := l.toArray) (E := fun listed => (Region.ready .any l.toArray listed).all (fun j => decide (n ≤ j)) && midB .any l.toArray s r listed) hsel ht (fun listed hE j hj => by
    simp only [Bool.and_eq_true, List.all_eq_true, decide_eq_true_eq] at hE
    exact hE.1 j hj) (l.take n) 0 _ a (fun j hj => by
    have hj' : j < n := by rw [htl] at hj; exact hj
    simp [hj']) (by simpa using htl) inv0 (by rw [htl]; exact hhead) (wpQuiet_append _ _ _ h)
  refine wp_region_any hm ?_
  have := wpAny_of_T (Q' := Q) (g := r.length + s.length) (fun listed a' w' hC' hL => by
    have hE := hL.1
    simp only [Bool.and_eq_true] at hE
    exact wpAny_of_held _ _ _ _ (anyH_of_mid hsel hQ r _ listed a' w' (opsAt_map r hmid) hE.2 hC' hL.2)) _ _ _ _ hC H
  rw [htl, hsz] at this
  exact this
theorem wp_load_arr {o : Oper} {a : Act} {w : World} {K : Act → World → Prop} {k : IntKind} {n : Nat} {z : Nat → Int} {ty t e : TypeId} (hu : P.underlying ty = some (.array n e)) (hi : (P.info? ty).map (·.size) = some n) (x : Operand) (ho : o.op = .load ty x) (g : Nat) (hx : a.eval x = .pointer (some ⟨g, 0, none⟩)) (hg : Blk w g k n z t)
    (h : K (a.put o.dst (.agg (arr k n z))) w) : o.wp P a w K Q :=
  wp_load_row ty x ho g hx t _ _ _ hg hu rfl (by rw [arr_size]; exact hi) h
end
end Go.Proofs.YtanfpnidlgejhaaDoor
