/-
  The law FnT1Hat returns true for every input, and each argument reads as it did: the row, and its tied card. The frame is after the kit's worked texts (MapyProofs, MapyCard) and its proof-skeleton.
-/
import Derived.Test.YtpfabgmoadljnaaDoorRows
import Derived.Test.YtpfabgmoadljnaaDoorTie
import Derived.Test.YtpfabgmoadljnaaDoorCards
import Derived.Test.YtpfabgmoadljnaaDoorT1L
import Derived.WalkKit
import Derived.ProofKit
import Derived.OpenShut
import Derived.ShutString
import Derived.ChangeOld
import Derived.Below
import Derived.LaidMore
import Derived.Stop.Joined
import Derived.SevenTiedAt
namespace Go.Proofs.YtpfabgmoadljnaaDoor.fnT1Hat
open Go.ChangeShapes Go.WideShapes Go.ChangeAt Go.RowKit
open Go.ChangeMaps (open_string shut_string)
set_option linter.unusedVariables false

theorem own : ownKnob Tryd.prog.godebug = none := by kernel_rfl
theorem laidOut : laidOutB Tryd.prog = true := by kernel_rfl
theorem door_met (os : Os) (args : Array Value) : laidMetH Tryd.prog [("loop.example/pub-g03236/pub/mldsa.errUnreducedFieldElement", Rows.laid_loop_example_pub_g03236_pub_mldsa_errUnreducedFieldElement), ("loop.example/pub-g03236/pub/mldsa.zetas", Rows.laid_loop_example_pub_g03236_pub_mldsa_zetas)] ((World.doorLaid Tryd.prog 400 os).forCall (fun _ _ => 0) ⟨#[], args, []⟩).memory :=
  laidMetH_of_parts3 (fuel := 8) (laidMet_of_run' 8 (by kernel_rfl) (by kernel_rfl)) (by kernel_rfl) (by kernel_rfl)
theorem readable : ((["loop.example/pub-g03236/pub/mldsa.errUnreducedFieldElement", "loop.example/pub-g03236/pub/mldsa.zetas"]).all fun n => match Tryd.prog.globalNamed n with | some g => (match Tryd.prog.globals[g]? with | some G => Tryd.prog.readableRec G.type && decide (G.type < Tryd.prog.types.size) | none => false) | none => false) = true := by kernel_rfl

set_option maxRecDepth 100000 in
theorem lifted (os : Os) (started : os.Started) (H : Type) (enc : TypeId × Value → H) :
    ReturnsInHanded {} Tryd.checked os 6 .any (fun w args => (Rows.fnT1HatSpec.pre enc Tryd.prog Tryd.f6 [] false w args ∧ laidMetH Tryd.prog [("loop.example/pub-g03236/pub/mldsa.errUnreducedFieldElement", Rows.laid_loop_example_pub_g03236_pub_mldsa_errUnreducedFieldElement), ("loop.example/pub-g03236/pub/mldsa.zetas", Rows.laid_loop_example_pub_g03236_pub_mldsa_zetas)] w) ∧ sizedMet enc Tryd.prog Tryd.f6 (OpenSpec.ofChange Rows.fnT1HatSpec) false w args)
      (Rows.fnT1HatSpec.post enc Tryd.prog Tryd.f6 false true false false) := by
  refine returnsInHanded_of_change_and (C := Tryd.checked) (X := fun w _ => laidMetH Tryd.prog [("loop.example/pub-g03236/pub/mldsa.errUnreducedFieldElement", Rows.laid_loop_example_pub_g03236_pub_mldsa_errUnreducedFieldElement), ("loop.example/pub-g03236/pub/mldsa.zetas", Rows.laid_loop_example_pub_g03236_pub_mldsa_zetas)] w) (fun _ _ _ hh h => h.of_heap hh) own started (by kernel_rfl) Tryd.func6
    (ChangeSpec.witness_shaped (enc := enc) (C := Tryd.checked) (os := os) (X := fun w _ => laidMetH Tryd.prog [("loop.example/pub-g03236/pub/mldsa.errUnreducedFieldElement", Rows.laid_loop_example_pub_g03236_pub_mldsa_errUnreducedFieldElement), ("loop.example/pub-g03236/pub/mldsa.zetas", Rows.laid_loop_example_pub_g03236_pub_mldsa_zetas)] w) false (World.doorLaid Tryd.prog 400 os) #[.slice none 0 0] 8 rfl (World.shaped_of_RefB (by kernel_rfl) (by kernel_rfl)) (by kernel_rfl) (by kernel_rfl) (by kernel_rfl) (door_met os _)) ?_
  intro W base args ds gs before hval0 hW _ _ hL0 _
  have hval : ∀ (j : Nat) t v, Tryd.f6.params[j]? = some t → args[j]? = some v → Value.okWide Tryd.prog W .any base t v := hval0
  have hL : laidMet Tryd.prog [("loop.example/pub-g03236/pub/mldsa.errUnreducedFieldElement", Rows.laid_loop_example_pub_g03236_pub_mldsa_errUnreducedFieldElement), ("loop.example/pub-g03236/pub/mldsa.zetas", Rows.laid_loop_example_pub_g03236_pub_mldsa_zetas)] W := by rw [← MakeChecks.laidMetH_plain _ _ _ (by kernel_rfl)]; exact hL0
  have hW' := hW
  obtain ⟨p, q, hA0, hV0, rfl, hfz, hnd⟩ := hW
  have hV : DataW.TrodVars enc Tryd.prog W (fun _ => true) ["loop.example/pub-g03236/pub/mldsa.errUnreducedFieldElement", "loop.example/pub-g03236/pub/mldsa.zetas"] gs q := hV0
  have hA : DataW.TrodAll enc Tryd.prog W 0 (fun _ => true) true Tryd.f6.params.toList args.toList ds p := hA0
  rw [Tryd.params6] at hA hval
  obtain ⟨v0, vs0, d0, ds0, p0, q0, hargs, rfl, rfl, h0, r0⟩ := trodAll_cons hA
  obtain ⟨rfl, rfl, rfl⟩ := trodAll_nil r0
  obtain rfl : args = #[v0] := by cases args; simp_all
  obtain ⟨g0, gs0, y0, rfl, u0⟩ := trodVars_cons hV
  obtain ⟨g1, gs1, y1, rfl, u1⟩ := trodVars_cons u0
  obtain ⟨rfl, _⟩ := trodVars_none u1
  have rd0 := Lib.laidMet.reads hL (n := "loop.example/pub-g03236/pub/mldsa.errUnreducedFieldElement") (d := Rows.laid_loop_example_pub_g03236_pub_mldsa_errUnreducedFieldElement) (List.mem_of_getElem? (i := 0) rfl)
  have gv0 : GErr W 1 := gerr_of_sentinel rd0 (by kernel_rfl) (by kernel_rfl) Tryd.underlying67
  have rd1 := Lib.laidMet.reads hL (n := "loop.example/pub-g03236/pub/mldsa.zetas") (d := Rows.laid_loop_example_pub_g03236_pub_mldsa_zetas) (List.mem_of_getElem? (i := 1) rfl)
  have rz1 : (Rows.laid_loop_example_pub_g03236_pub_mldsa_zetas : DataW Unit) = .agg (zetaL.map fun z => .lit (.int .u32 z)) := by kernel_rfl
  rw [rz1] at rd1
  have gv1 : GArr W 0 .u32 256 zetaV := zeta_of (garr_of_array (zs := zetaL) (k := .u32) rd1 (by kernel_rfl) (by kernel_rfl) Tryd.underlying47 Tryd.underlying46 (by kernel_rfl) (by kernel_rfl))
  obtain ⟨a0, len0, cap0, rfl⟩ := okWide_slice Tryd.underlying36 (hval 0 36 v0 rfl rfl)
  have k0 := h0
  have lt0 : ∀ x ∈ p0, x.block < W.heap.size := by obtain ⟨m, hm⟩ := k0; exact DataW.trod_lt m _ _ _ hm
  obtain ⟨z0, w0⟩ := open_mat Tryd.underlying36 Tryd.underlying41 Tryd.underlying38 (by kernel_rfl) (by kernel_rfl) h0
  clear hA0 hval0
  refine (walkFnT1Hat a0 len0 cap0 z0 W gv0 gv1 w0).mono fun e W' ⟨he, bel⟩ => ?_
  subst he
  have hVs := below_trodVars laidOut bel (fun n hn g t h1 h2 => by
    have hr := List.all_eq_true.1 readable n hn
    rw [h1] at hr
    cases hg : Tryd.prog.globals[g]? with
    | none => rw [hg] at h2; cases h2
    | some G =>
      rw [hg] at h2
      simp only [Option.map_some, Option.some.injEq] at h2
      simp only [hg, Bool.and_eq_true, decide_eq_true_eq] at hr
      rw [← h2]; exact hr) hV
  exact ⟨_, rfl, _, _, _, [], _, q, hW', trodAll_mk1 (shut_bool Tryd.underlying4 _), (trodAll_cons_mk (Below.trod laidOut (by kernel_rfl) (of_decide_eq_true (by kernel_rfl)) k0 bel lt0) trodAll_mk0), hVs, bel.frame _, fun h => by cases h⟩

theorem over : Rows.FnT1HatSaid :=
  OpenClaim.holds_of_wide 6 Tryd.f6 rfl rfl rfl rfl rfl rfl rfl ⟨rfl, rfl, rfl, rfl, rfl⟩ rfl rfl rfl rfl rfl (by kernel_rfl) Tryd.func6 (by kernel_rfl)
    (of_decide_eq_true (by kernel_rfl)) (by unfold Func.isWrapper; first | (rw [if_pos (by decide +kernel)]; kernel_rfl) | (rw [if_neg (by decide +kernel)]; exact ⟨rfl, rfl⟩))
    (fun os started H enc _ => lifted os started H enc)

/-- The given statement: the tied card. -/
theorem proved : Rows.FnT1HatCardSaid :=
  Claim7.holds_tied_plain_at .later [] [.sentinel, .data] true (true, "6df9834dc5dc11c608a87b517ff7396d9872da7b58d956b9f9c4346ab204b07c") false
    over (fun _ h => by cases h) (by kernel_rfl) (fun _ h => by cases h) fnT1Hat_row_tie rfl ⟨rfl, rfl⟩ (by kernel_rfl) rfl
    (fun f fn hf hfn => by
      obtain rfl : f = 6 := Option.some.inj ((show Tryd.prog.funcNamed "loop.example/pub-g03236/laws.FnT1Hat" = some 6 by kernel_rfl).symm.trans hf) |>.symm
      obtain rfl : fn = Tryd.f6 := (Option.some.inj (Tryd.func6.symm.trans hfn)).symm
      exact ⟨by kernel_rfl, fun j t ht => by
        rw [Tryd.params6] at ht
        have hm : t ∈ [36] := by simpa using Array.mem_of_getElem? ht
        have hall : ([36].all fun u => !Tryd.prog.wantsStandIn u) = true := by kernel_rfl
        exact (show Tryd.prog.wantsStandIn t = false by simpa using List.all_eq_true.1 hall t hm)⟩)
    (by kernel_rfl)
#print axioms proved
end Go.Proofs.YtpfabgmoadljnaaDoor.fnT1Hat
