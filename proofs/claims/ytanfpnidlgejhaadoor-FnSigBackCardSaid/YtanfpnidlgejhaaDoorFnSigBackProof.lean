/-
  The law FnSigBack returns true for every input, and each argument reads as it did: the row, and its tied card. The frame is after the kit's worked texts (MapyProofs, MapyCard) and its proof-skeleton.
-/
import Derived.Test.YtanfpnidlgejhaaDoorRows
import Derived.Test.YtanfpnidlgejhaaDoorTie
import Derived.Test.YtanfpnidlgejhaaDoorCards
import Derived.Test.YtanfpnidlgejhaaDoorSig8
import Derived.WalkKit
import Derived.ProofKit
import Derived.OpenShut
import Derived.ShutString
import Derived.ChangeOld
import Derived.Below
import Derived.LaidMore
import Derived.Stop.Joined
import Derived.SevenTiedAt
namespace Go.Proofs.YtanfpnidlgejhaaDoor.fnSigBack
open Go.ChangeShapes Go.WideShapes Go.ChangeAt Go.RowKit
open Go.ChangeMaps (open_string shut_string)
set_option linter.unusedVariables false

theorem own : ownKnob Tryd.prog.godebug = none := by kernel_rfl
theorem laidOut : laidOutB Tryd.prog = true := by kernel_rfl
theorem door_met (os : Os) (args : Array Value) : laidMetH Tryd.prog [("loop.example/pub-g03236/pub/mldsa.params44", Rows.laid_loop_example_pub_g03236_pub_mldsa_params44), ("loop.example/pub-g03236/pub/mldsa.params65", Rows.laid_loop_example_pub_g03236_pub_mldsa_params65), ("loop.example/pub-g03236/pub/mldsa.params87", Rows.laid_loop_example_pub_g03236_pub_mldsa_params87), ("loop.example/pub-g03236/pub/mldsa.errInvalidSignatureLength", Rows.laid_loop_example_pub_g03236_pub_mldsa_errInvalidSignatureLength), ("loop.example/pub-g03236/pub/mldsa.errInvalidSignatureHintLimits", Rows.laid_loop_example_pub_g03236_pub_mldsa_errInvalidSignatureHintLimits), ("loop.example/pub-g03236/pub/mldsa.errInvalidSignatureHintIndexOrder", Rows.laid_loop_example_pub_g03236_pub_mldsa_errInvalidSignatureHintIndexOrder), ("loop.example/pub-g03236/pub/mldsa.errInvalidSignatureHintExtraIndices", Rows.laid_loop_example_pub_g03236_pub_mldsa_errInvalidSignatureHintExtraIndices)] ((World.doorLaid Tryd.prog 400 os).forCall (fun _ _ => 0) ⟨#[], args, []⟩).memory :=
  laidMetH_of_parts3 (fuel := 8) (laidMet_of_run' 8 (by kernel_rfl) (by kernel_rfl)) (by kernel_rfl) (by kernel_rfl)
theorem readable : ((["loop.example/pub-g03236/pub/mldsa.params44", "loop.example/pub-g03236/pub/mldsa.params65", "loop.example/pub-g03236/pub/mldsa.params87", "loop.example/pub-g03236/pub/mldsa.errInvalidSignatureLength", "loop.example/pub-g03236/pub/mldsa.errInvalidSignatureHintLimits", "loop.example/pub-g03236/pub/mldsa.errInvalidSignatureHintIndexOrder", "loop.example/pub-g03236/pub/mldsa.errInvalidSignatureHintExtraIndices"]).all fun n => match Tryd.prog.globalNamed n with | some g => (match Tryd.prog.globals[g]? with | some G => Tryd.prog.readableRec G.type && decide (G.type < Tryd.prog.types.size) | none => false) | none => false) = true := by kernel_rfl

set_option maxRecDepth 100000 in
theorem lifted (os : Os) (started : os.Started) (H : Type) (enc : TypeId × Value → H) :
    ReturnsInHanded {} Tryd.checked os 5 .any (fun w args => (Rows.fnSigBackSpec.pre enc Tryd.prog Tryd.f5 [] false w args ∧ laidMetH Tryd.prog [("loop.example/pub-g03236/pub/mldsa.params44", Rows.laid_loop_example_pub_g03236_pub_mldsa_params44), ("loop.example/pub-g03236/pub/mldsa.params65", Rows.laid_loop_example_pub_g03236_pub_mldsa_params65), ("loop.example/pub-g03236/pub/mldsa.params87", Rows.laid_loop_example_pub_g03236_pub_mldsa_params87), ("loop.example/pub-g03236/pub/mldsa.errInvalidSignatureLength", Rows.laid_loop_example_pub_g03236_pub_mldsa_errInvalidSignatureLength), ("loop.example/pub-g03236/pub/mldsa.errInvalidSignatureHintLimits", Rows.laid_loop_example_pub_g03236_pub_mldsa_errInvalidSignatureHintLimits), ("loop.example/pub-g03236/pub/mldsa.errInvalidSignatureHintIndexOrder", Rows.laid_loop_example_pub_g03236_pub_mldsa_errInvalidSignatureHintIndexOrder), ("loop.example/pub-g03236/pub/mldsa.errInvalidSignatureHintExtraIndices", Rows.laid_loop_example_pub_g03236_pub_mldsa_errInvalidSignatureHintExtraIndices)] w) ∧ sizedMet enc Tryd.prog Tryd.f5 (OpenSpec.ofChange Rows.fnSigBackSpec) false w args)
      (Rows.fnSigBackSpec.post enc Tryd.prog Tryd.f5 false true false false) := by
  refine returnsInHanded_of_change_and (C := Tryd.checked) (X := fun w _ => laidMetH Tryd.prog [("loop.example/pub-g03236/pub/mldsa.params44", Rows.laid_loop_example_pub_g03236_pub_mldsa_params44), ("loop.example/pub-g03236/pub/mldsa.params65", Rows.laid_loop_example_pub_g03236_pub_mldsa_params65), ("loop.example/pub-g03236/pub/mldsa.params87", Rows.laid_loop_example_pub_g03236_pub_mldsa_params87), ("loop.example/pub-g03236/pub/mldsa.errInvalidSignatureLength", Rows.laid_loop_example_pub_g03236_pub_mldsa_errInvalidSignatureLength), ("loop.example/pub-g03236/pub/mldsa.errInvalidSignatureHintLimits", Rows.laid_loop_example_pub_g03236_pub_mldsa_errInvalidSignatureHintLimits), ("loop.example/pub-g03236/pub/mldsa.errInvalidSignatureHintIndexOrder", Rows.laid_loop_example_pub_g03236_pub_mldsa_errInvalidSignatureHintIndexOrder), ("loop.example/pub-g03236/pub/mldsa.errInvalidSignatureHintExtraIndices", Rows.laid_loop_example_pub_g03236_pub_mldsa_errInvalidSignatureHintExtraIndices)] w) (fun _ _ _ hh h => h.of_heap hh) own started (by kernel_rfl) Tryd.func5
    (ChangeSpec.witness_shaped (enc := enc) (C := Tryd.checked) (os := os) (X := fun w _ => laidMetH Tryd.prog [("loop.example/pub-g03236/pub/mldsa.params44", Rows.laid_loop_example_pub_g03236_pub_mldsa_params44), ("loop.example/pub-g03236/pub/mldsa.params65", Rows.laid_loop_example_pub_g03236_pub_mldsa_params65), ("loop.example/pub-g03236/pub/mldsa.params87", Rows.laid_loop_example_pub_g03236_pub_mldsa_params87), ("loop.example/pub-g03236/pub/mldsa.errInvalidSignatureLength", Rows.laid_loop_example_pub_g03236_pub_mldsa_errInvalidSignatureLength), ("loop.example/pub-g03236/pub/mldsa.errInvalidSignatureHintLimits", Rows.laid_loop_example_pub_g03236_pub_mldsa_errInvalidSignatureHintLimits), ("loop.example/pub-g03236/pub/mldsa.errInvalidSignatureHintIndexOrder", Rows.laid_loop_example_pub_g03236_pub_mldsa_errInvalidSignatureHintIndexOrder), ("loop.example/pub-g03236/pub/mldsa.errInvalidSignatureHintExtraIndices", Rows.laid_loop_example_pub_g03236_pub_mldsa_errInvalidSignatureHintExtraIndices)] w) false (World.doorLaid Tryd.prog 400 os) #[.int .u8 0, .slice none 0 0] 8 rfl (World.shaped_of_RefB (by kernel_rfl) (by kernel_rfl)) (by kernel_rfl) (by kernel_rfl) (by kernel_rfl) (door_met os _)) ?_
  intro W base args ds gs before hval0 hW _ _ hL0 _
  have hval : ∀ (j : Nat) t v, Tryd.f5.params[j]? = some t → args[j]? = some v → Value.okWide Tryd.prog W .any base t v := hval0
  have hL : laidMet Tryd.prog [("loop.example/pub-g03236/pub/mldsa.params44", Rows.laid_loop_example_pub_g03236_pub_mldsa_params44), ("loop.example/pub-g03236/pub/mldsa.params65", Rows.laid_loop_example_pub_g03236_pub_mldsa_params65), ("loop.example/pub-g03236/pub/mldsa.params87", Rows.laid_loop_example_pub_g03236_pub_mldsa_params87), ("loop.example/pub-g03236/pub/mldsa.errInvalidSignatureLength", Rows.laid_loop_example_pub_g03236_pub_mldsa_errInvalidSignatureLength), ("loop.example/pub-g03236/pub/mldsa.errInvalidSignatureHintLimits", Rows.laid_loop_example_pub_g03236_pub_mldsa_errInvalidSignatureHintLimits), ("loop.example/pub-g03236/pub/mldsa.errInvalidSignatureHintIndexOrder", Rows.laid_loop_example_pub_g03236_pub_mldsa_errInvalidSignatureHintIndexOrder), ("loop.example/pub-g03236/pub/mldsa.errInvalidSignatureHintExtraIndices", Rows.laid_loop_example_pub_g03236_pub_mldsa_errInvalidSignatureHintExtraIndices)] W := by rw [← MakeChecks.laidMetH_plain _ _ _ (by kernel_rfl)]; exact hL0
  have hW' := hW
  obtain ⟨p, q, hA0, hV0, rfl, hfz, hnd⟩ := hW
  have hV : DataW.TrodVars enc Tryd.prog W (fun _ => true) ["loop.example/pub-g03236/pub/mldsa.params44", "loop.example/pub-g03236/pub/mldsa.params65", "loop.example/pub-g03236/pub/mldsa.params87", "loop.example/pub-g03236/pub/mldsa.errInvalidSignatureLength", "loop.example/pub-g03236/pub/mldsa.errInvalidSignatureHintLimits", "loop.example/pub-g03236/pub/mldsa.errInvalidSignatureHintIndexOrder", "loop.example/pub-g03236/pub/mldsa.errInvalidSignatureHintExtraIndices"] gs q := hV0
  have hA : DataW.TrodAll enc Tryd.prog W 0 (fun _ => true) true Tryd.f5.params.toList args.toList ds p := hA0
  rw [Tryd.params5] at hA hval
  obtain ⟨v0, vs0, d0, ds0, p0, q0, hargs, rfl, rfl, h0, r0⟩ := trodAll_cons hA
  obtain ⟨v1, vs1, d1, ds1, p1, q1, rfl, rfl, rfl, h1, r1⟩ := trodAll_cons r0
  obtain ⟨rfl, rfl, rfl⟩ := trodAll_nil r1
  obtain rfl : args = #[v0, v1] := by cases args; simp_all
  obtain ⟨g0, gs0, y0, rfl, u0⟩ := trodVars_cons hV
  obtain ⟨g1, gs1, y1, rfl, u1⟩ := trodVars_cons u0
  obtain ⟨g2, gs2, y2, rfl, u2⟩ := trodVars_cons u1
  obtain ⟨g3, gs3, y3, rfl, u3⟩ := trodVars_cons u2
  obtain ⟨g4, gs4, y4, rfl, u4⟩ := trodVars_cons u3
  obtain ⟨g5, gs5, y5, rfl, u5⟩ := trodVars_cons u4
  obtain ⟨g6, gs6, y6, rfl, u6⟩ := trodVars_cons u5
  obtain ⟨rfl, _⟩ := trodVars_none u6
  have rd0 := Lib.laidMet.reads hL (n := "loop.example/pub-g03236/pub/mldsa.params44") (d := Rows.laid_loop_example_pub_g03236_pub_mldsa_params44) (List.mem_of_getElem? (i := 0) rfl)
  have gv0 : GArr W 0 .i64 8 (ps 0) := garr_of_struct (zs := [4, 4, 2, 17, 88, 128, 39, 80]) (k := .i64) rd0 (by kernel_rfl) (by kernel_rfl) Tryd.underlying76 (by kernel_rfl) (by kernel_rfl)
  have rd1 := Lib.laidMet.reads hL (n := "loop.example/pub-g03236/pub/mldsa.params65") (d := Rows.laid_loop_example_pub_g03236_pub_mldsa_params65) (List.mem_of_getElem? (i := 1) rfl)
  have gv1 : GArr W 1 .i64 8 (ps 1) := garr_of_struct (zs := [6, 5, 4, 19, 32, 192, 49, 55]) (k := .i64) rd1 (by kernel_rfl) (by kernel_rfl) Tryd.underlying76 (by kernel_rfl) (by kernel_rfl)
  have rd2 := Lib.laidMet.reads hL (n := "loop.example/pub-g03236/pub/mldsa.params87") (d := Rows.laid_loop_example_pub_g03236_pub_mldsa_params87) (List.mem_of_getElem? (i := 2) rfl)
  have gv2 : GArr W 2 .i64 8 (ps 2) := garr_of_struct (zs := [8, 7, 2, 19, 32, 256, 60, 75]) (k := .i64) rd2 (by kernel_rfl) (by kernel_rfl) Tryd.underlying76 (by kernel_rfl) (by kernel_rfl)
  have rd3 := Lib.laidMet.reads hL (n := "loop.example/pub-g03236/pub/mldsa.errInvalidSignatureLength") (d := Rows.laid_loop_example_pub_g03236_pub_mldsa_errInvalidSignatureLength) (List.mem_of_getElem? (i := 3) rfl)
  have gv3 : GErr W 3 := gerr_of_sentinel rd3 (by kernel_rfl) (by kernel_rfl) Tryd.underlying60
  have rd4 := Lib.laidMet.reads hL (n := "loop.example/pub-g03236/pub/mldsa.errInvalidSignatureHintLimits") (d := Rows.laid_loop_example_pub_g03236_pub_mldsa_errInvalidSignatureHintLimits) (List.mem_of_getElem? (i := 4) rfl)
  have gv4 : GErr W 4 := gerr_of_sentinel rd4 (by kernel_rfl) (by kernel_rfl) Tryd.underlying60
  have rd5 := Lib.laidMet.reads hL (n := "loop.example/pub-g03236/pub/mldsa.errInvalidSignatureHintIndexOrder") (d := Rows.laid_loop_example_pub_g03236_pub_mldsa_errInvalidSignatureHintIndexOrder) (List.mem_of_getElem? (i := 5) rfl)
  have gv5 : GErr W 5 := gerr_of_sentinel rd5 (by kernel_rfl) (by kernel_rfl) Tryd.underlying60
  have rd6 := Lib.laidMet.reads hL (n := "loop.example/pub-g03236/pub/mldsa.errInvalidSignatureHintExtraIndices") (d := Rows.laid_loop_example_pub_g03236_pub_mldsa_errInvalidSignatureHintExtraIndices) (List.mem_of_getElem? (i := 6) rfl)
  have gv6 : GErr W 6 := gerr_of_sentinel rd6 (by kernel_rfl) (by kernel_rfl) Tryd.underlying60
  obtain ⟨a0, rfl, rfl, rfl, w0⟩ := open_int Tryd.underlying5 (hval 0 5 v0 rfl rfl) h0
  obtain ⟨a1, len1, cap1, rfl⟩ := okWide_slice Tryd.underlying22 (hval 1 22 v1 rfl rfl)
  have k1 := h1
  have lt1 : ∀ x ∈ p1, x.block < W.heap.size := by obtain ⟨m, hm⟩ := k1; exact DataW.trod_lt m _ _ _ hm
  obtain ⟨z1, w1⟩ : ∃ zs, IsRow .u8 W a1 len1 cap1 zs := by
    obtain ⟨fuel, hf⟩ := h1
    rcases open_ints Tryd.underlying22 Tryd.underlying5 (by kernel_rfl) hf with ⟨hcs, _⟩ | ⟨x, l, c, zs, hcs, _, hl, hm, hz, _, hcell, hwz⟩
    · simp [Value.cells] at hcs
      obtain ⟨rfl, rfl, rfl⟩ := hcs
      exact ⟨[], .inl ⟨rfl, rfl, rfl, rfl⟩⟩
    · simp [Value.cells] at hcs
      obtain ⟨rfl, rfl, rfl⟩ := hcs
      exact ⟨zs, .inr ⟨_, rfl, hl, hm, by simpa using hz, hcell, hwz⟩⟩
  clear hA0 hval0
  refine (walkFnSigBack a0 a1 len1 cap1 z1 W ⟨gv0, gv1, gv2⟩ gv3 gv4 gv5 gv6 (by have := bounds_u8 w0; omega) (by have := bounds_u8 w0; omega) w1).mono fun e W' ⟨he, bel⟩ => ?_
  subst he
  have hVs := below_trodVars laidOut bel (fun n hn g t h1 h2 => by
    have hr := List.all_eq_true.1 readable n hn
    rw [h1] at hr
    cases hg : Tryd.prog.globals[g]? with
    | none => rw [hg] at h2; cases h2
    | some G =>
      rw [hg] at h2
      simp only [Option.map_some, Option.some.injEq] at h2
      simp only [hg, Bool.and_eq_true, decide_eq_true_eq] at hr
      rw [← h2]; exact hr) hV
  exact ⟨_, rfl, _, _, _, [], _, q, hW', trodAll_mk1 (shut_bool Tryd.underlying4 _), (trodAll_cons_mk (shut_int Tryd.underlying5 w0) (trodAll_cons_mk (Below.trod laidOut (by kernel_rfl) (of_decide_eq_true (by kernel_rfl)) k1 bel lt1) trodAll_mk0)), hVs, bel.frame _, fun h => by cases h⟩

theorem over : Rows.FnSigBackSaid :=
  OpenClaim.holds_of_wide 5 Tryd.f5 rfl rfl rfl rfl rfl rfl rfl ⟨rfl, rfl, rfl, rfl, rfl⟩ rfl rfl rfl rfl rfl (by kernel_rfl) Tryd.func5 (by kernel_rfl)
    (of_decide_eq_true (by kernel_rfl)) (by unfold Func.isWrapper; first | (rw [if_pos (by decide +kernel)]; kernel_rfl) | (rw [if_neg (by decide +kernel)]; exact ⟨rfl, rfl⟩))
    (fun os started H enc _ => lifted os started H enc)

/-- The given statement: the tied card. -/
theorem proved : Rows.FnSigBackCardSaid :=
  Claim7.holds_tied_plain_at .later [] [.data, .data, .data, .sentinel, .sentinel, .sentinel, .sentinel] true (true, "b6fd0beeb545a152a14e43a7e559497d1c84972eadd68a2e10dd7a8cd7e8eeea") false
    over (fun _ h => by cases h) (by kernel_rfl) (fun _ h => by cases h) fnSigBack_row_tie rfl ⟨rfl, rfl⟩ (by kernel_rfl) rfl
    (fun f fn hf hfn => by
      obtain rfl : f = 5 := Option.some.inj ((show Tryd.prog.funcNamed "loop.example/pub-g03236/laws.FnSigBack" = some 5 by kernel_rfl).symm.trans hf) |>.symm
      obtain rfl : fn = Tryd.f5 := (Option.some.inj (Tryd.func5.symm.trans hfn)).symm
      exact ⟨by kernel_rfl, fun j t ht => by
        rw [Tryd.params5] at ht
        have hm : t ∈ [5, 22] := by simpa using Array.mem_of_getElem? ht
        have hall : ([5, 22].all fun u => !Tryd.prog.wantsStandIn u) = true := by kernel_rfl
        exact (show Tryd.prog.wantsStandIn t = false by simpa using List.all_eq_true.1 hall t hm)⟩)
    (by kernel_rfl)
#print axioms proved
end Go.Proofs.YtanfpnidlgejhaaDoor.fnSigBack
