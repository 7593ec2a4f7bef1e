/-
  The law FnSigEncode returns true for every input, and each argument reads as it did: the row, and its tied card. The frame is after the kit's worked texts (MapyProofs, MapyCard) and its proof-skeleton.
-/
import Derived.Test.YtanfpnidlgejhaaDoorRows
import Derived.Test.YtanfpnidlgejhaaDoorTie
import Derived.Test.YtanfpnidlgejhaaDoorCards
import Derived.Test.YtanfpnidlgejhaaDoorSig3
import Derived.WalkKit
import Derived.ProofKit
import Derived.OpenShut
import Derived.ShutString
import Derived.ChangeOld
import Derived.Below
import Derived.LaidMore
import Derived.Stop.Joined
import Derived.SevenTiedAt
namespace Go.Proofs.YtanfpnidlgejhaaDoor.fnSigEncode
open Go.ChangeShapes Go.WideShapes Go.ChangeAt Go.RowKit
open Go.ChangeMaps (open_string shut_string)
set_option linter.unusedVariables false

theorem own : ownKnob Tryd.prog.godebug = none := by kernel_rfl
theorem laidOut : laidOutB Tryd.prog = true := by kernel_rfl
theorem door_met (os : Os) (args : Array Value) : laidMetH Tryd.prog [("loop.example/pub-g03236/pub/mldsa.params44", Rows.laid_loop_example_pub_g03236_pub_mldsa_params44), ("loop.example/pub-g03236/pub/mldsa.params65", Rows.laid_loop_example_pub_g03236_pub_mldsa_params65), ("loop.example/pub-g03236/pub/mldsa.params87", Rows.laid_loop_example_pub_g03236_pub_mldsa_params87)] ((World.doorLaid Tryd.prog 400 os).forCall (fun _ _ => 0) ⟨#[], args, []⟩).memory :=
  laidMetH_of_parts3 (fuel := 8) (laidMet_of_run' 8 (by kernel_rfl) (by kernel_rfl)) (by kernel_rfl) (by kernel_rfl)
theorem readable : ((["loop.example/pub-g03236/pub/mldsa.params44", "loop.example/pub-g03236/pub/mldsa.params65", "loop.example/pub-g03236/pub/mldsa.params87"]).all fun n => match Tryd.prog.globalNamed n with | some g => (match Tryd.prog.globals[g]? with | some G => Tryd.prog.readableRec G.type && decide (G.type < Tryd.prog.types.size) | none => false) | none => false) = true := by kernel_rfl

set_option maxRecDepth 100000 in
theorem lifted (os : Os) (started : os.Started) (H : Type) (enc : TypeId × Value → H) :
    ReturnsInHanded {} Tryd.checked os 4 .any (fun w args => (Rows.fnSigEncodeSpec.pre enc Tryd.prog Tryd.f4 [] false w args ∧ laidMetH Tryd.prog [("loop.example/pub-g03236/pub/mldsa.params44", Rows.laid_loop_example_pub_g03236_pub_mldsa_params44), ("loop.example/pub-g03236/pub/mldsa.params65", Rows.laid_loop_example_pub_g03236_pub_mldsa_params65), ("loop.example/pub-g03236/pub/mldsa.params87", Rows.laid_loop_example_pub_g03236_pub_mldsa_params87)] w) ∧ sizedMet enc Tryd.prog Tryd.f4 (OpenSpec.ofChange Rows.fnSigEncodeSpec) false w args)
      (Rows.fnSigEncodeSpec.post enc Tryd.prog Tryd.f4 false true false false) := by
  refine returnsInHanded_of_change_and (C := Tryd.checked) (X := fun w _ => laidMetH Tryd.prog [("loop.example/pub-g03236/pub/mldsa.params44", Rows.laid_loop_example_pub_g03236_pub_mldsa_params44), ("loop.example/pub-g03236/pub/mldsa.params65", Rows.laid_loop_example_pub_g03236_pub_mldsa_params65), ("loop.example/pub-g03236/pub/mldsa.params87", Rows.laid_loop_example_pub_g03236_pub_mldsa_params87)] w) (fun _ _ _ hh h => h.of_heap hh) own started (by kernel_rfl) Tryd.func4
    (ChangeSpec.witness_shaped (enc := enc) (C := Tryd.checked) (os := os) (X := fun w _ => laidMetH Tryd.prog [("loop.example/pub-g03236/pub/mldsa.params44", Rows.laid_loop_example_pub_g03236_pub_mldsa_params44), ("loop.example/pub-g03236/pub/mldsa.params65", Rows.laid_loop_example_pub_g03236_pub_mldsa_params65), ("loop.example/pub-g03236/pub/mldsa.params87", Rows.laid_loop_example_pub_g03236_pub_mldsa_params87)] w) false (World.doorLaid Tryd.prog 400 os) #[.int .u8 0, .agg (Array.replicate 64 (.int .u8 0)), .slice none 0 0, .slice none 0 0] 8 rfl (World.shaped_of_RefB (by kernel_rfl) (by kernel_rfl)) (by kernel_rfl) (by kernel_rfl) (by kernel_rfl) (door_met os _)) ?_
  intro W base args ds gs before hval0 hW _ _ hL0 _
  have hval : ∀ (j : Nat) t v, Tryd.f4.params[j]? = some t → args[j]? = some v → Value.okWide Tryd.prog W .any base t v := hval0
  have hL : laidMet Tryd.prog [("loop.example/pub-g03236/pub/mldsa.params44", Rows.laid_loop_example_pub_g03236_pub_mldsa_params44), ("loop.example/pub-g03236/pub/mldsa.params65", Rows.laid_loop_example_pub_g03236_pub_mldsa_params65), ("loop.example/pub-g03236/pub/mldsa.params87", Rows.laid_loop_example_pub_g03236_pub_mldsa_params87)] W := by rw [← MakeChecks.laidMetH_plain _ _ _ (by kernel_rfl)]; exact hL0
  have hW' := hW
  obtain ⟨p, q, hA0, hV0, rfl, hfz, hnd⟩ := hW
  have hV : DataW.TrodVars enc Tryd.prog W (fun _ => true) ["loop.example/pub-g03236/pub/mldsa.params44", "loop.example/pub-g03236/pub/mldsa.params65", "loop.example/pub-g03236/pub/mldsa.params87"] gs q := hV0
  have hA : DataW.TrodAll enc Tryd.prog W 0 (fun _ => true) true Tryd.f4.params.toList args.toList ds p := hA0
  rw [Tryd.params4] at hA hval
  obtain ⟨v0, vs0, d0, ds0, p0, q0, hargs, rfl, rfl, h0, r0⟩ := trodAll_cons hA
  obtain ⟨v1, vs1, d1, ds1, p1, q1, rfl, rfl, rfl, h1, r1⟩ := trodAll_cons r0
  obtain ⟨v2, vs2, d2, ds2, p2, q2, rfl, rfl, rfl, h2, r2⟩ := trodAll_cons r1
  obtain ⟨v3, vs3, d3, ds3, p3, q3, rfl, rfl, rfl, h3, r3⟩ := trodAll_cons r2
  obtain ⟨rfl, rfl, rfl⟩ := trodAll_nil r3
  obtain rfl : args = #[v0, v1, v2, v3] := by cases args; simp_all
  obtain ⟨g0, gs0, y0, rfl, u0⟩ := trodVars_cons hV
  obtain ⟨g1, gs1, y1, rfl, u1⟩ := trodVars_cons u0
  obtain ⟨g2, gs2, y2, rfl, u2⟩ := trodVars_cons u1
  obtain ⟨rfl, _⟩ := trodVars_none u2
  have rd0 := Lib.laidMet.reads hL (n := "loop.example/pub-g03236/pub/mldsa.params44") (d := Rows.laid_loop_example_pub_g03236_pub_mldsa_params44) (List.mem_of_getElem? (i := 0) rfl)
  have gv0 : GArr W 0 .i64 8 (ps 0) := garr_of_struct (zs := [4, 4, 2, 17, 88, 128, 39, 80]) (k := .i64) rd0 (by kernel_rfl) (by kernel_rfl) Tryd.underlying76 (by kernel_rfl) (by kernel_rfl)
  have rd1 := Lib.laidMet.reads hL (n := "loop.example/pub-g03236/pub/mldsa.params65") (d := Rows.laid_loop_example_pub_g03236_pub_mldsa_params65) (List.mem_of_getElem? (i := 1) rfl)
  have gv1 : GArr W 1 .i64 8 (ps 1) := garr_of_struct (zs := [6, 5, 4, 19, 32, 192, 49, 55]) (k := .i64) rd1 (by kernel_rfl) (by kernel_rfl) Tryd.underlying76 (by kernel_rfl) (by kernel_rfl)
  have rd2 := Lib.laidMet.reads hL (n := "loop.example/pub-g03236/pub/mldsa.params87") (d := Rows.laid_loop_example_pub_g03236_pub_mldsa_params87) (List.mem_of_getElem? (i := 2) rfl)
  have gv2 : GArr W 2 .i64 8 (ps 2) := garr_of_struct (zs := [8, 7, 2, 19, 32, 256, 60, 75]) (k := .i64) rd2 (by kernel_rfl) (by kernel_rfl) Tryd.underlying76 (by kernel_rfl) (by kernel_rfl)
  obtain ⟨a0, rfl, rfl, rfl, w0⟩ := open_int Tryd.underlying5 (hval 0 5 v0 rfl rfl) h0
  have k1 := h1
  have lt1 : ∀ x ∈ p1, x.block < W.heap.size := by obtain ⟨m, hm⟩ := k1; exact DataW.trod_lt m _ _ _ hm
  obtain ⟨a1, rfl, w1⟩ := open_arr Tryd.underlying46 Tryd.underlying5 (by kernel_rfl) (by kernel_rfl) (hval 1 46 v1 rfl rfl) h1
  obtain ⟨a2, len2, cap2, rfl⟩ := okWide_slice Tryd.underlying27 (hval 2 27 v2 rfl rfl)
  have k2 := h2
  have lt2 : ∀ x ∈ p2, x.block < W.heap.size := by obtain ⟨m, hm⟩ := k2; exact DataW.trod_lt m _ _ _ hm
  obtain ⟨z2, w2⟩ := open_mat Tryd.underlying27 Tryd.underlying40 Tryd.underlying39 (by kernel_rfl) (by kernel_rfl) h2
  obtain ⟨a3, len3, cap3, rfl⟩ := okWide_slice Tryd.underlying33 (hval 3 33 v3 rfl rfl)
  have k3 := h3
  have lt3 : ∀ x ∈ p3, x.block < W.heap.size := by obtain ⟨m, hm⟩ := k3; exact DataW.trod_lt m _ _ _ hm
  obtain ⟨z3, w3⟩ := open_matb Tryd.underlying33 Tryd.underlying65 Tryd.underlying4 (by kernel_rfl) (by kernel_rfl) h3
  clear hA0 hval0
  refine (walkFnSigEncode a0 a1 a2 len2 cap2 z2 a3 len3 cap3 z3 W ⟨gv0, gv1, gv2⟩ (by have := bounds_u8 w0; omega) (by have := bounds_u8 w0; omega) (fun i hi => by have := bounds_u8 (w1 i hi); omega) w2 w3).mono fun e W' ⟨he, bel⟩ => ?_
  subst he
  have hVs := below_trodVars laidOut bel (fun n hn g t h1 h2 => by
    have hr := List.all_eq_true.1 readable n hn
    rw [h1] at hr
    cases hg : Tryd.prog.globals[g]? with
    | none => rw [hg] at h2; cases h2
    | some G =>
      rw [hg] at h2
      simp only [Option.map_some, Option.some.injEq] at h2
      simp only [hg, Bool.and_eq_true, decide_eq_true_eq] at hr
      rw [← h2]; exact hr) hV
  exact ⟨_, rfl, _, _, _, [], _, q, hW', trodAll_mk1 (shut_bool Tryd.underlying4 _), (trodAll_cons_mk (shut_int Tryd.underlying5 w0) (trodAll_cons_mk (Below.trod laidOut (by kernel_rfl) (of_decide_eq_true (by kernel_rfl)) k1 bel lt1) (trodAll_cons_mk (Below.trod laidOut (by kernel_rfl) (of_decide_eq_true (by kernel_rfl)) k2 bel lt2) (trodAll_cons_mk (Below.trod laidOut (by kernel_rfl) (of_decide_eq_true (by kernel_rfl)) k3 bel lt3) trodAll_mk0)))), hVs, bel.frame _, fun h => by cases h⟩

theorem over : Rows.FnSigEncodeSaid :=
  OpenClaim.holds_of_wide 4 Tryd.f4 rfl rfl rfl rfl rfl rfl rfl ⟨rfl, rfl, rfl, rfl, rfl⟩ rfl rfl rfl rfl rfl (by kernel_rfl) Tryd.func4 (by kernel_rfl)
    (of_decide_eq_true (by kernel_rfl)) (by unfold Func.isWrapper; first | (rw [if_pos (by decide +kernel)]; kernel_rfl) | (rw [if_neg (by decide +kernel)]; exact ⟨rfl, rfl⟩))
    (fun os started H enc _ => lifted os started H enc)

/-- The given statement: the tied card. -/
theorem proved : Rows.FnSigEncodeCardSaid :=
  Claim7.holds_tied_plain_at .later [] [.data, .data, .data] true (true, "b6fd0beeb545a152a14e43a7e559497d1c84972eadd68a2e10dd7a8cd7e8eeea") false
    over (fun _ h => by cases h) (by kernel_rfl) (fun _ h => by cases h) fnSigEncode_row_tie rfl ⟨rfl, rfl⟩ (by kernel_rfl) rfl
    (fun f fn hf hfn => by
      obtain rfl : f = 4 := Option.some.inj ((show Tryd.prog.funcNamed "loop.example/pub-g03236/laws.FnSigEncode" = some 4 by kernel_rfl).symm.trans hf) |>.symm
      obtain rfl : fn = Tryd.f4 := (Option.some.inj (Tryd.func4.symm.trans hfn)).symm
      exact ⟨by kernel_rfl, fun j t ht => by
        rw [Tryd.params4] at ht
        have hm : t ∈ [5, 46, 27, 33] := by simpa using Array.mem_of_getElem? ht
        have hall : ([5, 46, 27, 33].all fun u => !Tryd.prog.wantsStandIn u) = true := by kernel_rfl
        exact (show Tryd.prog.wantsStandIn t = false by simpa using List.all_eq_true.1 hall t hm)⟩)
    (by kernel_rfl)
#print axioms proved
end Go.Proofs.YtanfpnidlgejhaaDoor.fnSigEncode
