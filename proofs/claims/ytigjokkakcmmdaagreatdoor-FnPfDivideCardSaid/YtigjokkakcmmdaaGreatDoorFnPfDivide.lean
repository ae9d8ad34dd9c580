/-
  'laws.FnPfDivide' answers true for every input, and its two arguments read behind the call as they read before (the statement FnPfDivideCardSaid). Conditions: the row's own: the listed package-level variables hold at the call what the program's text lays in them.
-/
import Derived.Test.YtigjokkakcmmdaaGreatDoorT28
import Derived.Test.YtigjokkakcmmdaaGreatDoorU04
set_option linter.unusedSimpArgs false
set_option linter.unusedVariables false
set_option maxRecDepth 100000
namespace Go.Proofs.YtigjokkakcmmdaaGreatDoor
open Go Go.Proofs Go.ChangeShapes Go.WideShapes Go.ChangeAt Go.RowKit
theorem ownFnPfDivide : ownKnob Tryz.prog.godebug = none := by kernel_rfl
theorem liftedFnPfDivide (os : Os) (started : os.Started) (H : Type) (enc : TypeId × Value → H) :
    ReturnsInHanded {} Tryz.checked os 5 .any (fun w args => (Rows.fnPfDivideSpec.pre enc Tryz.prog Tryz.f5 [] false w args ∧ laidMetH Tryz.prog Go.Tb.laidQ w) ∧ sizedMet enc Tryz.prog Tryz.f5 (OpenSpec.ofChange Rows.fnPfDivideSpec) false w args)
      (Rows.fnPfDivideSpec.post enc Tryz.prog Tryz.f5 false true false false) := by
  refine returnsInHanded_of_change_and (C := Tryz.checked) (X := fun w _ => laidMetH Tryz.prog Go.Tb.laidQ w) (fun _ _ _ hh h => h.of_heap hh) ownFnPfDivide started (by kernel_rfl) Tryz.func5
    (ChangeSpec.witness_shaped (enc := enc) (C := Tryz.checked) (os := os) (X := fun w _ => laidMetH Tryz.prog Go.Tb.laidQ w) false (World.laidAll Tryz.prog os Go.Tb.laidQ) #[.agg (List.replicate 69 (.int .i64 0)).toArray, .int .i64 0] 8 (World.laidAll_os _ _ _)
      (World.shaped_of_ZipB (by kernel_rfl) (by kernel_rfl)) (by kernel_rfl) (by kernel_rfl) (by kernel_rfl)
      (by rw [MakeChecks.laidMetH_plain _ _ _ (by kernel_rfl)]; exact laidMet_laidAll _ (by kernel_rfl) (by kernel_rfl))) ?_
  intro W base args ds gs before hval0 hW _ _ hL _
  have hval : ∀ (j : Nat) t v, Tryz.f5.params[j]? = some t → args[j]? = some v → Value.okWide Tryz.prog W .any base t v := hval0
  have hW' := hW
  obtain ⟨p, q, hA0, hV, rfl, _, _⟩ := hW
  have hA : DataW.TrodAll enc Tryz.prog W 0 (fun _ => true) true Tryz.f5.params.toList args.toList ds p := hA0
  rw [Tryz.params5] at hA hval
  obtain ⟨v0, v1, d0, d1, p0, p1, rfl, rfl, rfl, h0, h1⟩ := trodAll_two hA
  obtain ⟨rfl, rfl⟩ := trodVars_none hV
  obtain ⟨x, rfl, rfl, rfl, wx⟩ := open_int Tryz.underlying3 (hval 1 3 v1 rfl rfl) h1
  obtain ⟨c, rfl⟩ := Go.Tb.openP (hval 0 24 v0 rfl rfl)
  simp only [List.append_nil] at hW'
  obtain ⟨z, b1, b2, hM⟩ := Go.Tb.memQ hL
  refine (Go.Tb.callW hM (Go.Tb.FnPfDivide_ok z c x)).mono fun e W' ⟨he, hb⟩ => ?_
  subst he
  exact ⟨_, rfl, _, _, _, [], p0 ++ ([] ++ []), [], hW', trodAll_mk1 (shut_bool Tryz.underlying4 _), trodAll_cons_mk (Go.Tb.trodP h0) (trodAll_cons_mk (shut_int Tryz.underlying3 wx) rfl), rfl, hb.frame _, fun h => by cases h⟩
theorem holdsFnPfDivide : Rows.FnPfDivideSaid :=
  OpenClaim.holds_of_wide 5 Tryz.f5 rfl rfl rfl rfl rfl rfl rfl ⟨rfl, rfl, rfl, rfl, rfl⟩ rfl rfl rfl rfl rfl (by kernel_rfl) Tryz.func5 (by kernel_rfl)
    (of_decide_eq_true (by kernel_rfl)) (by unfold Func.isWrapper; first | (rw [if_pos (by decide +kernel)]; kernel_rfl) | (rw [if_neg (by decide +kernel)]; exact ⟨rfl, rfl⟩))
    (fun os started H enc _ => liftedFnPfDivide os started H enc)
theorem fnPfDivide_holds : Rows.FnPfDivideCardSaid :=
  Claim7.holds_tied_plain_at .later [] [.data, .data, .data, .data, .data, .data, .data, .data, .data, .pinned, .pinned] true (true, "7e5418ed36dd4c4b9dbce0cf66b66aa35edfe004532bf0393ccec110cfbc0f64") false holdsFnPfDivide (fun _ h => by cases h) (by kernel_rfl) (fun _ h => by cases h) fnPfDivide_row_tie rfl ⟨rfl, rfl⟩ (by kernel_rfl) rfl
    (fun f fn hf hfn => by
      obtain rfl : f = 5 := Option.some.inj ((show Tryz.prog.funcNamed "pub-tabiya/laws.FnPfDivide" = some 5 by kernel_rfl).symm.trans hf) |>.symm
      obtain rfl : fn = Tryz.f5 := (Option.some.inj (Tryz.func5.symm.trans hfn)).symm
      exact ⟨by kernel_rfl, fun j t ht => by
        rw [Tryz.params5] at ht
        have hm : t ∈ [24, 3] := by simpa using Array.mem_of_getElem? ht
        have hall : ([24, 3].all fun u => !Tryz.prog.wantsStandIn u) = true := by kernel_rfl
        exact (show Tryz.prog.wantsStandIn t = false by simpa using List.all_eq_true.1 hall t hm)⟩)
    (by kernel_rfl)
#print axioms fnPfDivide_holds
end Go.Proofs.YtigjokkakcmmdaaGreatDoor
