import Derived.Test.YtjebnpkebccffaaGreatDoorKGlr
import Derived.Lay
import Derived.ChangeMaps5
set_option linter.unusedSimpArgs false
set_option linter.unusedVariables false
set_option linter.unusedSectionVars false
namespace Go.Proofs.YtjebnpkebccffaaGreatDoor
open Go Go.ChangeShapes Go.WideShapes Go.ChangeAt Go.RowKit
theorem ownNew : ownKnob Tryz.prog.godebug = none := by kernel_rfl
theorem laidOutNew : laidOutB Tryz.prog = true := by kernel_rfl
set_option maxRecDepth 100000 in
theorem liftedNew (os : Os) (started : os.Started) (H : Type) (enc : TypeId × Value → H) :
    ReturnsInHanded {} Tryz.checked os 4 .any (fun w args => (Rows.fnQuantityNewSpec.pre enc Tryz.prog Tryz.f4 [] false w args ∧ laidMetH Tryz.prog Rows.fnQuantityNewRow.laid w) ∧ sizedMet enc Tryz.prog Tryz.f4 (OpenSpec.ofChange Rows.fnQuantityNewSpec) false w args)
      (Rows.fnQuantityNewSpec.post enc Tryz.prog Tryz.f4 false true false false) := by
  refine returnsInHanded_of_change_and (C := Tryz.checked) (X := fun w _ => laidMetH Tryz.prog Rows.fnQuantityNewRow.laid w) (fun _ _ _ hh h => h.of_heap hh) ownNew started (by kernel_rfl) Tryz.func4
    (ChangeSpec.witness_shaped (enc := enc) (C := Tryz.checked) (os := os) (X := fun w _ => laidMetH Tryz.prog Rows.fnQuantityNewRow.laid w) false (World.laidAll Tryz.prog os Rows.fnQuantityNewRow.laid) #[.int .i64 0, .int .i64 0, .int .i64 0] 8 (World.laidAll_os _ _ _)
      (World.shaped_of_ZipB (by kernel_rfl) (by kernel_rfl)) (by kernel_rfl) (by kernel_rfl) (by kernel_rfl)
      (by rw [MakeChecks.laidMetH_plain _ _ _ (by kernel_rfl)]; exact laidMet_laidAll _ (by kernel_rfl) (by kernel_rfl))) ?_
  intro W base args ds gs before hval0 hW _ _ hL _
  have hval : ∀ (j : Nat) t v, Tryz.f4.params[j]? = some t → args[j]? = some v → Value.okWide Tryz.prog W .any base t v := hval0
  have hW' := hW
  have hlt := hW.lt
  obtain ⟨p, q, hA0, hV, rfl, _, _⟩ := hW
  have hA : DataW.TrodAll enc Tryz.prog W 0 (fun _ => true) true Tryz.f4.params.toList args.toList ds p := hA0
  rw [Tryz.params4] at hA hval
  obtain ⟨rfl, rfl⟩ := trodVars_none hV
  rw [MakeChecks.laidMetH_plain _ _ _ (by kernel_rfl)] at hL
  have hg := globs_new hL
  obtain ⟨v0, v1, v2, d0, d1, d2, p0, p1, p2, rfl, rfl, rfl, h0, h1, h2⟩ := trodAll_three hA
  have H0 := h0
  have H1 := h1
  have H2 := h2
  obtain ⟨n, rfl, rfl, rfl, hn⟩ := open_int Tryz.underlying2 (hval 0 2 v0 rfl rfl) h0
  obtain ⟨s, rfl, rfl, rfl, hs⟩ := open_int Tryz.underlying3 (hval 1 3 v1 rfl rfl) h1
  obtain ⟨f, rfl, rfl, rfl, hf⟩ := open_int Tryz.underlying3 (hval 2 3 v2 rfl rfl) h2
  simp only [List.append_nil] at hW' hlt
  refine (new_any n s f W (bounds_i64 hn) hg.1 hg.2).mono fun e W' ⟨he, hk⟩ => ?_
  subst he
  have hb := hk.below
  refine ⟨_, rfl, _, _, _, [], [] ++ [] ++ [], [], hW', trodAll_mk1 (shut_bool Tryz.underlying4 _), ?_, rfl, hb.frame _, fun h => by cases h⟩
  exact trodAll_mk3 (Below.trod laidOutNew (by kernel_rfl) (of_decide_eq_true (by kernel_rfl)) H0 hb (fun x hx => by cases hx)) (Below.trod laidOutNew (by kernel_rfl) (of_decide_eq_true (by kernel_rfl)) H1 hb (fun x hx => by cases hx)) (Below.trod laidOutNew (by kernel_rfl) (of_decide_eq_true (by kernel_rfl)) H2 hb (fun x hx => by cases hx))
end Go.Proofs.YtjebnpkebccffaaGreatDoor
