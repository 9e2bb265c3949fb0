import Derived.Test.YtjebnpkebccffaaGreatDoorJGl
import Derived.Lay
import Derived.ChangeMaps5
set_option linter.unusedSimpArgs false
set_option linter.unusedVariables false
set_option linter.unusedSectionVars false
namespace Go.Proofs.YtjebnpkebccffaaGreatDoor
open Go Go.ChangeShapes Go.WideShapes Go.ChangeAt Go.RowKit
theorem ownStrange : ownKnob Tryz.prog.godebug = none := by kernel_rfl
theorem laidOutStrange : laidOutB Tryz.prog = true := by kernel_rfl
set_option maxRecDepth 100000 in
theorem liftedStrange (os : Os) (started : os.Started) (H : Type) (enc : TypeId × Value → H) :
    ReturnsInHanded {} Tryz.checked os 3 .any (fun w args => (Rows.fnQuantityStrangeSpec.pre enc Tryz.prog Tryz.f3 [] false w args ∧ laidMetH Tryz.prog Rows.fnQuantityStrangeRow.laid w) ∧ sizedMet enc Tryz.prog Tryz.f3 (OpenSpec.ofChange Rows.fnQuantityStrangeSpec) false w args)
      (Rows.fnQuantityStrangeSpec.post enc Tryz.prog Tryz.f3 false true false false) := by
  refine returnsInHanded_of_change_and (C := Tryz.checked) (X := fun w _ => laidMetH Tryz.prog Rows.fnQuantityStrangeRow.laid w) (fun _ _ _ hh h => h.of_heap hh) ownStrange started (by kernel_rfl) Tryz.func3
    (ChangeSpec.witness_shaped (enc := enc) (C := Tryz.checked) (os := os) (X := fun w _ => laidMetH Tryz.prog Rows.fnQuantityStrangeRow.laid w) false (World.laidAll Tryz.prog os Rows.fnQuantityStrangeRow.laid) #[.string ⟨#[]⟩, .agg #[.int .i64 0, .string ⟨#[]⟩, .bool false, .string ⟨#[]⟩, .int .i64 0, .int .i64 0, .bool false, .int .i64 0, .string ⟨#[]⟩]] 8 (World.laidAll_os _ _ _)
      (World.shaped_of_ZipB (by kernel_rfl) (by kernel_rfl)) (by kernel_rfl) (by kernel_rfl) (by kernel_rfl)
      (by rw [MakeChecks.laidMetH_plain _ _ _ (by kernel_rfl)]; exact laidMet_laidAll _ (by kernel_rfl) (by kernel_rfl))) ?_
  intro W base args ds gs before hval0 hW _ _ hL _
  have hval : ∀ (j : Nat) t v, Tryz.f3.params[j]? = some t → args[j]? = some v → Value.okWide Tryz.prog W .any base t v := hval0
  have hW' := hW
  have hlt := hW.lt
  obtain ⟨p, q, hA0, hV, rfl, _, _⟩ := hW
  have hA : DataW.TrodAll enc Tryz.prog W 0 (fun _ => true) true Tryz.f3.params.toList args.toList ds p := hA0
  rw [Tryz.params3] at hA hval
  obtain ⟨rfl, rfl⟩ := trodVars_none hV
  rw [MakeChecks.laidMetH_plain _ _ _ (by kernel_rfl)] at hL
  have hg : Globs W := globs_strange hL
  obtain ⟨v0, v1, d0, d1, p0, p1, rfl, rfl, rfl, h0, h1⟩ := trodAll_two hA
  have H0 := h0
  obtain ⟨s, rfl, rfl, rfl, hs⟩ := Go.ChangeMaps.open_string Tryz.underlying9 (hval 0 9 v0 rfl rfl) h0
  obtain ⟨qw, rfl⟩ := open_word (hval 1 23 v1 rfl rfl) h1
  simp only [List.append_nil] at hW' hlt
  refine (strange_any s qw W hg).mono fun e W' ⟨he, hk⟩ => ?_
  subst he
  have hb := hk.below
  refine ⟨_, rfl, _, _, _, [], [] ++ p1, [], hW', trodAll_mk1 (shut_bool Tryz.underlying4 _), ?_, rfl, hb.frame _, fun h => by cases h⟩
  exact trodAll_mk2 (Below.trod laidOutStrange (by kernel_rfl) (of_decide_eq_true (by kernel_rfl)) H0 hb (fun x hx => by cases hx)) (Below.trod laidOutStrange (by kernel_rfl) (of_decide_eq_true (by kernel_rfl)) h1 hb (fun x hx => hlt x (by simpa using hx)))
end Go.Proofs.YtjebnpkebccffaaGreatDoor
