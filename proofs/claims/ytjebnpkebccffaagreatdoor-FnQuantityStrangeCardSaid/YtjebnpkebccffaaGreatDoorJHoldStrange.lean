import Derived.Test.YtjebnpkebccffaaGreatDoorJLawStrange
set_option linter.unusedSimpArgs false
set_option linter.unusedVariables false
set_option linter.unusedSectionVars false
namespace Go.Proofs.YtjebnpkebccffaaGreatDoor
open Go Go.ChangeShapes Go.WideShapes Go.ChangeAt Go.RowKit
theorem and_mkStrange {a b : Bool} (ha : a = true) (hb : b = true) : (a && b) = true := by rw [ha, hb]; rfl
set_option maxHeartbeats 8000000 in
theorem closedStrange : joinedFacts Tryz.pinned.checked.prog 3 Tryz.f3 Rows.fnQuantityStrangeSpec Rows.fnQuantityStrangeRow = true := by
  unfold joinedFacts
  refine and_mkStrange (and_mkStrange (and_mkStrange (and_mkStrange (and_mkStrange (and_mkStrange (and_mkStrange (and_mkStrange (and_mkStrange (and_mkStrange (and_mkStrange (and_mkStrange (and_mkStrange (and_mkStrange (and_mkStrange (and_mkStrange (and_mkStrange (and_mkStrange (and_mkStrange (and_mkStrange (and_mkStrange (and_mkStrange (and_mkStrange (and_mkStrange (and_mkStrange (and_mkStrange (and_mkStrange (and_mkStrange (and_mkStrange (and_mkStrange (and_mkStrange ?_ ?_) ?_) ?_) ?_) ?_) ?_) ?_) ?_) ?_) ?_) ?_) ?_) ?_) ?_) ?_) ?_) ?_) ?_) ?_) ?_) ?_) ?_) ?_) ?_) ?_) ?_) ?_) ?_) ?_) ?_) ?_
  all_goals as_aux_lemma => kernel_rfl
theorem holdsStrange : Rows.FnQuantityStrangeSaid :=
  OpenClaim.holds_of_wide 3 Tryz.f3 rfl rfl rfl rfl rfl rfl rfl ⟨rfl, rfl, rfl, rfl, rfl⟩ rfl rfl rfl rfl rfl (by as_aux_lemma => kernel_rfl) Tryz.func3 closedStrange
    (of_decide_eq_true (by as_aux_lemma => kernel_rfl)) (by as_aux_lemma => unfold Func.isWrapper; first | (rw [if_pos (by decide +kernel)]; kernel_rfl) | (rw [if_neg (by decide +kernel)]; exact ⟨rfl, rfl⟩))
    (fun os started H enc _ => liftedStrange os started H enc)
end Go.Proofs.YtjebnpkebccffaaGreatDoor
