import Derived.Test.YtjebnpkebccffaaGreatDoorKLawNew
set_option linter.unusedSimpArgs false
set_option linter.unusedVariables false
set_option linter.unusedSectionVars false
namespace Go.Proofs.YtjebnpkebccffaaGreatDoor
open Go Go.ChangeShapes Go.WideShapes Go.ChangeAt Go.RowKit
theorem and_mkNew {a b : Bool} (ha : a = true) (hb : b = true) : (a && b) = true := by rw [ha, hb]; rfl
set_option maxHeartbeats 8000000 in
theorem closedNew : joinedFacts Tryz.pinned.checked.prog 4 Tryz.f4 Rows.fnQuantityNewSpec Rows.fnQuantityNewRow = true := by
  unfold joinedFacts
  refine and_mkNew (and_mkNew (and_mkNew (and_mkNew (and_mkNew (and_mkNew (and_mkNew (and_mkNew (and_mkNew (and_mkNew (and_mkNew (and_mkNew (and_mkNew (and_mkNew (and_mkNew (and_mkNew (and_mkNew (and_mkNew (and_mkNew (and_mkNew (and_mkNew (and_mkNew (and_mkNew (and_mkNew (and_mkNew (and_mkNew (and_mkNew (and_mkNew (and_mkNew (and_mkNew (and_mkNew ?_ ?_) ?_) ?_) ?_) ?_) ?_) ?_) ?_) ?_) ?_) ?_) ?_) ?_) ?_) ?_) ?_) ?_) ?_) ?_) ?_) ?_) ?_) ?_) ?_) ?_) ?_) ?_) ?_) ?_) ?_) ?_
  all_goals as_aux_lemma => kernel_rfl
theorem holdsNew : Rows.FnQuantityNewSaid :=
  OpenClaim.holds_of_wide 4 Tryz.f4 rfl rfl rfl rfl rfl rfl rfl ⟨rfl, rfl, rfl, rfl, rfl⟩ rfl rfl rfl rfl rfl (by as_aux_lemma => kernel_rfl) Tryz.func4 closedNew
    (of_decide_eq_true (by as_aux_lemma => kernel_rfl)) (by as_aux_lemma => unfold Func.isWrapper; first | (rw [if_pos (by decide +kernel)]; kernel_rfl) | (rw [if_neg (by decide +kernel)]; exact ⟨rfl, rfl⟩))
    (fun os started H enc _ => liftedNew os started H enc)
end Go.Proofs.YtjebnpkebccffaaGreatDoor
