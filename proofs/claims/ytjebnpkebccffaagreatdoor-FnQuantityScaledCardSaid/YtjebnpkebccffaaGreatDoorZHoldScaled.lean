import Derived.Test.YtjebnpkebccffaaGreatDoorZSca
set_option linter.unusedSimpArgs false
set_option linter.unusedVariables false
set_option linter.unusedSectionVars false
set_option maxRecDepth 100000
set_option maxHeartbeats 8000000
namespace Go.Proofs.YtjebnpkebccffaaGreatDoor
open Go.Proofs.Tryz
section
open Go Go.ChangeShapes Go.WideShapes Go.ChangeAt Go.RowKit
theorem aB0{a b:Bool}(ha:a=true)(hb:b=true):(a&&b)=true:=by rw[ha,hb];rfl
theorem bY4:joinedFacts Tryz.pinned.checked.prog 5 Tryz.f5 Rows.fnQuantityScaledSpec Rows.fnQuantityScaledRow=true:=by
 unfold joinedFacts;refine aB0 (aB0 (aB0 (aB0 (aB0 (aB0 (aB0 (aB0 (aB0 (aB0 (aB0 (aB0 (aB0 (aB0 (aB0 (aB0 (aB0 (aB0 (aB0 (aB0 (aB0 (aB0 (aB0 (aB0 (aB0 (aB0 (aB0 (aB0 (aB0 (aB0 (aB0 ?_ ?_) ?_) ?_) ?_) ?_) ?_) ?_) ?_) ?_) ?_) ?_) ?_) ?_) ?_) ?_) ?_) ?_) ?_) ?_) ?_) ?_) ?_) ?_) ?_) ?_) ?_) ?_) ?_) ?_) ?_) ?_;all_goals as_aux_lemma=>kernel_rfl
theorem cE5:Rows.FnQuantityScaledSaid :=
 OpenClaim.holds_of_wide 5 Tryz.f5 rfl rfl rfl rfl rfl rfl rfl ⟨rfl,rfl,rfl,rfl,rfl⟩ rfl rfl rfl rfl rfl (by as_aux_lemma=>kernel_rfl) func5 bY4
  (of_decide_eq_true (by as_aux_lemma=>kernel_rfl)) (by as_aux_lemma=>unfold Func.isWrapper;first|(rw[if_pos (by decide +kernel)];kernel_rfl)|(rw[if_neg (by decide +kernel)];exact⟨rfl,rfl⟩))
  (fun os started H enc _=>bY3 os started H enc)
end
end Go.Proofs.YtjebnpkebccffaaGreatDoor
