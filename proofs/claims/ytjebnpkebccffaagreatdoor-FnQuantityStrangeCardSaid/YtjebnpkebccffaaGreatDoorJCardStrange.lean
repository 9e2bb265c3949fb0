/-
  FnQuantityStrange returns true, for every text s and every quantity word w (as the package reads quantities): a text with a byte that no quantity has, or a quantity that has a suffix and a further k behind it, is none. Conditions: none beyond the given row: the listed package-level variables read as the program's text lays them (the card ties them).
-/
import Derived.Test.YtjebnpkebccffaaGreatDoorJHoldStrange
import Derived.Test.YtjebnpkebccffaaGreatDoorTie
import Derived.Test.YtjebnpkebccffaaGreatDoorCards
import Derived.SevenTiedAt
set_option linter.unusedSimpArgs false
set_option linter.unusedVariables false
set_option linter.unusedSectionVars false
namespace Go.Proofs.YtjebnpkebccffaaGreatDoor
open Go Go.ChangeShapes Go.WideShapes Go.ChangeAt Go.RowKit
set_option maxHeartbeats 8000000 in
/-- The statement. -/
theorem cardStrange : Rows.FnQuantityStrangeCardSaid :=
  Claim7.holds_tied_plain_at .later [] [.data, .data, .data, .data, .sentinel, .sentinel, .sentinel, .sentinel, .sentinel, .data, .data, .data, .data, .data, .sentinel, .sentinel, .sentinel, .pinned] true (true, "12e7949e6b1533847bd2879765b661f50f5b02456ee7c6c99e083476f3016ed0") true
    holdsStrange (fun _ h => by cases h) (by as_aux_lemma => kernel_rfl) (fun _ h => by cases h) fnQuantityStrange_row_tie rfl ⟨rfl, rfl⟩ (by as_aux_lemma => kernel_rfl) rfl
    (fun f fn hf hfn => by
      obtain rfl : f = 3 := Option.some.inj ((show Tryz.prog.funcNamed "pub-stockroom/laws.FnQuantityStrange" = some 3 by as_aux_lemma => kernel_rfl).symm.trans hf) |>.symm
      obtain rfl : fn = Tryz.f3 := (Option.some.inj (Tryz.func3.symm.trans hfn)).symm
      exact ⟨by as_aux_lemma => kernel_rfl, fun j t ht => by
        rw [Tryz.params3] at ht
        have hm : t ∈ [9, 23] := by simpa using Array.mem_of_getElem? ht
        have hall : ([9, 23].all fun u => !Tryz.prog.wantsStandIn u) = true := by as_aux_lemma => kernel_rfl
        exact (show Tryz.prog.wantsStandIn t = false by simpa using List.all_eq_true.1 hall t hm)⟩)
    (by as_aux_lemma => kernel_rfl)
#print axioms cardStrange
end Go.Proofs.YtjebnpkebccffaaGreatDoor
