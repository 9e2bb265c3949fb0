/-
  FnQuantityNew returns true, for every value (an int64), scale and format (ints): a new quantity of a number times a power of ten is told in its canonical form, as the specification tells it. Conditions: none beyond the given row: the listed package-level variables read as the program's text lays them (the card ties them).
-/
import Derived.Test.YtjebnpkebccffaaGreatDoorKHoldNew
import Derived.Test.YtjebnpkebccffaaGreatDoorTie
import Derived.Test.YtjebnpkebccffaaGreatDoorCards
import Derived.SevenTiedAt
set_option linter.unusedSimpArgs false
set_option linter.unusedVariables false
set_option linter.unusedSectionVars false
namespace Go.Proofs.YtjebnpkebccffaaGreatDoor
open Go Go.ChangeShapes Go.WideShapes Go.ChangeAt Go.RowKit
set_option maxHeartbeats 8000000 in
theorem cardNew : Rows.FnQuantityNewCardSaid :=
  Claim7.holds_tied_plain_at .later [] [.data, .data, .data, .data, .sentinel, .sentinel, .sentinel, .sentinel, .sentinel, .data, .data, .data, .data, .data, .sentinel, .sentinel, .sentinel, .pinned] true (true, "12e7949e6b1533847bd2879765b661f50f5b02456ee7c6c99e083476f3016ed0") true
    holdsNew (fun _ h => by cases h) (by as_aux_lemma => kernel_rfl) (fun _ h => by cases h) fnQuantityNew_row_tie rfl ⟨rfl, rfl⟩ (by as_aux_lemma => kernel_rfl) rfl
    (fun f fn hf hfn => by
      obtain rfl : f = 4 := Option.some.inj ((show Tryz.prog.funcNamed "pub-stockroom/laws.FnQuantityNew" = some 4 by as_aux_lemma => kernel_rfl).symm.trans hf) |>.symm
      obtain rfl : fn = Tryz.f4 := (Option.some.inj (Tryz.func4.symm.trans hfn)).symm
      exact ⟨by as_aux_lemma => kernel_rfl, fun j t ht => by
        rw [Tryz.params4] at ht
        have hm : t ∈ [2, 3, 3] := by simpa using Array.mem_of_getElem? ht
        have hall : ([2, 3, 3].all fun u => !Tryz.prog.wantsStandIn u) = true := by as_aux_lemma => kernel_rfl
        exact (show Tryz.prog.wantsStandIn t = false by simpa using List.all_eq_true.1 hall t hm)⟩)
    (by as_aux_lemma => kernel_rfl)
#print axioms cardNew
end Go.Proofs.YtjebnpkebccffaaGreatDoor
