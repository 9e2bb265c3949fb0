/-
  FnQuantityScaled returns true, for every quantity word w (as the package reads quantities) and every scale (an int): a quantity that is not below 0, at a scale, is its number up to a multiple of that power of ten, where that is an int64 there; as an int64 it is the number, where one is told. Conditions: none beyond the given row: the listed package-level variables read as the program's text lays them (the card ties them).
-/
import Derived.Test.YtjebnpkebccffaaGreatDoorZHoldScaled
import Derived.Test.YtjebnpkebccffaaGreatDoorTie
import Derived.Test.YtjebnpkebccffaaGreatDoorCards
set_option linter.unusedSimpArgs false
set_option linter.unusedVariables false
set_option linter.unusedSectionVars false
set_option maxRecDepth 100000
set_option maxHeartbeats 8000000
namespace Go.Proofs.YtjebnpkebccffaaGreatDoor
open Go.Proofs.Tryz
section
open Go Go.ChangeShapes Go.WideShapes Go.ChangeAt Go.RowKit
theorem cardScaled:Rows.FnQuantityScaledCardSaid :=
 Claim7.holds_tied_plain_at .later [] [.data,.data,.data,.data,.data,.data,.data,.sentinel,.sentinel,.sentinel,.sentinel,.sentinel,.data,.data,.data,.data,.data,.sentinel,.sentinel,.sentinel,.pinned] true (true,"12e7949e6b1533847bd2879765b661f50f5b02456ee7c6c99e083476f3016ed0") true
  cE5 (fun _ h=>by cases h) (by as_aux_lemma=>kernel_rfl) (fun _ h=>by cases h) fnQuantityScaled_row_tie rfl ⟨rfl,rfl⟩ (by as_aux_lemma=>kernel_rfl) rfl
  (fun f fn hf hfn=>by
   obtain rfl:f=5:=Option.some.inj ((show prog.funcNamed "pub-stockroom/laws.FnQuantityScaled" = some 5 by as_aux_lemma=>kernel_rfl).symm.trans hf) |>.symm;obtain rfl:fn=Tryz.f5:=(Option.some.inj (func5.symm.trans hfn)).symm;exact⟨by as_aux_lemma=>kernel_rfl,fun j t ht=>by
    rw[Tryz.params5]at ht;have hm:t∈[23,3]:=by simpa using Array.mem_of_getElem? ht
    have hall:([23,3].all fun u=>!prog.wantsStandIn u)=true:=by as_aux_lemma=>kernel_rfl
    exact(show prog.wantsStandIn t=false by simpa using List.all_eq_true.1 hall t hm)⟩)
  (by as_aux_lemma=>kernel_rfl)
#print axioms cardScaled
end
end Go.Proofs.YtjebnpkebccffaaGreatDoor
