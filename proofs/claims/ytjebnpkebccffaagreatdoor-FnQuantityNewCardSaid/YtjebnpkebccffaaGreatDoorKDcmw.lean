import Derived.Test.YtjebnpkebccffaaGreatDoorKNs
import Derived.Test.YtjebnpkebccffaaGreatDoorWLast
import Derived.BigQuiet
set_option linter.unusedSimpArgs false
set_option linter.unusedVariables false
set_option linter.unusedSectionVars false
namespace Go.Proofs.YtjebnpkebccffaaGreatDoor
open Go.RowKit
open Go.Proofs.YtjebnpkebccffaaGreatDoorW.PrintLast
theorem sgnD_b (d : Dm) : -1 ≤ sgnD d ∧ sgnD d ≤ 1 := by unfold sgnD; split; omega; split <;> omega
end Go.Proofs.YtjebnpkebccffaaGreatDoor
namespace Go.Proofs.YtjebnpkebccffaaGreatDoor
open Go.RowKit
open Go.Proofs.YtjebnpkebccffaaGreatDoorW.PrintLast
end Go.Proofs.YtjebnpkebccffaaGreatDoor
