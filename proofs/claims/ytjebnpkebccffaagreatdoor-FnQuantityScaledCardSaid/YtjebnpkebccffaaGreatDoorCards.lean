/-
  DERIVED. GIVEN WITH THE SEED: THE CARDS: each row of YtjebnpkebccffaaGreatDoorRows.lean that lists a variable, with what it lists TIED to the program's text (the seventh form; the later family's looks); each row that meets fmt, with fmt's text TOLD by the authors' own Lean function (tested against real Go, not proved from fmt's source: count such statements apart). THE CARD IS WHAT COUNTS. Prove the row's statement (the work); the ties are given (YtjebnpkebccffaaGreatDoorTie.lean); close each card by the builder's one call (the guide's Derived/Test/ToyasCard.lean, 'card_holds'). Laid BY PROGRAM, IN A SANDBOX (cutbox-door.mjs). By AI agents, Wed Nov 11 2026. No macro, syntax, notation, axiom, sorry.
-/
import Derived.Test.YtjebnpkebccffaaGreatDoorRows
import GoSem.ClaimSeven
namespace Go.Proofs.YtjebnpkebccffaaGreatDoor
namespace Rows

/-- THE TIED CARD OF 'laws.FnQuantityStrange'. -/
def fnQuantityStrangeCard : Claim7 := { stood := { row := fnQuantityStrangeRow, standIns := [], harness := (true, "12e7949e6b1533847bd2879765b661f50f5b02456ee7c6c99e083476f3016ed0"), looks := true }, kinds := [], alts := [], laidByText := true, laidKinds := [.data, .data, .data, .data, .sentinel, .sentinel, .sentinel, .sentinel, .sentinel, .data, .data, .data, .data, .data, .sentinel, .sentinel, .sentinel, .pinned], laidTests := true, laidLooks := .later }
def FnQuantityStrangeCardSaid : Prop := Claim7.holds Tryz.pinned (.plain (OpenSpec.ofChange fnQuantityStrangeSpec)) fnQuantityStrangeCard

/-- THE TIED CARD OF 'laws.FnQuantityNew'. -/
def fnQuantityNewCard : Claim7 := { stood := { row := fnQuantityNewRow, standIns := [], harness := (true, "12e7949e6b1533847bd2879765b661f50f5b02456ee7c6c99e083476f3016ed0"), looks := true }, kinds := [], alts := [], laidByText := true, laidKinds := [.data, .data, .data, .data, .sentinel, .sentinel, .sentinel, .sentinel, .sentinel, .data, .data, .data, .data, .data, .sentinel, .sentinel, .sentinel, .pinned], laidTests := true, laidLooks := .later }
def FnQuantityNewCardSaid : Prop := Claim7.holds Tryz.pinned (.plain (OpenSpec.ofChange fnQuantityNewSpec)) fnQuantityNewCard

/-- THE TIED CARD OF 'laws.FnQuantityScaled'. -/
def fnQuantityScaledCard : Claim7 := { stood := { row := fnQuantityScaledRow, standIns := [], harness := (true, "12e7949e6b1533847bd2879765b661f50f5b02456ee7c6c99e083476f3016ed0"), looks := true }, kinds := [], alts := [], laidByText := true, laidKinds := [.data, .data, .data, .data, .data, .data, .data, .sentinel, .sentinel, .sentinel, .sentinel, .sentinel, .data, .data, .data, .data, .data, .sentinel, .sentinel, .sentinel, .pinned], laidTests := true, laidLooks := .later }
def FnQuantityScaledCardSaid : Prop := Claim7.holds Tryz.pinned (.plain (OpenSpec.ofChange fnQuantityScaledSpec)) fnQuantityScaledCard

/-- THE TIED CARD OF 'laws.FnQuantitySums'. -/
def fnQuantitySumsCard : Claim7 := { stood := { row := fnQuantitySumsRow, standIns := [], harness := (true, "12e7949e6b1533847bd2879765b661f50f5b02456ee7c6c99e083476f3016ed0"), looks := true }, kinds := [], alts := [], laidByText := true, laidKinds := [.data, .data, .data, .data, .sentinel, .sentinel, .sentinel, .sentinel, .sentinel, .data, .data, .data, .data, .data, .sentinel, .sentinel, .sentinel, .pinned], laidTests := true, laidLooks := .later }
def FnQuantitySumsCardSaid : Prop := Claim7.holds Tryz.pinned (.plain (OpenSpec.ofChange fnQuantitySumsSpec)) fnQuantitySumsCard

/-- THE SECOND FORM's CARD OF 'laws.FnQuantityStrange'. -/
def fnQuantityStrangeUptoCard : Claim7 := { stood := { row := fnQuantityStrangeUptoRow, standIns := [], harness := (true, "12e7949e6b1533847bd2879765b661f50f5b02456ee7c6c99e083476f3016ed0"), looks := true }, kinds := [], alts := [], laidByText := true, laidKinds := [.data, .data, .data, .data, .sentinel, .sentinel, .sentinel, .sentinel, .sentinel, .data, .data, .data, .data, .data, .sentinel, .sentinel, .sentinel, .pinned], laidTests := true, laidLooks := .later }
def FnQuantityStrangeUptoCardSaid : Prop := Claim7.holds Tryz.pinned (.plain (OpenSpec.upto fnQuantityStrangeSpec)) fnQuantityStrangeUptoCard

/-- THE SECOND FORM's CARD OF 'laws.FnQuantityNew'. -/
def fnQuantityNewUptoCard : Claim7 := { stood := { row := fnQuantityNewUptoRow, standIns := [], harness := (true, "12e7949e6b1533847bd2879765b661f50f5b02456ee7c6c99e083476f3016ed0"), looks := true }, kinds := [], alts := [], laidByText := true, laidKinds := [.data, .data, .data, .data, .sentinel, .sentinel, .sentinel, .sentinel, .sentinel, .data, .data, .data, .data, .data, .sentinel, .sentinel, .sentinel, .pinned], laidTests := true, laidLooks := .later }
def FnQuantityNewUptoCardSaid : Prop := Claim7.holds Tryz.pinned (.plain (OpenSpec.upto fnQuantityNewSpec)) fnQuantityNewUptoCard

/-- THE SECOND FORM's CARD OF 'laws.FnQuantityScaled'. -/
def fnQuantityScaledUptoCard : Claim7 := { stood := { row := fnQuantityScaledUptoRow, standIns := [], harness := (true, "12e7949e6b1533847bd2879765b661f50f5b02456ee7c6c99e083476f3016ed0"), looks := true }, kinds := [], alts := [], laidByText := true, laidKinds := [.data, .data, .data, .data, .data, .data, .data, .sentinel, .sentinel, .sentinel, .sentinel, .sentinel, .data, .data, .data, .data, .data, .sentinel, .sentinel, .sentinel, .pinned], laidTests := true, laidLooks := .later }
def FnQuantityScaledUptoCardSaid : Prop := Claim7.holds Tryz.pinned (.plain (OpenSpec.upto fnQuantityScaledSpec)) fnQuantityScaledUptoCard

/-- THE SECOND FORM's CARD OF 'laws.FnQuantitySums'. -/
def fnQuantitySumsUptoCard : Claim7 := { stood := { row := fnQuantitySumsUptoRow, standIns := [], harness := (true, "12e7949e6b1533847bd2879765b661f50f5b02456ee7c6c99e083476f3016ed0"), looks := true }, kinds := [], alts := [], laidByText := true, laidKinds := [.data, .data, .data, .data, .sentinel, .sentinel, .sentinel, .sentinel, .sentinel, .data, .data, .data, .data, .data, .sentinel, .sentinel, .sentinel, .pinned], laidTests := true, laidLooks := .later }
def FnQuantitySumsUptoCardSaid : Prop := Claim7.holds Tryz.pinned (.plain (OpenSpec.upto fnQuantitySumsSpec)) fnQuantitySumsUptoCard
end Rows
end Go.Proofs.YtjebnpkebccffaaGreatDoor
