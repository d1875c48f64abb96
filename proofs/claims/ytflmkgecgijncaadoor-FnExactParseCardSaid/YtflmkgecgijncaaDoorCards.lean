/-
  DERIVED. GIVEN WITH THE SEED: THE CARDS: each row of YtflmkgecgijncaaDoorRows.lean that lists a variable, with what it lists TIED to the program's text (the seventh form; the later family's looks); each row that meets fmt, with fmt's text TOLD by the authors' own Lean function (tested against real Go, not proved from fmt's source: count such statements apart). THE CARD IS WHAT COUNTS. Prove the row's statement (the work); the ties are given (YtflmkgecgijncaaDoorTie.lean); close each card by the builder's one call (the guide's Derived/Test/ToyasCard.lean, 'card_holds'). Laid BY PROGRAM, IN A SANDBOX (cutbox-door.mjs). By AI agents, Wed Nov 11 2026. No macro, syntax, notation, axiom, sorry.
-/
import Derived.Test.YtflmkgecgijncaaDoorRows
import GoSem.ClaimSeven
namespace Go.Proofs.YtflmkgecgijncaaDoor
namespace Rows

/-- THE TIED CARD OF 'laws.FnExactLadder'. -/
def fnExactLadderCard : Claim7 := { stood := { row := fnExactLadderRow, standIns := [], harness := (true, "46779be05ca6684b4b0f52c99e014abc115232f2608e7a8c5cd36816e0af0108"), looks := false }, kinds := [], alts := [], laidByText := true, laidKinds := [.widerDeep], laidTests := true, laidLooks := .later }
def FnExactLadderCardSaid : Prop := Claim7.holds Tryd.pinned (.plain (OpenSpec.ofChange fnExactLadderSpec)) fnExactLadderCard

/-- THE TIED CARD OF 'laws.FnMultiple'. -/
def fnMultipleCard : Claim7 := { stood := { row := fnMultipleRow, standIns := [], harness := (true, "46779be05ca6684b4b0f52c99e014abc115232f2608e7a8c5cd36816e0af0108"), looks := false }, kinds := [], alts := [], laidByText := true, laidKinds := [.widerDeep], laidTests := true, laidLooks := .later }
def FnMultipleCardSaid : Prop := Claim7.holds Tryd.pinned (.plain (OpenSpec.ofChange fnMultipleSpec)) fnMultipleCard

/-- THE TIED CARD OF 'laws.FnTurns'. -/
def fnTurnsCard : Claim7 := { stood := { row := fnTurnsRow, standIns := [], harness := (true, "46779be05ca6684b4b0f52c99e014abc115232f2608e7a8c5cd36816e0af0108"), looks := false }, kinds := [], alts := [], laidByText := true, laidKinds := [.widerDeep], laidTests := true, laidLooks := .later }
def FnTurnsCardSaid : Prop := Claim7.holds Tryd.pinned (.plain (OpenSpec.ofChange fnTurnsSpec)) fnTurnsCard

/-- THE TIED CARD OF 'laws.FnExactPublic'. -/
def fnExactPublicCard : Claim7 := { stood := { row := fnExactPublicRow, standIns := [], harness := (true, "46779be05ca6684b4b0f52c99e014abc115232f2608e7a8c5cd36816e0af0108"), looks := false }, kinds := [], alts := [], laidByText := true, laidKinds := [.widerDeep], laidTests := true, laidLooks := .later }
def FnExactPublicCardSaid : Prop := Claim7.holds Tryd.pinned (.plain (OpenSpec.ofChange fnExactPublicSpec)) fnExactPublicCard

/-- THE TIED CARD OF 'laws.FnBeyond'. -/
def fnBeyondCard : Claim7 := { stood := { row := fnBeyondRow, standIns := [], harness := (true, "46779be05ca6684b4b0f52c99e014abc115232f2608e7a8c5cd36816e0af0108"), looks := false }, kinds := [], alts := [], laidByText := true, laidKinds := [.widerDeep], laidTests := true, laidLooks := .later }
def FnBeyondCardSaid : Prop := Claim7.holds Tryd.pinned (.plain (OpenSpec.ofChange fnBeyondSpec)) fnBeyondCard

/-- THE TIED CARD OF 'laws.FnClamped'. -/
def fnClampedCard : Claim7 := { stood := { row := fnClampedRow, standIns := [], harness := (true, "46779be05ca6684b4b0f52c99e014abc115232f2608e7a8c5cd36816e0af0108"), looks := false }, kinds := [], alts := [], laidByText := true, laidKinds := [.widerDeep], laidTests := true, laidLooks := .later }
def FnClampedCardSaid : Prop := Claim7.holds Tryd.pinned (.plain (OpenSpec.ofChange fnClampedSpec)) fnClampedCard

/-- THE TIED CARD OF 'laws.FnPublicLadder'. -/
def fnPublicLadderCard : Claim7 := { stood := { row := fnPublicLadderRow, standIns := [], harness := (true, "46779be05ca6684b4b0f52c99e014abc115232f2608e7a8c5cd36816e0af0108"), looks := false }, kinds := [], alts := [], laidByText := true, laidKinds := [.widerDeep], laidTests := true, laidLooks := .later }
def FnPublicLadderCardSaid : Prop := Claim7.holds Tryd.pinned (.plain (OpenSpec.ofChange fnPublicLadderSpec)) fnPublicLadderCard

/-- THE TIED CARD OF 'laws.FnTopBit'. -/
def fnTopBitCard : Claim7 := { stood := { row := fnTopBitRow, standIns := [], harness := (true, "46779be05ca6684b4b0f52c99e014abc115232f2608e7a8c5cd36816e0af0108"), looks := false }, kinds := [], alts := [], laidByText := true, laidKinds := [.widerDeep], laidTests := true, laidLooks := .later }
def FnTopBitCardSaid : Prop := Claim7.holds Tryd.pinned (.plain (OpenSpec.ofChange fnTopBitSpec)) fnTopBitCard

/-- THE TIED CARD OF 'laws.FnExactShared'. -/
def fnExactSharedCard : Claim7 := { stood := { row := fnExactSharedRow, standIns := [], harness := (true, "46779be05ca6684b4b0f52c99e014abc115232f2608e7a8c5cd36816e0af0108"), looks := false }, kinds := [], alts := [], laidByText := true, laidKinds := [.widerDeep], laidTests := true, laidLooks := .later }
def FnExactSharedCardSaid : Prop := Claim7.holds Tryd.pinned (.plain (OpenSpec.ofChange fnExactSharedSpec)) fnExactSharedCard

/-- THE TIED CARD OF 'laws.FnFew'. -/
def fnFewCard : Claim7 := { stood := { row := fnFewRow, standIns := [], harness := (true, "46779be05ca6684b4b0f52c99e014abc115232f2608e7a8c5cd36816e0af0108"), looks := false }, kinds := [], alts := [], laidByText := true, laidKinds := [.widerDeep], laidTests := true, laidLooks := .later }
def FnFewCardSaid : Prop := Claim7.holds Tryd.pinned (.plain (OpenSpec.ofChange fnFewSpec)) fnFewCard

/-- THE TIED CARD OF 'laws.FnSharedLadder'. -/
def fnSharedLadderCard : Claim7 := { stood := { row := fnSharedLadderRow, standIns := [], harness := (true, "46779be05ca6684b4b0f52c99e014abc115232f2608e7a8c5cd36816e0af0108"), looks := false }, kinds := [], alts := [], laidByText := true, laidKinds := [.widerDeep], laidTests := true, laidLooks := .later }
def FnSharedLadderCardSaid : Prop := Claim7.holds Tryd.pinned (.plain (OpenSpec.ofChange fnSharedLadderSpec)) fnSharedLadderCard

/-- THE TIED CARD OF 'laws.FnAgree'. -/
def fnAgreeCard : Claim7 := { stood := { row := fnAgreeRow, standIns := [], harness := (true, "46779be05ca6684b4b0f52c99e014abc115232f2608e7a8c5cd36816e0af0108"), looks := false }, kinds := [], alts := [], laidByText := true, laidKinds := [.widerDeep], laidTests := true, laidLooks := .later }
def FnAgreeCardSaid : Prop := Claim7.holds Tryd.pinned (.plain (OpenSpec.ofChange fnAgreeSpec)) fnAgreeCard

/-- THE TIED CARD OF 'laws.FnExactParse'. -/
def fnExactParseCard : Claim7 := { stood := { row := fnExactParseRow, standIns := [], harness := (true, "46779be05ca6684b4b0f52c99e014abc115232f2608e7a8c5cd36816e0af0108"), looks := false }, kinds := [], alts := [], laidByText := true, laidKinds := [.data, .data, .data, .widerDeep, .widerDeep, .widerDeep], laidTests := true, laidLooks := .later }
def FnExactParseCardSaid : Prop := Claim7.holds Tryd.pinned (.plain (OpenSpec.ofChange fnExactParseSpec)) fnExactParseCard

/-- THE SECOND FORM's CARD OF 'laws.FnExactLadder'. -/
def fnExactLadderUptoCard : Claim7 := { stood := { row := fnExactLadderUptoRow, standIns := [], harness := (true, "46779be05ca6684b4b0f52c99e014abc115232f2608e7a8c5cd36816e0af0108"), looks := false }, kinds := [], alts := [], laidByText := true, laidKinds := [.widerDeep], laidTests := true, laidLooks := .later }
def FnExactLadderUptoCardSaid : Prop := Claim7.holds Tryd.pinned (.plain (OpenSpec.upto fnExactLadderSpec)) fnExactLadderUptoCard

/-- THE SECOND FORM's CARD OF 'laws.FnMultiple'. -/
def fnMultipleUptoCard : Claim7 := { stood := { row := fnMultipleUptoRow, standIns := [], harness := (true, "46779be05ca6684b4b0f52c99e014abc115232f2608e7a8c5cd36816e0af0108"), looks := false }, kinds := [], alts := [], laidByText := true, laidKinds := [.widerDeep], laidTests := true, laidLooks := .later }
def FnMultipleUptoCardSaid : Prop := Claim7.holds Tryd.pinned (.plain (OpenSpec.upto fnMultipleSpec)) fnMultipleUptoCard

/-- THE SECOND FORM's CARD OF 'laws.FnTurns'. -/
def fnTurnsUptoCard : Claim7 := { stood := { row := fnTurnsUptoRow, standIns := [], harness := (true, "46779be05ca6684b4b0f52c99e014abc115232f2608e7a8c5cd36816e0af0108"), looks := false }, kinds := [], alts := [], laidByText := true, laidKinds := [.widerDeep], laidTests := true, laidLooks := .later }
def FnTurnsUptoCardSaid : Prop := Claim7.holds Tryd.pinned (.plain (OpenSpec.upto fnTurnsSpec)) fnTurnsUptoCard

/-- THE SECOND FORM's CARD OF 'laws.FnExactPublic'. -/
def fnExactPublicUptoCard : Claim7 := { stood := { row := fnExactPublicUptoRow, standIns := [], harness := (true, "46779be05ca6684b4b0f52c99e014abc115232f2608e7a8c5cd36816e0af0108"), looks := false }, kinds := [], alts := [], laidByText := true, laidKinds := [.widerDeep], laidTests := true, laidLooks := .later }
def FnExactPublicUptoCardSaid : Prop := Claim7.holds Tryd.pinned (.plain (OpenSpec.upto fnExactPublicSpec)) fnExactPublicUptoCard

/-- THE SECOND FORM's CARD OF 'laws.FnBeyond'. -/
def fnBeyondUptoCard : Claim7 := { stood := { row := fnBeyondUptoRow, standIns := [], harness := (true, "46779be05ca6684b4b0f52c99e014abc115232f2608e7a8c5cd36816e0af0108"), looks := false }, kinds := [], alts := [], laidByText := true, laidKinds := [.widerDeep], laidTests := true, laidLooks := .later }
def FnBeyondUptoCardSaid : Prop := Claim7.holds Tryd.pinned (.plain (OpenSpec.upto fnBeyondSpec)) fnBeyondUptoCard

/-- THE SECOND FORM's CARD OF 'laws.FnClamped'. -/
def fnClampedUptoCard : Claim7 := { stood := { row := fnClampedUptoRow, standIns := [], harness := (true, "46779be05ca6684b4b0f52c99e014abc115232f2608e7a8c5cd36816e0af0108"), looks := false }, kinds := [], alts := [], laidByText := true, laidKinds := [.widerDeep], laidTests := true, laidLooks := .later }
def FnClampedUptoCardSaid : Prop := Claim7.holds Tryd.pinned (.plain (OpenSpec.upto fnClampedSpec)) fnClampedUptoCard

/-- THE SECOND FORM's CARD OF 'laws.FnPublicLadder'. -/
def fnPublicLadderUptoCard : Claim7 := { stood := { row := fnPublicLadderUptoRow, standIns := [], harness := (true, "46779be05ca6684b4b0f52c99e014abc115232f2608e7a8c5cd36816e0af0108"), looks := false }, kinds := [], alts := [], laidByText := true, laidKinds := [.widerDeep], laidTests := true, laidLooks := .later }
def FnPublicLadderUptoCardSaid : Prop := Claim7.holds Tryd.pinned (.plain (OpenSpec.upto fnPublicLadderSpec)) fnPublicLadderUptoCard

/-- THE SECOND FORM's CARD OF 'laws.FnTopBit'. -/
def fnTopBitUptoCard : Claim7 := { stood := { row := fnTopBitUptoRow, standIns := [], harness := (true, "46779be05ca6684b4b0f52c99e014abc115232f2608e7a8c5cd36816e0af0108"), looks := false }, kinds := [], alts := [], laidByText := true, laidKinds := [.widerDeep], laidTests := true, laidLooks := .later }
def FnTopBitUptoCardSaid : Prop := Claim7.holds Tryd.pinned (.plain (OpenSpec.upto fnTopBitSpec)) fnTopBitUptoCard

/-- THE SECOND FORM's CARD OF 'laws.FnExactShared'. -/
def fnExactSharedUptoCard : Claim7 := { stood := { row := fnExactSharedUptoRow, standIns := [], harness := (true, "46779be05ca6684b4b0f52c99e014abc115232f2608e7a8c5cd36816e0af0108"), looks := false }, kinds := [], alts := [], laidByText := true, laidKinds := [.widerDeep], laidTests := true, laidLooks := .later }
def FnExactSharedUptoCardSaid : Prop := Claim7.holds Tryd.pinned (.plain (OpenSpec.upto fnExactSharedSpec)) fnExactSharedUptoCard

/-- THE SECOND FORM's CARD OF 'laws.FnFew'. -/
def fnFewUptoCard : Claim7 := { stood := { row := fnFewUptoRow, standIns := [], harness := (true, "46779be05ca6684b4b0f52c99e014abc115232f2608e7a8c5cd36816e0af0108"), looks := false }, kinds := [], alts := [], laidByText := true, laidKinds := [.widerDeep], laidTests := true, laidLooks := .later }
def FnFewUptoCardSaid : Prop := Claim7.holds Tryd.pinned (.plain (OpenSpec.upto fnFewSpec)) fnFewUptoCard

/-- THE SECOND FORM's CARD OF 'laws.FnSharedLadder'. -/
def fnSharedLadderUptoCard : Claim7 := { stood := { row := fnSharedLadderUptoRow, standIns := [], harness := (true, "46779be05ca6684b4b0f52c99e014abc115232f2608e7a8c5cd36816e0af0108"), looks := false }, kinds := [], alts := [], laidByText := true, laidKinds := [.widerDeep], laidTests := true, laidLooks := .later }
def FnSharedLadderUptoCardSaid : Prop := Claim7.holds Tryd.pinned (.plain (OpenSpec.upto fnSharedLadderSpec)) fnSharedLadderUptoCard

/-- THE SECOND FORM's CARD OF 'laws.FnAgree'. -/
def fnAgreeUptoCard : Claim7 := { stood := { row := fnAgreeUptoRow, standIns := [], harness := (true, "46779be05ca6684b4b0f52c99e014abc115232f2608e7a8c5cd36816e0af0108"), looks := false }, kinds := [], alts := [], laidByText := true, laidKinds := [.widerDeep], laidTests := true, laidLooks := .later }
def FnAgreeUptoCardSaid : Prop := Claim7.holds Tryd.pinned (.plain (OpenSpec.upto fnAgreeSpec)) fnAgreeUptoCard

/-- THE SECOND FORM's CARD OF 'laws.FnExactParse'. -/
def fnExactParseUptoCard : Claim7 := { stood := { row := fnExactParseUptoRow, standIns := [], harness := (true, "46779be05ca6684b4b0f52c99e014abc115232f2608e7a8c5cd36816e0af0108"), looks := false }, kinds := [], alts := [], laidByText := true, laidKinds := [.data, .data, .data, .widerDeep, .widerDeep, .widerDeep], laidTests := true, laidLooks := .later }
def FnExactParseUptoCardSaid : Prop := Claim7.holds Tryd.pinned (.plain (OpenSpec.upto fnExactParseSpec)) fnExactParseUptoCard
end Rows
end Go.Proofs.YtflmkgecgijncaaDoor
