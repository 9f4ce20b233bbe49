/-
  DERIVED. GIVEN WITH THE SEED: THE CARDS: each row of YtogdcenkgndfaaaDoorRows.lean that lists a variable, with what it lists TIED to the program's text (the seventh form; the later family's looks); each row that meets fmt, with fmt's text TOLD by the authors' own Lean function (tested against real Go, not proved from fmt's source: count such statements apart). THE CARD IS WHAT COUNTS. Prove the row's statement (the work); the ties are given (YtogdcenkgndfaaaDoorTie.lean); close each card by the builder's one call (the guide's Derived/Test/ToyasCard.lean, 'card_holds'). Laid BY PROGRAM, IN A SANDBOX (cutbox-door.mjs). By AI agents, Wed Nov 11 2026. No macro, syntax, notation, axiom, sorry.
-/
import Derived.Test.YtogdcenkgndfaaaDoorRows
import GoSem.ClaimSeven
namespace Go.Proofs.YtogdcenkgndfaaaDoor
namespace Rows

/-- THE TIED CARD OF 'n023_3.FnLBracketCursorAfterToken'. -/
def fnLBracketCursorAfterTokenCard : Claim7 := { stood := { row := fnLBracketCursorAfterTokenRow, standIns := [], harness := (true, "5690715f20479b629c3f62e3b17a8fd0502c7e977a08a38f2fd3d60c4a0389bb"), looks := false }, kinds := [], alts := [], laidByText := true, laidKinds := [.data, .pinned], laidTests := true, laidLooks := .later }
def FnLBracketCursorAfterTokenCardSaid : Prop := Claim7.holds Tryd.pinned (.plain (OpenSpec.ofChange fnLBracketCursorAfterTokenSpec)) fnLBracketCursorAfterTokenCard

/-- THE TIED CARD OF 'n023_3.FnLBracketTokenIsItsText'. -/
def fnLBracketTokenIsItsTextCard : Claim7 := { stood := { row := fnLBracketTokenIsItsTextRow, standIns := [], harness := (true, "5690715f20479b629c3f62e3b17a8fd0502c7e977a08a38f2fd3d60c4a0389bb"), looks := false }, kinds := [], alts := [], laidByText := true, laidKinds := [.data, .pinned], laidTests := true, laidLooks := .later }
def FnLBracketTokenIsItsTextCardSaid : Prop := Claim7.holds Tryd.pinned (.plain (OpenSpec.ofChange fnLBracketTokenIsItsTextSpec)) fnLBracketTokenIsItsTextCard

/-- THE TIED CARD OF 'n023_3.FnLBracketReadsOneByteAhead'. -/
def fnLBracketReadsOneByteAheadCard : Claim7 := { stood := { row := fnLBracketReadsOneByteAheadRow, standIns := [], harness := (true, "5690715f20479b629c3f62e3b17a8fd0502c7e977a08a38f2fd3d60c4a0389bb"), looks := false }, kinds := [], alts := [], laidByText := true, laidKinds := [.data, .pinned], laidTests := true, laidLooks := .later }
def FnLBracketReadsOneByteAheadCardSaid : Prop := Claim7.holds Tryd.pinned (.plain (OpenSpec.ofChange fnLBracketReadsOneByteAheadSpec)) fnLBracketReadsOneByteAheadCard

/-- THE TIED CARD OF 'n023_3.FnLBracketErrorPointsAtTokenEnd'. -/
def fnLBracketErrorPointsAtTokenEndCard : Claim7 := { stood := { row := fnLBracketErrorPointsAtTokenEndRow, standIns := [], harness := (true, "5690715f20479b629c3f62e3b17a8fd0502c7e977a08a38f2fd3d60c4a0389bb"), looks := false }, kinds := [], alts := [], laidByText := true, laidKinds := [.data, .pinned], laidTests := true, laidLooks := .later }
def FnLBracketErrorPointsAtTokenEndCardSaid : Prop := Claim7.holds Tryd.pinned (.plain (OpenSpec.ofChange fnLBracketErrorPointsAtTokenEndSpec)) fnLBracketErrorPointsAtTokenEndCard

/-- THE SECOND FORM's CARD OF 'n023_3.FnLBracketCursorAfterToken'. -/
def fnLBracketCursorAfterTokenUptoCard : Claim7 := { stood := { row := fnLBracketCursorAfterTokenUptoRow, standIns := [], harness := (true, "5690715f20479b629c3f62e3b17a8fd0502c7e977a08a38f2fd3d60c4a0389bb"), looks := false }, kinds := [], alts := [], laidByText := true, laidKinds := [.data, .pinned], laidTests := true, laidLooks := .later }
def FnLBracketCursorAfterTokenUptoCardSaid : Prop := Claim7.holds Tryd.pinned (.plain (OpenSpec.upto fnLBracketCursorAfterTokenSpec)) fnLBracketCursorAfterTokenUptoCard

/-- THE SECOND FORM's CARD OF 'n023_3.FnLBracketTokenIsItsText'. -/
def fnLBracketTokenIsItsTextUptoCard : Claim7 := { stood := { row := fnLBracketTokenIsItsTextUptoRow, standIns := [], harness := (true, "5690715f20479b629c3f62e3b17a8fd0502c7e977a08a38f2fd3d60c4a0389bb"), looks := false }, kinds := [], alts := [], laidByText := true, laidKinds := [.data, .pinned], laidTests := true, laidLooks := .later }
def FnLBracketTokenIsItsTextUptoCardSaid : Prop := Claim7.holds Tryd.pinned (.plain (OpenSpec.upto fnLBracketTokenIsItsTextSpec)) fnLBracketTokenIsItsTextUptoCard

/-- THE SECOND FORM's CARD OF 'n023_3.FnLBracketReadsOneByteAhead'. -/
def fnLBracketReadsOneByteAheadUptoCard : Claim7 := { stood := { row := fnLBracketReadsOneByteAheadUptoRow, standIns := [], harness := (true, "5690715f20479b629c3f62e3b17a8fd0502c7e977a08a38f2fd3d60c4a0389bb"), looks := false }, kinds := [], alts := [], laidByText := true, laidKinds := [.data, .pinned], laidTests := true, laidLooks := .later }
def FnLBracketReadsOneByteAheadUptoCardSaid : Prop := Claim7.holds Tryd.pinned (.plain (OpenSpec.upto fnLBracketReadsOneByteAheadSpec)) fnLBracketReadsOneByteAheadUptoCard

/-- THE SECOND FORM's CARD OF 'n023_3.FnLBracketErrorPointsAtTokenEnd'. -/
def fnLBracketErrorPointsAtTokenEndUptoCard : Claim7 := { stood := { row := fnLBracketErrorPointsAtTokenEndUptoRow, standIns := [], harness := (true, "5690715f20479b629c3f62e3b17a8fd0502c7e977a08a38f2fd3d60c4a0389bb"), looks := false }, kinds := [], alts := [], laidByText := true, laidKinds := [.data, .pinned], laidTests := true, laidLooks := .later }
def FnLBracketErrorPointsAtTokenEndUptoCardSaid : Prop := Claim7.holds Tryd.pinned (.plain (OpenSpec.upto fnLBracketErrorPointsAtTokenEndSpec)) fnLBracketErrorPointsAtTokenEndUptoCard
end Rows
end Go.Proofs.YtogdcenkgndfaaaDoor
