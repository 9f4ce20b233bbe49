/-
  DERIVED. GIVEN WITH THE SEED: THE CARDS: each row of YthipmjgibcnfiaaDoorRows.lean that lists a variable, with what it lists TIED to the program's text (the seventh form; the later family's looks); each row that meets fmt, with fmt's text TOLD by the authors' own Lean function (tested against real Go, not proved from fmt's source: count such statements apart). THE CARD IS WHAT COUNTS. Prove the row's statement (the work); the ties are given (YthipmjgibcnfiaaDoorTie.lean); close each card by the builder's one call (the guide's Derived/Test/ToyasCard.lean, 'card_holds'). Laid BY PROGRAM, IN A SANDBOX (cutbox-door.mjs). By AI agents, Wed Nov 11 2026. No macro, syntax, notation, axiom, sorry.
-/
import Derived.Test.YthipmjgibcnfiaaDoorRows
import GoSem.ClaimSeven
namespace Go.Proofs.YthipmjgibcnfiaaDoor
namespace Rows

/-- THE TIED CARD OF 'n023_11.FnLexerBackStepIsRuneLength'. -/
def fnLexerBackStepIsRuneLengthCard : Claim7 := { stood := { row := fnLexerBackStepIsRuneLengthRow, standIns := [], harness := (true, "da16277193a42454a03c161a006c6cce3d15da96d1fdc9c55fbabb83d7e67265"), looks := false }, kinds := [], alts := [], laidByText := true, laidKinds := [.data, .pinned], laidTests := true, laidLooks := .later }
def FnLexerBackStepIsRuneLengthCardSaid : Prop := Claim7.holds Tryd.pinned (.plain (OpenSpec.ofChange fnLexerBackStepIsRuneLengthSpec)) fnLexerBackStepIsRuneLengthCard

/-- THE TIED CARD OF 'n023_11.FnLexerPeekPredictsNext'. -/
def fnLexerPeekPredictsNextCard : Claim7 := { stood := { row := fnLexerPeekPredictsNextRow, standIns := [], harness := (true, "da16277193a42454a03c161a006c6cce3d15da96d1fdc9c55fbabb83d7e67265"), looks := false }, kinds := [], alts := [], laidByText := true, laidKinds := [.data, .pinned], laidTests := true, laidLooks := .later }
def FnLexerPeekPredictsNextCardSaid : Prop := Claim7.holds Tryd.pinned (.plain (OpenSpec.ofChange fnLexerPeekPredictsNextSpec)) fnLexerPeekPredictsNextCard

/-- THE TIED CARD OF 'n023_11.FnConsumeUntilClosedForm'. -/
def fnConsumeUntilClosedFormCard : Claim7 := { stood := { row := fnConsumeUntilClosedFormRow, standIns := [], harness := (true, "da16277193a42454a03c161a006c6cce3d15da96d1fdc9c55fbabb83d7e67265"), looks := false }, kinds := [], alts := [], laidByText := true, laidKinds := [.data, .pinned], laidTests := true, laidLooks := .later }
def FnConsumeUntilClosedFormCardSaid : Prop := Claim7.holds Tryd.pinned (.plain (OpenSpec.ofChange fnConsumeUntilClosedFormSpec)) fnConsumeUntilClosedFormCard

/-- THE TIED CARD OF 'n023_11.FnLexerBackUndoesNext'. -/
def fnLexerBackUndoesNextCard : Claim7 := { stood := { row := fnLexerBackUndoesNextRow, standIns := [], harness := (true, "da16277193a42454a03c161a006c6cce3d15da96d1fdc9c55fbabb83d7e67265"), looks := false }, kinds := [], alts := [], laidByText := true, laidKinds := [.data, .pinned], laidTests := true, laidLooks := .later }
def FnLexerBackUndoesNextCardSaid : Prop := Claim7.holds Tryd.pinned (.plain (OpenSpec.ofChange fnLexerBackUndoesNextSpec)) fnLexerBackUndoesNextCard

/-- THE TIED CARD OF 'n023_11.FnLexerPeekCaseTable'. -/
def fnLexerPeekCaseTableCard : Claim7 := { stood := { row := fnLexerPeekCaseTableRow, standIns := [], harness := (true, "da16277193a42454a03c161a006c6cce3d15da96d1fdc9c55fbabb83d7e67265"), looks := false }, kinds := [], alts := [], laidByText := true, laidKinds := [.data, .pinned], laidTests := true, laidLooks := .later }
def FnLexerPeekCaseTableCardSaid : Prop := Claim7.holds Tryd.pinned (.plain (OpenSpec.ofChange fnLexerPeekCaseTableSpec)) fnLexerPeekCaseTableCard

/-- THE TIED CARD OF 'n023_11.FnConsumeUntilEscapeRoundTrip'. -/
def fnConsumeUntilEscapeRoundTripCard : Claim7 := { stood := { row := fnConsumeUntilEscapeRoundTripRow, standIns := [], harness := (true, "da16277193a42454a03c161a006c6cce3d15da96d1fdc9c55fbabb83d7e67265"), looks := false }, kinds := [], alts := [], laidByText := true, laidKinds := [.data, .pinned], laidTests := true, laidLooks := .later }
def FnConsumeUntilEscapeRoundTripCardSaid : Prop := Claim7.holds Tryd.pinned (.plain (OpenSpec.ofChange fnConsumeUntilEscapeRoundTripSpec)) fnConsumeUntilEscapeRoundTripCard

/-- THE SECOND FORM's CARD OF 'n023_11.FnLexerBackStepIsRuneLength'. -/
def fnLexerBackStepIsRuneLengthUptoCard : Claim7 := { stood := { row := fnLexerBackStepIsRuneLengthUptoRow, standIns := [], harness := (true, "da16277193a42454a03c161a006c6cce3d15da96d1fdc9c55fbabb83d7e67265"), looks := false }, kinds := [], alts := [], laidByText := true, laidKinds := [.data, .pinned], laidTests := true, laidLooks := .later }
def FnLexerBackStepIsRuneLengthUptoCardSaid : Prop := Claim7.holds Tryd.pinned (.plain (OpenSpec.upto fnLexerBackStepIsRuneLengthSpec)) fnLexerBackStepIsRuneLengthUptoCard

/-- THE SECOND FORM's CARD OF 'n023_11.FnLexerPeekPredictsNext'. -/
def fnLexerPeekPredictsNextUptoCard : Claim7 := { stood := { row := fnLexerPeekPredictsNextUptoRow, standIns := [], harness := (true, "da16277193a42454a03c161a006c6cce3d15da96d1fdc9c55fbabb83d7e67265"), looks := false }, kinds := [], alts := [], laidByText := true, laidKinds := [.data, .pinned], laidTests := true, laidLooks := .later }
def FnLexerPeekPredictsNextUptoCardSaid : Prop := Claim7.holds Tryd.pinned (.plain (OpenSpec.upto fnLexerPeekPredictsNextSpec)) fnLexerPeekPredictsNextUptoCard

/-- THE SECOND FORM's CARD OF 'n023_11.FnConsumeUntilClosedForm'. -/
def fnConsumeUntilClosedFormUptoCard : Claim7 := { stood := { row := fnConsumeUntilClosedFormUptoRow, standIns := [], harness := (true, "da16277193a42454a03c161a006c6cce3d15da96d1fdc9c55fbabb83d7e67265"), looks := false }, kinds := [], alts := [], laidByText := true, laidKinds := [.data, .pinned], laidTests := true, laidLooks := .later }
def FnConsumeUntilClosedFormUptoCardSaid : Prop := Claim7.holds Tryd.pinned (.plain (OpenSpec.upto fnConsumeUntilClosedFormSpec)) fnConsumeUntilClosedFormUptoCard

/-- THE SECOND FORM's CARD OF 'n023_11.FnLexerBackUndoesNext'. -/
def fnLexerBackUndoesNextUptoCard : Claim7 := { stood := { row := fnLexerBackUndoesNextUptoRow, standIns := [], harness := (true, "da16277193a42454a03c161a006c6cce3d15da96d1fdc9c55fbabb83d7e67265"), looks := false }, kinds := [], alts := [], laidByText := true, laidKinds := [.data, .pinned], laidTests := true, laidLooks := .later }
def FnLexerBackUndoesNextUptoCardSaid : Prop := Claim7.holds Tryd.pinned (.plain (OpenSpec.upto fnLexerBackUndoesNextSpec)) fnLexerBackUndoesNextUptoCard

/-- THE SECOND FORM's CARD OF 'n023_11.FnLexerPeekCaseTable'. -/
def fnLexerPeekCaseTableUptoCard : Claim7 := { stood := { row := fnLexerPeekCaseTableUptoRow, standIns := [], harness := (true, "da16277193a42454a03c161a006c6cce3d15da96d1fdc9c55fbabb83d7e67265"), looks := false }, kinds := [], alts := [], laidByText := true, laidKinds := [.data, .pinned], laidTests := true, laidLooks := .later }
def FnLexerPeekCaseTableUptoCardSaid : Prop := Claim7.holds Tryd.pinned (.plain (OpenSpec.upto fnLexerPeekCaseTableSpec)) fnLexerPeekCaseTableUptoCard

/-- THE SECOND FORM's CARD OF 'n023_11.FnConsumeUntilEscapeRoundTrip'. -/
def fnConsumeUntilEscapeRoundTripUptoCard : Claim7 := { stood := { row := fnConsumeUntilEscapeRoundTripUptoRow, standIns := [], harness := (true, "da16277193a42454a03c161a006c6cce3d15da96d1fdc9c55fbabb83d7e67265"), looks := false }, kinds := [], alts := [], laidByText := true, laidKinds := [.data, .pinned], laidTests := true, laidLooks := .later }
def FnConsumeUntilEscapeRoundTripUptoCardSaid : Prop := Claim7.holds Tryd.pinned (.plain (OpenSpec.upto fnConsumeUntilEscapeRoundTripSpec)) fnConsumeUntilEscapeRoundTripUptoCard
end Rows
end Go.Proofs.YthipmjgibcnfiaaDoor
