/-
  DERIVED. GIVEN WITH THE SEED: THE CARDS: each row of YtdbnffjidnfhdaaDoorRows.lean that lists a variable, with what it lists TIED to the program's text (the seventh form; the later family's looks); each row that meets fmt, with fmt's text TOLD by the authors' own Lean function (tested against real Go, not proved from fmt's source: count such statements apart). THE CARD IS WHAT COUNTS. Prove the row's statement (the work); the ties are given (YtdbnffjidnfhdaaDoorTie.lean); close each card by the builder's one call (the guide's Derived/Test/ToyasCard.lean, 'card_holds'). Laid BY PROGRAM, IN A SANDBOX (cutbox-door.mjs). By AI agents, Wed Nov 11 2026. No macro, syntax, notation, axiom, sorry.
-/
import Derived.Test.YtdbnffjidnfhdaaDoorRows
import GoSem.ClaimSeven
namespace Go.Proofs.YtdbnffjidnfhdaaDoor
namespace Rows

/-- THE TIED CARD OF 'n023_15.FnConsumeNumberIgnoresWhatComesBefore'. -/
def fnConsumeNumberIgnoresWhatComesBeforeCard : Claim7 := { stood := { row := fnConsumeNumberIgnoresWhatComesBeforeRow, standIns := [], harness := (true, "a9b4dc59c307c426a9c5042eef3b806858c5d613d798d808750b0f710532fe66"), looks := false }, kinds := [], alts := [], laidByText := true, laidKinds := [.data, .pinned], laidTests := true, laidLooks := .later }
def FnConsumeNumberIgnoresWhatComesBeforeCardSaid : Prop := Claim7.holds Tryd.pinned (.plain (OpenSpec.ofChange fnConsumeNumberIgnoresWhatComesBeforeSpec)) fnConsumeNumberIgnoresWhatComesBeforeCard

/-- THE TIED CARD OF 'n023_15.FnConsumeNumberTakesMaximalDigitRun'. -/
def fnConsumeNumberTakesMaximalDigitRunCard : Claim7 := { stood := { row := fnConsumeNumberTakesMaximalDigitRunRow, standIns := [], harness := (true, "a9b4dc59c307c426a9c5042eef3b806858c5d613d798d808750b0f710532fe66"), looks := false }, kinds := [], alts := [], laidByText := true, laidKinds := [.data, .pinned], laidTests := true, laidLooks := .later }
def FnConsumeNumberTakesMaximalDigitRunCardSaid : Prop := Claim7.holds Tryd.pinned (.plain (OpenSpec.ofChange fnConsumeNumberTakesMaximalDigitRunSpec)) fnConsumeNumberTakesMaximalDigitRunCard

/-- THE TIED CARD OF 'n023_13.FnMatchOrElseOperatorTable'. -/
def fnMatchOrElseOperatorTableCard : Claim7 := { stood := { row := fnMatchOrElseOperatorTableRow, standIns := [], harness := (true, "a9b4dc59c307c426a9c5042eef3b806858c5d613d798d808750b0f710532fe66"), looks := false }, kinds := [], alts := [], laidByText := true, laidKinds := [.data, .pinned], laidTests := true, laidLooks := .later }
def FnMatchOrElseOperatorTableCardSaid : Prop := Claim7.holds Tryd.pinned (.plain (OpenSpec.ofChange fnMatchOrElseOperatorTableSpec)) fnMatchOrElseOperatorTableCard

/-- THE TIED CARD OF 'n023_13.FnUnquotedIdentifierExact'. -/
def fnUnquotedIdentifierExactCard : Claim7 := { stood := { row := fnUnquotedIdentifierExactRow, standIns := [], harness := (true, "a9b4dc59c307c426a9c5042eef3b806858c5d613d798d808750b0f710532fe66"), looks := false }, kinds := [], alts := [], laidByText := true, laidKinds := [.data, .data, .pinned], laidTests := true, laidLooks := .later }
def FnUnquotedIdentifierExactCardSaid : Prop := Claim7.holds Tryd.pinned (.plain (OpenSpec.ofChange fnUnquotedIdentifierExactSpec)) fnUnquotedIdentifierExactCard

/-- THE TIED CARD OF 'n023_13.FnMatchOrElseAnyRunes'. -/
def fnMatchOrElseAnyRunesCard : Claim7 := { stood := { row := fnMatchOrElseAnyRunesRow, standIns := [], harness := (true, "a9b4dc59c307c426a9c5042eef3b806858c5d613d798d808750b0f710532fe66"), looks := false }, kinds := [], alts := [], laidByText := true, laidKinds := [.data, .pinned], laidTests := true, laidLooks := .later }
def FnMatchOrElseAnyRunesCardSaid : Prop := Claim7.holds Tryd.pinned (.plain (OpenSpec.ofChange fnMatchOrElseAnyRunesSpec)) fnMatchOrElseAnyRunesCard

/-- THE TIED CARD OF 'n023_13.FnUnquotedIdentifierIgnoresWhatFollows'. -/
def fnUnquotedIdentifierIgnoresWhatFollowsCard : Claim7 := { stood := { row := fnUnquotedIdentifierIgnoresWhatFollowsRow, standIns := [], harness := (true, "a9b4dc59c307c426a9c5042eef3b806858c5d613d798d808750b0f710532fe66"), looks := false }, kinds := [], alts := [], laidByText := true, laidKinds := [.data, .data, .pinned], laidTests := true, laidLooks := .later }
def FnUnquotedIdentifierIgnoresWhatFollowsCardSaid : Prop := Claim7.holds Tryd.pinned (.plain (OpenSpec.ofChange fnUnquotedIdentifierIgnoresWhatFollowsSpec)) fnUnquotedIdentifierIgnoresWhatFollowsCard

/-- THE SECOND FORM's CARD OF 'n023_15.FnConsumeNumberIgnoresWhatComesBefore'. -/
def fnConsumeNumberIgnoresWhatComesBeforeUptoCard : Claim7 := { stood := { row := fnConsumeNumberIgnoresWhatComesBeforeUptoRow, standIns := [], harness := (true, "a9b4dc59c307c426a9c5042eef3b806858c5d613d798d808750b0f710532fe66"), looks := false }, kinds := [], alts := [], laidByText := true, laidKinds := [.data, .pinned], laidTests := true, laidLooks := .later }
def FnConsumeNumberIgnoresWhatComesBeforeUptoCardSaid : Prop := Claim7.holds Tryd.pinned (.plain (OpenSpec.upto fnConsumeNumberIgnoresWhatComesBeforeSpec)) fnConsumeNumberIgnoresWhatComesBeforeUptoCard

/-- THE SECOND FORM's CARD OF 'n023_15.FnConsumeNumberTakesMaximalDigitRun'. -/
def fnConsumeNumberTakesMaximalDigitRunUptoCard : Claim7 := { stood := { row := fnConsumeNumberTakesMaximalDigitRunUptoRow, standIns := [], harness := (true, "a9b4dc59c307c426a9c5042eef3b806858c5d613d798d808750b0f710532fe66"), looks := false }, kinds := [], alts := [], laidByText := true, laidKinds := [.data, .pinned], laidTests := true, laidLooks := .later }
def FnConsumeNumberTakesMaximalDigitRunUptoCardSaid : Prop := Claim7.holds Tryd.pinned (.plain (OpenSpec.upto fnConsumeNumberTakesMaximalDigitRunSpec)) fnConsumeNumberTakesMaximalDigitRunUptoCard

/-- THE SECOND FORM's CARD OF 'n023_13.FnMatchOrElseOperatorTable'. -/
def fnMatchOrElseOperatorTableUptoCard : Claim7 := { stood := { row := fnMatchOrElseOperatorTableUptoRow, standIns := [], harness := (true, "a9b4dc59c307c426a9c5042eef3b806858c5d613d798d808750b0f710532fe66"), looks := false }, kinds := [], alts := [], laidByText := true, laidKinds := [.data, .pinned], laidTests := true, laidLooks := .later }
def FnMatchOrElseOperatorTableUptoCardSaid : Prop := Claim7.holds Tryd.pinned (.plain (OpenSpec.upto fnMatchOrElseOperatorTableSpec)) fnMatchOrElseOperatorTableUptoCard

/-- THE SECOND FORM's CARD OF 'n023_13.FnUnquotedIdentifierExact'. -/
def fnUnquotedIdentifierExactUptoCard : Claim7 := { stood := { row := fnUnquotedIdentifierExactUptoRow, standIns := [], harness := (true, "a9b4dc59c307c426a9c5042eef3b806858c5d613d798d808750b0f710532fe66"), looks := false }, kinds := [], alts := [], laidByText := true, laidKinds := [.data, .data, .pinned], laidTests := true, laidLooks := .later }
def FnUnquotedIdentifierExactUptoCardSaid : Prop := Claim7.holds Tryd.pinned (.plain (OpenSpec.upto fnUnquotedIdentifierExactSpec)) fnUnquotedIdentifierExactUptoCard

/-- THE SECOND FORM's CARD OF 'n023_13.FnMatchOrElseAnyRunes'. -/
def fnMatchOrElseAnyRunesUptoCard : Claim7 := { stood := { row := fnMatchOrElseAnyRunesUptoRow, standIns := [], harness := (true, "a9b4dc59c307c426a9c5042eef3b806858c5d613d798d808750b0f710532fe66"), looks := false }, kinds := [], alts := [], laidByText := true, laidKinds := [.data, .pinned], laidTests := true, laidLooks := .later }
def FnMatchOrElseAnyRunesUptoCardSaid : Prop := Claim7.holds Tryd.pinned (.plain (OpenSpec.upto fnMatchOrElseAnyRunesSpec)) fnMatchOrElseAnyRunesUptoCard

/-- THE SECOND FORM's CARD OF 'n023_13.FnUnquotedIdentifierIgnoresWhatFollows'. -/
def fnUnquotedIdentifierIgnoresWhatFollowsUptoCard : Claim7 := { stood := { row := fnUnquotedIdentifierIgnoresWhatFollowsUptoRow, standIns := [], harness := (true, "a9b4dc59c307c426a9c5042eef3b806858c5d613d798d808750b0f710532fe66"), looks := false }, kinds := [], alts := [], laidByText := true, laidKinds := [.data, .data, .pinned], laidTests := true, laidLooks := .later }
def FnUnquotedIdentifierIgnoresWhatFollowsUptoCardSaid : Prop := Claim7.holds Tryd.pinned (.plain (OpenSpec.upto fnUnquotedIdentifierIgnoresWhatFollowsSpec)) fnUnquotedIdentifierIgnoresWhatFollowsUptoCard
end Rows
end Go.Proofs.YtdbnffjidnfhdaaDoor
