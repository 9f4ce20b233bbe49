/-
  DERIVED. GIVEN WITH THE SEED: THE CARDS: each row of YtogdcenkgndfaaaFmtRows.lean that lists a variable, with what it lists TIED to the program's text (the seventh form; the later family's looks); each row that meets fmt, with fmt's text TOLD by the authors' own Lean function (tested against real Go, not proved from fmt's source: count such statements apart). THE CARD IS WHAT COUNTS. Prove the row's statement (the work); the ties are given (YtogdcenkgndfaaaFmtTie.lean); close each card by the builder's one call (the guide's Derived/Test/ToyasCard.lean, 'card_holds'). Laid BY PROGRAM, IN A SANDBOX (cutbox-door.mjs). By AI agents, Wed Nov 11 2026. No macro, syntax, notation, axiom, sorry.
-/
import Derived.Test.YtogdcenkgndfaaaFmtRows
import GoSem.ClaimSeven
namespace Go.Proofs.YtogdcenkgndfaaaFmt
namespace Rows

/-- THE TOLD AND TIED CARD OF 'n023_18.FnASTNodeTypeStringTable'. -/
def fnASTNodeTypeStringTableCard : Claim7 := { stood := { row := fnASTNodeTypeStringTableRow, standIns := [], harness := (true, "520f11b6b0c0ebdad160a917ed9f9eaf764929a25840407d0ba8c86b0d12e23f"), looks := false }, told := true, laidByText := true, laidKinds := [.data], laidTests := true, laidLooks := .later, goes := false }
def FnASTNodeTypeStringTableToldSaid : Prop := Claim7.holds Tryf.pinned (.plain (OpenSpec.ofChange fnASTNodeTypeStringTableSpec)) fnASTNodeTypeStringTableCard
/-- ITS FALSE NEIGHBOUR. Refute it at one input. -/
def FnASTNodeTypeStringTableToldWrongFalsely : Prop := Claim7.holds Tryf.pinned (.plain (OpenSpec.ofChange fnASTNodeTypeStringTableWrong)) fnASTNodeTypeStringTableCard

/-- THE TOLD AND TIED CARD OF 'n023_25.FnTokTypeStringTable'. -/
def fnTokTypeStringTableCard : Claim7 := { stood := { row := fnTokTypeStringTableRow, standIns := [], harness := (true, "520f11b6b0c0ebdad160a917ed9f9eaf764929a25840407d0ba8c86b0d12e23f"), looks := false }, told := true, laidByText := true, laidKinds := [.data], laidTests := true, laidLooks := .later, goes := false }
def FnTokTypeStringTableToldSaid : Prop := Claim7.holds Tryf.pinned (.plain (OpenSpec.ofChange fnTokTypeStringTableSpec)) fnTokTypeStringTableCard
/-- ITS FALSE NEIGHBOUR. Refute it at one input. -/
def FnTokTypeStringTableToldWrongFalsely : Prop := Claim7.holds Tryf.pinned (.plain (OpenSpec.ofChange fnTokTypeStringTableWrong)) fnTokTypeStringTableCard

/-- THE TOLD AND TIED CARD OF 'n023_25.FnTokTypeStringInjective'. -/
def fnTokTypeStringInjectiveCard : Claim7 := { stood := { row := fnTokTypeStringInjectiveRow, standIns := [], harness := (true, "520f11b6b0c0ebdad160a917ed9f9eaf764929a25840407d0ba8c86b0d12e23f"), looks := false }, told := true, laidByText := true, laidKinds := [.data], laidTests := true, laidLooks := .later, goes := false }
def FnTokTypeStringInjectiveToldSaid : Prop := Claim7.holds Tryf.pinned (.plain (OpenSpec.ofChange fnTokTypeStringInjectiveSpec)) fnTokTypeStringInjectiveCard
/-- ITS FALSE NEIGHBOUR. Refute it at one input. -/
def FnTokTypeStringInjectiveToldWrongFalsely : Prop := Claim7.holds Tryf.pinned (.plain (OpenSpec.ofChange fnTokTypeStringInjectiveWrong)) fnTokTypeStringInjectiveCard

/-- THE TOLD AND TIED CARD OF 'n023_18.FnASTNodeTypeStringInjective'. -/
def fnASTNodeTypeStringInjectiveCard : Claim7 := { stood := { row := fnASTNodeTypeStringInjectiveRow, standIns := [], harness := (true, "520f11b6b0c0ebdad160a917ed9f9eaf764929a25840407d0ba8c86b0d12e23f"), looks := false }, told := true, laidByText := true, laidKinds := [.data], laidTests := true, laidLooks := .later, goes := false }
def FnASTNodeTypeStringInjectiveToldSaid : Prop := Claim7.holds Tryf.pinned (.plain (OpenSpec.ofChange fnASTNodeTypeStringInjectiveSpec)) fnASTNodeTypeStringInjectiveCard
/-- ITS FALSE NEIGHBOUR. Refute it at one input. -/
def FnASTNodeTypeStringInjectiveToldWrongFalsely : Prop := Claim7.holds Tryf.pinned (.plain (OpenSpec.ofChange fnASTNodeTypeStringInjectiveWrong)) fnASTNodeTypeStringInjectiveCard
end Rows
end Go.Proofs.YtogdcenkgndfaaaFmt
