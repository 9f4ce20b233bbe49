/-
  DERIVED. GIVEN WITH THE SEED: THE PROGRAM's TIES (one call each: nine closed facts by the kernel) AND EACH ROW's TIE, after the 31st guide's Derived/Test/Toyas{Tie, Card}.lean. No idea stands in it: it is a product of the set-up. Laid BY PROGRAM, IN A SANDBOX (cutbox-door.mjs). By AI agents, Wed Nov 11 2026. No macro, syntax, notation, axiom, sorry.
-/
import Derived.Test.YtogdcenkgndfaaaFmtRows
import Derived.LaidByTextLater
import Derived.SevenTiedAt
import Derived.LaidSub
import Derived.LaidOnce
namespace Go.Proofs.YtogdcenkgndfaaaFmt
open Go
set_option maxRecDepth 100000
theorem seatTie1 : Tryf.prog.laidByTextLater [("github.com/jmespath/go-jmespath._astNodeType_index", Rows.laid_github_com_jmespath_go_jmespath_astNodeType_index), ("github.com/jmespath/go-jmespath._tokType_index", Rows.laid_github_com_jmespath_go_jmespath_tokType_index)] [.data, .data] true :=
  Program.laidByTextLater_by_one 19 8 33 (by kernel_rfl) (by kernel_rfl) (by kernel_rfl) (by kernel_rfl) (by kernel_rfl) (by kernel_rfl) (fun _ _ => by kernel_rfl)
theorem noOwnUnsafe : Tryf.pinned.checked.prog.headLifts.contains "ownunsafe" = false := by kernel_rfl
theorem tie : Tryf.prog.laidByTextLater [("github.com/jmespath/go-jmespath._astNodeType_index", Rows.laid_github_com_jmespath_go_jmespath_astNodeType_index)] [.data] true :=
  Program.laidByTextLater.sub seatTie1 ["github.com/jmespath/go-jmespath._astNodeType_index"] (by kernel_rfl) (by kernel_rfl)
theorem fnASTNodeTypeStringTable_row_tie : Rows.fnASTNodeTypeStringTableRow.laidByTextAt .later Tryf.pinned [.data] true :=
  OpenClaim.laidByTextAt_later rfl rfl tie noOwnUnsafe
theorem fnASTNodeTypeStringInjective_row_tie : Rows.fnASTNodeTypeStringInjectiveRow.laidByTextAt .later Tryf.pinned [.data] true :=
  OpenClaim.laidByTextAt_later rfl rfl tie noOwnUnsafe
theorem tie2 : Tryf.prog.laidByTextLater [("github.com/jmespath/go-jmespath._tokType_index", Rows.laid_github_com_jmespath_go_jmespath_tokType_index)] [.data] true :=
  Program.laidByTextLater.sub seatTie1 ["github.com/jmespath/go-jmespath._tokType_index"] (by kernel_rfl) (by kernel_rfl)
theorem fnTokTypeStringTable_row_tie : Rows.fnTokTypeStringTableRow.laidByTextAt .later Tryf.pinned [.data] true :=
  OpenClaim.laidByTextAt_later rfl rfl tie2 noOwnUnsafe
theorem fnTokTypeStringInjective_row_tie : Rows.fnTokTypeStringInjectiveRow.laidByTextAt .later Tryf.pinned [.data] true :=
  OpenClaim.laidByTextAt_later rfl rfl tie2 noOwnUnsafe
end Go.Proofs.YtogdcenkgndfaaaFmt
