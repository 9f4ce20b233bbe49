/-
  NARROWER THAN 'FOR EVERY INPUT', by the rows' own cells (each row's printed sentence says how): FnASTNodeTypeStringTable: laid · FnTokTypeStringTable: laid · FnTokTypeStringInjective: laid · FnASTNodeTypeStringInjective: laid.
  DERIVED. THE GIVEN ROWS OF THIS SEAT. 4 by the template 'for every input the law returns true; each argument reads behind the call as it read before'; 0 by the template 'total and deterministic' (their statements: YtogdcenkgndfaaaFmtTotals.lean).
  GIVEN WITH THE SEED: the statements are not yours to turn. If you find one false, say at which input.
  Laid BY PROGRAM, IN A SANDBOX (cutbox-rows.mjs): the forced cells as the released guide's own fill.sh prints them over the translation fd43cf860ff46ee6… (all of the seat's roots in one cut). By AI agents, Wed Nov 11 2026. No macro, syntax, notation, axiom, sorry.
-/
import Derived.Test.YtogdcenkgndfaaaFmtChecked
import GoSem.Claim
import GoSem.ClaimJoined
import GoSem.ClaimMapViews
import Derived.JoinedTies
import Derived.KernelRfl
namespace Go.Proofs.YtogdcenkgndfaaaFmt
/- THE CELL 'sum', in the pinned program and in every row, IS THE sha256 OF THE DUMP (.gsa) THAT YtogdcenkgndfaaaFmtProg.lean LOADS. Nothing in Lean hashes anything: it is a label: what it is worth is what the hold of that sum in a sandbox is worth. -/
noncomputable def Tryf.pinned : Pinned := { name := "ytogdcenkgndfaaafmt", sum := "fd43cf860ff46ee6442b3661a1ae266c688f42b82e5b3c6f28361f0ff74c1fb0", checked := Tryf.checked }
namespace Rows
def none {H : Type} : Left H := { results := [], args := [] }

/- WHAT THE LISTED PACKAGE-LEVEL VARIABLES READ AS WHEN THE CALL BEGINS. Each datum BY PROGRAM (the guide's laid-datum.mjs) off the statement by which the dump's own 'gosem.cut.vars' lays the variable. In a bare row this is a premise. The card (YtogdcenkgndfaaaFmtCards.lean) ties it to the program's text. -/
def laid_github_com_jmespath_go_jmespath_astNodeType_index {H : Type} : DataW H := .agg [.lit (.int .u16 0), .lit (.int .u16 8), .lit (.int .u16 21), .lit (.int .u16 35), .lit (.int .u16 44), .lit (.int .u16 65), .lit (.int .u16 73), .lit (.int .u16 92), .lit (.int .u16 102), .lit (.int .u16 113), .lit (.int .u16 121), .lit (.int .u16 139), .lit (.int .u16 152), .lit (.int .u16 162), .lit (.int .u16 180), .lit (.int .u16 198), .lit (.int .u16 213), .lit (.int .u16 229), .lit (.int .u16 245), .lit (.int .u16 252), .lit (.int .u16 265), .lit (.int .u16 281), .lit (.int .u16 289), .lit (.int .u16 307)]
def laid_github_com_jmespath_go_jmespath_tokType_index {H : Type} : DataW H := .agg [.lit (.int .u8 0), .lit (.int .u8 8), .lit (.int .u8 13), .lit (.int .u8 17), .lit (.int .u8 24), .lit (.int .u8 32), .lit (.int .u8 39), .lit (.int .u8 46), .lit (.int .u8 55), .lit (.int .u8 64), .lit (.int .u8 71), .lit (.int .u8 78), .lit (.int .u8 81), .lit (.int .u8 86), .lit (.int .u8 93), .lit (.int .u8 112), .lit (.int .u8 129), .lit (.int .u8 135), .lit (.int .u8 141), .lit (.int .u8 144), .lit (.int .u8 148), .lit (.int .u8 151), .lit (.int .u8 155), .lit (.int .u8 158), .lit (.int .u8 161), .lit (.int .u8 173), .lit (.int .u8 187), .lit (.int .u8 195), .lit (.int .u8 202), .lit (.int .u8 206), .lit (.int .u8 210), .lit (.int .u8 214)]

/-- 'n023_18.FnASTNodeTypeStringTable': WHATEVER THE INPUT: true; the input reads as it did. -/
def fnASTNodeTypeStringTableSpec : ChangeSpec := { name := "fnASTNodeTypeStringTable", vars := ["github.com/jmespath/go-jmespath._astNodeType_index"], fn := fun _ => fun
  | [d, g1] => { results := [.lit (.bool true)], args := [d], vars := [g1] }
  | _ => none }
def fnASTNodeTypeStringTableRow : OpenClaim := { program := "ytogdcenkgndfaaafmt", sum := "fd43cf860ff46ee6442b3661a1ae266c688f42b82e5b3c6f28361f0ff74c1fb0", func := "github.com/jmespath/go-jmespath/n023_18.FnASTNodeTypeStringTable", spec := "fnASTNodeTypeStringTable", stops := ["fmt.Sprintf, its operands' methods called"], inPlace := ["fmt.Sprintf"], unfollowed := true, recurses := true, named := ["github.com/jmespath/go-jmespath._astNodeType_index"], apart := false, laid := [("github.com/jmespath/go-jmespath._astNodeType_index", laid_github_com_jmespath_go_jmespath_astNodeType_index)] }
/-- NO THEOREM (fmt's text is open here; it may be false): for the released tool's asking of the row's closed facts alone. THE STATEMENT IS 'FnASTNodeTypeStringTableToldSaid' (YtogdcenkgndfaaaFmtCards.lean). -/
def FnASTNodeTypeStringTableFormAsk : Prop := fnASTNodeTypeStringTableRow.holds Tryf.pinned (OpenSpec.ofChange fnASTNodeTypeStringTableSpec)

/-- ITS FALSE NEIGHBOUR: 'it returns false'. Refute it at one input. -/
def fnASTNodeTypeStringTableWrong : ChangeSpec := { name := "fnASTNodeTypeStringTable", vars := ["github.com/jmespath/go-jmespath._astNodeType_index"], fn := fun _ => fun
  | [d, g1] => { results := [.lit (.bool false)], args := [d], vars := [g1] }
  | _ => none }
def FnASTNodeTypeStringTableWrongFormAsk : Prop := fnASTNodeTypeStringTableRow.holds Tryf.pinned (OpenSpec.ofChange fnASTNodeTypeStringTableWrong)

/-- 'n023_25.FnTokTypeStringTable': WHATEVER THE INPUT: true; the input reads as it did. -/
def fnTokTypeStringTableSpec : ChangeSpec := { name := "fnTokTypeStringTable", vars := ["github.com/jmespath/go-jmespath._tokType_index"], fn := fun _ => fun
  | [d, g1] => { results := [.lit (.bool true)], args := [d], vars := [g1] }
  | _ => none }
def fnTokTypeStringTableRow : OpenClaim := { program := "ytogdcenkgndfaaafmt", sum := "fd43cf860ff46ee6442b3661a1ae266c688f42b82e5b3c6f28361f0ff74c1fb0", func := "github.com/jmespath/go-jmespath/n023_25.FnTokTypeStringTable", spec := "fnTokTypeStringTable", stops := ["fmt.Sprintf, its operands' methods called"], inPlace := ["fmt.Sprintf"], unfollowed := true, recurses := true, named := ["github.com/jmespath/go-jmespath._tokType_index"], apart := false, laid := [("github.com/jmespath/go-jmespath._tokType_index", laid_github_com_jmespath_go_jmespath_tokType_index)] }
/-- NO THEOREM (fmt's text is open here; it may be false): for the released tool's asking of the row's closed facts alone. THE STATEMENT IS 'FnTokTypeStringTableToldSaid' (YtogdcenkgndfaaaFmtCards.lean). -/
def FnTokTypeStringTableFormAsk : Prop := fnTokTypeStringTableRow.holds Tryf.pinned (OpenSpec.ofChange fnTokTypeStringTableSpec)

/-- ITS FALSE NEIGHBOUR: 'it returns false'. Refute it at one input. -/
def fnTokTypeStringTableWrong : ChangeSpec := { name := "fnTokTypeStringTable", vars := ["github.com/jmespath/go-jmespath._tokType_index"], fn := fun _ => fun
  | [d, g1] => { results := [.lit (.bool false)], args := [d], vars := [g1] }
  | _ => none }
def FnTokTypeStringTableWrongFormAsk : Prop := fnTokTypeStringTableRow.holds Tryf.pinned (OpenSpec.ofChange fnTokTypeStringTableWrong)

/-- 'n023_25.FnTokTypeStringInjective': WHATEVER THE INPUT: true; the input reads as it did. -/
def fnTokTypeStringInjectiveSpec : ChangeSpec := { name := "fnTokTypeStringInjective", vars := ["github.com/jmespath/go-jmespath._tokType_index"], fn := fun _ => fun
  | [d1, d2, g1] => { results := [.lit (.bool true)], args := [d1, d2], vars := [g1] }
  | _ => none }
def fnTokTypeStringInjectiveRow : OpenClaim := { program := "ytogdcenkgndfaaafmt", sum := "fd43cf860ff46ee6442b3661a1ae266c688f42b82e5b3c6f28361f0ff74c1fb0", func := "github.com/jmespath/go-jmespath/n023_25.FnTokTypeStringInjective", spec := "fnTokTypeStringInjective", stops := ["fmt.Sprintf, its operands' methods called"], inPlace := ["fmt.Sprintf"], unfollowed := true, recurses := true, named := ["github.com/jmespath/go-jmespath._tokType_index"], apart := false, laid := [("github.com/jmespath/go-jmespath._tokType_index", laid_github_com_jmespath_go_jmespath_tokType_index)] }
/-- NO THEOREM (fmt's text is open here; it may be false): for the released tool's asking of the row's closed facts alone. THE STATEMENT IS 'FnTokTypeStringInjectiveToldSaid' (YtogdcenkgndfaaaFmtCards.lean). -/
def FnTokTypeStringInjectiveFormAsk : Prop := fnTokTypeStringInjectiveRow.holds Tryf.pinned (OpenSpec.ofChange fnTokTypeStringInjectiveSpec)

/-- ITS FALSE NEIGHBOUR: 'it returns false'. Refute it at one input. -/
def fnTokTypeStringInjectiveWrong : ChangeSpec := { name := "fnTokTypeStringInjective", vars := ["github.com/jmespath/go-jmespath._tokType_index"], fn := fun _ => fun
  | [d1, d2, g1] => { results := [.lit (.bool false)], args := [d1, d2], vars := [g1] }
  | _ => none }
def FnTokTypeStringInjectiveWrongFormAsk : Prop := fnTokTypeStringInjectiveRow.holds Tryf.pinned (OpenSpec.ofChange fnTokTypeStringInjectiveWrong)

/-- 'n023_18.FnASTNodeTypeStringInjective': WHATEVER THE INPUT: true; the input reads as it did. -/
def fnASTNodeTypeStringInjectiveSpec : ChangeSpec := { name := "fnASTNodeTypeStringInjective", vars := ["github.com/jmespath/go-jmespath._astNodeType_index"], fn := fun _ => fun
  | [d1, d2, g1] => { results := [.lit (.bool true)], args := [d1, d2], vars := [g1] }
  | _ => none }
def fnASTNodeTypeStringInjectiveRow : OpenClaim := { program := "ytogdcenkgndfaaafmt", sum := "fd43cf860ff46ee6442b3661a1ae266c688f42b82e5b3c6f28361f0ff74c1fb0", func := "github.com/jmespath/go-jmespath/n023_18.FnASTNodeTypeStringInjective", spec := "fnASTNodeTypeStringInjective", stops := ["fmt.Sprintf, its operands' methods called"], inPlace := ["fmt.Sprintf"], unfollowed := true, recurses := true, named := ["github.com/jmespath/go-jmespath._astNodeType_index"], apart := false, laid := [("github.com/jmespath/go-jmespath._astNodeType_index", laid_github_com_jmespath_go_jmespath_astNodeType_index)] }
/-- NO THEOREM (fmt's text is open here; it may be false): for the released tool's asking of the row's closed facts alone. THE STATEMENT IS 'FnASTNodeTypeStringInjectiveToldSaid' (YtogdcenkgndfaaaFmtCards.lean). -/
def FnASTNodeTypeStringInjectiveFormAsk : Prop := fnASTNodeTypeStringInjectiveRow.holds Tryf.pinned (OpenSpec.ofChange fnASTNodeTypeStringInjectiveSpec)

/-- ITS FALSE NEIGHBOUR: 'it returns false'. Refute it at one input. -/
def fnASTNodeTypeStringInjectiveWrong : ChangeSpec := { name := "fnASTNodeTypeStringInjective", vars := ["github.com/jmespath/go-jmespath._astNodeType_index"], fn := fun _ => fun
  | [d1, d2, g1] => { results := [.lit (.bool false)], args := [d1, d2], vars := [g1] }
  | _ => none }
def FnASTNodeTypeStringInjectiveWrongFormAsk : Prop := fnASTNodeTypeStringInjectiveRow.holds Tryf.pinned (OpenSpec.ofChange fnASTNodeTypeStringInjectiveWrong)

end Rows
end Go.Proofs.YtogdcenkgndfaaaFmt
