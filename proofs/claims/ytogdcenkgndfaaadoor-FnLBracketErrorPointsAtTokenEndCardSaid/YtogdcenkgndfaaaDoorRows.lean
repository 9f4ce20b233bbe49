/-
  NARROWER THAN 'FOR EVERY INPUT', by the rows' own cells (each row's printed sentence says how): FnLBracketCursorAfterToken: laid · FnLBracketTokenIsItsText: laid · FnLBracketReadsOneByteAhead: laid · FnLBracketErrorPointsAtTokenEnd: laid.
  DERIVED. THE GIVEN ROWS OF THIS SEAT. 4 by the template 'for every input the law returns true; each argument reads behind the call as it read before'; 0 by the template 'total and deterministic' (their statements: YtogdcenkgndfaaaDoorTotals.lean).
  GIVEN WITH THE SEED: the statements are not yours to turn. If you find one false, say at which input.
  Laid BY PROGRAM, IN A SANDBOX (cutbox-rows.mjs): the forced cells as the released guide's own fill.sh prints them over the translation 14f668ca6046a701… (all of the seat's roots in one cut). By AI agents, Wed Nov 11 2026. No macro, syntax, notation, axiom, sorry.
-/
import Derived.Test.YtogdcenkgndfaaaDoorChecked
import GoSem.PinnedTables
import GoSem.Claim
import GoSem.ClaimJoined
import GoSem.ClaimMapViews
import Derived.JoinedTies
import Derived.KernelRfl
namespace Go.Proofs.YtogdcenkgndfaaaDoor
/- THE CELL 'sum', in the pinned program and in every row, IS THE sha256 OF THE DUMP (.gsa) THAT YtogdcenkgndfaaaDoorProg.lean LOADS. Nothing in Lean hashes anything: it is a label: what it is worth is what the hold of that sum in a sandbox is worth. -/
noncomputable def Tryd.pinned : Pinned := { name := "ytogdcenkgndfaaadoor", sum := "14f668ca6046a701bd31e22db2e37f18667a6a6dcad72c8130abd3c99521c95d", checked := Tryd.checked }
namespace Rows
def none {H : Type} : Left H := { results := [], args := [] }

/- WHAT THE LISTED PACKAGE-LEVEL VARIABLES READ AS WHEN THE CALL BEGINS. Each datum BY PROGRAM (the guide's laid-datum.mjs) off the statement by which the dump's own 'gosem.cut.vars' lays the variable. In a bare row this is a premise. The card (YtogdcenkgndfaaaDoorCards.lean) ties it to the program's text. -/
def laid_unicode_utf8_acceptRanges {H : Type} : DataW H := .agg [.agg [.lit (.int .u8 128), .lit (.int .u8 191)], .agg [.lit (.int .u8 160), .lit (.int .u8 191)], .agg [.lit (.int .u8 128), .lit (.int .u8 159)], .agg [.lit (.int .u8 144), .lit (.int .u8 191)], .agg [.lit (.int .u8 128), .lit (.int .u8 143)], .agg [.lit (.int .u8 0), .lit (.int .u8 0)], .agg [.lit (.int .u8 0), .lit (.int .u8 0)], .agg [.lit (.int .u8 0), .lit (.int .u8 0)], .agg [.lit (.int .u8 0), .lit (.int .u8 0)], .agg [.lit (.int .u8 0), .lit (.int .u8 0)], .agg [.lit (.int .u8 0), .lit (.int .u8 0)], .agg [.lit (.int .u8 0), .lit (.int .u8 0)], .agg [.lit (.int .u8 0), .lit (.int .u8 0)], .agg [.lit (.int .u8 0), .lit (.int .u8 0)], .agg [.lit (.int .u8 0), .lit (.int .u8 0)], .agg [.lit (.int .u8 0), .lit (.int .u8 0)]]
/-- One of Go's own tables, pinned by name: the form's constant. -/
def laid_unicode_utf8_first : DataW Unit := Go.Pinned.utf8First

/-- 'n023_3.FnLBracketCursorAfterToken': WHATEVER THE INPUT: true; the input reads as it did. -/
def fnLBracketCursorAfterTokenSpec : ChangeSpec := { name := "fnLBracketCursorAfterToken", fn := fun _ => fun
  | [d1, d2] => { results := [.lit (.bool true)], args := [d1, d2] }
  | _ => none }
def fnLBracketCursorAfterTokenRow : OpenClaim := { program := "ytogdcenkgndfaaadoor", sum := "14f668ca6046a701bd31e22db2e37f18667a6a6dcad72c8130abd3c99521c95d", func := "github.com/jmespath/go-jmespath/n023_3.FnLBracketCursorAfterToken", spec := "fnLBracketCursorAfterToken", named := ["unicode/utf8.first", "unicode/utf8.acceptRanges"], apart := false, laid := [("unicode/utf8.acceptRanges", laid_unicode_utf8_acceptRanges), ("unicode/utf8.first", laid_unicode_utf8_first)] }
def FnLBracketCursorAfterTokenSaid : Prop := fnLBracketCursorAfterTokenRow.holds Tryd.pinned (OpenSpec.ofChange fnLBracketCursorAfterTokenSpec)

/-- ITS FALSE NEIGHBOUR: 'it returns false'. Refute it at one input. -/
def fnLBracketCursorAfterTokenWrong : ChangeSpec := { name := "fnLBracketCursorAfterToken", fn := fun _ => fun
  | [d1, d2] => { results := [.lit (.bool false)], args := [d1, d2] }
  | _ => none }
def FnLBracketCursorAfterTokenWrongFalsely : Prop := fnLBracketCursorAfterTokenRow.holds Tryd.pinned (OpenSpec.ofChange fnLBracketCursorAfterTokenWrong)

/-- 'n023_3.FnLBracketTokenIsItsText': WHATEVER THE INPUT: true; the input reads as it did. -/
def fnLBracketTokenIsItsTextSpec : ChangeSpec := { name := "fnLBracketTokenIsItsText", fn := fun _ => fun
  | [d1, d2] => { results := [.lit (.bool true)], args := [d1, d2] }
  | _ => none }
def fnLBracketTokenIsItsTextRow : OpenClaim := { program := "ytogdcenkgndfaaadoor", sum := "14f668ca6046a701bd31e22db2e37f18667a6a6dcad72c8130abd3c99521c95d", func := "github.com/jmespath/go-jmespath/n023_3.FnLBracketTokenIsItsText", spec := "fnLBracketTokenIsItsText", named := ["unicode/utf8.first", "unicode/utf8.acceptRanges"], apart := false, laid := [("unicode/utf8.acceptRanges", laid_unicode_utf8_acceptRanges), ("unicode/utf8.first", laid_unicode_utf8_first)] }
def FnLBracketTokenIsItsTextSaid : Prop := fnLBracketTokenIsItsTextRow.holds Tryd.pinned (OpenSpec.ofChange fnLBracketTokenIsItsTextSpec)

/-- ITS FALSE NEIGHBOUR: 'it returns false'. Refute it at one input. -/
def fnLBracketTokenIsItsTextWrong : ChangeSpec := { name := "fnLBracketTokenIsItsText", fn := fun _ => fun
  | [d1, d2] => { results := [.lit (.bool false)], args := [d1, d2] }
  | _ => none }
def FnLBracketTokenIsItsTextWrongFalsely : Prop := fnLBracketTokenIsItsTextRow.holds Tryd.pinned (OpenSpec.ofChange fnLBracketTokenIsItsTextWrong)

/-- 'n023_3.FnLBracketReadsOneByteAhead': WHATEVER THE INPUT: true; the input reads as it did. -/
def fnLBracketReadsOneByteAheadSpec : ChangeSpec := { name := "fnLBracketReadsOneByteAhead", fn := fun _ => fun
  | [d1, d2, d3] => { results := [.lit (.bool true)], args := [d1, d2, d3] }
  | _ => none }
def fnLBracketReadsOneByteAheadRow : OpenClaim := { program := "ytogdcenkgndfaaadoor", sum := "14f668ca6046a701bd31e22db2e37f18667a6a6dcad72c8130abd3c99521c95d", func := "github.com/jmespath/go-jmespath/n023_3.FnLBracketReadsOneByteAhead", spec := "fnLBracketReadsOneByteAhead", named := ["unicode/utf8.first", "unicode/utf8.acceptRanges"], apart := false, laid := [("unicode/utf8.acceptRanges", laid_unicode_utf8_acceptRanges), ("unicode/utf8.first", laid_unicode_utf8_first)] }
def FnLBracketReadsOneByteAheadSaid : Prop := fnLBracketReadsOneByteAheadRow.holds Tryd.pinned (OpenSpec.ofChange fnLBracketReadsOneByteAheadSpec)

/-- ITS FALSE NEIGHBOUR: 'it returns false'. Refute it at one input. -/
def fnLBracketReadsOneByteAheadWrong : ChangeSpec := { name := "fnLBracketReadsOneByteAhead", fn := fun _ => fun
  | [d1, d2, d3] => { results := [.lit (.bool false)], args := [d1, d2, d3] }
  | _ => none }
def FnLBracketReadsOneByteAheadWrongFalsely : Prop := fnLBracketReadsOneByteAheadRow.holds Tryd.pinned (OpenSpec.ofChange fnLBracketReadsOneByteAheadWrong)

/-- 'n023_3.FnLBracketErrorPointsAtTokenEnd': WHATEVER THE INPUT: true; the input reads as it did. -/
def fnLBracketErrorPointsAtTokenEndSpec : ChangeSpec := { name := "fnLBracketErrorPointsAtTokenEnd", fn := fun _ => fun
  | [d1, d2, d3] => { results := [.lit (.bool true)], args := [d1, d2, d3] }
  | _ => none }
def fnLBracketErrorPointsAtTokenEndRow : OpenClaim := { program := "ytogdcenkgndfaaadoor", sum := "14f668ca6046a701bd31e22db2e37f18667a6a6dcad72c8130abd3c99521c95d", func := "github.com/jmespath/go-jmespath/n023_3.FnLBracketErrorPointsAtTokenEnd", spec := "fnLBracketErrorPointsAtTokenEnd", named := ["unicode/utf8.first", "unicode/utf8.acceptRanges"], apart := false, laid := [("unicode/utf8.acceptRanges", laid_unicode_utf8_acceptRanges), ("unicode/utf8.first", laid_unicode_utf8_first)] }
def FnLBracketErrorPointsAtTokenEndSaid : Prop := fnLBracketErrorPointsAtTokenEndRow.holds Tryd.pinned (OpenSpec.ofChange fnLBracketErrorPointsAtTokenEndSpec)

/-- ITS FALSE NEIGHBOUR: 'it returns false'. Refute it at one input. -/
def fnLBracketErrorPointsAtTokenEndWrong : ChangeSpec := { name := "fnLBracketErrorPointsAtTokenEnd", fn := fun _ => fun
  | [d1, d2, d3] => { results := [.lit (.bool false)], args := [d1, d2, d3] }
  | _ => none }
def FnLBracketErrorPointsAtTokenEndWrongFalsely : Prop := fnLBracketErrorPointsAtTokenEndRow.holds Tryd.pinned (OpenSpec.ofChange fnLBracketErrorPointsAtTokenEndWrong)

/- THE SECOND FORM. 'bulk': how many values and letters a reading holds, each counted each time it is reached (what is shared counts as often as it is met; a slice's spare places count too). A statement '..UptoSaid' is the law's where the arguments, and the package variables that the reading takes, are together of bulk at most 1048576: NARROWER than '..Said'. Prove '..Said' where nothing that the law and all that it calls make is longer than what came in: it says more and counts as full. Else prove '..UptoSaid'. A law counts once. -/
mutual
def uptoBulk {H : Type} : DataW H → Nat
  | .lit (.string bytes) => bytes.length + 1
  | .lit _ => 1
  | .nil => 1
  | .ptr d => uptoBulk d + 1
  | .slice elems spare => uptoBulkAll elems + uptoBulkAll spare + 1
  | .agg parts => uptoBulkAll parts + 1
  | .iface _ d => uptoBulk d + 1
  | .map entries => uptoBulkEntries entries + 1
  | .held _ => 1
def uptoBulkAll {H : Type} : List (DataW H) → Nat
  | [] => 0
  | d :: r => uptoBulk d + uptoBulkAll r
def uptoBulkEntries {H : Type} : List (Lit × DataW H) → Nat
  | [] => 0
  | x :: r => uptoBulkEntry x + uptoBulkEntries r
def uptoBulkEntry {H : Type} : Lit × DataW H → Nat
  | (.string bytes, d) => bytes.length + uptoBulk d + 1
  | (_, d) => uptoBulk d + 1
 end
def uptoSmall : (H : Type) → List (DataW H) → Bool := fun _ ds => decide (uptoBulkAll ds ≤ 1048576)
def OpenSpec.upto (s : _root_.Go.ChangeSpec) : _root_.Go.OpenSpec := { _root_.Go.OpenSpec.ofChange s with cond := some uptoSmall }

/-- 'n023_3.FnLBracketCursorAfterToken', WHERE WHAT IT READS IS OF BULK AT MOST 1048576: true; the input reads as it did. -/
def fnLBracketCursorAfterTokenUptoRow : OpenClaim := { program := "ytogdcenkgndfaaadoor", sum := "14f668ca6046a701bd31e22db2e37f18667a6a6dcad72c8130abd3c99521c95d", func := "github.com/jmespath/go-jmespath/n023_3.FnLBracketCursorAfterToken", spec := "fnLBracketCursorAfterToken", named := ["unicode/utf8.first", "unicode/utf8.acceptRanges"], apart := false, laid := [("unicode/utf8.acceptRanges", laid_unicode_utf8_acceptRanges), ("unicode/utf8.first", laid_unicode_utf8_first)], narrowed := true }
def FnLBracketCursorAfterTokenUptoSaid : Prop := fnLBracketCursorAfterTokenUptoRow.holds Tryd.pinned (OpenSpec.upto fnLBracketCursorAfterTokenSpec)

/-- 'n023_3.FnLBracketTokenIsItsText', WHERE WHAT IT READS IS OF BULK AT MOST 1048576: true; the input reads as it did. -/
def fnLBracketTokenIsItsTextUptoRow : OpenClaim := { program := "ytogdcenkgndfaaadoor", sum := "14f668ca6046a701bd31e22db2e37f18667a6a6dcad72c8130abd3c99521c95d", func := "github.com/jmespath/go-jmespath/n023_3.FnLBracketTokenIsItsText", spec := "fnLBracketTokenIsItsText", named := ["unicode/utf8.first", "unicode/utf8.acceptRanges"], apart := false, laid := [("unicode/utf8.acceptRanges", laid_unicode_utf8_acceptRanges), ("unicode/utf8.first", laid_unicode_utf8_first)], narrowed := true }
def FnLBracketTokenIsItsTextUptoSaid : Prop := fnLBracketTokenIsItsTextUptoRow.holds Tryd.pinned (OpenSpec.upto fnLBracketTokenIsItsTextSpec)

/-- 'n023_3.FnLBracketReadsOneByteAhead', WHERE WHAT IT READS IS OF BULK AT MOST 1048576: true; the input reads as it did. -/
def fnLBracketReadsOneByteAheadUptoRow : OpenClaim := { program := "ytogdcenkgndfaaadoor", sum := "14f668ca6046a701bd31e22db2e37f18667a6a6dcad72c8130abd3c99521c95d", func := "github.com/jmespath/go-jmespath/n023_3.FnLBracketReadsOneByteAhead", spec := "fnLBracketReadsOneByteAhead", named := ["unicode/utf8.first", "unicode/utf8.acceptRanges"], apart := false, laid := [("unicode/utf8.acceptRanges", laid_unicode_utf8_acceptRanges), ("unicode/utf8.first", laid_unicode_utf8_first)], narrowed := true }
def FnLBracketReadsOneByteAheadUptoSaid : Prop := fnLBracketReadsOneByteAheadUptoRow.holds Tryd.pinned (OpenSpec.upto fnLBracketReadsOneByteAheadSpec)

/-- 'n023_3.FnLBracketErrorPointsAtTokenEnd', WHERE WHAT IT READS IS OF BULK AT MOST 1048576: true; the input reads as it did. -/
def fnLBracketErrorPointsAtTokenEndUptoRow : OpenClaim := { program := "ytogdcenkgndfaaadoor", sum := "14f668ca6046a701bd31e22db2e37f18667a6a6dcad72c8130abd3c99521c95d", func := "github.com/jmespath/go-jmespath/n023_3.FnLBracketErrorPointsAtTokenEnd", spec := "fnLBracketErrorPointsAtTokenEnd", named := ["unicode/utf8.first", "unicode/utf8.acceptRanges"], apart := false, laid := [("unicode/utf8.acceptRanges", laid_unicode_utf8_acceptRanges), ("unicode/utf8.first", laid_unicode_utf8_first)], narrowed := true }
def FnLBracketErrorPointsAtTokenEndUptoSaid : Prop := fnLBracketErrorPointsAtTokenEndUptoRow.holds Tryd.pinned (OpenSpec.upto fnLBracketErrorPointsAtTokenEndSpec)

end Rows
end Go.Proofs.YtogdcenkgndfaaaDoor
