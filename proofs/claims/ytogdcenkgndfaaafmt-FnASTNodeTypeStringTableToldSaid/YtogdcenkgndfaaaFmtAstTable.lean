/-
  The law FnASTNodeTypeStringTable returns true at every input: its row, and the told and tied card round it. Conditions: those of the row (the index table starts as its initialiser lays it, which the card ties to the program's text); fmt's text is told by the authors' function, though no input of the law comes to it.
-/
import Derived.Test.YtogdcenkgndfaaaFmtLaws
import Derived.Test.YtogdcenkgndfaaaFmtCards
import Derived.Test.YtogdcenkgndfaaaFmtTie
import Derived.ProofKit
import Derived.OpenShut
import Derived.OpenVars
import Derived.Lib.LaidTab
import Derived.Deep.DeepHandedRow
import Derived.Stop.JoinedTold
import Derived.SevenTiedAt
namespace Go.Proofs.YtogdcenkgndfaaaFmt.fnASTNodeTypeStringTable
open Go.ChangeShapes Go.WideShapes Go.ChangeAt Go.RowKit
open Go.Extern.Stop Go.Stop Go.Extern
set_option maxRecDepth 100000

theorem own : ownKnob Tryf.prog.godebug = none := by kernel_rfl
theorem laidOut : laidOutB Tryf.pinned.checked.prog = true := by kernel_rfl
theorem stops : Tryf.pinned.checked.prog.stops = ["fmt.Sprintf, its operands' methods called"] := by kernel_rfl
theorem stopKnobs : Tryf.pinned.checked.prog.stopKnobs = [] := by kernel_rfl
theorem quiet (os : Os) : Stop.quiet Tryf.pinned.checked.prog os := by
  intro k hk
  rw [stopKnobs] at hk
  cases hk
theorem gTab : Tryf.prog.globalNamed "github.com/jmespath/go-jmespath._astNodeType_index" = some 0 := by kernel_rfl
theorem gTabType : (Tryf.prog.globals[0]?).map (·.type) = some 31 := by kernel_rfl
theorem cellsTy : Tryf.prog.cellsOf 31 = 24 := by kernel_rfl
theorem cellsEl : Tryf.prog.cellsOf 30 = 1 := by kernel_rfl
theorem rowed : varsRowed Tryf.prog Rows.fnASTNodeTypeStringTableSpec.vars = true := by kernel_rfl

/-- What the row's list gives: the table's cells hold its numbers. -/
theorem table {W : World} (h : laidMetH Tryf.prog Rows.fnASTNodeTypeStringTableRow.laid W) : Lib.TabIs Tryf.prog W "github.com/jmespath/go-jmespath._astNodeType_index" .u16 [0, 8, 21, 35, 44, 65, 73, 92, 102, 113, 121, 139, 152, 162, 180, 198, 213, 229, 245, 252, 265, 281, 289, 307] :=
  Lib.tabIs_of_head (rest := []) gTab gTabType Tryf.underlying31 Tryf.underlying30 cellsEl cellsTy h
theorem cells {W : World} (h : laidMetH Tryf.prog Rows.fnASTNodeTypeStringTableRow.laid W) : astCells W := by
  intro k hk
  have ht := table h
  unfold Lib.TabIs at ht
  have hv := World.var?_cell gTab ht k
  have e : W.cell? ⟨0, k, none⟩ = (([0, 8, 21, 35, 44, 65, 73, 92, 102, 113, 121, 139, 152, 162, 180, 198, 213, 229, 245, 252, 265, 281, 289, 307] : List Int).map (fun z => Value.int .u16 z))[k]? := by simpa using hv
  rw [e]
  have all : ∀ k, k < 24 → ([0, 8, 21, 35, 44, 65, 73, 92, 102, 113, 121, 139, 152, 162, 180, 198, 213, 229, 245, 252, 265, 281, 289, 307] : List Int)[k]? = some (((astIx.getD k 0 : Nat)) : Int) := by decide
  rw [List.getElem?_map, all k hk]
  rfl

/-- A world for the witness: the settled one, the table holding what its initialiser lays. -/
noncomputable def laidWorld (os : Os) : World :=
  { World.holding Tryf.prog os ⟨#[], #[], []⟩ with heap := (World.holding Tryf.prog os ⟨#[], #[], []⟩).heap.modify 0 fun
      | .cells _ t frozen => .cells #[.int .u16 0, .int .u16 8, .int .u16 21, .int .u16 35, .int .u16 44, .int .u16 65, .int .u16 73, .int .u16 92, .int .u16 102, .int .u16 113, .int .u16 121, .int .u16 139, .int .u16 152, .int .u16 162, .int .u16 180, .int .u16 198, .int .u16 213, .int .u16 229, .int .u16 245, .int .u16 252, .int .u16 265, .int .u16 281, .int .u16 289, .int .u16 307] t frozen
      | o => o }
theorem laid_met (os : Os) : laidMet Tryf.prog Rows.fnASTNodeTypeStringTableRow.laid ((laidWorld os).forCall (fun _ _ => 0) ⟨#[], #[.int .i64 0], []⟩).memory :=
  laidMet_of_run' 8 (by kernel_rfl) (by kernel_rfl)

theorem lifted (os : Os) (started : os.Started) (H : Type) (enc : TypeId × Value → H) :
    ReturnsInTold none {} Tryf.checked os 3 .any Input.okWide ((OpenSpec.ofChange Rows.fnASTNodeTypeStringTableSpec).preRow enc Tryf.prog Tryf.f3 [] false Rows.fnASTNodeTypeStringTableRow.laid) (fun F => ((OpenSpec.ofChange Rows.fnASTNodeTypeStringTableSpec).at F).post enc Tryf.prog Tryf.f3 false true false false) (aloneAtReturn Tryf.prog) nothingAlways := by
  refine returnsInTold_of_row (C := Tryf.checked) (s := OpenSpec.ofChange Rows.fnASTNodeTypeStringTableSpec) (by kernel_rfl) own started (by kernel_rfl) Tryf.func3
    (OpenSpec.witness_stopped_at (enc := enc) (C := Tryf.checked) false (laidWorld os) #[.int .i64 0] rfl (by kernel_rfl) (by kernel_rfl) (by kernel_rfl)
      (OpenSpec.preRow_of_B rfl 8 (by kernel_rfl) (by kernel_rfl) (laid_met os))) ?_
  intro F W base args ds gs before _ _ hval0 hW _ _ _ hL _
  have hval : ∀ (j : Nat) t v, Tryf.f3.params[j]? = some t → args[j]? = some v → Value.okWide Tryf.prog W .any base t v := hval0
  have hW' := hW
  obtain ⟨p, q, hA0, hV0, rfl, hfz, hnd⟩ := hW
  have hA : DataW.TrodAll enc Tryf.prog W 0 (fun _ => true) true Tryf.f3.params.toList args.toList ds p := hA0
  have hV : DataW.TrodVars enc Tryf.prog W (fun _ => true) Rows.fnASTNodeTypeStringTableSpec.vars gs q := hV0
  rw [Tryf.params3] at hA hval
  obtain ⟨v0, vs0, d0, ds0, p0, q0, hargs, rfl, rfl, h0, r0⟩ := trodAll_cons hA
  obtain ⟨rfl, rfl, rfl⟩ := trodAll_nil r0
  obtain rfl : args = #[v0] := by cases args; simp_all
  obtain ⟨x0, rfl, rfl, rfl, wx0⟩ := open_int Tryf.underlying3 (hval 0 3 v0 rfl rfl) h0
  clear hA0 hV0 hval0
  obtain ⟨g1, rfl⟩ : ∃ g1, gs = [g1] := by
    match gs, hV with
    | [g1], _ => exact ⟨g1, rfl⟩
    | [], h => exact h.elim
    | _ :: _ :: _, h =>
      obtain ⟨_, _, _, _, _, _, _, _, _, _, hs, _⟩ := h
      exact hs.elim
  refine (astTable x0 W (cells hL)).mono fun e W' ⟨he, n, hw⟩ => ?_
  subst he
  subst hw
  have hB : Below W.heap.size W (W.drewN n) := ⟨rfl, rfl, rfl, Nat.le_refl _, fun _ _ => rfl⟩
  refine ⟨_, rfl, _, _, _, [], [], q, hW', trodAll_cons_mk (shut_bool Tryf.underlying4 _) trodAll_mk0, trodAll_cons_mk (shut_int Tryf.underlying3 wx0) (trodAll_mk0), Below.trodVars laidOut hB rowed hV, hB.frame _, fun h => by cases h⟩

theorem card : Rows.FnASTNodeTypeStringTableToldSaid :=
  Claim7.holds_of_told_tied_any_at .later 3 Tryf.f3 "fmt.Sprintf, its operands' methods called" [] [] _ _ _ _ _ (by kernel_rfl) rfl rfl rfl laidOut (by kernel_rfl) rfl ⟨rfl, rfl, rfl, rfl, rfl, rfl, rfl⟩ rfl rfl (by kernel_rfl) (by kernel_rfl) Tryf.func3 (by kernel_rfl)
    (of_decide_eq_true (by kernel_rfl)) (by unfold Func.isWrapper; first | (rw [if_pos (by decide +kernel)]; kernel_rfl) | (rw [if_neg (by decide +kernel)]; exact ⟨rfl, rfl⟩)) stops.symm rfl stopKnobs.symm (by kernel_rfl)
    (by kernel_rfl) (by kernel_rfl) (by kernel_rfl) (by kernel_rfl) (by kernel_rfl) (by kernel_rfl) (by kernel_rfl) (by kernel_rfl) (by kernel_rfl) rfl (by kernel_rfl) rfl rfl
    rfl rfl
    rfl (by kernel_rfl) (by kernel_rfl) (by kernel_rfl) (by decide) (by kernel_rfl) fnASTNodeTypeStringTable_row_tie
    (OpenClaim.moreEntering_of (by kernel_rfl) (by kernel_rfl) (by kernel_rfl) (by kernel_rfl) (by kernel_rfl) (by kernel_rfl) (by kernel_rfl) (by kernel_rfl) (by kernel_rfl) (by kernel_rfl))
    ⟨_, WideRow.started_initial, quiet _⟩
    (fun os started _ H enc _ => lifted os started H enc)
end Go.Proofs.YtogdcenkgndfaaaFmt.fnASTNodeTypeStringTable
