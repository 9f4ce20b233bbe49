/-
  The law FnTokTypeStringTable returns true at every input: its row, and the told and tied card round it. Conditions: those of the row (the index table starts as its initialiser lays it, which the card ties to the program's text); fmt's text is told by the authors' function, though no input of the law comes to it.
-/
import Derived.Test.YtogdcenkgndfaaaFmtLaws
import Derived.Test.YtogdcenkgndfaaaFmtCards
import Derived.Test.YtogdcenkgndfaaaFmtTie
import Derived.ProofKit
import Derived.OpenShut
import Derived.OpenVars
import Derived.Lib.LaidTab
import Derived.Deep.DeepHandedRow
import Derived.Stop.JoinedTold
import Derived.SevenTiedAt
namespace Go.Proofs.YtogdcenkgndfaaaFmt.fnTokTypeStringTable
open Go.ChangeShapes Go.WideShapes Go.ChangeAt Go.RowKit
open Go.Extern.Stop Go.Stop Go.Extern
set_option maxRecDepth 100000

theorem own : ownKnob Tryf.prog.godebug = none := by kernel_rfl
theorem laidOut : laidOutB Tryf.pinned.checked.prog = true := by kernel_rfl
theorem stops : Tryf.pinned.checked.prog.stops = ["fmt.Sprintf, its operands' methods called"] := by kernel_rfl
theorem stopKnobs : Tryf.pinned.checked.prog.stopKnobs = [] := by kernel_rfl
theorem quiet (os : Os) : Stop.quiet Tryf.pinned.checked.prog os := by
  intro k hk
  rw [stopKnobs] at hk
  cases hk
theorem gTab : Tryf.prog.globalNamed "github.com/jmespath/go-jmespath._tokType_index" = some 1 := by kernel_rfl
theorem gTabType : (Tryf.prog.globals[1]?).map (·.type) = some 32 := by kernel_rfl
theorem cellsTy : Tryf.prog.cellsOf 32 = 32 := by kernel_rfl
theorem cellsEl : Tryf.prog.cellsOf 5 = 1 := by kernel_rfl
theorem rowed : varsRowed Tryf.prog Rows.fnTokTypeStringTableSpec.vars = true := by kernel_rfl

/-- What the row's list gives: the table's cells hold its numbers. -/
theorem table {W : World} (h : laidMetH Tryf.prog Rows.fnTokTypeStringTableRow.laid W) : Lib.TabIs Tryf.prog W "github.com/jmespath/go-jmespath._tokType_index" .u8 [0, 8, 13, 17, 24, 32, 39, 46, 55, 64, 71, 78, 81, 86, 93, 112, 129, 135, 141, 144, 148, 151, 155, 158, 161, 173, 187, 195, 202, 206, 210, 214] :=
  Lib.tabIs_of_head (rest := []) gTab gTabType Tryf.underlying32 Tryf.underlying5 cellsEl cellsTy h
theorem cells {W : World} (h : laidMetH Tryf.prog Rows.fnTokTypeStringTableRow.laid W) : tokCells W := by
  intro k hk
  have ht := table h
  unfold Lib.TabIs at ht
  have hv := World.var?_cell gTab ht k
  have e : W.cell? ⟨1, k, none⟩ = (([0, 8, 13, 17, 24, 32, 39, 46, 55, 64, 71, 78, 81, 86, 93, 112, 129, 135, 141, 144, 148, 151, 155, 158, 161, 173, 187, 195, 202, 206, 210, 214] : List Int).map (fun z => Value.int .u8 z))[k]? := by simpa using hv
  rw [e]
  have all : ∀ k, k < 32 → ([0, 8, 13, 17, 24, 32, 39, 46, 55, 64, 71, 78, 81, 86, 93, 112, 129, 135, 141, 144, 148, 151, 155, 158, 161, 173, 187, 195, 202, 206, 210, 214] : List Int)[k]? = some (((tokIx.getD k 0 : Nat)) : Int) := by decide
  rw [List.getElem?_map, all k hk]
  rfl

/-- A world for the witness: the settled one, the table holding what its initialiser lays. -/
noncomputable def laidWorld (os : Os) : World :=
  { World.holding Tryf.prog os ⟨#[], #[], []⟩ with heap := (World.holding Tryf.prog os ⟨#[], #[], []⟩).heap.modify 1 fun
      | .cells _ t frozen => .cells #[.int .u8 0, .int .u8 8, .int .u8 13, .int .u8 17, .int .u8 24, .int .u8 32, .int .u8 39, .int .u8 46, .int .u8 55, .int .u8 64, .int .u8 71, .int .u8 78, .int .u8 81, .int .u8 86, .int .u8 93, .int .u8 112, .int .u8 129, .int .u8 135, .int .u8 141, .int .u8 144, .int .u8 148, .int .u8 151, .int .u8 155, .int .u8 158, .int .u8 161, .int .u8 173, .int .u8 187, .int .u8 195, .int .u8 202, .int .u8 206, .int .u8 210, .int .u8 214] t frozen
      | o => o }
theorem laid_met (os : Os) : laidMet Tryf.prog Rows.fnTokTypeStringTableRow.laid ((laidWorld os).forCall (fun _ _ => 0) ⟨#[], #[.int .i64 0], []⟩).memory :=
  laidMet_of_run' 8 (by kernel_rfl) (by kernel_rfl)

theorem lifted (os : Os) (started : os.Started) (H : Type) (enc : TypeId × Value → H) :
    ReturnsInTold none {} Tryf.checked os 4 .any Input.okWide ((OpenSpec.ofChange Rows.fnTokTypeStringTableSpec).preRow enc Tryf.prog Tryf.f4 [] false Rows.fnTokTypeStringTableRow.laid) (fun F => ((OpenSpec.ofChange Rows.fnTokTypeStringTableSpec).at F).post enc Tryf.prog Tryf.f4 false true false false) (aloneAtReturn Tryf.prog) nothingAlways := by
  refine returnsInTold_of_row (C := Tryf.checked) (s := OpenSpec.ofChange Rows.fnTokTypeStringTableSpec) (by kernel_rfl) own started (by kernel_rfl) Tryf.func4
    (OpenSpec.witness_stopped_at (enc := enc) (C := Tryf.checked) false (laidWorld os) #[.int .i64 0] rfl (by kernel_rfl) (by kernel_rfl) (by kernel_rfl)
      (OpenSpec.preRow_of_B rfl 8 (by kernel_rfl) (by kernel_rfl) (laid_met os))) ?_
  intro F W base args ds gs before _ _ hval0 hW _ _ _ hL _
  have hval : ∀ (j : Nat) t v, Tryf.f4.params[j]? = some t → args[j]? = some v → Value.okWide Tryf.prog W .any base t v := hval0
  have hW' := hW
  obtain ⟨p, q, hA0, hV0, rfl, hfz, hnd⟩ := hW
  have hA : DataW.TrodAll enc Tryf.prog W 0 (fun _ => true) true Tryf.f4.params.toList args.toList ds p := hA0
  have hV : DataW.TrodVars enc Tryf.prog W (fun _ => true) Rows.fnTokTypeStringTableSpec.vars gs q := hV0
  rw [Tryf.params4] at hA hval
  obtain ⟨v0, vs0, d0, ds0, p0, q0, hargs, rfl, rfl, h0, r0⟩ := trodAll_cons hA
  obtain ⟨rfl, rfl, rfl⟩ := trodAll_nil r0
  obtain rfl : args = #[v0] := by cases args; simp_all
  obtain ⟨x0, rfl, rfl, rfl, wx0⟩ := open_int Tryf.underlying3 (hval 0 3 v0 rfl rfl) h0
  clear hA0 hV0 hval0
  obtain ⟨g1, rfl⟩ : ∃ g1, gs = [g1] := by
    match gs, hV with
    | [g1], _ => exact ⟨g1, rfl⟩
    | [], h => exact h.elim
    | _ :: _ :: _, h =>
      obtain ⟨_, _, _, _, _, _, _, _, _, _, hs, _⟩ := h
      exact hs.elim
  refine (tokTable x0 W (cells hL)).mono fun e W' ⟨he, n, hw⟩ => ?_
  subst he
  subst hw
  have hB : Below W.heap.size W (W.drewN n) := ⟨rfl, rfl, rfl, Nat.le_refl _, fun _ _ => rfl⟩
  refine ⟨_, rfl, _, _, _, [], [], q, hW', trodAll_cons_mk (shut_bool Tryf.underlying4 _) trodAll_mk0, trodAll_cons_mk (shut_int Tryf.underlying3 wx0) (trodAll_mk0), Below.trodVars laidOut hB rowed hV, hB.frame _, fun h => by cases h⟩

theorem card : Rows.FnTokTypeStringTableToldSaid :=
  Claim7.holds_of_told_tied_any_at .later 4 Tryf.f4 "fmt.Sprintf, its operands' methods called" [] [] _ _ _ _ _ (by kernel_rfl) rfl rfl rfl laidOut (by kernel_rfl) rfl ⟨rfl, rfl, rfl, rfl, rfl, rfl, rfl⟩ rfl rfl (by kernel_rfl) (by kernel_rfl) Tryf.func4 (by kernel_rfl)
    (of_decide_eq_true (by kernel_rfl)) (by unfold Func.isWrapper; first | (rw [if_pos (by decide +kernel)]; kernel_rfl) | (rw [if_neg (by decide +kernel)]; exact ⟨rfl, rfl⟩)) stops.symm rfl stopKnobs.symm (by kernel_rfl)
    (by kernel_rfl) (by kernel_rfl) (by kernel_rfl) (by kernel_rfl) (by kernel_rfl) (by kernel_rfl) (by kernel_rfl) (by kernel_rfl) (by kernel_rfl) rfl (by kernel_rfl) rfl rfl
    rfl rfl
    rfl (by kernel_rfl) (by kernel_rfl) (by kernel_rfl) (by decide) (by kernel_rfl) fnTokTypeStringTable_row_tie
    (OpenClaim.moreEntering_of (by kernel_rfl) (by kernel_rfl) (by kernel_rfl) (by kernel_rfl) (by kernel_rfl) (by kernel_rfl) (by kernel_rfl) (by kernel_rfl) (by kernel_rfl) (by kernel_rfl))
    ⟨_, WideRow.started_initial, quiet _⟩
    (fun os started _ H enc _ => lifted os started H enc)
end Go.Proofs.YtogdcenkgndfaaaFmt.fnTokTypeStringTable
