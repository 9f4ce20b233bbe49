/-
  'zzSpaces' gives n blanks.
-/
import Derived.Test.YtdbnffjidnfhdaaDoorNum
import Derived.Laws.BytesArg
import Derived.Laws.MakeOwn
namespace Go.Proofs.YtdbnffjidnfhdaaDoor
open Go.RowKit
set_option maxRecDepth 100000

/-- n blanks. -/
def spc (n : Nat) : ByteArray := strOfNums (List.replicate n 32)
theorem spc_size (n : Nat) : (spc n).size = n := by simp [spc, strOfNums_size]

/-- Block g holds n bytes: the first j are blanks, the others 0. -/
structure Blanks (g n j : Nat) (w : World) : Prop where
  cell : ∀ k, k < n → w.cell? ⟨g, k, none⟩ = some (.int .u8 (if k < j then 32 else 0))
  free : ∀ k, w.frozen? ⟨g, k, none⟩ = false
  lt : g < w.heap.size
theorem blanks_new (w : World) (n : Nat) (t : TypeId) : Blanks w.heap.size n 0 (w.alloc (.cells (madeCells #[.int .u8 0] n) t)) := by
  refine ⟨fun k hk => ?_, fun k => by go_simp, by simp⟩
  go_simp
  simp [madeCells, hk, Nat.mod_one]
theorem blanks_set {g n j : Nat} {w : World} (h : Blanks g n j w) (hj : j < n) : Blanks g n (j + 1) (w.setCell ⟨g, j, none⟩ (.int .u8 32)) := by
  refine ⟨fun k hk => ?_, fun k => by have := h.free k; go_simp, by have := h.lt; simpa using this⟩
  by_cases e : k = j
  · subst e
    have := h.cell k hk
    rw [if_pos (by omega)]
    clear h
    go_simp
  · have := h.cell k hk
    have e' : (⟨g, j, none⟩ : Addr) ≠ ⟨g, k, none⟩ := fun h => e (by injection h with _ h2; exact h2.symm)
    rw [World.cell?_setCell_other w _ _ _ e', this]
    by_cases h2 : k < j
    · rw [if_pos h2, if_pos (by omega)]
    · rw [if_neg h2, if_neg (by omega)]

theorem infoByte : (Tryd.prog.info? 5).map (fun i => (i.zero, i.size, i.bytes)) = some (some (.int .u8 0), 1, 1) := by kernel_rfl
set_option maxHeartbeats 800000 in
theorem sp_any (n : Nat) (w : World) (hn : n ≤ 65536) :
    Calls Tryd.prog 17 #[.int .i64 n] w fun e w' => e = .returned (.string (spc n)) ∧ Below w.heap.size w w' := by
  obtain ⟨i0, hi, hz0, hz1, hz2⟩ := info_parts infoByte
  have hmk : ∀ W : World, (Instr.makeSlice 34 (.int .i64 (n : Int)) (.int .i64 (n : Int))).run Tryd.prog W = .ok (.slice (some ⟨W.heap.size, 0, none⟩) n n) (W.alloc (.cells (madeCells #[.int .u8 0] n) 5)) := fun W => by
    have := run_make (P := Tryd.prog) W 34 5 i0 (.int .u8 0) Tryd.underlying34 hi hz0 .i64 .i64 n n (by omega) (by omega) (by rw [hz2]; omega) (by omega)
    rw [hz1] at this
    simpa [Value.cells] using this
  clear hi hz0 hz1 hz2
  have hB0 := Lib.hid (fun t => blanks_new w n t)
  go_enter Tryd.func17, Tryd.ntmps17
  go_wp2
  clear hmk
  go_loopw [4] (fun i wr => ∃ j : Nat, j ≤ n ∧ i = .int .i64 j ∧ Blanks w.heap.size n j wr ∧ Below w.heap.size w wr) (fun i _ => n - (intOf i).toNat)
  case atStart => exact ⟨0, Nat.zero_le _, rfl, hB0.out _, (Below.refl _ w).alloc (Nat.le_refl _) _⟩
  case round =>
    obtain ⟨j, hj, rfl, hS, hb⟩ := hrel
    have HS := Lib.hid hS; have HB := Lib.hid hb; clear hS hb hB0
    by_cases hlt : j < n
    · have t0 : decide ((j : Int) < (n : Int)) = true := by simp; omega
      have t1 : (0 : Int) ≤ (j : Int) := by omega
      have t2 : (j : Int) < (n : Int) := by omega
      have c := HS.out.cell j hlt
      have fz := HS.out.free j
      rw [if_neg (by omega)] at c
      go_wp2
      go_roundw
      case rel => exact ⟨j + 1, by omega, by go_num, blanks_set HS.out hlt, HB.out.setCell (Nat.le_refl _) _⟩
      case measure => simp [intOf]; omega
    · have t0 : decide ((j : Int) < (n : Int)) = false := by simp; omega
      have hcv : (convert 34 9 (.slice (some ⟨w.heap.size, 0, none⟩) n n)).run Tryd.prog wr = .ok (.string (spc n)) wr :=
        run_convert_bytes_arg wr 34 5 Tryd.underlying34 Tryd.underlying5 w.heap.size 0 n n (List.replicate n 32) (by simp) (fun i hi => by
          rw [Nat.zero_add, HS.out.cell i hi, if_pos (by omega)]; simp [hi]) 9 Tryd.underlying9
      go_wp2
      go_ret
      exact ⟨rfl, HB.out⟩
end Go.Proofs.YtdbnffjidnfhdaaDoor
