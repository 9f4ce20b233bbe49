/-
  The shims of the number laws.
-/
import Derived.Test.YtdbnffjidnfhdaaDoorRun
namespace Go.Proofs.YtdbnffjidnfhdaaDoor
open Go.RowKit
set_option maxRecDepth 100000

theorem Lex.new {w : World} {s : ByteArray} {p d : Nat} {x3 x4 x5 : Value} {t : TypeId} (hT : Tabs w) (lo : 3 ≤ w.heap.size) : Lex w.heap.size s p d (w.alloc (.cells #[.string s, .int .i64 p, .int .i64 d, x3, x4, x5] t)) := by
  have hb : Below w.heap.size w (w.alloc (.cells #[.string s, .int .i64 p, .int .i64 d, x3, x4, x5] t)) := (Below.refl _ w).alloc (Nat.le_refl _) _
  refine ⟨by go_simp, by go_simp, by go_simp, by go_simp, by go_simp, lo, by simp, hT.alike fun b _ h2 => hb.cell (show b < w.heap.size by omega)⟩
theorem below_step {B : Nat} {w w1 w' : World} (h : Below B w w1) (hi : B < w1.heap.size) (hg : w1.grownBy w' (some B)) : Below B w w' :=
  h.trans ⟨hg.os, hg.tape, hg.output, hg.size, fun i hi' => hg.block i (by omega) (by simp; omega)⟩

theorem newLex15 (s : ByteArray) (p d : Nat) (w : World) (hT : Hid (Tabs w)) (lo : 3 ≤ w.heap.size) :
    Calls Tryd.prog 11 #[.string s, .int .i64 p, .int .i64 d] w fun e w' => e = .returned (.pointer (some ⟨w.heap.size, 0, none⟩)) ∧ Lex w.heap.size s p d w' ∧ Below w.heap.size w w' := by
  go_enter Tryd.func11, Tryd.ntmps11
  go_wp2
  go_ret
  exact ⟨rfl, Lex.new hT.out lo, (Below.refl _ w).alloc (Nat.le_refl _) _⟩
theorem pos15 (B : Nat) (p : Int) (w : World) (h : w.cell? ⟨B, 1, none⟩ = some (.int .i64 p)) :
    Calls Tryd.prog 13 #[.pointer (some ⟨B, 0, none⟩)] w fun e w' => e = .returned (.int .i64 p) ∧ w = w' := by
  go_enter Tryd.func13, Tryd.ntmps13
  go_wp2
  go_ret
  exact ⟨rfl, rfl⟩
/-- A '-' or an ASCII digit. -/
def nsB (c : Int) : Bool := decide (c = 45 ∨ (48 ≤ c ∧ c ≤ 57))
theorem ns_any (c : Int) (w : World) : Calls Tryd.prog 10 #[.int .u8 c] w fun e w' => e = .returned (.bool (nsB c)) ∧ w = w' := by
  by_cases h1 : c = 45
  · have t : nsB c = true := by unfold nsB; simp [h1]
    have h1' : (c == 45) = true := beqT h1
    have T := Lib.hid t; clear t h1
    go_enter Tryd.func10, Tryd.ntmps10
    go_wp2
    go_ret
    exact ⟨by rw [T.out]; rfl, rfl⟩
  have h1' : (c == 45) = false := beqF h1
  by_cases h2 : 48 ≤ c
  · by_cases h3 : c ≤ 57
    · have t : nsB c = true := by unfold nsB; simp [h1, h2, h3]
      have h2' : decide (48 ≤ c) = true := by simpa using h2
      have h3' : decide (c ≤ 57) = true := by simpa using h3
      have T := Lib.hid t; clear t h1
      go_enter Tryd.func10, Tryd.ntmps10
      go_wp2
      go_ret
      exact ⟨by rw [T.out]; rfl, rfl⟩
    · have t : nsB c = false := by unfold nsB; simp [h1, h3]
      have h2' : decide (48 ≤ c) = true := by simpa using h2
      have h3' : decide (c ≤ 57) = false := by simpa using h3
      have T := Lib.hid t; clear t h1
      go_enter Tryd.func10, Tryd.ntmps10
      go_wp2
      go_ret
      exact ⟨by rw [T.out]; rfl, rfl⟩
  · have t : nsB c = false := by unfold nsB; simp [h1, h2]
    have h2' : decide (48 ≤ c) = false := by simpa using h2
    have T := Lib.hid t; clear t h1
    go_enter Tryd.func10, Tryd.ntmps10
    go_wp2
    go_ret
    exact ⟨by rw [T.out]; rfl, rfl⟩

set_option maxHeartbeats 800000 in
theorem zzNum (B : Nat) (s : ByteArray) (p d q : Nat) (w : World) (h : Hid (Lex B s p d w)) (hd : d ≤ p) (hs : s.size ≤ 10000000) (hp : p ≤ s.size) (hR : Hid (RunEnd isDig s p q)) :
    Calls Tryd.prog 12 #[.pointer (some ⟨B, 0, none⟩)] w fun e w' => e = .returned (.tuple #[.int .i64 13, .string (s.extract (p - d) q), .int .i64 ((p : Int) - d), .int .i64 ((q : Int) - ((p : Int) - d))]) ∧ Lex B s q (wd s q) w' ∧ w.grownBy w' (some B) := by
  have hi := h.out.hi
  go_enter Tryd.func12, Tryd.ntmps12
  go_wp2_with fail
  refine (num_any B s p d q _ h hd hs hp hR).mono ?_
  rintro x w1 ⟨rfl, hL, hg⟩
  have hz := hg.size
  have hi1 := hL.hi
  have HL := Lib.hid hL; have HG := Lib.hid hg; clear hL hg
  go_wp2_with fail
  go_quiet (fail)
  go_wp2_with fail
  refine bodyPost_ret (v := .tuple #[.int .i64 13, .string (s.extract (p - d) q), .int .i64 ((p : Int) - d), .int .i64 ((q : Int) - ((p : Int) - d))]) (by simp [results, Tryd.results12, go_sem]) rfl ⟨rfl, ?_, ?_⟩
  · exact (HL.out.alloc _).drewN _
  · exact grown_drewN (grown_then HG.out ((Below.refl _ _).alloc hz _)) _
end Go.Proofs.YtdbnffjidnfhdaaDoor
