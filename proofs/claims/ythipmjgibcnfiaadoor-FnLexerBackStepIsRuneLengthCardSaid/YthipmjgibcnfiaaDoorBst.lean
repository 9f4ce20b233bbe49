/-
  The law FnLexerBackStepIsRuneLength: its walk.
-/
import Derived.Test.YthipmjgibcnfiaaDoorEw
namespace Go.Proofs.YthipmjgibcnfiaaDoor
open Go.RowKit
set_option maxRecDepth 100000

set_option maxHeartbeats 1600000 in
theorem bstWalk (s : ByteArray) (k : Int) (w : World) (hT : Hid (Tabs w)) (lo : 2 ≤ w.heap.size) (hm : s.size ≤ maxLen) :
    Calls Tryd.prog 3 #[.string s, .int .i64 k] w fun e w' => e = .returned (.bool true) ∧ Below w.heap.size w w' := by
  unfold maxLen at hm
  by_cases h1 : 1048576 < s.size
  · have h1' : (1048576 : Int) < (s.size : Int) := by omega
    go_enter Tryd.func3, Tryd.ntmps3
    go_wp2_with (go_at_call 9; go_in)
    go_ret
    exact ⟨rfl, Below.refl _ _⟩
  by_cases h2 : 65536 < s.size
  · have h2' : (65536 : Int) < (s.size : Int) := by omega
    go_enter Tryd.func3, Tryd.ntmps3
    go_wp2_with (go_at_call 9; go_in)
    go_ret
    exact ⟨rfl, Below.refl _ _⟩
  have h2' : decide ((65536 : Int) < (s.size : Int)) = false := by simp; omega
  by_cases h3 : k < 0
  · go_enter Tryd.func3, Tryd.ntmps3
    go_wp2_with (go_at_call 9; go_in)
    go_ret
    exact ⟨rfl, Below.refl _ _⟩
  have h3' : decide (k < 0) = false := by simpa using h3
  by_cases h4 : (s.size : Int) + 1 < k
  · go_enter Tryd.func3, Tryd.ntmps3
    go_wp2_with (go_at_call 9; go_in)
    go_ret
    exact ⟨rfl, Below.refl _ _⟩
  obtain ⟨j, rfl⟩ : ∃ j : Nat, k = j := ⟨k.toNat, by omega⟩
  have h4' : decide ((s.size : Int) + 1 < (j : Int)) = false := by simpa using h4
  have hj : j ≤ s.size + 1 := by omega
  clear h3 h4
  go_enter Tryd.func3, Tryd.ntmps3
  go_wp2_with (go_at_call 9; go_in)
  refine (after_any s j _ hT lo (by omega) (by omega)).mono ?_
  rintro e w1 ⟨rfl, hR⟩
  obtain ⟨p, d, hp, hL, hb⟩ := hR
  have c1 := hL.c1
  have HL := Lib.hid hL; have HB := Lib.hid hb; clear hL hb
  have hw := (wd_le s p).2 hp
  have hw4 := (wd_le s p).1
  generalize hB : w.heap.size = B at *
  have HBB := Lib.hid hB; clear hB
  go_wp2_with fail
  refine (zzPos B p _ c1).mono ?_
  rintro e w' ⟨rfl, rfl⟩
  go_wp2_with fail
  refine (zzNext B s p d _ HL (by omega)).mono ?_
  rintro e w2 ⟨rfl, hL, hg⟩
  have c12 := hL.c1; have c22 := hL.c2
  have HB2 := Lib.hid (HB.out.trans (show Below B _ _ from ⟨hg.os, hg.tape, hg.output, hg.size, fun i hi => hg.block i (Nat.lt_of_lt_of_le hi (Nat.le_of_lt HL.out.hi)) (by simp; omega)⟩))
  have HL2 := Lib.hid hL; clear hL hg
  go_wp2_with fail
  refine (zzPos B ((p + wd s p : Nat) : Int) _ c12).mono ?_
  rintro e w' ⟨rfl, rfl⟩
  go_wp2_with fail
  refine (zzBack B s _ _ _ HL2 (by omega) (by omega)).mono ?_
  rintro e w3 ⟨rfl, hL, hg⟩
  rw [Nat.add_sub_cancel] at hL
  have c13 := hL.c1; have c23 := hL.c2
  have HB3 := Lib.hid (HB2.out.trans (show Below B _ _ from ⟨hg.os, hg.tape, hg.output, hg.size, fun i hi => hg.block i (Nat.lt_of_lt_of_le hi (Nat.le_of_lt HL2.out.hi)) (by simp; omega)⟩))
  have HL3 := Lib.hid hL; clear hL hg
  go_wp2_with fail
  refine (zzPos B p _ c13).mono ?_
  rintro e w' ⟨rfl, rfl⟩
  go_wp2_with fail
  refine (ew_any s p _ (by omega) hp).mono ?_
  rintro e w' ⟨rfl, rfl⟩
  have u1 : (((p : Int) + (wd s p : Int) - (p : Int)) == (wd s p : Int)) = true := beqT (by omega)
  go_wp2_with fail
  go_ret
  exact ⟨rfl, by rw [HBB.out]; exact HB3.out⟩
end Go.Proofs.YthipmjgibcnfiaaDoor
