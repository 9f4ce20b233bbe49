/-
  The law FnLexerPeekCaseTable: its walk.
-/
import Derived.Test.YthipmjgibcnfiaaDoorEw
namespace Go.Proofs.YthipmjgibcnfiaaDoor
open Go.RowKit
set_option maxRecDepth 100000

set_option maxHeartbeats 1600000 in
theorem pctWalk (s : ByteArray) (k : Int) (w : World) (hT : Hid (Tabs w)) (lo : 2 ≤ w.heap.size) (hm : s.size ≤ maxLen) :
    Calls Tryd.prog 7 #[.string s, .int .i64 k] w fun e w' => e = .returned (.bool true) ∧ Below w.heap.size w w' := by
  unfold maxLen at hm
  by_cases h1 : 1048576 < s.size
  · have h1' : (1048576 : Int) < (s.size : Int) := by omega
    go_enter Tryd.func7, Tryd.ntmps7
    go_wp2_with (go_at_call 22; go_in)
    go_ret
    exact ⟨rfl, Below.refl _ _⟩
  by_cases h2 : 65536 < s.size
  · have h2' : (65536 : Int) < (s.size : Int) := by omega
    go_enter Tryd.func7, Tryd.ntmps7
    go_wp2_with (go_at_call 22; go_in)
    go_ret
    exact ⟨rfl, Below.refl _ _⟩
  have h2' : decide ((65536 : Int) < (s.size : Int)) = false := by simp; omega
  by_cases h3 : k < 0
  · go_enter Tryd.func7, Tryd.ntmps7
    go_wp2_with (go_at_call 22; go_in)
    go_ret
    exact ⟨rfl, Below.refl _ _⟩
  have h3' : decide (k < 0) = false := by simpa using h3
  by_cases h4 : (s.size : Int) + 1 < k
  · go_enter Tryd.func7, Tryd.ntmps7
    go_wp2_with (go_at_call 22; go_in)
    go_ret
    exact ⟨rfl, Below.refl _ _⟩
  obtain ⟨j, rfl⟩ : ∃ j : Nat, k = j := ⟨k.toNat, by omega⟩
  have h4' : decide ((s.size : Int) + 1 < (j : Int)) = false := by simpa using h4
  have hj : j ≤ s.size + 1 := by omega
  clear h3 h4
  go_enter Tryd.func7, Tryd.ntmps7
  go_wp2_with (go_at_call 22; go_in)
  refine (after_any s j _ hT lo (by omega) (by omega)).mono ?_
  rintro e w1 ⟨rfl, hR⟩
  obtain ⟨p, d, hp, hL, hb⟩ := hR
  have c1 := hL.c1
  have HL := Lib.hid hL; have HB := Lib.hid hb; clear hL hb
  have hw := (wd_le s p).2 hp
  have hw4 := (wd_le s p).1
  generalize hB : w.heap.size = B at *
  have HBB := Lib.hid hB; clear hB
  go_wp2_with fail
  refine (zzPos B p _ c1).mono ?_
  rintro e w' ⟨rfl, rfl⟩
  go_wp2_with fail
  refine (zzPeek B s p d _ HL (by omega) hp).mono ?_
  rintro e w2 ⟨rfl, hL, hg⟩
  have c12 := hL.c1; have c22 := hL.c2
  have HB2 := Lib.hid (HB.out.trans (show Below B _ _ from ⟨hg.os, hg.tape, hg.output, hg.size, fun i hi => hg.block i (Nat.lt_of_lt_of_le hi (Nat.le_of_lt HL.out.hi)) (by simp; omega)⟩))
  have HL2 := Lib.hid hL; clear hL hg
  go_wp2_with fail
  refine (zzPos B p _ c12).mono ?_
  rintro e w' ⟨rfl, rfl⟩
  go_wp2_with fail
  refine (zzWidth B (wd s p) _ c22).mono ?_
  rintro e w' ⟨rfl, rfl⟩
  by_cases hlt : p < s.size
  · have v3 : decide ((s.size : Int) ≤ (p : Int)) = false := by simp; omega
    have v4 : (0 : Int) ≤ (p : Int) := by omega
    have v5 : (p : Int) < (s.size : Int) := by omega
    by_cases hb : (s.get! p).toNat < 128
    · obtain ⟨er, ed⟩ := rn_ascii s p hlt hb
      rw [← get_eq s p hlt] at er hb
      have v6 : decide (((s[p]'hlt).toNat : Int) < 128) = true := by simp; omega
      have v7 : (rn s p == ((s[p]'hlt).toNat : Int)) = true := beqT er
      have v8 : ((wd s p : Int) == 1) = true := beqT (by omega)
      clear er ed
      go_wp2_with fail
      go_ret
      exact ⟨rfl, by rw [HBB.out]; exact HB2.out⟩
    · obtain ⟨e1, e2, e3, e4, _⟩ := rn_high s p hlt hb
      rw [← get_eq s p hlt] at hb
      have v6 : decide (((s[p]'hlt).toNat : Int) < 128) = false := by simp; omega
      have v7 : decide (128 ≤ rn s p) = true := by simp; omega
      have v8 : decide (rn s p ≤ 1114111) = true := by simp; omega
      have v9 : decide ((1 : Int) ≤ (wd s p : Int)) = true := by simp; omega
      have v10 : decide ((wd s p : Int) ≤ 4) = true := by simp; omega
      go_wp2_with fail
      go_ret
      exact ⟨rfl, by rw [HBB.out]; exact HB2.out⟩
  · have v3 : decide ((s.size : Int) ≤ (p : Int)) = true := by simp; omega
    have v4 : (rn s p == -1) = true := beqT (rn_end s p (by omega))
    have v5 : ((wd s p : Int) == 0) = true := beqT (by rw [wd_end s p (by omega)]; rfl)
    go_wp2_with fail
    go_ret
    exact ⟨rfl, by rw [HBB.out]; exact HB2.out⟩
end Go.Proofs.YthipmjgibcnfiaaDoor
