/-
  The law FnConsumeUntilClosedForm: its walk.
-/
import Derived.Test.YthipmjgibcnfiaaDoorCu
namespace Go.Proofs.YthipmjgibcnfiaaDoor
open Go.RowKit
set_option maxRecDepth 100000

theorem zzCu (B : Nat) (s : ByteArray) (p d : Nat) (e : Int) (w : World) (h : Hid (Lex B s p d w)) (hs : s.size ≤ 1000000) (hp : p ≤ s.size) (he0 : 0 ≤ e) (he1 : e ≤ 127) (he2 : e ≠ 92) :
    Calls Tryd.prog 19 #[.pointer (some ⟨B, 0, none⟩), .int .i32 e] w (CuPost B s p e w) := by
  have HE := Lib.hid he2; clear he2
  go_enter Tryd.func19, Tryd.ntmps19
  go_wp2_with fail
  refine (cu_any B s p d e _ h hs hp he0 he1 HE.out).mono ?_
  rintro x w1 hh
  rcases hh with ⟨⟨q, hF, hq, rfl, hL⟩ | ⟨hC, ⟨v, rfl⟩, hL⟩, hg⟩
  · have HF : Hid (CuPost B s p e w (.returned (.tuple #[.string (s.extract p q), .nilIface])) w1) := ⟨Or.inl ⟨q, hF, hq, rfl, hL⟩, hg⟩
    clear hF hL hg
    go_wp2_with fail
    go_ret2
    exact HF.out
  · have HF : Hid (CuPost B s p e w (.returned (.tuple #[.string ⟨#[]⟩, .iface 49 v])) w1) := ⟨Or.inr ⟨hC, ⟨v, rfl⟩, hL⟩, hg⟩
    clear hC hL hg
    go_wp2_with fail
    go_ret2
    exact HF.out

theorem below_step {B : Nat} {w w1 w' : World} (h : Below B w w1) (hi : B < w1.heap.size) (hg : w1.grownBy w' (some B)) : Below B w w' :=
  h.trans ⟨hg.os, hg.tape, hg.output, hg.size, fun i hi' => hg.block i (by omega) (by simp; omega)⟩

set_option maxHeartbeats 1600000 in
theorem cfWalk (s : ByteArray) (k en : Int) (w : World) (hT : Hid (Tabs w)) (lo : 2 ≤ w.heap.size) (hm : s.size ≤ maxLen) (_hen : (Lit.int .i32 en).wf = true) :
    Calls Tryd.prog 5 #[.string s, .int .i64 k, .int .i32 en] w fun e w' => e = .returned (.bool true) ∧ Below w.heap.size w w' := by
  unfold maxLen at hm
  by_cases h1 : 1048576 < s.size
  · have h1' : (1048576 : Int) < (s.size : Int) := by omega
    go_enter Tryd.func5, Tryd.ntmps5
    go_wp2_with (go_at_call 17; go_in)
    go_ret
    exact ⟨rfl, Below.refl _ _⟩
  by_cases h2 : 65536 < s.size
  · have h2' : (65536 : Int) < (s.size : Int) := by omega
    go_enter Tryd.func5, Tryd.ntmps5
    go_wp2_with (go_at_call 17; go_in)
    go_ret
    exact ⟨rfl, Below.refl _ _⟩
  have h2' : decide ((65536 : Int) < (s.size : Int)) = false := by simp; omega
  by_cases h3 : k < 0
  · go_enter Tryd.func5, Tryd.ntmps5
    go_wp2_with (go_at_call 17; go_in)
    go_ret
    exact ⟨rfl, Below.refl _ _⟩
  have h3' : decide (k < 0) = false := by simpa using h3
  by_cases h4 : (s.size : Int) + 1 < k
  · go_enter Tryd.func5, Tryd.ntmps5
    go_wp2_with (go_at_call 17; go_in)
    go_ret
    exact ⟨rfl, Below.refl _ _⟩
  obtain ⟨j, rfl⟩ : ∃ j : Nat, k = j := ⟨k.toNat, by omega⟩
  have h4' : decide ((s.size : Int) + 1 < (j : Int)) = false := by simpa using h4
  have hj : j ≤ s.size + 1 := by omega
  clear h3 h4
  by_cases e1 : en < 0
  · go_enter Tryd.func5, Tryd.ntmps5
    go_wp2_with (go_at_call 17; go_in)
    go_ret
    exact ⟨rfl, Below.refl _ _⟩
  have e1' : decide (en < 0) = false := by simpa using e1
  by_cases e2 : 127 < en
  · go_enter Tryd.func5, Tryd.ntmps5
    go_wp2_with (go_at_call 17; go_in)
    go_ret
    exact ⟨rfl, Below.refl _ _⟩
  have e2' : decide (127 < en) = false := by simpa using e2
  by_cases e3 : (en == 92) = true
  · go_enter Tryd.func5, Tryd.ntmps5
    go_wp2_with (go_at_call 17; go_in)
    go_ret
    exact ⟨rfl, Below.refl _ _⟩
  have e3' := eq_false_of_ne_true e3
  have E3 : Hid (en ≠ 92) := fun h => e3 (beqT h)
  obtain ⟨c, rfl⟩ : ∃ c : Nat, en = c := ⟨en.toNat, by omega⟩
  have hc : c ≤ 127 := by omega
  clear e1 e2 e3
  go_enter Tryd.func5, Tryd.ntmps5
  go_wp2_with (go_at_call 17; go_in)
  refine (after_any s j _ hT lo (by omega) (by omega)).mono ?_
  rintro e w1 ⟨rfl, hR⟩
  obtain ⟨p, d, hp, hL, hb⟩ := hR
  have c1 := hL.c1
  have hi := hL.hi
  have HL := Lib.hid hL; have HB := Lib.hid hb; clear hL hb
  generalize hB : w.heap.size = B at *
  have HBB := Lib.hid hB; clear hB
  go_wp2_with fail
  refine (zzPos B p _ c1).mono ?_
  rintro e w' ⟨rfl, rfl⟩
  go_wp2_with fail
  refine (fu_any s p c _ (by omega) hp).mono ?_
  rintro e w' hfu
  rcases hfu with ⟨⟨q, hF, rfl⟩ | ⟨hC, rfl⟩, rfl⟩
  · have hq := hF.1.2.1
    have hpq := hF.1.1
    have HF := Lib.hid hF; clear hF
    go_wp2_with fail
    refine (zzCu B s p d c _ HL (by omega) hp (by omega) (by omega) E3.out).mono ?_
    rintro x w2 hh
    rcases hh with ⟨⟨q', hF', _, rfl, hL⟩ | ⟨hC, _, _⟩, hg⟩
    · obtain rfl := HF.out.unique hF'
      have c12 : w2.cell? ⟨B, 1, none⟩ = some (.int .i64 ((q : Int) + 1)) := hL.c1
      have c22 : w2.cell? ⟨B, 2, none⟩ = some (.int .i64 1) := hL.c2
      have HB2 := Lib.hid (below_step HB.out hi hg)
      clear hF' hL hg
      have u1 : decide ((q : Int) < 0) = false := by simp
      have u2 : (0 : Int) ≤ (p : Int) := by omega
      have u3 : (p : Int) ≤ (q : Int) := by omega
      have u4 : (q : Int) ≤ (s.size : Int) := by omega
      go_wp2_with fail
      refine (zzPos B _ _ c12).mono ?_
      rintro e w' ⟨rfl, rfl⟩
      go_wp2_with fail
      refine (zzWidth B _ _ c22).mono ?_
      rintro e w' ⟨rfl, rfl⟩
      go_wp2_with fail
      go_ret
      exact ⟨rfl, by rw [HBB.out]; exact HB2.out⟩
    · exact absurd HF.out.1 (hC q hq)
  · have HC := Lib.hid hC; clear hC
    go_wp2_with fail
    refine (zzCu B s p d c _ HL (by omega) hp (by omega) (by omega) E3.out).mono ?_
    rintro x w2 hh
    rcases hh with ⟨⟨q', hF', hq', _⟩ | ⟨_, ⟨v, rfl⟩, hL⟩, hg⟩
    · exact absurd hF'.1 (HC.out q' hq')
    · have c12 : w2.cell? ⟨B, 1, none⟩ = some (.int .i64 (s.size : Int)) := hL.c1
      have c22 : w2.cell? ⟨B, 2, none⟩ = some (.int .i64 0) := hL.c2
      have HB2 := Lib.hid (below_step HB.out hi hg)
      clear hL hg
      go_wp2_with fail
      refine (zzPos B _ _ c12).mono ?_
      rintro e w' ⟨rfl, rfl⟩
      go_wp2_with fail
      refine (zzWidth B _ _ c22).mono ?_
      rintro e w' ⟨rfl, rfl⟩
      go_wp2_with fail
      go_ret
      exact ⟨rfl, by rw [HBB.out]; exact HB2.out⟩
end Go.Proofs.YthipmjgibcnfiaaDoor
