/-
  The law FnLBracketCursorAfterToken: its walk.
-/
import Derived.Test.YtogdcenkgndfaaaDoorZz
namespace Go.Proofs.YtogdcenkgndfaaaDoor
open Go.RowKit
set_option maxRecDepth 100000

theorem lbEnd_bd (s : ByteArray) (p : Nat) (hp : p ≤ s.size) : (lbEnd s p : Int) = p - 1 + lbLen s p ∧ p ≤ lbEnd s p ∧ lbEnd s p ≤ s.size ∧ 1 ≤ lbLen s p ∧ lbLen s p ≤ 2 := by
  unfold lbEnd lbLen
  have hw := (wd_le s p).2 hp
  by_cases h1 : rn s p = 63
  · obtain ⟨a, b⟩ := (rn_is s p 63 (by omega)).1 h1
    have := (rn_ascii s p a (by omega)).2
    rw [if_pos h1, if_pos h1]; omega
  by_cases h2 : rn s p = 93
  · obtain ⟨a, b⟩ := (rn_is s p 93 (by omega)).1 h2
    have := (rn_ascii s p a (by omega)).2
    rw [if_neg h1, if_neg h1, if_pos h2, if_pos h2]; omega
  · rw [if_neg h1, if_neg h1, if_neg h2, if_neg h2]; omega

set_option maxHeartbeats 800000 in
theorem curWalk (s : ByteArray) (pos : Int) (w : World) (hT : Hid (Tabs w)) (lo : 2 ≤ w.heap.size) (hm : s.size ≤ maxLen) :
    Calls Tryd.prog 3 #[.string s, .int .i64 pos] w fun e w' => e = .returned (.bool true) ∧ Below w.heap.size w w' := by
  unfold maxLen at hm
  by_cases h1 : 1048576 < s.size
  · have h1' : (1048576 : Int) < (s.size : Int) := by omega
    go_enter Tryd.func3, Tryd.ntmps3
    go_wp2_with (go_at_call 7; go_in)
    go_ret
    exact ⟨rfl, Below.refl _ _⟩
  by_cases h2 : pos < 1
  · go_enter Tryd.func3, Tryd.ntmps3
    go_wp2_with (go_at_call 7; go_in)
    go_ret
    exact ⟨rfl, Below.refl _ _⟩
  have h2' : decide (pos < 1) = false := by simpa using h2
  by_cases h3 : (s.size : Int) < pos
  · go_enter Tryd.func3, Tryd.ntmps3
    go_wp2_with (go_at_call 7; go_in)
    go_ret
    exact ⟨rfl, Below.refl _ _⟩
  obtain ⟨q, rfl⟩ : ∃ q : Nat, pos = q := ⟨pos.toNat, by omega⟩
  have h3' : decide ((s.size : Int) < (q : Int)) = false := by simpa using h3
  have hq : q - 1 < s.size := by omega
  have b1 : (0 : Int) ≤ (q : Int) - 1 := by omega
  have b2 : (q : Int) - 1 < (s.size : Int) := by omega
  have b3 : 1 ≤ q := by omega
  by_cases h4 : (((s[q - 1]'hq).toNat : Int) != 91) = true
  · go_enter Tryd.func3, Tryd.ntmps3
    go_wp2_with (go_at_call 7; go_in)
    go_ret
    exact ⟨rfl, Below.refl _ _⟩
  have h4' := eq_false_of_ne_true h4
  clear h4 h2 h3
  obtain ⟨e1, e2, e3, e4, e5⟩ := lbEnd_bd s q (by omega)
  have E1 := Lib.hid e1; clear e1
  have t1 : ((lbEnd s q : Int) != (q : Int) - 1 + lbLen s q) = false := by rw [E1.out]; simp
  have t2 : decide ((q : Int) ≤ (lbEnd s q : Int)) = true := by simp; omega
  have t3 : decide ((lbEnd s q : Int) ≤ (s.size : Int)) = true := by simp; omega
  go_enter Tryd.func3, Tryd.ntmps3
  go_wp2_with (go_at_call 7; go_in)
  refine (zzLbr s q 1 _ hT lo b3 (by omega) (by omega)).mono ?_
  rintro e w1 ⟨rfl, hb⟩
  have HB := Lib.hid hb; clear hb
  go_wp2_with fail
  go_ret
  exact ⟨rfl, HB.out⟩
end Go.Proofs.YtogdcenkgndfaaaDoor
