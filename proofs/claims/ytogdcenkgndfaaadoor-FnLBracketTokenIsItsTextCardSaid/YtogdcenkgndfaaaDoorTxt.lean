/-
  The law FnLBracketTokenIsItsText: its walk.
-/
import Derived.Test.YtogdcenkgndfaaaDoorZz3
namespace Go.Proofs.YtogdcenkgndfaaaDoor
open Go.RowKit
set_option maxRecDepth 100000

set_option maxHeartbeats 1600000 in
theorem txtWalk (s : ByteArray) (pos : Int) (w : World) (hT : Hid (Tabs w)) (lo : 2 ≤ w.heap.size) (hm : s.size ≤ maxLen) :
    Calls Tryd.prog 4 #[.string s, .int .i64 pos] w fun e w' => e = .returned (.bool true) ∧ Below w.heap.size w w' := by
  unfold maxLen at hm
  by_cases h1 : 1048576 < s.size
  · have h1' : (1048576 : Int) < (s.size : Int) := by omega
    go_enter Tryd.func4, Tryd.ntmps4
    go_wp2_with (go_at_call 9; go_in)
    go_ret
    exact ⟨rfl, Below.refl _ _⟩
  by_cases h2 : pos < 1
  · go_enter Tryd.func4, Tryd.ntmps4
    go_wp2_with (go_at_call 9; go_in)
    go_ret
    exact ⟨rfl, Below.refl _ _⟩
  have h2' : decide (pos < 1) = false := by simpa using h2
  by_cases h3 : (s.size : Int) < pos
  · go_enter Tryd.func4, Tryd.ntmps4
    go_wp2_with (go_at_call 9; go_in)
    go_ret
    exact ⟨rfl, Below.refl _ _⟩
  obtain ⟨q, rfl⟩ : ∃ q : Nat, pos = q := ⟨pos.toNat, by omega⟩
  have h3' : decide ((s.size : Int) < (q : Int)) = false := by simpa using h3
  have hq : q - 1 < s.size := by omega
  have b1 : (0 : Int) ≤ (q : Int) - 1 := by omega
  have b2 : (q : Int) - 1 < (s.size : Int) := by omega
  have b3 : 1 ≤ q := by omega
  by_cases h4 : (((s[q - 1]'hq).toNat : Int) != 91) = true
  · go_enter Tryd.func4, Tryd.ntmps4
    go_wp2_with (go_at_call 9; go_in)
    go_ret
    exact ⟨rfl, Below.refl _ _⟩
  have h4' := eq_false_of_ne_true h4
  have hg : s.get! (q - 1) = 91 := by
    have : (s[q - 1]'hq).toNat = 91 := by have h := h4'; rw [bne_eq_false_iff_eq] at h; omega
    rw [← get_eq s _ hq]; exact UInt8.toNat_inj.1 this
  have HG := Lib.hid hg
  clear h4 h2 h3 hg
  by_cases c1 : q < s.size ∧ ((s.get! q).toNat = 63 ∨ (s.get! q).toNat = 93)
  · obtain ⟨hlt, h5 | h5⟩ := c1
    · have t1 : ((s.extract (q - 1) (q - 1 + 2)).toList == [91, 63]) = true := by
        rw [cut_two s (q - 1) 91 63 (by omega) HG.out (by rw [show q - 1 + 1 = q from by omega]; exact UInt8.toNat_inj.1 h5)]; rfl
      have H5 := Lib.hid h5; clear h5
      go_enter Tryd.func4, Tryd.ntmps4
      go_wp2_with (go_at_call 9; go_in)
      refine (zzLbr63 s q _ hT lo b3 (by omega) hlt H5.out).mono ?_
      rintro e w1 ⟨rfl, hb⟩
      have HB := Lib.hid hb; clear hb
      go_wp2_with fail
      go_ret
      exact ⟨rfl, HB.out⟩
    · have t1 : ((s.extract (q - 1) (q - 1 + 2)).toList == [91, 93]) = true := by
        rw [cut_two s (q - 1) 91 93 (by omega) HG.out (by rw [show q - 1 + 1 = q from by omega]; exact UInt8.toNat_inj.1 h5)]; rfl
      have H5 := Lib.hid h5; clear h5
      go_enter Tryd.func4, Tryd.ntmps4
      go_wp2_with (go_at_call 9; go_in)
      refine (zzLbr93 s q _ hT lo b3 (by omega) hlt H5.out).mono ?_
      rintro e w1 ⟨rfl, hb⟩
      have HB := Lib.hid hb; clear hb
      go_wp2_with fail
      go_ret
      exact ⟨rfl, HB.out⟩
  · have t1 : ((s.extract (q - 1) (q - 1 + 1)).toList == [91]) = true := by
      rw [cut_one s (q - 1) 91 (by omega) HG.out]; rfl
    have t2 : ((s.extract (q - 1) q).toList == [91]) = true := by
      rw [← t1, show q - 1 + 1 = q from by omega]
    clear t1
    have hqs : q ≤ s.size := by omega
    by_cases hlt : q < s.size
    · have u1 : (((s[q]'hlt).toNat : Int) == 63) = false := by
        rw [get_eq s q hlt]; exact beq_eq_false_iff_ne.2 (fun h => c1 ⟨hlt, Or.inl (by omega)⟩)
      have u2 : (((s[q]'hlt).toNat : Int) == 93) = false := by
        rw [get_eq s q hlt]; exact beq_eq_false_iff_ne.2 (fun h => c1 ⟨hlt, Or.inr (by omega)⟩)
      have u3 : decide ((q : Int) < (s.size : Int)) = true := by simp; omega
      have u4 : (q : Int) < (s.size : Int) := by omega
      have C1 := Lib.hid c1; clear c1
      go_enter Tryd.func4, Tryd.ntmps4
      go_wp2_with (go_at_call 9; go_in)
      refine (zzLbr91 s q _ hT lo b3 (by omega) hqs C1.out).mono ?_
      rintro e w1 ⟨⟨d, rfl⟩, hb⟩
      have HB := Lib.hid hb; clear hb
      go_wp2_with fail
      go_ret
      exact ⟨rfl, HB.out⟩
    · have u3 : decide ((q : Int) < (s.size : Int)) = false := by simp; omega
      have C1 := Lib.hid c1; clear c1
      go_enter Tryd.func4, Tryd.ntmps4
      go_wp2_with (go_at_call 9; go_in)
      refine (zzLbr91 s q _ hT lo b3 (by omega) hqs C1.out).mono ?_
      rintro e w1 ⟨⟨d, rfl⟩, hb⟩
      have HB := Lib.hid hb; clear hb
      go_wp2_with fail
      go_ret
      exact ⟨rfl, HB.out⟩
end Go.Proofs.YtogdcenkgndfaaaDoor
