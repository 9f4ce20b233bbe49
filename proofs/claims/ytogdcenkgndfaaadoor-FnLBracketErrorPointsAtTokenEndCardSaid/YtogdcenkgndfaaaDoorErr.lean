/-
  The law FnLBracketErrorPointsAtTokenEnd: its walk.
-/
import Derived.Test.YtogdcenkgndfaaaDoorZz3
namespace Go.Proofs.YtogdcenkgndfaaaDoor
open Go.RowKit
set_option maxRecDepth 100000

set_option maxHeartbeats 1600000 in
theorem errWalk (s : ByteArray) (pos : Int) (t : ByteArray) (w : World) (hT : Hid (Tabs w)) (lo : 2 ≤ w.heap.size) (hm : s.size ≤ maxLen) (hn : t.size ≤ maxLen) :
    Calls Tryd.prog 6 #[.string s, .int .i64 pos, .string t] w fun e w' => e = .returned (.bool true) ∧ Below w.heap.size w w' := by
  unfold maxLen at hm hn
  by_cases h1 : 1048576 < s.size
  · have h1' : (1048576 : Int) < (s.size : Int) := by omega
    go_enter Tryd.func6, Tryd.ntmps6
    go_wp2_with (go_at_call 11; go_in)
    go_ret
    exact ⟨rfl, Below.refl _ _⟩
  have h1' : decide ((1048576 : Int) < (s.size : Int)) = false := by simp; omega
  by_cases g1 : 1048576 < t.size
  · have g1' : (1048576 : Int) < (t.size : Int) := by omega
    go_enter Tryd.func6, Tryd.ntmps6
    go_wp2_with (go_at_call 11; go_in)
    go_ret
    exact ⟨rfl, Below.refl _ _⟩
  have g1' : decide ((1048576 : Int) < (t.size : Int)) = false := by simp; omega
  by_cases k1 : 1048576 < s.size + t.size
  · have k1' : (1048576 : Int) < (s.size : Int) + (t.size : Int) := by omega
    go_enter Tryd.func6, Tryd.ntmps6
    go_wp2_with (go_at_call 11; go_in)
    go_ret
    exact ⟨rfl, Below.refl _ _⟩
  have k1' : decide ((1048576 : Int) < (s.size : Int) + (t.size : Int)) = false := by simp; omega
  by_cases h2 : pos < 1
  · go_enter Tryd.func6, Tryd.ntmps6
    go_wp2_with (go_at_call 11; go_in)
    go_ret
    exact ⟨rfl, Below.refl _ _⟩
  have h2' : decide (pos < 1) = false := by simpa using h2
  by_cases h3 : (s.size : Int) < pos
  · go_enter Tryd.func6, Tryd.ntmps6
    go_wp2_with (go_at_call 11; go_in)
    go_ret
    exact ⟨rfl, Below.refl _ _⟩
  obtain ⟨q, rfl⟩ : ∃ q : Nat, pos = q := ⟨pos.toNat, by omega⟩
  have h3' : decide ((s.size : Int) < (q : Int)) = false := by simpa using h3
  have hq : q - 1 < s.size := by omega
  have b1 : (0 : Int) ≤ (q : Int) - 1 := by omega
  have b2 : (q : Int) - 1 < (s.size : Int) := by omega
  have b3 : 1 ≤ q := by omega
  by_cases h4 : (((s[q - 1]'hq).toNat : Int) != 91) = true
  · go_enter Tryd.func6, Tryd.ntmps6
    go_wp2_with (go_at_call 11; go_in)
    go_ret
    exact ⟨rfl, Below.refl _ _⟩
  have h4' := eq_false_of_ne_true h4
  have hg : s.get! (q - 1) = 91 := by
    have : (s[q - 1]'hq).toNat = 91 := by have h := h4'; rw [bne_eq_false_iff_eq] at h; omega
    rw [← get_eq s _ hq]; exact UInt8.toNat_inj.1 this
  have HG := Lib.hid hg
  clear h4 h2 hg
  clear h3
  by_cases c1 : q < s.size ∧ ((s.get! q).toNat = 63 ∨ (s.get! q).toNat = 93)
  · obtain ⟨hlt, h5 | h5⟩ := c1
    · have u1 : (((s[q]'hlt).toNat : Int) == 63) = true := by rw [get_eq s q hlt]; simp; omega
      have b4 : (q : Int) < (s.size : Int) := by omega
      have H5 := Lib.hid h5; clear h5
      go_enter Tryd.func6, Tryd.ntmps6
      go_wp2_with (go_at_call 11; go_in)
      refine (zzLbr63 s q _ hT lo b3 (by omega) hlt H5.out).mono ?_
      rintro e w1 ⟨rfl, hb⟩
      have HB := Lib.hid hb; clear hb
      go_wp2_with fail
      refine (zzSyn s t ((q : Int) + 1) 1 _ (by omega) (by omega)).mono ?_
      rintro e w2 ⟨rfl, hb2⟩
      have HB2 := Lib.hid (HB.out.trans (hb2.mono HB.out.size)); clear hb2
      go_wp2_with fail
      go_quiet (fail)
      go_wp2_with fail
      go_ret
      exact ⟨congrArg (fun b => Ending.returned (Value.bool b)) u1, below_drewN HB2.out _⟩
    · have u1 : (((s[q]'hlt).toNat : Int) == 93) = true := by rw [get_eq s q hlt]; simp; omega
      have b4 : (q : Int) < (s.size : Int) := by omega
      have H5 := Lib.hid h5; clear h5
      go_enter Tryd.func6, Tryd.ntmps6
      go_wp2_with (go_at_call 11; go_in)
      refine (zzLbr93 s q _ hT lo b3 (by omega) hlt H5.out).mono ?_
      rintro e w1 ⟨rfl, hb⟩
      have HB := Lib.hid hb; clear hb
      go_wp2_with fail
      refine (zzSyn s t ((q : Int) + 1) 1 _ (by omega) (by omega)).mono ?_
      rintro e w2 ⟨rfl, hb2⟩
      have HB2 := Lib.hid (HB.out.trans (hb2.mono HB.out.size)); clear hb2
      go_wp2_with fail
      go_quiet (fail)
      go_wp2_with fail
      go_ret
      exact ⟨congrArg (fun b => Ending.returned (Value.bool b)) u1, below_drewN HB2.out _⟩
  · have u1 : (((s[q - 1]'hq).toNat : Int) == 91) = true := by rw [get_eq s _ hq, HG.out]; rfl
    have hqs : q ≤ s.size := by omega
    have C1 := Lib.hid c1; clear c1
    go_enter Tryd.func6, Tryd.ntmps6
    go_wp2_with (go_at_call 11; go_in)
    refine (zzLbr91 s q _ hT lo b3 (by omega) hqs C1.out).mono ?_
    rintro e w1 ⟨⟨d, rfl⟩, hb⟩
    have HB := Lib.hid hb; clear hb
    go_wp2_with fail
    refine (zzSyn s t q d _ (by omega) (by omega)).mono ?_
    rintro e w2 ⟨rfl, hb2⟩
    have HB2 := Lib.hid (HB.out.trans (hb2.mono HB.out.size)); clear hb2
    go_wp2_with fail
    go_quiet (fail)
    go_wp2_with fail
    go_ret
    exact ⟨congrArg (fun b => Ending.returned (Value.bool b)) u1, below_drewN HB2.out _⟩
end Go.Proofs.YtogdcenkgndfaaaDoor
