/-
  The law FnLBracketReadsOneByteAhead: its walk.
-/
import Derived.Test.YtogdcenkgndfaaaDoorZz3
namespace Go.Proofs.YtogdcenkgndfaaaDoor
open Go.RowKit
set_option maxRecDepth 100000

theorem app_get (a b : ByteArray) (k : Nat) (h : k < a.size) : (a ++ b).get! k = a.get! k := by
  rw [← get_eq (a ++ b) k (by rw [ByteArray.size_append]; omega), ← get_eq a k h, ByteArray.getElem_append_left h]
theorem pre_get (s : ByteArray) (q k : Nat) (h : k < q) (hq : q ≤ s.size) : (s.extract 0 q).get! k = s.get! k := by
  rw [← get_eq (s.extract 0 q) k (by simp; omega), ← get_eq s k (by omega)]
  simp [ByteArray.getElem_extract]

set_option maxHeartbeats 1600000 in
theorem aheadWalk (s t : ByteArray) (pos : Int) (w : World) (hT : Hid (Tabs w)) (lo : 2 ≤ w.heap.size) (hm : s.size ≤ maxLen) (hn : t.size ≤ maxLen) :
    Calls Tryd.prog 5 #[.string s, .string t, .int .i64 pos] w fun e w' => e = .returned (.bool true) ∧ Below w.heap.size w w' := by
  unfold maxLen at hm hn
  by_cases h1 : 1048576 < s.size
  · have h1' : (1048576 : Int) < (s.size : Int) := by omega
    go_enter Tryd.func5, Tryd.ntmps5
    go_wp2_with (go_at_call 10; go_in)
    go_ret
    exact ⟨rfl, Below.refl _ _⟩
  have h1' : decide ((1048576 : Int) < (s.size : Int)) = false := by simp; omega
  by_cases g1 : 1048576 < t.size
  · have g1' : (1048576 : Int) < (t.size : Int) := by omega
    go_enter Tryd.func5, Tryd.ntmps5
    go_wp2_with (go_at_call 10; go_in)
    go_ret
    exact ⟨rfl, Below.refl _ _⟩
  have g1' : decide ((1048576 : Int) < (t.size : Int)) = false := by simp; omega
  by_cases k1 : 1048576 < s.size + t.size
  · have k1' : (1048576 : Int) < (s.size : Int) + (t.size : Int) := by omega
    go_enter Tryd.func5, Tryd.ntmps5
    go_wp2_with (go_at_call 10; go_in)
    go_ret
    exact ⟨rfl, Below.refl _ _⟩
  have k1' : decide ((1048576 : Int) < (s.size : Int) + (t.size : Int)) = false := by simp; omega
  by_cases h2 : pos < 1
  · go_enter Tryd.func5, Tryd.ntmps5
    go_wp2_with (go_at_call 10; go_in)
    go_ret
    exact ⟨rfl, Below.refl _ _⟩
  have h2' : decide (pos < 1) = false := by simpa using h2
  by_cases h3 : (s.size : Int) ≤ pos
  · go_enter Tryd.func5, Tryd.ntmps5
    go_wp2_with (go_at_call 10; go_in)
    go_ret
    exact ⟨rfl, Below.refl _ _⟩
  obtain ⟨q, rfl⟩ : ∃ q : Nat, pos = q := ⟨pos.toNat, by omega⟩
  have h3' : decide ((s.size : Int) ≤ (q : Int)) = false := by simpa using h3
  have hq : q - 1 < s.size := by omega
  have b1 : (0 : Int) ≤ (q : Int) - 1 := by omega
  have b2 : (q : Int) - 1 < (s.size : Int) := by omega
  have b3 : 1 ≤ q := by omega
  by_cases h4 : (((s[q - 1]'hq).toNat : Int) != 91) = true
  · go_enter Tryd.func5, Tryd.ntmps5
    go_wp2_with (go_at_call 10; go_in)
    go_ret
    exact ⟨rfl, Below.refl _ _⟩
  have h4' := eq_false_of_ne_true h4
  have hg : s.get! (q - 1) = 91 := by
    have : (s[q - 1]'hq).toNat = 91 := by have h := h4'; rw [bne_eq_false_iff_eq] at h; omega
    rw [← get_eq s _ hq]; exact UInt8.toNat_inj.1 this
  have HG := Lib.hid hg
  clear h4 h2 hg
  have hlt : q < s.size := by omega
  have b4 : (0 : Int) ≤ (q : Int) + 1 := by omega
  have b5 : (q : Int) + 1 ≤ (s.size : Int) := by omega
  have hz : (s.extract 0 (q + 1) ++ t).size = q + 1 + t.size := by rw [ByteArray.size_append]; simp; omega
  have hb : (s.extract 0 (q + 1) ++ t).get! q = s.get! q := by
    rw [app_get _ _ _ (by simp; omega), pre_get s (q + 1) q (by omega) (by omega)]
  have HZ := Lib.hid hz
  have HQ := Lib.hid hb
  clear hz hb h3
  by_cases c1 : q < s.size ∧ ((s.get! q).toNat = 63 ∨ (s.get! q).toNat = 93)
  · obtain ⟨_, h5 | h5⟩ := c1
    · have H5 := Lib.hid h5; clear h5
      go_enter Tryd.func5, Tryd.ntmps5
      go_wp2_with (go_at_call 10; go_in)
      refine (zzLbr63 s q _ hT lo b3 (by omega) hlt H5.out).mono ?_
      rintro e w1 ⟨rfl, hb⟩
      have HB := Lib.hid hb
      have lo1 : 2 ≤ w1.heap.size := Nat.le_trans lo hb.size
      have hT1 : Hid (Tabs w1) := hT.out.alike fun b _ h2 => hb.cell (show b < w.heap.size by omega)
      clear hb
      go_wp2_with fail
      refine (zzLbr63 (s.extract 0 (q + 1) ++ t) q _ hT1 lo1 b3 (by rw [HZ.out]; omega) (by rw [HZ.out]; omega) (by rw [HQ.out]; exact H5.out)).mono ?_
      rintro e w2 ⟨rfl, hb2⟩
      have HB2 := Lib.hid (HB.out.trans (hb2.mono HB.out.size)); clear hb2
      go_wp2_with fail
      go_ret
      exact ⟨rfl, HB2.out⟩
    · have H5 := Lib.hid h5; clear h5
      go_enter Tryd.func5, Tryd.ntmps5
      go_wp2_with (go_at_call 10; go_in)
      refine (zzLbr93 s q _ hT lo b3 (by omega) hlt H5.out).mono ?_
      rintro e w1 ⟨rfl, hb⟩
      have HB := Lib.hid hb
      have lo1 : 2 ≤ w1.heap.size := Nat.le_trans lo hb.size
      have hT1 : Hid (Tabs w1) := hT.out.alike fun b _ h2 => hb.cell (show b < w.heap.size by omega)
      clear hb
      go_wp2_with fail
      refine (zzLbr93 (s.extract 0 (q + 1) ++ t) q _ hT1 lo1 b3 (by rw [HZ.out]; omega) (by rw [HZ.out]; omega) (by rw [HQ.out]; exact H5.out)).mono ?_
      rintro e w2 ⟨rfl, hb2⟩
      have HB2 := Lib.hid (HB.out.trans (hb2.mono HB.out.size)); clear hb2
      go_wp2_with fail
      go_ret
      exact ⟨rfl, HB2.out⟩
  · have C1 := Lib.hid c1
    have C2 : Hid (¬ (q < (s.extract 0 (q + 1) ++ t).size ∧ (((s.extract 0 (q + 1) ++ t).get! q).toNat = 63 ∨ ((s.extract 0 (q + 1) ++ t).get! q).toNat = 93))) := by
      intro h; rw [HQ.out] at h; exact c1 ⟨hlt, h.2⟩
    clear c1
    go_enter Tryd.func5, Tryd.ntmps5
    go_wp2_with (go_at_call 10; go_in)
    refine (zzLbr91 s q _ hT lo b3 (by omega) (by omega) C1.out).mono ?_
    rintro e w1 ⟨⟨d, rfl⟩, hb⟩
    have HB := Lib.hid hb
    have lo1 : 2 ≤ w1.heap.size := Nat.le_trans lo hb.size
    have hT1 : Hid (Tabs w1) := hT.out.alike fun b _ h2 => hb.cell (show b < w.heap.size by omega)
    clear hb
    go_wp2_with fail
    refine (zzLbr91 (s.extract 0 (q + 1) ++ t) q _ hT1 lo1 b3 (by rw [HZ.out]; omega) (by rw [HZ.out]; omega) C2.out).mono ?_
    rintro e w2 ⟨⟨d2, rfl⟩, hb2⟩
    have HB2 := Lib.hid (HB.out.trans (hb2.mono HB.out.size)); clear hb2
    go_wp2_with fail
    go_ret
    exact ⟨rfl, HB2.out⟩
end Go.Proofs.YtogdcenkgndfaaaDoor
