/-
  The law FnConsumeNumberIgnoresWhatComesBefore: its walk.
-/
import Derived.Test.YtdbnffjidnfhdaaDoorNum
namespace Go.Proofs.YtdbnffjidnfhdaaDoor
open Go.RowKit
set_option maxRecDepth 100000

theorem app_right (a b : ByteArray) (k : Nat) : (a ++ b).get! (k + a.size) = b.get! k := by
  by_cases h : k < b.size
  · rw [← get_eq (a ++ b) (k + a.size) (by rw [ByteArray.size_append]; omega), ← get_eq b k h, ByteArray.getElem_append_right (by omega)]
    simp
  · rw [get_out b _ (by omega), get_out (a ++ b) _ (by rw [ByteArray.size_append]; omega)]
theorem runEnd_shift {D : Nat → Prop} {a b : ByteArray} {p q : Nat} (h : RunEnd D b p q) : RunEnd D (a ++ b) (p + a.size) (q + a.size) := by
  obtain ⟨h1, h2, h3, h4⟩ := h
  refine ⟨by omega, by rw [ByteArray.size_append]; omega, fun j h5 h6 => ?_, fun h5 => ?_⟩
  · have := h3 (j - a.size) (by omega) (by omega)
    rw [← app_right a b (j - a.size), show j - a.size + a.size = j from by omega] at this
    exact this
  · rw [app_right]; exact h4 (by rw [ByteArray.size_append] at h5; omega)
theorem extract_shift (a b : ByteArray) (i j : Nat) : ((a ++ b).extract (i + a.size) (j + a.size)).toList = (b.extract i j).toList := by
  rw [Lib.extract_toList, Lib.extract_toList, ByteArray.data_append, Array.toList_append]
  have e : a.size = a.data.toList.length := Lib.size_eq a
  rw [show j + a.size - (i + a.size) = j - i from by omega, List.drop_append, List.drop_eq_nil_of_le (by omega), List.nil_append, show i + a.size - a.data.toList.length = i from by omega]

set_option maxHeartbeats 1600000 in
theorem icbWalk (t s : ByteArray) (pos : Int) (w : World) (hT : Hid (Tabs w)) (lo : 3 ≤ w.heap.size) (hn : t.size ≤ maxLen) (hm : s.size ≤ maxLen) :
    Calls Tryd.prog 3 #[.string t, .string s, .int .i64 pos] w fun e w' => e = .returned (.bool true) ∧ Below w.heap.size w w' := by
  unfold maxLen at hm hn
  by_cases g1 : 1048576 < t.size
  · have g1' : (1048576 : Int) < (t.size : Int) := by omega
    go_enter Tryd.func3, Tryd.ntmps3
    go_wp2_with (go_at_call 9; go_in)
    go_ret
    exact ⟨rfl, Below.refl _ _⟩
  have g1' : decide ((1048576 : Int) < (t.size : Int)) = false := by simp; omega
  by_cases h1 : 1048576 < s.size
  · have h1' : (1048576 : Int) < (s.size : Int) := by omega
    go_enter Tryd.func3, Tryd.ntmps3
    go_wp2_with (go_at_call 9; go_in)
    go_ret
    exact ⟨rfl, Below.refl _ _⟩
  have h1' : decide ((1048576 : Int) < (s.size : Int)) = false := by simp; omega
  by_cases k1 : 1048576 < t.size + s.size
  · have k1' : (1048576 : Int) < (t.size : Int) + (s.size : Int) := by omega
    go_enter Tryd.func3, Tryd.ntmps3
    go_wp2_with (go_at_call 9; go_in)
    go_ret
    exact ⟨rfl, Below.refl _ _⟩
  have k1' : decide ((1048576 : Int) < (t.size : Int) + (s.size : Int)) = false := by simp; omega
  by_cases h2 : pos < 1
  · go_enter Tryd.func3, Tryd.ntmps3
    go_wp2_with (go_at_call 9; go_in)
    go_ret
    exact ⟨rfl, Below.refl _ _⟩
  have h2' : decide (pos < 1) = false := by simpa using h2
  by_cases h3 : (s.size : Int) < pos
  · go_enter Tryd.func3, Tryd.ntmps3
    go_wp2_with (go_at_call 9; go_in)
    go_ret
    exact ⟨rfl, Below.refl _ _⟩
  obtain ⟨p, rfl⟩ : ∃ p : Nat, pos = p := ⟨pos.toNat, by omega⟩
  have h3' : decide ((s.size : Int) < (p : Int)) = false := by simpa using h3
  have hq : p - 1 < s.size := by omega
  have b1 : (0 : Int) ≤ (p : Int) - 1 := by omega
  have b2 : (p : Int) - 1 < (s.size : Int) := by omega
  have b3 : 1 ≤ p := by omega
  have hp : p ≤ s.size := by omega
  clear h2 h3
  cases hns : nsB ((s[p - 1]'hq).toNat : Int)
  · go_enter Tryd.func3, Tryd.ntmps3
    go_wp2_with (go_at_call 9; go_in)
    refine (ns_any _ _).mono ?_
    rintro e w' ⟨rfl, rfl⟩
    rw [hns]
    go_wp2_with fail
    go_ret
    exact ⟨rfl, Below.refl _ _⟩
  have HNS := Lib.hid hns; clear hns
  obtain ⟨q, hR⟩ := runEnd_exists isDig s _ p (Nat.le_refl _) hp
  have hqs := hR.2.1
  have hpq := hR.1
  have HR := Lib.hid hR
  have HR2 := Lib.hid (runEnd_shift (a := t) hR)
  have hsz : (t ++ s).size = t.size + s.size := ByteArray.size_append
  have HSZ := Lib.hid hsz
  have HX : Hid ((t ++ s).extract (p + t.size - 1) (q + t.size) = s.extract (p - 1) q) := by
    have := extract_shift t s (p - 1) q
    rw [show p - 1 + t.size = p + t.size - 1 from by omega, ByteArray.toList_eq, ByteArray.toList_eq] at this
    exact ByteArray.ext (Array.toList_inj.1 this)
  clear hR hsz
  go_enter Tryd.func3, Tryd.ntmps3
  go_wp2_with (go_at_call 9; go_in)
  refine (ns_any _ _).mono ?_
  rintro e w' ⟨rfl, rfl⟩
  rw [HNS.out]
  go_wp2_with fail
  refine (newLex15 s p 1 _ hT lo).mono ?_
  rintro x w1 ⟨rfl, hL, hb⟩
  have hi := hL.hi
  have HL := Lib.hid hL; have HB := Lib.hid hb; clear hL hb
  go_wp2_with fail
  refine (zzNum _ s p 1 q _ HL b3 (by omega) hp HR).mono ?_
  rintro x w2 ⟨rfl, hL, hg⟩
  have c1 := hL.c1
  have HB2 := Lib.hid (below_step HB.out hi hg); clear hL hg
  go_wp2_with fail
  refine (pos15 _ _ _ c1).mono ?_
  rintro x w' ⟨rfl, rfl⟩
  have lo2 : 3 ≤ w2.heap.size := Nat.le_trans lo HB2.out.size
  have hT2 : Hid (Tabs w2) := hT.out.alike fun b _ h2 => HB2.out.cell (show b < w.heap.size by omega)
  clear c1
  go_wp2_with fail
  rw [show (p : Int) + (t.size : Int) = ((p + t.size : Nat) : Int) from by omega]
  refine (newLex15 (t ++ s) (p + t.size) 1 _ hT2 lo2).mono ?_
  rintro x w3 ⟨rfl, hL, hb⟩
  have hi3 := hL.hi
  have HL3 := Lib.hid hL; have HB3 := Lib.hid (HB2.out.trans (hb.mono HB2.out.size)); have HBx := Lib.hid hb; clear hL hb
  go_wp2_with fail
  refine (zzNum _ (t ++ s) (p + t.size) 1 (q + t.size) _ HL3 (by omega) (by rw [HSZ.out]; omega) (by rw [HSZ.out]; omega) HR2).mono ?_
  rintro x w4 ⟨rfl, hL, hg⟩
  have c1 := hL.c1
  have HB4 := Lib.hid (HB2.out.trans ((below_step HBx.out hi3 hg).mono HB2.out.size)); clear hL hg
  go_wp2_with fail
  refine (pos15 _ _ _ c1).mono ?_
  rintro x w' ⟨rfl, rfl⟩
  rw [HX.out]
  have u1 : (((p : Int) + (t.size : Int) - 1) == ((p : Int) - 1 + (t.size : Int))) = true := beqT (by omega)
  have u2 : (((q : Int) - ((p : Int) - 1)) == ((q : Int) + (t.size : Int) - ((p : Int) + (t.size : Int) - 1))) = true := beqT (by omega)
  go_wp2_with fail
  go_ret
  exact ⟨rfl, HB4.out⟩
end Go.Proofs.YtdbnffjidnfhdaaDoor
