/-
  The law FnConsumeNumberTakesMaximalDigitRun: its walk.
-/
import Derived.Test.YtdbnffjidnfhdaaDoorNum
namespace Go.Proofs.YtdbnffjidnfhdaaDoor
open Go.RowKit
set_option maxRecDepth 100000

def EndRel (s : ByteArray) (p : Nat) (v : Value) : Prop := ∃ j : Nat, p ≤ j ∧ j ≤ s.size ∧ v = .int .i64 j ∧ AllIn isDig s p j

set_option maxHeartbeats 1600000 in
theorem mdrWalk (s : ByteArray) (pos : Int) (w : World) (hT : Hid (Tabs w)) (lo : 3 ≤ w.heap.size) (hm : s.size ≤ maxLen) :
    Calls Tryd.prog 4 #[.string s, .int .i64 pos] w fun e w' => e = .returned (.bool true) ∧ Below w.heap.size w w' := by
  unfold maxLen at hm
  by_cases h1 : 1048576 < s.size
  · have h1' : (1048576 : Int) < (s.size : Int) := by omega
    go_enter Tryd.func4, Tryd.ntmps4
    go_wp2_with (go_at_call 14; go_in)
    go_ret
    exact ⟨rfl, Below.refl _ _⟩
  have h1' : decide ((1048576 : Int) < (s.size : Int)) = false := by simp; omega
  by_cases h2 : pos < 1
  · go_enter Tryd.func4, Tryd.ntmps4
    go_wp2_with (go_at_call 14; go_in)
    go_ret
    exact ⟨rfl, Below.refl _ _⟩
  have h2' : decide (pos < 1) = false := by simpa using h2
  by_cases h3 : (s.size : Int) < pos
  · go_enter Tryd.func4, Tryd.ntmps4
    go_wp2_with (go_at_call 14; go_in)
    go_ret
    exact ⟨rfl, Below.refl _ _⟩
  obtain ⟨p, rfl⟩ : ∃ p : Nat, pos = p := ⟨pos.toNat, by omega⟩
  have h3' : decide ((s.size : Int) < (p : Int)) = false := by simpa using h3
  have hq : p - 1 < s.size := by omega
  have b1 : (0 : Int) ≤ (p : Int) - 1 := by omega
  have b2 : (p : Int) - 1 < (s.size : Int) := by omega
  have b3 : 1 ≤ p := by omega
  have hp : p ≤ s.size := by omega
  clear h2 h3
  cases hns : nsB ((s[p - 1]'hq).toNat : Int)
  · go_enter Tryd.func4, Tryd.ntmps4
    go_wp2_with (go_at_call 14; go_in)
    refine (ns_any _ _).mono ?_
    rintro e w' ⟨rfl, rfl⟩
    rw [hns]
    go_wp2_with fail
    go_ret
    exact ⟨rfl, Below.refl _ _⟩
  have HNS := Lib.hid hns; clear hns
  go_enter Tryd.func4, Tryd.ntmps4
  go_wp2_with (go_at_call 14; go_in)
  refine (ns_any _ _).mono ?_
  rintro e w' ⟨rfl, rfl⟩
  rw [HNS.out]
  go_wp2_with fail
  go_loop [5] (fun v => EndRel s p v) (fun v => s.size - (intOf v).toNat)
  case atStart => exact ⟨p, Nat.le_refl _, hp, rfl, AllIn.none⟩
  case round =>
    obtain ⟨j, hj1, hj2, rfl, hA⟩ := hrel
    have HA := Lib.hid hA; clear hA
    by_cases hdig : j < s.size ∧ isDig (s.get! j).toNat
    · obtain ⟨hlt, hD⟩ := hdig
      have HA2 := Lib.hid (HA.out.succ hD)
      rw [← get_eq s j hlt] at hD
      have t0 : decide ((j : Int) < (s.size : Int)) = true := by simp; omega
      have t1 : (0 : Int) ≤ (j : Int) := by omega
      have t2 : (j : Int) < (s.size : Int) := by omega
      have t3 : decide ((48 : Int) ≤ ((s[j]'hlt).toNat : Int)) = true := by have := hD.1; simp; omega
      have t4 : decide (((s[j]'hlt).toNat : Int) ≤ 57) = true := by have := hD.2; simp; omega
      clear hD
      go_wp2_with fail
      go_round
      case rel => exact ⟨j + 1, by omega, by omega, by go_num, HA2.out⟩
      case measure => simp [intOf]; omega
    · have hR : RunEnd isDig s p j := ⟨hj1, hj2, HA.out, fun hlt hD => hdig ⟨hlt, hD⟩⟩
      have HR := Lib.hid hR
      clear hR HA
      have b4 : (j : Int) ≤ (s.size : Int) := by omega
      have b5 : (p : Int) - 1 ≤ (j : Int) := by omega
      by_cases hlt : j < s.size
      · have t0 : decide ((j : Int) < (s.size : Int)) = true := by simp; omega
        have t1 : (0 : Int) ≤ (j : Int) := by omega
        have t2 : (j : Int) < (s.size : Int) := by omega
        by_cases t3 : (48 : Int) ≤ ((s[j]'hlt).toNat : Int)
        · have t3' : decide ((48 : Int) ≤ ((s[j]'hlt).toNat : Int)) = true := by simpa using t3
          have t4 : decide (((s[j]'hlt).toNat : Int) ≤ 57) = false := by
            have : ¬ ((s[j]'hlt).toNat : Int) ≤ 57 := fun h => hdig ⟨hlt, by rw [← get_eq s j hlt]; exact ⟨by omega, by omega⟩⟩
            simpa using this
          clear hdig
          go_wp2_with fail
          refine (newLex15 s p 1 _ hT lo).mono ?_
          rintro x w1 ⟨rfl, hL, hb⟩
          have hi := hL.hi
          have HL := Lib.hid hL; have HB := Lib.hid hb; clear hL hb
          go_wp2_with fail
          refine (zzNum _ s p 1 j _ HL b3 (by omega) hp HR).mono ?_
          rintro x w2 ⟨rfl, hL, hg⟩
          have c1 := hL.c1
          have HB2 := Lib.hid (below_step HB.out hi hg); clear hL hg
          go_wp2_with fail
          refine (pos15 _ _ _ c1).mono ?_
          rintro x w' ⟨rfl, rfl⟩
          go_wp2_with fail
          go_ret
          exact ⟨rfl, HB2.out⟩
        · have t3' : decide ((48 : Int) ≤ ((s[j]'hlt).toNat : Int)) = false := by simpa using t3
          clear hdig
          go_wp2_with fail
          refine (newLex15 s p 1 _ hT lo).mono ?_
          rintro x w1 ⟨rfl, hL, hb⟩
          have hi := hL.hi
          have HL := Lib.hid hL; have HB := Lib.hid hb; clear hL hb
          go_wp2_with fail
          refine (zzNum _ s p 1 j _ HL b3 (by omega) hp HR).mono ?_
          rintro x w2 ⟨rfl, hL, hg⟩
          have c1 := hL.c1
          have HB2 := Lib.hid (below_step HB.out hi hg); clear hL hg
          go_wp2_with fail
          refine (pos15 _ _ _ c1).mono ?_
          rintro x w' ⟨rfl, rfl⟩
          go_wp2_with fail
          go_ret
          exact ⟨rfl, HB2.out⟩
      · have t0 : decide ((j : Int) < (s.size : Int)) = false := by simp; omega
        clear hdig
        go_wp2_with fail
        refine (newLex15 s p 1 _ hT lo).mono ?_
        rintro x w1 ⟨rfl, hL, hb⟩
        have hi := hL.hi
        have HL := Lib.hid hL; have HB := Lib.hid hb; clear hL hb
        go_wp2_with fail
        refine (zzNum _ s p 1 j _ HL b3 (by omega) hp HR).mono ?_
        rintro x w2 ⟨rfl, hL, hg⟩
        have c1 := hL.c1
        have HB2 := Lib.hid (below_step HB.out hi hg); clear hL hg
        go_wp2_with fail
        refine (pos15 _ _ _ c1).mono ?_
        rintro x w' ⟨rfl, rfl⟩
        go_wp2_with fail
        go_ret
        exact ⟨rfl, HB2.out⟩
end Go.Proofs.YtdbnffjidnfhdaaDoor
