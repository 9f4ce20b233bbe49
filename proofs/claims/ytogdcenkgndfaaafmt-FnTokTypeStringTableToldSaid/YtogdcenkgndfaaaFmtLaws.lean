/-
  The walks of the four laws over the String methods: each returns true at every input. Condition: the index table lies in memory as its initialiser lays it.
-/
import Derived.Test.YtogdcenkgndfaaaFmtWalks
namespace Go.Proofs.YtogdcenkgndfaaaFmt
open Go.RowKit
set_option maxRecDepth 100000
theorem tokCells.drewN {w : World} (h : tokCells w) (n : Nat) : tokCells (w.drewN n) := h
theorem astCells.drewN {w : World} (h : astCells w) (n : Nat) : astCells (w.drewN n) := h
theorem tokS30 : tokS 30 = ⟨#[116, 69, 79, 70]⟩ := rfl

theorem tokTable (i : Int) (w : World) (hc : tokCells w) :
    Calls Tryf.prog 4 #[.int .i64 i] w fun e w' => e = .returned (.bool true) ∧ ∃ n, w' = w.drewN n := by
  have HC := Lib.hid hc; clear hc
  by_cases h1 : i < 0
  · go_enter Tryf.func4, Tryf.ntmps4
    go_wp2_with fail
    go_ret
    exact ⟨rfl, 0, rfl⟩
  by_cases h2 : 30 < i
  · have h1' : decide (i < 0) = false := by simpa using h1
    go_enter Tryf.func4, Tryf.ntmps4
    go_wp2_with fail
    go_ret
    exact ⟨rfl, 0, rfl⟩
  obtain ⟨k, rfl⟩ : ∃ k : Nat, i = k := ⟨i.toNat, by omega⟩
  have hk : k < 31 := by omega
  have h1' : decide ((k : Int) < 0) = false := by simp
  have h2' : decide ((30 : Int) < (k : Int)) = false := by simpa using h2
  clear h1 h2
  go_enter Tryf.func4, Tryf.ntmps4
  go_wp2_with (go_at_call 10; go_in)
  refine (tokZ 30 _ (by decide) HC).mono ?_
  rintro e w' ⟨rfl, n, rfl⟩
  rw [tokS30]
  go_wp2_with fail
  refine (tokZ k _ hk (HC.out.drewN n)).mono ?_
  rintro e w' ⟨rfl, m, rfl⟩
  go_wp2_with fail
  refine (tokN _ k hk).mono ?_
  rintro e w' ⟨rfl, rfl⟩
  go_wp2_with fail
  go_ret
  exact ⟨rfl, _, rfl⟩

theorem astTable (i : Int) (w : World) (hc : astCells w) :
    Calls Tryf.prog 3 #[.int .i64 i] w fun e w' => e = .returned (.bool true) ∧ ∃ n, w' = w.drewN n := by
  have HC := Lib.hid hc; clear hc
  by_cases h1 : i < 0
  · go_enter Tryf.func3, Tryf.ntmps3
    go_wp2_with fail
    go_ret
    exact ⟨rfl, 0, rfl⟩
  by_cases h2 : 22 < i
  · have h1' : decide (i < 0) = false := by simpa using h1
    go_enter Tryf.func3, Tryf.ntmps3
    go_wp2_with fail
    go_ret
    exact ⟨rfl, 0, rfl⟩
  obtain ⟨k, rfl⟩ : ∃ k : Nat, i = k := ⟨i.toNat, by omega⟩
  have hk : k < 23 := by omega
  have h1' : decide ((k : Int) < 0) = false := by simp
  have h2' : decide ((22 : Int) < (k : Int)) = false := by simpa using h2
  clear h1 h2
  go_enter Tryf.func3, Tryf.ntmps3
  go_wp2_with fail
  refine (astZ k _ hk HC).mono ?_
  rintro e w' ⟨rfl, m, rfl⟩
  go_wp2_with fail
  refine (astN _ k hk).mono ?_
  rintro e w' ⟨rfl, rfl⟩
  go_wp2_with fail
  go_ret
  exact ⟨rfl, _, rfl⟩

/-- What the injective law asks of a token's name. -/
theorem tokFact : ∀ k, k < 31 → 3 ≤ (tokS k).size ∧ (tokS k).get! 0 = 116 ∧ 65 ≤ (tokS k).get! 1 ∧ (tokS k).get! 1 ≤ 90 := by decide +kernel
theorem tokSame : ∀ k, k < 31 → ∀ l, l < 31 → ((tokL.getD k [] == tokL.getD l []) = (k == l)) := by decide +kernel
theorem astFact : ∀ k, k < 23 → 4 ≤ (astS k).size ∧ (astS k).get! 0 = 65 ∧ (astS k).get! 1 = 83 ∧ (astS k).get! 2 = 84 := by decide +kernel
theorem astSame : ∀ k, k < 23 → ∀ l, l < 23 → ((astL.getD k [] == astL.getD l []) = (k == l)) := by decide +kernel

theorem tokInj0 (sa sb : ByteArray) (k l : Nat) (w : World) (hk : k < 31) (hl : l < 31) (hz : 3 ≤ sa.size) (h0 : sa[0] = 116) (h1 : 65 ≤ sa[1].toNat) (h2 : sa[1].toNat ≤ 90)
    (heq : (sa.toList == sb.toList) = (k == l))
    (ca : Hid (∀ n, Calls Tryf.prog 9 #[.int .i64 k] (w.drewN n) fun e w' => e = .returned (.string sa) ∧ ∃ m, w' = (w.drewN n).drewN m))
    (cb : Hid (∀ n, Calls Tryf.prog 9 #[.int .i64 l] (w.drewN n) fun e w' => e = .returned (.string sb) ∧ ∃ m, w' = (w.drewN n).drewN m)) :
    Calls Tryf.prog 5 #[.int .i64 k, .int .i64 l] w fun e w' => e = .returned (.bool true) ∧ ∃ n, w' = w.drewN n := by
  have t1 : decide ((k : Int) < 0) = false := by simp
  have t2 : decide ((30 : Int) < (k : Int)) = false := by simp; omega
  have t3 : decide ((l : Int) < 0) = false := by simp
  have t4 : decide ((30 : Int) < (l : Int)) = false := by simp; omega
  have hkl : ((k : Int) == (l : Int)) = (sa.toList == sb.toList) := by rw [heq, Bool.eq_iff_iff]; simp; omega
  have HK := Lib.hid hkl; clear hkl heq
  have h2' : decide ((sa[1].toNat : Int) ≤ 90) = true := by simp; omega
  go_enter Tryf.func5, Tryf.ntmps5
  go_wp2_with fail
  refine (ca.out 0).mono ?_
  rintro e w' ⟨rfl, n, rfl⟩
  go_wp2_with fail
  refine (cb.out _).mono ?_
  rintro e w' ⟨rfl, m, rfl⟩
  have hkl := HK.out
  cases hs : (sa.toList == sb.toList) <;> rw [hs] at hkl
  all_goals
    go_wp2_with fail
    go_ret
    exact ⟨rfl, _, rfl⟩

theorem get_lit (s : ByteArray) (i : Nat) (h : i < s.size) : s[i] = s.get! i := by simp [ByteArray.get!, h, ByteArray.getElem_eq_getElem_data]

theorem tokInj (i j : Int) (w : World) (hc : tokCells w) :
    Calls Tryf.prog 5 #[.int .i64 i, .int .i64 j] w fun e w' => e = .returned (.bool true) ∧ ∃ n, w' = w.drewN n := by
  have HC := Lib.hid hc; clear hc
  by_cases h1 : i < 0
  · go_enter Tryf.func5, Tryf.ntmps5
    go_wp2_with fail
    go_ret
    exact ⟨rfl, 0, rfl⟩
  have h1' : decide (i < 0) = false := by simpa using h1
  by_cases h2 : 30 < i
  · go_enter Tryf.func5, Tryf.ntmps5
    go_wp2_with fail
    go_ret
    exact ⟨rfl, 0, rfl⟩
  have h2' : decide (30 < i) = false := by simpa using h2
  by_cases h3 : j < 0
  · go_enter Tryf.func5, Tryf.ntmps5
    go_wp2_with fail
    go_ret
    exact ⟨rfl, 0, rfl⟩
  have h3' : decide (j < 0) = false := by simpa using h3
  by_cases h4 : 30 < j
  · go_enter Tryf.func5, Tryf.ntmps5
    go_wp2_with fail
    go_ret
    exact ⟨rfl, 0, rfl⟩
  obtain ⟨k, rfl⟩ : ∃ k : Nat, i = k := ⟨i.toNat, by omega⟩
  obtain ⟨l, rfl⟩ : ∃ l : Nat, j = l := ⟨j.toNat, by omega⟩
  have hk : k < 31 := by omega
  have hl : l < 31 := by omega
  obtain ⟨f1, f2, f3, f4⟩ := tokFact k hk
  refine tokInj0 (tokS k) (tokS l) k l w hk hl f1 (by rw [get_lit]; exact f2) (by rw [get_lit]; exact f3) (by rw [get_lit]; exact f4) ?_ (fun n => tokZ k _ hk (HC.out.drewN n)) (fun n => tokZ l _ hl (HC.out.drewN n))
  rw [← tokSame k hk l hl, ByteArray.toList_eq, ByteArray.toList_eq]
  rfl

theorem astInj0 (sa sb : ByteArray) (k l : Nat) (w : World) (hk : k < 23) (hl : l < 23) (hz : 4 ≤ sa.size) (h0 : sa[0] = 65) (h1 : sa[1] = 83) (h2 : sa[2] = 84)
    (gz : 4 ≤ sb.size) (g0 : sb[0] = 65) (g1 : sb[1] = 83) (g2 : sb[2] = 84)
    (heq : (sa.toList == sb.toList) = (k == l))
    (ca : Hid (∀ n, Calls Tryf.prog 7 #[.int .i64 k] (w.drewN n) fun e w' => e = .returned (.string sa) ∧ ∃ m, w' = (w.drewN n).drewN m))
    (cb : Hid (∀ n, Calls Tryf.prog 7 #[.int .i64 l] (w.drewN n) fun e w' => e = .returned (.string sb) ∧ ∃ m, w' = (w.drewN n).drewN m)) :
    Calls Tryf.prog 6 #[.int .i64 k, .int .i64 l] w fun e w' => e = .returned (.bool true) ∧ ∃ n, w' = w.drewN n := by
  have t1 : decide ((k : Int) < 0) = false := by simp
  have t2 : decide ((22 : Int) < (k : Int)) = false := by simp; omega
  have t3 : decide ((l : Int) < 0) = false := by simp
  have t4 : decide ((22 : Int) < (l : Int)) = false := by simp; omega
  have hkl : ((k : Int) == (l : Int)) = (sa.toList == sb.toList) := by rw [heq, Bool.eq_iff_iff]; simp; omega
  have HK := Lib.hid hkl; clear hkl heq
  have q1 : decide ((sa.size : Int) ≤ 3) = false := by simp; omega
  have q2 : decide ((sb.size : Int) ≤ 3) = false := by simp; omega
  have z0 : (0 : Int) < sa.size := by omega
  have z1 : (1 : Int) < sa.size := by omega
  have z2 : (2 : Int) < sa.size := by omega
  have y0 : (0 : Int) < sb.size := by omega
  have y1 : (1 : Int) < sb.size := by omega
  have y2 : (2 : Int) < sb.size := by omega
  go_enter Tryf.func6, Tryf.ntmps6
  go_wp2_with fail
  refine (ca.out 0).mono ?_
  rintro e w' ⟨rfl, n, rfl⟩
  go_wp2_with fail
  refine (cb.out _).mono ?_
  rintro e w' ⟨rfl, m, rfl⟩
  have hkl := HK.out
  cases hs : (sa.toList == sb.toList) <;> rw [hs] at hkl
  all_goals
    go_wp2_with fail
    go_ret
    exact ⟨rfl, _, rfl⟩

theorem astInj (i j : Int) (w : World) (hc : astCells w) :
    Calls Tryf.prog 6 #[.int .i64 i, .int .i64 j] w fun e w' => e = .returned (.bool true) ∧ ∃ n, w' = w.drewN n := by
  have HC := Lib.hid hc; clear hc
  by_cases h1 : i < 0
  · go_enter Tryf.func6, Tryf.ntmps6
    go_wp2_with fail
    go_ret
    exact ⟨rfl, 0, rfl⟩
  have h1' : decide (i < 0) = false := by simpa using h1
  by_cases h2 : 22 < i
  · go_enter Tryf.func6, Tryf.ntmps6
    go_wp2_with fail
    go_ret
    exact ⟨rfl, 0, rfl⟩
  have h2' : decide (22 < i) = false := by simpa using h2
  by_cases h3 : j < 0
  · go_enter Tryf.func6, Tryf.ntmps6
    go_wp2_with fail
    go_ret
    exact ⟨rfl, 0, rfl⟩
  have h3' : decide (j < 0) = false := by simpa using h3
  by_cases h4 : 22 < j
  · go_enter Tryf.func6, Tryf.ntmps6
    go_wp2_with fail
    go_ret
    exact ⟨rfl, 0, rfl⟩
  obtain ⟨k, rfl⟩ : ∃ k : Nat, i = k := ⟨i.toNat, by omega⟩
  obtain ⟨l, rfl⟩ : ∃ l : Nat, j = l := ⟨j.toNat, by omega⟩
  have hk : k < 23 := by omega
  have hl : l < 23 := by omega
  obtain ⟨f1, f2, f3, f4⟩ := astFact k hk
  obtain ⟨g1, g2, g3, g4⟩ := astFact l hl
  refine astInj0 (astS k) (astS l) k l w hk hl f1 (by rw [get_lit]; exact f2) (by rw [get_lit]; exact f3) (by rw [get_lit]; exact f4) g1 (by rw [get_lit]; exact g2) (by rw [get_lit]; exact g3) (by rw [get_lit]; exact g4) ?_
    (fun n => astZ k _ hk (HC.out.drewN n)) (fun n => astZ l _ hl (HC.out.drewN n))
  rw [← astSame k hk l hl, ByteArray.toList_eq, ByteArray.toList_eq]
  rfl
end Go.Proofs.YtogdcenkgndfaaaFmt
