/-
  The law FnUnquotedIdentifierIgnoresWhatFollows: the short ways out, and the whole.
-/
import Derived.Test.YtdbnffjidnfhdaaDoorUif
namespace Go.Proofs.YtdbnffjidnfhdaaDoor
open Go.RowKit
set_option maxRecDepth 100000

set_option maxHeartbeats 0 in
theorem uifWalk (pad : Int) (x : ByteArray) (st : Int) (y z : ByteArray) (w : World) (hT : Hid (Tabs w)) (lo : 3 ≤ w.heap.size) (hTr : Hid (Trail w)) (hm1 : x.size ≤ maxLen) (hst : (Lit.int .u8 st).wf = true) (hm2 : y.size ≤ maxLen) (hm3 : z.size ≤ maxLen) :
    Calls Tryd.prog 8 #[.int .i64 pad, .string x, .int .u8 st, .string y, .string z] w fun e w' => e = .returned (.bool true) ∧ Below w.heap.size w w' := by
  unfold maxLen at hm1 hm2 hm3
  have hst' : 0 ≤ st ∧ st ≤ 255 := by
    simp [Lit.wf, IntKind.min, IntKind.max, IntKind.signed, IntKind.bits] at hst
    omega
  clear hst
  obtain ⟨c, rfl⟩ : ∃ c : Nat, st = c := ⟨st.toNat, by omega⟩
  have hc : c ≤ 255 := by omega
  clear hst'
  by_cases a1 : 1048576 < x.size
  · have a1' : (1048576 : Int) < (x.size : Int) := by omega
    go_enter Tryd.func8, Tryd.ntmps8
    go_wp2_with (go_at_call 29; go_in)
    go_ret
    exact ⟨rfl, Below.refl _ _⟩
  have a1' : decide ((1048576 : Int) < (x.size : Int)) = false := by simp; omega
  by_cases a2 : 1048576 < y.size
  · have a2' : (1048576 : Int) < (y.size : Int) := by omega
    go_enter Tryd.func8, Tryd.ntmps8
    go_wp2_with (go_at_call 29; go_in)
    go_ret
    exact ⟨rfl, Below.refl _ _⟩
  have a2' : decide ((1048576 : Int) < (y.size : Int)) = false := by simp; omega
  by_cases a3 : 1048576 < x.size + y.size
  · have a3' : (1048576 : Int) < (x.size : Int) + (y.size : Int) := by omega
    go_enter Tryd.func8, Tryd.ntmps8
    go_wp2_with (go_at_call 29; go_in)
    go_ret
    exact ⟨rfl, Below.refl _ _⟩
  have a3' : decide ((1048576 : Int) < (x.size : Int) + (y.size : Int)) = false := by simp; omega
  by_cases a4 : 1048576 < z.size
  · have a4' : (1048576 : Int) < (z.size : Int) := by omega
    go_enter Tryd.func8, Tryd.ntmps8
    go_wp2_with (go_at_call 29; go_in)
    go_ret
    exact ⟨rfl, Below.refl _ _⟩
  have a4' : decide ((1048576 : Int) < (z.size : Int)) = false := by simp; omega
  by_cases a5 : 1048576 < x.size + y.size + z.size
  · have a5' : (1048576 : Int) < (x.size : Int) + (y.size : Int) + (z.size : Int) := by omega
    go_enter Tryd.func8, Tryd.ntmps8
    go_wp2_with (go_at_call 29; go_in)
    go_ret
    exact ⟨rfl, Below.refl _ _⟩
  have a5' : decide ((1048576 : Int) < (x.size : Int) + (y.size : Int) + (z.size : Int)) = false := by simp; omega
  by_cases h2 : pad < 0
  · go_enter Tryd.func8, Tryd.ntmps8
    go_wp2_with (go_at_call 29; go_in)
    go_ret
    exact ⟨rfl, Below.refl _ _⟩
  have h2' : decide (pad < 0) = false := by simpa using h2
  by_cases h3 : 65536 < pad
  · go_enter Tryd.func8, Tryd.ntmps8
    go_wp2_with (go_at_call 29; go_in)
    go_ret
    exact ⟨rfl, Below.refl _ _⟩
  have h3' : decide (65536 < pad) = false := by simpa using h3
  obtain ⟨n, rfl⟩ : ∃ n : Nat, pad = n := ⟨pad.toNat, by omega⟩
  have hn : n ≤ 65536 := by omega
  clear h2 h3
  by_cases hx0 : 0 < x.size
  case neg =>
    have q1 : ((x.size : Int) == 0) = true := beqT (by omega)
    clear hx0
    go_enter Tryd.func8, Tryd.ntmps8
    go_wp2_with (go_at_call 29; go_in)
    go_ret
    exact ⟨rfl, Below.refl _ _⟩

  have q1 : ((x.size : Int) == 0) = false := beqF (by omega)
  have q2 : (0 : Int) < (x.size : Int) := by omega
  cases hs : startB (x[0]'hx0).toNat
  · have HS := Lib.hid hs; clear hs
    go_enter Tryd.func8, Tryd.ntmps8
    go_wp2_with (go_at_call 29; go_in)
    refine (is_any _ _).mono ?_
    rintro e w' ⟨rfl, rfl⟩
    rw [HS.out]
    go_wp2_with fail
    go_ret
    exact ⟨rfl, Below.refl _ _⟩
  have HS := Lib.hid hs; clear hs
  obtain ⟨k, hR⟩ := runEnd_exists isTrail x _ 0 (Nat.le_refl _) (Nat.zero_le _)
  have HR := Lib.hid hR; clear hR
  by_cases hk : k = x.size
  case neg =>
    have q3 : ((k : Int) == (x.size : Int)) = false := beqF (by omega)
    go_enter Tryd.func8, Tryd.ntmps8
    go_wp2_with (go_at_call 29; go_in)
    refine (is_any _ _).mono ?_
    rintro e w' ⟨rfl, rfl⟩
    rw [HS.out]
    go_wp2_with fail
    refine (ir_any x k _ (by omega) HR).mono ?_
    rintro e w' ⟨rfl, rfl⟩
    go_wp2_with fail
    go_ret
    exact ⟨rfl, Below.refl _ _⟩

  have q3 : ((k : Int) == (x.size : Int)) = true := beqT (by omega)
  cases ht : trailB c
  case true =>
    have HT := Lib.hid ht; clear ht
    go_enter Tryd.func8, Tryd.ntmps8
    go_wp2_with (go_at_call 29; go_in)
    refine (is_any _ _).mono ?_
    rintro e w' ⟨rfl, rfl⟩
    rw [HS.out]
    go_wp2_with fail
    refine (ir_any x k _ (by omega) HR).mono ?_
    rintro e w' ⟨rfl, rfl⟩
    go_wp2_with fail
    refine (it_any c _).mono ?_
    rintro e w' ⟨rfl, rfl⟩
    rw [HT.out]
    go_wp2_with fail
    go_ret
    exact ⟨rfl, Below.refl _ _⟩

  have HT := Lib.hid ht; clear ht
  by_cases hc2 : c = 194
  case neg =>
    subst hk
    exact uif0 n c x y z w hT lo hTr (by omega) hn hc hx0 HS HR HT (fun h => hc2 h.1) (fun h => hc2 h.1) (beqF (by omega))
  have q4 : ((c : Int) == 194) = true := beqT (by omega)
  clear hc2
  by_cases y0 : 0 < y.size ∧ (y.get! 0).toNat = 128
  · have y1 := y0.1
    have r1 : decide ((0 : Int) < (y.size : Int)) = true := by simp; omega
    have r2 : (0 : Int) < (y.size : Int) := by omega
    have r3 : (((y[0]'y1).toNat : Int) == 128) = true := beqT (by rw [get_eq y 0 y1]; have := y0.2; omega)
    clear y0
    go_enter Tryd.func8, Tryd.ntmps8
    go_wp2_with (go_at_call 29; go_in)
    refine (is_any _ _).mono ?_
    rintro e w' ⟨rfl, rfl⟩
    rw [HS.out]
    go_wp2_with fail
    refine (ir_any x k _ (by omega) HR).mono ?_
    rintro e w' ⟨rfl, rfl⟩
    go_wp2_with fail
    refine (it_any c _).mono ?_
    rintro e w' ⟨rfl, rfl⟩
    rw [HT.out]
    go_wp2_with fail
    go_ret
    exact ⟨rfl, Below.refl _ _⟩
  by_cases z0 : 0 < z.size ∧ (z.get! 0).toNat = 128
  · have z1 := z0.1
    have r1 : decide ((0 : Int) < (z.size : Int)) = true := by simp; omega
    have r2 : (0 : Int) < (z.size : Int) := by omega
    have r3 : (((z[0]'z1).toNat : Int) == 128) = true := beqT (by rw [get_eq z 0 z1]; have := z0.2; omega)
    clear z0
    by_cases y1 : 0 < y.size
    · have r4 : decide ((0 : Int) < (y.size : Int)) = true := by simp; omega
      have r5 : (0 : Int) < (y.size : Int) := by omega
      have r6 : (((y[0]'y1).toNat : Int) == 128) = false := beqF (by rw [get_eq y 0 y1]; intro h; exact y0 ⟨y1, by omega⟩)
      clear y0
      go_enter Tryd.func8, Tryd.ntmps8
      go_wp2_with (go_at_call 29; go_in)
      refine (is_any _ _).mono ?_
      rintro e w' ⟨rfl, rfl⟩
      rw [HS.out]
      go_wp2_with fail
      refine (ir_any x k _ (by omega) HR).mono ?_
      rintro e w' ⟨rfl, rfl⟩
      go_wp2_with fail
      refine (it_any c _).mono ?_
      rintro e w' ⟨rfl, rfl⟩
      rw [HT.out]
      go_wp2_with fail
      go_ret
      exact ⟨rfl, Below.refl _ _⟩
    · have r4 : decide ((0 : Int) < (y.size : Int)) = false := decide_eq_false (by omega)
      clear y0
      go_enter Tryd.func8, Tryd.ntmps8
      go_wp2_with (go_at_call 29; go_in)
      refine (is_any _ _).mono ?_
      rintro e w' ⟨rfl, rfl⟩
      rw [HS.out]
      go_wp2_with fail
      refine (ir_any x k _ (by omega) HR).mono ?_
      rintro e w' ⟨rfl, rfl⟩
      go_wp2_with fail
      refine (it_any c _).mono ?_
      rintro e w' ⟨rfl, rfl⟩
      rw [HT.out]
      go_wp2_with fail
      go_ret
      exact ⟨rfl, Below.refl _ _⟩
  subst hk
  have H1 : Hid (¬ (c = 194 ∧ 0 < y.size ∧ (y.get! 0).toNat = 128)) := fun h => y0 h.2
  have H2 : Hid (¬ (c = 194 ∧ 0 < z.size ∧ (z.get! 0).toNat = 128)) := fun h => z0 h.2
  by_cases y1 : 0 < y.size
  · have r6 : (((y[0]'y1).toNat : Int) == 128) = false := beqF (by rw [get_eq y 0 y1]; intro h; exact y0 ⟨y1, by omega⟩)
    by_cases z1 : 0 < z.size
    · have r7 : (((z[0]'z1).toNat : Int) == 128) = false := beqF (by rw [get_eq z 0 z1]; intro h; exact z0 ⟨z1, by omega⟩)
      exact uif4 n c x y z w hT lo hTr (by omega) hn hc hx0 HS HR HT H1 H2 q4 y1 (by omega) r6 z1 (by omega) r7
    · exact uif2 n c x y z w hT lo hTr (by omega) hn hc hx0 HS HR HT H1 H2 q4 y1 (by omega) r6 z1 (decide_eq_false (by omega))
  · by_cases z1 : 0 < z.size
    · have r7 : (((z[0]'z1).toNat : Int) == 128) = false := beqF (by rw [get_eq z 0 z1]; intro h; exact z0 ⟨z1, by omega⟩)
      exact uif3 n c x y z w hT lo hTr (by omega) hn hc hx0 HS HR HT H1 H2 q4 y1 (decide_eq_false (by omega)) z1 (by omega) r7
    · exact uif1 n c x y z w hT lo hTr (by omega) hn hc hx0 HS HR HT H1 H2 q4 y1 (decide_eq_false (by omega)) z1 (decide_eq_false (by omega))
end Go.Proofs.YtdbnffjidnfhdaaDoor
