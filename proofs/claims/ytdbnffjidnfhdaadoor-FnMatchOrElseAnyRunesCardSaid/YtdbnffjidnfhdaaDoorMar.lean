/-
  The law FnMatchOrElseAnyRunes: its walk.
-/
import Derived.Test.YtdbnffjidnfhdaaDoorHp
namespace Go.Proofs.YtdbnffjidnfhdaaDoor
open Go.RowKit
set_option maxRecDepth 100000

theorem at_shift (a s e : ByteArray) : At (a ++ s) a.size e ↔ At s 0 e := by
  unfold At
  rw [ByteArray.size_append]
  constructor
  · rintro ⟨h1, h2⟩
    exact ⟨by omega, fun i hi => by rw [Nat.zero_add, ← app_right a s i, Nat.add_comm]; exact h2 i hi⟩
  · rintro ⟨h1, h2⟩
    exact ⟨by omega, fun i hi => by have := h2 i hi; rw [Nat.zero_add, ← app_right a s i] at this; rw [Nat.add_comm]; exact this⟩
theorem at_cut (s e : ByteArray) (h : At s 0 e) : s.extract 0 e.size = e := by
  obtain ⟨h1, h2⟩ := h
  apply ByteArray.ext_getElem
  · rw [ByteArray.size_extract]; omega
  · intro i g1 g2
    have := h2 i g2
    rw [Nat.zero_add, ← get_eq s i (by omega), ← get_eq e i g2] at this
    rw [ByteArray.getElem_extract]
    simpa using this

set_option maxHeartbeats 1600000 in
theorem mar0 (n a c : Nat) (mt st : Int) (s : ByteArray) (w : World) (hT : Hid (Tabs w)) (lo : 3 ≤ w.heap.size) (hs : s.size ≤ 1048576) (hn : n ≤ 65536) (hm1 : -9223372036854775808 ≤ mt) (hm2 : mt ≤ 9223372036854775807) (hm3 : -9223372036854775808 ≤ st) (hm4 : st ≤ 9223372036854775807) (h1 : Hid (okR a)) (h2 : Hid (okR c)) (h3 : c ≠ 65533) :
    Calls Tryd.prog 7 #[.int .i64 n, .int .i32 a, .int .i32 c, .int .i64 mt, .int .i64 st, .string s] w fun e w' => e = .returned (.bool true) ∧ Below w.heap.size w w' := by
  have t1 : decide ((1048576 : Int) < (s.size : Int)) = false := by simp; omega
  have t2 : decide ((n : Int) < 0) = false := by simp
  have t3 : decide ((65536 : Int) < (n : Int)) = false := by simp; omega
  have t4 : ((c : Int) == 65533) = false := beqF (by omega)
  have hsz := spc_size n
  obtain ⟨m, he, b1, b2⟩ : ∃ m, (Utf8.encode (a : Int)).size = m ∧ 1 ≤ m ∧ m ≤ 4 := ⟨_, rfl, by rw [enc_size a h1.out]; exact (encL_len a).1, by rw [enc_size a h1.out]; exact (encL_len a).2⟩
  obtain ⟨k, hf, d1, d2⟩ : ∃ m, (Utf8.encode (c : Int)).size = m ∧ 1 ≤ m ∧ m ≤ 4 := ⟨_, rfl, by rw [enc_size c h2.out]; exact (encL_len c).1, by rw [enc_size c h2.out]; exact (encL_len c).2⟩
  have hap : (spc n ++ Utf8.encode (a : Int)).size = n + m := by rw [ByteArray.size_append, hsz, he]
  have hE1 : (spc n ++ Utf8.encode (a : Int) ++ s).size = n + m + s.size := by rw [ByteArray.size_append, hap]
  have hAt : At (spc n ++ Utf8.encode (a : Int) ++ s) (n + m) (Utf8.encode (c : Int)) ↔ At s 0 (Utf8.encode (c : Int)) := by
    have := at_shift (spc n ++ Utf8.encode (a : Int)) s (Utf8.encode (c : Int))
    rw [hap] at this
    exact this
  have hX0 : (spc n ++ Utf8.encode (a : Int) ++ s).extract n (n + m) = Utf8.encode (a : Int) := by
    have := cut_behind (spc n) (Utf8.encode (a : Int) ++ s) m
    rw [spc_size, ← ByteArray.append_assoc] at this
    rw [this]
    have := cut_over (Utf8.encode (a : Int)) s 0
    rw [Nat.add_zero, he] at this
    rw [this]
    apply toList_inj
    rw [toList_app, toList_extract]
    simp
  have hX1 : At s 0 (Utf8.encode (c : Int)) → (spc n ++ Utf8.encode (a : Int) ++ s).extract n (n + m + k) = Utf8.encode (a : Int) ++ Utf8.encode (c : Int) := fun h => by
    have := cut_behind (spc n) (Utf8.encode (a : Int) ++ s) (m + k)
    rw [spc_size, ← ByteArray.append_assoc, ← Nat.add_assoc] at this
    rw [this, ← he, cut_over, ← hf, at_cut s _ h]
  have HAT := Lib.hid hAt; have HX0 := Lib.hid hX0; have HX1 := Lib.hid hX1; have HE1 := Lib.hid hE1
  have hn1 : ¬ 9223372036854775807 < n + m := by omega
  have hn2 : ¬ 9223372036854775807 < n + m + s.size := by omega
  have hn3 : ¬ 9223372036854775807 < m + k := by omega
  clear hAt hX0 hX1 h3
  go_enter Tryd.func7, Tryd.ntmps7
  go_wp2_with (go_at_call 26; go_in)
  refine (rokYes a _ h1.out).mono ?_
  rintro e w' ⟨rfl, rfl⟩
  go_wp2_with fail
  refine (rokYes c _ h2.out).mono ?_
  rintro e w' ⟨rfl, rfl⟩
  go_wp2_with fail
  refine (sp_any n _ hn).mono ?_
  rintro e w1 ⟨rfl, hb⟩
  have lo1 : 3 ≤ w1.heap.size := Nat.le_trans lo hb.size
  have hT1 : Hid (Tabs w1) := hT.out.alike fun b _ h2 => hb.cell (show b < w.heap.size by omega)
  have HB1 := Lib.hid hb; clear hb
  go_wp2_with fail
  rw [show (n : Int) + (m : Int) = ((n + m : Nat) : Int) from by omega]
  refine (newLex13 (spc n ++ Utf8.encode (a : Int) ++ s) (n + m) m _ hT1 lo1).mono ?_
  rintro e w2 ⟨rfl, hL, hb⟩
  have hi := hL.hi
  have HL := Lib.hid hL; have HB2 := Lib.hid hb; clear hL hb
  have HR := Lib.hid (rn_enc (spc n ++ Utf8.encode (a : Int) ++ s) (n + m) c h2.out (by intro h; subst h; simp at t4))
  go_wp2_with fail
  by_cases hyes : At s 0 (Utf8.encode (c : Int))
  · have hat := HAT.out.2 hyes
    have hr := HR.out.1.2 hat
    have hw := HR.out.2 hat
    rw [hf] at hw
    refine (zzMoeYes _ (spc n ++ Utf8.encode (a : Int) ++ s) (n + m) m a c mt st _ HL (by omega) (by rw [HE1.out]; omega) (by rw [HE1.out]; omega) hm1 hm2 hm3 hm4 (beqT hr)).mono ?_
    rintro x w3 ⟨rfl, hL, hg⟩
    rw [hw] at hL
    have c1 := hL.c1
    have HB3 := Lib.hid (HB1.out.trans ((below_step HB2.out hi hg).mono HB1.out.size))
    have hsk : k ≤ s.size := by have := hyes.1; omega
    have HY := Lib.hid hyes; have HX := Lib.hid (HX1.out hyes)
    clear hL hg hr hw hat hyes HX1 HX0 HAT HR HL HB2
    generalize hE : spc n ++ Utf8.encode (a : Int) ++ s = E at *
    obtain ⟨q, hq, u1, u2⟩ : ∃ q, n + m + k = q ∧ n ≤ q ∧ q ≤ E.size := ⟨_, rfl, by omega, by rw [hE1]; omega⟩
    rw [hq] at c1 HX
    have HQ := Lib.hid hq
    clear hE hE1 hap hq
    go_wp2_with fail
    refine (pos13 _ _ _ c1).mono ?_
    rintro x w' ⟨rfl, rfl⟩
    clear c1
    have v1 : n ≤ q := u1
    have v2 : ¬ q < n := by omega
    have v3 : ¬ E.size < q := by omega
    have v4 : q ≤ E.size := u2
    clear u1 u2
    go_wp2_with fail
    refine (hp_any s (Utf8.encode (c : Int)) true _ (by omega) ⟨fun _ => HY.out, fun _ => rfl⟩).mono ?_
    rintro x w4 ⟨rfl, hb⟩
    have HB4 := Lib.hid (HB3.out.trans (hb.mono HB3.out.size)); clear hb
    rw [HX.out]
    go_wp2_with fail
    go_ret
    exact ⟨rfl, HB4.out⟩
  · have hat : ¬ At (spc n ++ Utf8.encode (a : Int) ++ s) (n + m) (Utf8.encode (c : Int)) := fun h => hyes (HAT.out.1 h)
    have hr : rn (spc n ++ Utf8.encode (a : Int) ++ s) (n + m) ≠ (c : Int) := fun h => hat (HR.out.1.1 h)
    refine (zzMoeNo _ (spc n ++ Utf8.encode (a : Int) ++ s) (n + m) m a c mt st _ HL (by omega) (by rw [HE1.out]; omega) (by rw [HE1.out]; omega) hm1 hm2 hm3 hm4 (beqF hr)).mono ?_
    rintro x w3 ⟨rfl, hL, hg⟩
    have c1 := hL.c1
    have HB3 := Lib.hid (HB1.out.trans ((below_step HB2.out hi hg).mono HB1.out.size))
    have HY := Lib.hid hyes
    clear hL hg hr hat hyes HX1 HAT HR HL HB2
    generalize hE : spc n ++ Utf8.encode (a : Int) ++ s = E at *
    obtain ⟨q, hq, u1, u2⟩ : ∃ q, n + m = q ∧ n ≤ q ∧ q ≤ E.size := ⟨_, rfl, by omega, by rw [hE1]; omega⟩
    rw [hq] at c1 HX0
    have HQ := Lib.hid hq
    clear hE hE1 hap hq
    go_wp2_with fail
    refine (pos13 _ _ _ c1).mono ?_
    rintro x w' ⟨rfl, rfl⟩
    clear c1
    have v1 : n ≤ q := u1
    have v2 : ¬ q < n := by omega
    have v3 : ¬ E.size < q := by omega
    have v4 : q ≤ E.size := u2
    clear u1 u2
    go_wp2_with fail
    refine (hp_any s (Utf8.encode (c : Int)) false _ (by omega) ⟨fun h => (by cases h), fun h => absurd h HY.out⟩).mono ?_
    rintro x w4 ⟨rfl, hb⟩
    have HB4 := Lib.hid (HB3.out.trans (hb.mono HB3.out.size)); clear hb
    rw [HX0.out]
    go_wp2_with fail
    go_ret
    exact ⟨rfl, HB4.out⟩

set_option maxHeartbeats 1600000 in
theorem marWalk (pad r1 r2 mt st : Int) (s : ByteArray) (w : World) (hT : Hid (Tabs w)) (lo : 3 ≤ w.heap.size) (_ : (Lit.int .i64 pad).wf = true) (_ : (Lit.int .i32 r1).wf = true) (_ : (Lit.int .i32 r2).wf = true) (hw3 : (Lit.int .i64 mt).wf = true) (hw4 : (Lit.int .i64 st).wf = true) (hm : s.size ≤ maxLen) :
    Calls Tryd.prog 7 #[.int .i64 pad, .int .i32 r1, .int .i32 r2, .int .i64 mt, .int .i64 st, .string s] w fun e w' => e = .returned (.bool true) ∧ Below w.heap.size w w' := by
  unfold maxLen at hm
  have k3 : -9223372036854775808 ≤ mt ∧ mt ≤ 9223372036854775807 := by
    simp [Lit.wf, IntKind.min, IntKind.max, IntKind.signed, IntKind.bits] at hw3
    omega
  have k4 : -9223372036854775808 ≤ st ∧ st ≤ 9223372036854775807 := by
    simp [Lit.wf, IntKind.min, IntKind.max, IntKind.signed, IntKind.bits] at hw4
    omega
  have K3 := Lib.hid k3; have K4 := Lib.hid k4
  clear hw3 hw4 k3 k4
  by_cases h1 : 1048576 < s.size
  · have h1' : (1048576 : Int) < (s.size : Int) := by omega
    go_enter Tryd.func7, Tryd.ntmps7
    go_wp2_with (go_at_call 26; go_in)
    go_ret
    exact ⟨rfl, Below.refl _ _⟩
  have h1' : decide ((1048576 : Int) < (s.size : Int)) = false := by simp; omega
  by_cases h2 : pad < 0
  · go_enter Tryd.func7, Tryd.ntmps7
    go_wp2_with (go_at_call 26; go_in)
    go_ret
    exact ⟨rfl, Below.refl _ _⟩
  have h2' : decide (pad < 0) = false := by simpa using h2
  by_cases h3 : 65536 < pad
  · go_enter Tryd.func7, Tryd.ntmps7
    go_wp2_with (go_at_call 26; go_in)
    go_ret
    exact ⟨rfl, Below.refl _ _⟩
  have h3' : decide (65536 < pad) = false := by simpa using h3
  obtain ⟨n, rfl⟩ : ∃ n : Nat, pad = n := ⟨pad.toNat, by omega⟩
  have hn : n ≤ 65536 := by omega
  clear h2 h3
  by_cases ha : ∃ a : Nat, r1 = a ∧ okR a
  case neg =>
    have HA := Lib.hid ha; clear ha
    go_enter Tryd.func7, Tryd.ntmps7
    go_wp2_with (go_at_call 26; go_in)
    refine (rokNo r1 _ HA.out).mono ?_
    rintro e w' ⟨rfl, rfl⟩
    go_wp2_with fail
    go_ret
    exact ⟨rfl, Below.refl _ _⟩
  obtain ⟨a, rfl, ha⟩ := ha
  have HA := Lib.hid ha; clear ha
  by_cases hc : ∃ c : Nat, r2 = c ∧ okR c
  case neg =>
    have HC := Lib.hid hc; clear hc
    go_enter Tryd.func7, Tryd.ntmps7
    go_wp2_with (go_at_call 26; go_in)
    refine (rokYes a _ HA.out).mono ?_
    rintro e w' ⟨rfl, rfl⟩
    go_wp2_with fail
    refine (rokNo r2 _ HC.out).mono ?_
    rintro e w' ⟨rfl, rfl⟩
    go_wp2_with fail
    go_ret
    exact ⟨rfl, Below.refl _ _⟩
  obtain ⟨c, rfl, hc⟩ := hc
  have HC := Lib.hid hc; clear hc
  by_cases h5 : c = 65533
  · have q : ((c : Int) == 65533) = true := beqT (by omega)
    clear h5
    go_enter Tryd.func7, Tryd.ntmps7
    go_wp2_with (go_at_call 26; go_in)
    refine (rokYes a _ HA.out).mono ?_
    rintro e w' ⟨rfl, rfl⟩
    go_wp2_with fail
    refine (rokYes c _ HC.out).mono ?_
    rintro e w' ⟨rfl, rfl⟩
    go_wp2_with fail
    go_ret
    exact ⟨rfl, Below.refl _ _⟩
  exact mar0 n a c mt st s w hT lo (by omega) hn K3.out.1 K3.out.2 K4.out.1 K4.out.2 HA HC h5
end Go.Proofs.YtdbnffjidnfhdaaDoor
