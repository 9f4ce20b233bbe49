/-
  The law FnUnquotedIdentifierIgnoresWhatFollows: its walk.
-/
import Derived.Test.YtdbnffjidnfhdaaDoorIds
namespace Go.Proofs.YtdbnffjidnfhdaaDoor
open Go.RowKit
set_option maxRecDepth 100000

theorem one_get (c : Nat) (hc : c ≤ 255) : ((strOfNums [(c : Int)]).get! 0).toNat = c := by
  show (UInt8.ofNat ((c : Int).toNat)).toNat = c
  rw [Int.toNat_natCast, UInt8.toNat_ofNat']
  exact Nat.mod_eq_of_lt (by omega)
/-- What stands where in pad, identifier, separator, rest. -/
theorem laid_get (n c : Nat) (x y : ByteArray) (j : Nat) (h : j < x.size) : (spc n ++ x ++ strOfNums [(c : Int)] ++ y).get! (n + j) = x.get! j := by
  rw [app_get _ _ _ (by rw [ByteArray.size_append, ByteArray.size_append, spc_size]; omega), app_get _ _ _ (by rw [ByteArray.size_append, spc_size]; omega)]
  have := app_right (spc n) x j
  rw [spc_size, Nat.add_comm] at this
  exact this
theorem laid_sep (n c : Nat) (x y : ByteArray) (hc : c ≤ 255) : ((spc n ++ x ++ strOfNums [(c : Int)] ++ y).get! (n + x.size)).toNat = c := by
  have hs : (strOfNums [(c : Int)]).size = 1 := rfl
  have hz : (spc n ++ x).size = n + x.size := by rw [ByteArray.size_append, spc_size]
  rw [app_get _ _ _ (by rw [ByteArray.size_append, hz, hs]; omega)]
  have := app_right (spc n ++ x) (strOfNums [(c : Int)]) 0
  rw [hz, Nat.zero_add] at this
  rw [this, one_get c hc]
theorem laid_next (n c : Nat) (x y : ByteArray) : (spc n ++ x ++ strOfNums [(c : Int)] ++ y).get! (n + x.size + 1) = y.get! 0 := by
  have hs : (strOfNums [(c : Int)]).size = 1 := rfl
  have hz : (spc n ++ x ++ strOfNums [(c : Int)]).size = n + x.size + 1 := by rw [ByteArray.size_append, ByteArray.size_append, spc_size, hs]
  have := app_right (spc n ++ x ++ strOfNums [(c : Int)]) y 0
  rw [hz, Nat.zero_add] at this
  exact this
theorem laid_size (n c : Nat) (x y : ByteArray) : (spc n ++ x ++ strOfNums [(c : Int)] ++ y).size = n + x.size + 1 + y.size := by
  have hs : (strOfNums [(c : Int)]).size = 1 := rfl
  rw [ByteArray.size_append, ByteArray.size_append, ByteArray.size_append, spc_size, hs]
theorem laid_run (n c : Nat) (x y : ByteArray) (h0 : 0 < x.size) (hR : RunEnd isTrail x 0 x.size) (ht : trailB c = false) (hc : c ≤ 255) : RunEnd isTrail (spc n ++ x ++ strOfNums [(c : Int)] ++ y) (n + 1) (n + x.size) := by
  refine ⟨by omega, by rw [laid_size]; omega, fun j h1 h2 => ?_, fun _ h => ?_⟩
  · have := laid_get n c x y (j - n) (by omega)
    rw [show n + (j - n) = j from by omega] at this
    rw [this]
    exact hR.2.2.1 _ (by omega) (by omega)
  · rw [laid_sep n c x y hc] at h
    have := (trailB_iff _).2 h
    rw [ht] at this
    cases this
theorem laid_128 (n c : Nat) (x y : ByteArray) (hc : c ≤ 255) (h : ¬ (c = 194 ∧ 0 < y.size ∧ (y.get! 0).toNat = 128)) : rn (spc n ++ x ++ strOfNums [(c : Int)] ++ y) (n + x.size) ≠ 128 := fun e => by
  obtain ⟨a, b, d⟩ := rn_128 _ _ e
  rw [laid_size] at a
  rw [laid_sep n c x y hc] at b
  rw [laid_next] at d
  exact h ⟨b, by omega, d⟩
theorem laid_cut (n c : Nat) (x y : ByteArray) : (spc n ++ x ++ strOfNums [(c : Int)] ++ y).extract n (n + x.size) = x := by
  have := cut_behind (spc n) (x ++ (strOfNums [(c : Int)] ++ y)) x.size
  rw [spc_size, ← ByteArray.append_assoc, ← ByteArray.append_assoc] at this
  rw [this]
  have := cut_over x (strOfNums [(c : Int)] ++ y) 0
  rw [Nat.add_zero] at this
  rw [this]
  apply toList_inj
  rw [toList_app, toList_extract]
  simp

set_option maxHeartbeats 1600000 in
theorem uif0 (n c : Nat) (x y z : ByteArray) (w : World) (hT : Hid (Tabs w)) (lo : 3 ≤ w.heap.size) (hTr : Hid (Trail w)) (hsum : x.size + y.size + z.size ≤ 1048576) (hn : n ≤ 65536) (hc : c ≤ 255) (hx0 : 0 < x.size)
    (HS : Hid (startB (x[0]'hx0).toNat = true)) (HR : Hid (RunEnd isTrail x 0 x.size)) (HT : Hid (trailB c = false)) (h1 : Hid (¬ (c = 194 ∧ 0 < y.size ∧ (y.get! 0).toNat = 128))) (h2 : Hid (¬ (c = 194 ∧ 0 < z.size ∧ (z.get! 0).toNat = 128)))
    (_u0 : ((c : Int) == 194) = false) :
    Calls Tryd.prog 8 #[.int .i64 n, .string x, .int .u8 c, .string y, .string z] w fun e w' => e = .returned (.bool true) ∧ Below w.heap.size w w' := by
  have t1 : decide ((1048576 : Int) < (x.size : Int)) = false := by simp; omega
  have t2 : decide ((1048576 : Int) < (y.size : Int)) = false := by simp; omega
  have t3 : decide ((1048576 : Int) < (z.size : Int)) = false := by simp; omega
  have t4 : decide ((1048576 : Int) < (x.size : Int) + (y.size : Int)) = false := by simp; omega
  have t5 : decide ((1048576 : Int) < (x.size : Int) + (y.size : Int) + (z.size : Int)) = false := by simp; omega
  have t6 : decide ((n : Int) < 0) = false := by simp
  have t7 : decide ((65536 : Int) < (n : Int)) = false := by simp; omega
  have t8 : ((x.size : Int) == 0) = false := beqF (by omega)
  have t9 : (0 : Int) < (x.size : Int) := by omega
  have hcv := run_conv1
  have hsz := spc_size n
  have hsf : (strOfNums [(c : Int)]).size = 1 := rfl
  have hap : (spc n ++ x).size = n + x.size := by rw [ByteArray.size_append, hsz]
  have haq : (spc n ++ x ++ strOfNums [(c : Int)]).size = n + x.size + 1 := by rw [ByteArray.size_append, hap, hsf]
  have hn1 : ¬ 9223372036854775807 < n + x.size := by omega
  have hn2 : ¬ 9223372036854775807 < n + x.size + 1 := by omega
  have hn3 : ¬ 9223372036854775807 < n + x.size + 1 + y.size := by omega
  have hn4 : ¬ 9223372036854775807 < n + x.size + 1 + z.size := by omega
  go_enter Tryd.func8, Tryd.ntmps8
  go_wp2_with (go_at_call 29; go_in)
  refine (is_any _ _).mono ?_
  rintro e w' ⟨rfl, rfl⟩
  rw [HS.out]
  go_wp2_with fail
  refine (ir_any x x.size _ (by omega) HR).mono ?_
  rintro e w' ⟨rfl, rfl⟩
  go_wp2_with fail
  refine (it_any c _).mono ?_
  rintro e w' ⟨rfl, rfl⟩
  rw [HT.out]
  go_upto_region 13 with (fail)
  go_cut [11] (fun v wx => v = .string (spc n ++ x ++ strOfNums [(c : Int)]) ∧ Below w.heap.size w wx)
  case first =>
    go_region_with ((go_at_call 17; refine (sp_any n _ hn).mono ?_; rintro e w' ⟨rfl, hb⟩; have kk := fun (b o : Nat) (h : b < _) => hb.cell (p := ⟨b, o, none⟩) h; have hzz := hb.size))
    all_goals
      have HB := Lib.hid hb
      clear kk hb
      go_wp2_with fail
      go_meet
      refine ⟨rfl, ?_⟩
      have hb := HB.out
      first
        | exact (((Below.refl _ w).drew.trans (hb.mono (by simp))).alloc (by have := hb.size; simp at this; omega) _)
        | exact (((Below.refl _ w).drew.alloc (by simp) _).trans (hb.mono (by simp)))
        | trace_state
      done
  case rest =>
    obtain ⟨rfl, hb⟩ := hcut
    have hE1 := laid_size n c x y
    have hE2 := laid_size n c x z
    have hR1 := laid_run n c x y hx0 HR.out HT.out hc
    have hR2 := laid_run n c x z hx0 HR.out HT.out hc
    have hU1 := laid_128 n c x y hc h1.out
    have hU2 := laid_128 n c x z hc h2.out
    have hX1 := laid_cut n c x y
    have hX2 := laid_cut n c x z
    generalize hA : spc n ++ x ++ strOfNums [(c : Int)] = A at *
    generalize hB1 : A ++ y = E1 at *
    generalize hB2 : A ++ z = E2 at *
    have HZ1 := Lib.hid hE1; have HZ2 := Lib.hid hE2; have HR1 := Lib.hid hR1; have HR2 := Lib.hid hR2; have HU1 := Lib.hid hU1; have HU2 := Lib.hid hU2; have HX1 := Lib.hid hX1; have HX2 := Lib.hid hX2
    have HB := Lib.hid hb
    have lo1 : 3 ≤ wc.heap.size := Nat.le_trans lo hb.size
    have hT1 : Hid (Tabs wc) := hT.out.alike fun b _ h2 => hb.cell (show b < w.heap.size by omega)
    have hTr1 : Hid (Trail wc) := hTr.out.below hb lo
    clear hb hE1 hE2 hR1 hR2 hU1 hU2 hX1 hX2 hsz hsf hap hn1 hn2 hT h1 h2 hA hcv

    go_wp2_with fail
    rw [show (n : Int) + 1 = ((n + 1 : Nat) : Int) from by omega]
    refine (newLex13 E1 (n + 1) 1 _ hT1 lo1).mono ?_
    rintro e w1 ⟨rfl, hL, hb⟩
    have hi := hL.hi
    have hTr' : Hid (Trail w1) := hTr1.out.below hb lo1
    have HL := Lib.hid hL; have HB' := Lib.hid hb; clear hL hb
    go_wp2_with fail
    refine (zzId _ E1 (n + 1) 1 (n + x.size) _ HL (by omega) (by rw [HZ1.out]; omega) (by rw [HZ1.out]; omega) HR1 hTr' HU1).mono ?_
    rintro e w2 ⟨rfl, hL, hg⟩
    have c1 := hL.c1
    have hb := (below_step HB'.out hi hg)
    clear hL hg HL HB' hTr' hi
    rw [show n + 1 - 1 = n from by omega, HX1.out]
    go_wp2_with fail
    refine (pos13 _ _ _ c1).mono ?_
    rintro e w' ⟨rfl, rfl⟩
    clear c1
    have lo2 : 3 ≤ w2.heap.size := Nat.le_trans lo1 hb.size
    have hT2 : Hid (Tabs w2) := hT1.out.alike fun b _ h2 => hb.cell (show b < wc.heap.size by omega)
    have hTr2 : Hid (Trail w2) := hTr1.out.below hb lo1
    have HC := Lib.hid (HB.out.trans (hb.mono HB.out.size)); clear hb

    go_wp2_with fail
    rw [show (n : Int) + 1 = ((n + 1 : Nat) : Int) from by omega]
    refine (newLex13 E2 (n + 1) 1 _ hT2 lo2).mono ?_
    rintro e w3 ⟨rfl, hL, hb⟩
    have hi := hL.hi
    have hTr' : Hid (Trail w3) := hTr2.out.below hb lo2
    have HL := Lib.hid hL; have HB' := Lib.hid hb; clear hL hb
    go_wp2_with fail
    refine (zzId _ E2 (n + 1) 1 (n + x.size) _ HL (by omega) (by rw [HZ2.out]; omega) (by rw [HZ2.out]; omega) HR2 hTr' HU2).mono ?_
    rintro e w4 ⟨rfl, hL, hg⟩
    have c1 := hL.c1
    have hb := (below_step HB'.out hi hg)
    clear hL hg HL HB' hTr' hi
    rw [show n + 1 - 1 = n from by omega, HX2.out]
    go_wp2_with fail
    refine (pos13 _ _ _ c1).mono ?_
    rintro e w' ⟨rfl, rfl⟩
    clear c1
    have HD := Lib.hid (HC.out.trans (hb.mono HC.out.size)); clear hb
    go_wp2_with fail
    go_ret
    exact ⟨rfl, HD.out⟩
set_option maxHeartbeats 1600000 in
theorem uif1 (n c : Nat) (x y z : ByteArray) (w : World) (hT : Hid (Tabs w)) (lo : 3 ≤ w.heap.size) (hTr : Hid (Trail w)) (hsum : x.size + y.size + z.size ≤ 1048576) (hn : n ≤ 65536) (hc : c ≤ 255) (hx0 : 0 < x.size)
    (HS : Hid (startB (x[0]'hx0).toNat = true)) (HR : Hid (RunEnd isTrail x 0 x.size)) (HT : Hid (trailB c = false)) (h1 : Hid (¬ (c = 194 ∧ 0 < y.size ∧ (y.get! 0).toNat = 128))) (h2 : Hid (¬ (c = 194 ∧ 0 < z.size ∧ (z.get! 0).toNat = 128)))
    (_u0 : ((c : Int) == 194) = true) (_u1 : ¬ 0 < y.size) (_u2 : decide ((0 : Int) < (y.size : Int)) = false) (_u3 : ¬ 0 < z.size) (_u4 : decide ((0 : Int) < (z.size : Int)) = false) :
    Calls Tryd.prog 8 #[.int .i64 n, .string x, .int .u8 c, .string y, .string z] w fun e w' => e = .returned (.bool true) ∧ Below w.heap.size w w' := by
  have t1 : decide ((1048576 : Int) < (x.size : Int)) = false := by simp; omega
  have t2 : decide ((1048576 : Int) < (y.size : Int)) = false := by simp; omega
  have t3 : decide ((1048576 : Int) < (z.size : Int)) = false := by simp; omega
  have t4 : decide ((1048576 : Int) < (x.size : Int) + (y.size : Int)) = false := by simp; omega
  have t5 : decide ((1048576 : Int) < (x.size : Int) + (y.size : Int) + (z.size : Int)) = false := by simp; omega
  have t6 : decide ((n : Int) < 0) = false := by simp
  have t7 : decide ((65536 : Int) < (n : Int)) = false := by simp; omega
  have t8 : ((x.size : Int) == 0) = false := beqF (by omega)
  have t9 : (0 : Int) < (x.size : Int) := by omega
  have hcv := run_conv1
  have hsz := spc_size n
  have hsf : (strOfNums [(c : Int)]).size = 1 := rfl
  have hap : (spc n ++ x).size = n + x.size := by rw [ByteArray.size_append, hsz]
  have haq : (spc n ++ x ++ strOfNums [(c : Int)]).size = n + x.size + 1 := by rw [ByteArray.size_append, hap, hsf]
  have hn1 : ¬ 9223372036854775807 < n + x.size := by omega
  have hn2 : ¬ 9223372036854775807 < n + x.size + 1 := by omega
  have hn3 : ¬ 9223372036854775807 < n + x.size + 1 + y.size := by omega
  have hn4 : ¬ 9223372036854775807 < n + x.size + 1 + z.size := by omega
  go_enter Tryd.func8, Tryd.ntmps8
  go_wp2_with (go_at_call 29; go_in)
  refine (is_any _ _).mono ?_
  rintro e w' ⟨rfl, rfl⟩
  rw [HS.out]
  go_wp2_with fail
  refine (ir_any x x.size _ (by omega) HR).mono ?_
  rintro e w' ⟨rfl, rfl⟩
  go_wp2_with fail
  refine (it_any c _).mono ?_
  rintro e w' ⟨rfl, rfl⟩
  rw [HT.out]
  go_upto_region 13 with (fail)
  go_cut [11] (fun v wx => v = .string (spc n ++ x ++ strOfNums [(c : Int)]) ∧ Below w.heap.size w wx)
  case first =>
    go_region_with ((go_at_call 17; refine (sp_any n _ hn).mono ?_; rintro e w' ⟨rfl, hb⟩; have kk := fun (b o : Nat) (h : b < _) => hb.cell (p := ⟨b, o, none⟩) h; have hzz := hb.size))
    all_goals
      have HB := Lib.hid hb
      clear kk hb
      go_wp2_with fail
      go_meet
      refine ⟨rfl, ?_⟩
      have hb := HB.out
      first
        | exact (((Below.refl _ w).drew.trans (hb.mono (by simp))).alloc (by have := hb.size; simp at this; omega) _)
        | exact (((Below.refl _ w).drew.alloc (by simp) _).trans (hb.mono (by simp)))
        | trace_state
      done
  case rest =>
    obtain ⟨rfl, hb⟩ := hcut
    have hE1 := laid_size n c x y
    have hE2 := laid_size n c x z
    have hR1 := laid_run n c x y hx0 HR.out HT.out hc
    have hR2 := laid_run n c x z hx0 HR.out HT.out hc
    have hU1 := laid_128 n c x y hc h1.out
    have hU2 := laid_128 n c x z hc h2.out
    have hX1 := laid_cut n c x y
    have hX2 := laid_cut n c x z
    generalize hA : spc n ++ x ++ strOfNums [(c : Int)] = A at *
    generalize hB1 : A ++ y = E1 at *
    generalize hB2 : A ++ z = E2 at *
    have HZ1 := Lib.hid hE1; have HZ2 := Lib.hid hE2; have HR1 := Lib.hid hR1; have HR2 := Lib.hid hR2; have HU1 := Lib.hid hU1; have HU2 := Lib.hid hU2; have HX1 := Lib.hid hX1; have HX2 := Lib.hid hX2
    have HB := Lib.hid hb
    have lo1 : 3 ≤ wc.heap.size := Nat.le_trans lo hb.size
    have hT1 : Hid (Tabs wc) := hT.out.alike fun b _ h2 => hb.cell (show b < w.heap.size by omega)
    have hTr1 : Hid (Trail wc) := hTr.out.below hb lo
    clear hb hE1 hE2 hR1 hR2 hU1 hU2 hX1 hX2 hsz hsf hap hn1 hn2 hT h1 h2 hA hcv

    go_wp2_with fail
    rw [show (n : Int) + 1 = ((n + 1 : Nat) : Int) from by omega]
    refine (newLex13 E1 (n + 1) 1 _ hT1 lo1).mono ?_
    rintro e w1 ⟨rfl, hL, hb⟩
    have hi := hL.hi
    have hTr' : Hid (Trail w1) := hTr1.out.below hb lo1
    have HL := Lib.hid hL; have HB' := Lib.hid hb; clear hL hb
    go_wp2_with fail
    refine (zzId _ E1 (n + 1) 1 (n + x.size) _ HL (by omega) (by rw [HZ1.out]; omega) (by rw [HZ1.out]; omega) HR1 hTr' HU1).mono ?_
    rintro e w2 ⟨rfl, hL, hg⟩
    have c1 := hL.c1
    have hb := (below_step HB'.out hi hg)
    clear hL hg HL HB' hTr' hi
    rw [show n + 1 - 1 = n from by omega, HX1.out]
    go_wp2_with fail
    refine (pos13 _ _ _ c1).mono ?_
    rintro e w' ⟨rfl, rfl⟩
    clear c1
    have lo2 : 3 ≤ w2.heap.size := Nat.le_trans lo1 hb.size
    have hT2 : Hid (Tabs w2) := hT1.out.alike fun b _ h2 => hb.cell (show b < wc.heap.size by omega)
    have hTr2 : Hid (Trail w2) := hTr1.out.below hb lo1
    have HC := Lib.hid (HB.out.trans (hb.mono HB.out.size)); clear hb

    go_wp2_with fail
    rw [show (n : Int) + 1 = ((n + 1 : Nat) : Int) from by omega]
    refine (newLex13 E2 (n + 1) 1 _ hT2 lo2).mono ?_
    rintro e w3 ⟨rfl, hL, hb⟩
    have hi := hL.hi
    have hTr' : Hid (Trail w3) := hTr2.out.below hb lo2
    have HL := Lib.hid hL; have HB' := Lib.hid hb; clear hL hb
    go_wp2_with fail
    refine (zzId _ E2 (n + 1) 1 (n + x.size) _ HL (by omega) (by rw [HZ2.out]; omega) (by rw [HZ2.out]; omega) HR2 hTr' HU2).mono ?_
    rintro e w4 ⟨rfl, hL, hg⟩
    have c1 := hL.c1
    have hb := (below_step HB'.out hi hg)
    clear hL hg HL HB' hTr' hi
    rw [show n + 1 - 1 = n from by omega, HX2.out]
    go_wp2_with fail
    refine (pos13 _ _ _ c1).mono ?_
    rintro e w' ⟨rfl, rfl⟩
    clear c1
    have HD := Lib.hid (HC.out.trans (hb.mono HC.out.size)); clear hb
    go_wp2_with fail
    go_ret
    exact ⟨rfl, HD.out⟩
set_option maxHeartbeats 1600000 in
theorem uif2 (n c : Nat) (x y z : ByteArray) (w : World) (hT : Hid (Tabs w)) (lo : 3 ≤ w.heap.size) (hTr : Hid (Trail w)) (hsum : x.size + y.size + z.size ≤ 1048576) (hn : n ≤ 65536) (hc : c ≤ 255) (hx0 : 0 < x.size)
    (HS : Hid (startB (x[0]'hx0).toNat = true)) (HR : Hid (RunEnd isTrail x 0 x.size)) (HT : Hid (trailB c = false)) (h1 : Hid (¬ (c = 194 ∧ 0 < y.size ∧ (y.get! 0).toNat = 128))) (h2 : Hid (¬ (c = 194 ∧ 0 < z.size ∧ (z.get! 0).toNat = 128)))
    (_u0 : ((c : Int) == 194) = true) (_u1 : 0 < y.size) (_u2 : (0 : Int) < (y.size : Int)) (_u3 : (((y[0].toNat : Nat) : Int) == 128) = false) (_u4 : ¬ 0 < z.size) (_u5 : decide ((0 : Int) < (z.size : Int)) = false) :
    Calls Tryd.prog 8 #[.int .i64 n, .string x, .int .u8 c, .string y, .string z] w fun e w' => e = .returned (.bool true) ∧ Below w.heap.size w w' := by
  have t1 : decide ((1048576 : Int) < (x.size : Int)) = false := by simp; omega
  have t2 : decide ((1048576 : Int) < (y.size : Int)) = false := by simp; omega
  have t3 : decide ((1048576 : Int) < (z.size : Int)) = false := by simp; omega
  have t4 : decide ((1048576 : Int) < (x.size : Int) + (y.size : Int)) = false := by simp; omega
  have t5 : decide ((1048576 : Int) < (x.size : Int) + (y.size : Int) + (z.size : Int)) = false := by simp; omega
  have t6 : decide ((n : Int) < 0) = false := by simp
  have t7 : decide ((65536 : Int) < (n : Int)) = false := by simp; omega
  have t8 : ((x.size : Int) == 0) = false := beqF (by omega)
  have t9 : (0 : Int) < (x.size : Int) := by omega
  have hcv := run_conv1
  have hsz := spc_size n
  have hsf : (strOfNums [(c : Int)]).size = 1 := rfl
  have hap : (spc n ++ x).size = n + x.size := by rw [ByteArray.size_append, hsz]
  have haq : (spc n ++ x ++ strOfNums [(c : Int)]).size = n + x.size + 1 := by rw [ByteArray.size_append, hap, hsf]
  have hn1 : ¬ 9223372036854775807 < n + x.size := by omega
  have hn2 : ¬ 9223372036854775807 < n + x.size + 1 := by omega
  have hn3 : ¬ 9223372036854775807 < n + x.size + 1 + y.size := by omega
  have hn4 : ¬ 9223372036854775807 < n + x.size + 1 + z.size := by omega
  go_enter Tryd.func8, Tryd.ntmps8
  go_wp2_with (go_at_call 29; go_in)
  refine (is_any _ _).mono ?_
  rintro e w' ⟨rfl, rfl⟩
  rw [HS.out]
  go_wp2_with fail
  refine (ir_any x x.size _ (by omega) HR).mono ?_
  rintro e w' ⟨rfl, rfl⟩
  go_wp2_with fail
  refine (it_any c _).mono ?_
  rintro e w' ⟨rfl, rfl⟩
  rw [HT.out]
  go_upto_region 13 with (fail)
  go_cut [11] (fun v wx => v = .string (spc n ++ x ++ strOfNums [(c : Int)]) ∧ Below w.heap.size w wx)
  case first =>
    go_region_with ((go_at_call 17; refine (sp_any n _ hn).mono ?_; rintro e w' ⟨rfl, hb⟩; have kk := fun (b o : Nat) (h : b < _) => hb.cell (p := ⟨b, o, none⟩) h; have hzz := hb.size))
    all_goals
      have HB := Lib.hid hb
      clear kk hb
      go_wp2_with fail
      go_meet
      refine ⟨rfl, ?_⟩
      have hb := HB.out
      first
        | exact (((Below.refl _ w).drew.trans (hb.mono (by simp))).alloc (by have := hb.size; simp at this; omega) _)
        | exact (((Below.refl _ w).drew.alloc (by simp) _).trans (hb.mono (by simp)))
        | trace_state
      done
  case rest =>
    obtain ⟨rfl, hb⟩ := hcut
    have hE1 := laid_size n c x y
    have hE2 := laid_size n c x z
    have hR1 := laid_run n c x y hx0 HR.out HT.out hc
    have hR2 := laid_run n c x z hx0 HR.out HT.out hc
    have hU1 := laid_128 n c x y hc h1.out
    have hU2 := laid_128 n c x z hc h2.out
    have hX1 := laid_cut n c x y
    have hX2 := laid_cut n c x z
    generalize hA : spc n ++ x ++ strOfNums [(c : Int)] = A at *
    generalize hB1 : A ++ y = E1 at *
    generalize hB2 : A ++ z = E2 at *
    have HZ1 := Lib.hid hE1; have HZ2 := Lib.hid hE2; have HR1 := Lib.hid hR1; have HR2 := Lib.hid hR2; have HU1 := Lib.hid hU1; have HU2 := Lib.hid hU2; have HX1 := Lib.hid hX1; have HX2 := Lib.hid hX2
    have HB := Lib.hid hb
    have lo1 : 3 ≤ wc.heap.size := Nat.le_trans lo hb.size
    have hT1 : Hid (Tabs wc) := hT.out.alike fun b _ h2 => hb.cell (show b < w.heap.size by omega)
    have hTr1 : Hid (Trail wc) := hTr.out.below hb lo
    clear hb hE1 hE2 hR1 hR2 hU1 hU2 hX1 hX2 hsz hsf hap hn1 hn2 hT h1 h2 hA hcv

    go_wp2_with fail
    rw [show (n : Int) + 1 = ((n + 1 : Nat) : Int) from by omega]
    refine (newLex13 E1 (n + 1) 1 _ hT1 lo1).mono ?_
    rintro e w1 ⟨rfl, hL, hb⟩
    have hi := hL.hi
    have hTr' : Hid (Trail w1) := hTr1.out.below hb lo1
    have HL := Lib.hid hL; have HB' := Lib.hid hb; clear hL hb
    go_wp2_with fail
    refine (zzId _ E1 (n + 1) 1 (n + x.size) _ HL (by omega) (by rw [HZ1.out]; omega) (by rw [HZ1.out]; omega) HR1 hTr' HU1).mono ?_
    rintro e w2 ⟨rfl, hL, hg⟩
    have c1 := hL.c1
    have hb := (below_step HB'.out hi hg)
    clear hL hg HL HB' hTr' hi
    rw [show n + 1 - 1 = n from by omega, HX1.out]
    go_wp2_with fail
    refine (pos13 _ _ _ c1).mono ?_
    rintro e w' ⟨rfl, rfl⟩
    clear c1
    have lo2 : 3 ≤ w2.heap.size := Nat.le_trans lo1 hb.size
    have hT2 : Hid (Tabs w2) := hT1.out.alike fun b _ h2 => hb.cell (show b < wc.heap.size by omega)
    have hTr2 : Hid (Trail w2) := hTr1.out.below hb lo1
    have HC := Lib.hid (HB.out.trans (hb.mono HB.out.size)); clear hb

    go_wp2_with fail
    rw [show (n : Int) + 1 = ((n + 1 : Nat) : Int) from by omega]
    refine (newLex13 E2 (n + 1) 1 _ hT2 lo2).mono ?_
    rintro e w3 ⟨rfl, hL, hb⟩
    have hi := hL.hi
    have hTr' : Hid (Trail w3) := hTr2.out.below hb lo2
    have HL := Lib.hid hL; have HB' := Lib.hid hb; clear hL hb
    go_wp2_with fail
    refine (zzId _ E2 (n + 1) 1 (n + x.size) _ HL (by omega) (by rw [HZ2.out]; omega) (by rw [HZ2.out]; omega) HR2 hTr' HU2).mono ?_
    rintro e w4 ⟨rfl, hL, hg⟩
    have c1 := hL.c1
    have hb := (below_step HB'.out hi hg)
    clear hL hg HL HB' hTr' hi
    rw [show n + 1 - 1 = n from by omega, HX2.out]
    go_wp2_with fail
    refine (pos13 _ _ _ c1).mono ?_
    rintro e w' ⟨rfl, rfl⟩
    clear c1
    have HD := Lib.hid (HC.out.trans (hb.mono HC.out.size)); clear hb
    go_wp2_with fail
    go_ret
    exact ⟨rfl, HD.out⟩
set_option maxHeartbeats 1600000 in
theorem uif3 (n c : Nat) (x y z : ByteArray) (w : World) (hT : Hid (Tabs w)) (lo : 3 ≤ w.heap.size) (hTr : Hid (Trail w)) (hsum : x.size + y.size + z.size ≤ 1048576) (hn : n ≤ 65536) (hc : c ≤ 255) (hx0 : 0 < x.size)
    (HS : Hid (startB (x[0]'hx0).toNat = true)) (HR : Hid (RunEnd isTrail x 0 x.size)) (HT : Hid (trailB c = false)) (h1 : Hid (¬ (c = 194 ∧ 0 < y.size ∧ (y.get! 0).toNat = 128))) (h2 : Hid (¬ (c = 194 ∧ 0 < z.size ∧ (z.get! 0).toNat = 128)))
    (_u0 : ((c : Int) == 194) = true) (_u1 : ¬ 0 < y.size) (_u2 : decide ((0 : Int) < (y.size : Int)) = false) (_u3 : 0 < z.size) (_u4 : (0 : Int) < (z.size : Int)) (_u5 : (((z[0].toNat : Nat) : Int) == 128) = false) :
    Calls Tryd.prog 8 #[.int .i64 n, .string x, .int .u8 c, .string y, .string z] w fun e w' => e = .returned (.bool true) ∧ Below w.heap.size w w' := by
  have t1 : decide ((1048576 : Int) < (x.size : Int)) = false := by simp; omega
  have t2 : decide ((1048576 : Int) < (y.size : Int)) = false := by simp; omega
  have t3 : decide ((1048576 : Int) < (z.size : Int)) = false := by simp; omega
  have t4 : decide ((1048576 : Int) < (x.size : Int) + (y.size : Int)) = false := by simp; omega
  have t5 : decide ((1048576 : Int) < (x.size : Int) + (y.size : Int) + (z.size : Int)) = false := by simp; omega
  have t6 : decide ((n : Int) < 0) = false := by simp
  have t7 : decide ((65536 : Int) < (n : Int)) = false := by simp; omega
  have t8 : ((x.size : Int) == 0) = false := beqF (by omega)
  have t9 : (0 : Int) < (x.size : Int) := by omega
  have hcv := run_conv1
  have hsz := spc_size n
  have hsf : (strOfNums [(c : Int)]).size = 1 := rfl
  have hap : (spc n ++ x).size = n + x.size := by rw [ByteArray.size_append, hsz]
  have haq : (spc n ++ x ++ strOfNums [(c : Int)]).size = n + x.size + 1 := by rw [ByteArray.size_append, hap, hsf]
  have hn1 : ¬ 9223372036854775807 < n + x.size := by omega
  have hn2 : ¬ 9223372036854775807 < n + x.size + 1 := by omega
  have hn3 : ¬ 9223372036854775807 < n + x.size + 1 + y.size := by omega
  have hn4 : ¬ 9223372036854775807 < n + x.size + 1 + z.size := by omega
  go_enter Tryd.func8, Tryd.ntmps8
  go_wp2_with (go_at_call 29; go_in)
  refine (is_any _ _).mono ?_
  rintro e w' ⟨rfl, rfl⟩
  rw [HS.out]
  go_wp2_with fail
  refine (ir_any x x.size _ (by omega) HR).mono ?_
  rintro e w' ⟨rfl, rfl⟩
  go_wp2_with fail
  refine (it_any c _).mono ?_
  rintro e w' ⟨rfl, rfl⟩
  rw [HT.out]
  go_upto_region 13 with (fail)
  go_cut [11] (fun v wx => v = .string (spc n ++ x ++ strOfNums [(c : Int)]) ∧ Below w.heap.size w wx)
  case first =>
    go_region_with ((go_at_call 17; refine (sp_any n _ hn).mono ?_; rintro e w' ⟨rfl, hb⟩; have kk := fun (b o : Nat) (h : b < _) => hb.cell (p := ⟨b, o, none⟩) h; have hzz := hb.size))
    all_goals
      have HB := Lib.hid hb
      clear kk hb
      go_wp2_with fail
      go_meet
      refine ⟨rfl, ?_⟩
      have hb := HB.out
      first
        | exact (((Below.refl _ w).drew.trans (hb.mono (by simp))).alloc (by have := hb.size; simp at this; omega) _)
        | exact (((Below.refl _ w).drew.alloc (by simp) _).trans (hb.mono (by simp)))
        | trace_state
      done
  case rest =>
    obtain ⟨rfl, hb⟩ := hcut
    have hE1 := laid_size n c x y
    have hE2 := laid_size n c x z
    have hR1 := laid_run n c x y hx0 HR.out HT.out hc
    have hR2 := laid_run n c x z hx0 HR.out HT.out hc
    have hU1 := laid_128 n c x y hc h1.out
    have hU2 := laid_128 n c x z hc h2.out
    have hX1 := laid_cut n c x y
    have hX2 := laid_cut n c x z
    generalize hA : spc n ++ x ++ strOfNums [(c : Int)] = A at *
    generalize hB1 : A ++ y = E1 at *
    generalize hB2 : A ++ z = E2 at *
    have HZ1 := Lib.hid hE1; have HZ2 := Lib.hid hE2; have HR1 := Lib.hid hR1; have HR2 := Lib.hid hR2; have HU1 := Lib.hid hU1; have HU2 := Lib.hid hU2; have HX1 := Lib.hid hX1; have HX2 := Lib.hid hX2
    have HB := Lib.hid hb
    have lo1 : 3 ≤ wc.heap.size := Nat.le_trans lo hb.size
    have hT1 : Hid (Tabs wc) := hT.out.alike fun b _ h2 => hb.cell (show b < w.heap.size by omega)
    have hTr1 : Hid (Trail wc) := hTr.out.below hb lo
    clear hb hE1 hE2 hR1 hR2 hU1 hU2 hX1 hX2 hsz hsf hap hn1 hn2 hT h1 h2 hA hcv

    go_wp2_with fail
    rw [show (n : Int) + 1 = ((n + 1 : Nat) : Int) from by omega]
    refine (newLex13 E1 (n + 1) 1 _ hT1 lo1).mono ?_
    rintro e w1 ⟨rfl, hL, hb⟩
    have hi := hL.hi
    have hTr' : Hid (Trail w1) := hTr1.out.below hb lo1
    have HL := Lib.hid hL; have HB' := Lib.hid hb; clear hL hb
    go_wp2_with fail
    refine (zzId _ E1 (n + 1) 1 (n + x.size) _ HL (by omega) (by rw [HZ1.out]; omega) (by rw [HZ1.out]; omega) HR1 hTr' HU1).mono ?_
    rintro e w2 ⟨rfl, hL, hg⟩
    have c1 := hL.c1
    have hb := (below_step HB'.out hi hg)
    clear hL hg HL HB' hTr' hi
    rw [show n + 1 - 1 = n from by omega, HX1.out]
    go_wp2_with fail
    refine (pos13 _ _ _ c1).mono ?_
    rintro e w' ⟨rfl, rfl⟩
    clear c1
    have lo2 : 3 ≤ w2.heap.size := Nat.le_trans lo1 hb.size
    have hT2 : Hid (Tabs w2) := hT1.out.alike fun b _ h2 => hb.cell (show b < wc.heap.size by omega)
    have hTr2 : Hid (Trail w2) := hTr1.out.below hb lo1
    have HC := Lib.hid (HB.out.trans (hb.mono HB.out.size)); clear hb

    go_wp2_with fail
    rw [show (n : Int) + 1 = ((n + 1 : Nat) : Int) from by omega]
    refine (newLex13 E2 (n + 1) 1 _ hT2 lo2).mono ?_
    rintro e w3 ⟨rfl, hL, hb⟩
    have hi := hL.hi
    have hTr' : Hid (Trail w3) := hTr2.out.below hb lo2
    have HL := Lib.hid hL; have HB' := Lib.hid hb; clear hL hb
    go_wp2_with fail
    refine (zzId _ E2 (n + 1) 1 (n + x.size) _ HL (by omega) (by rw [HZ2.out]; omega) (by rw [HZ2.out]; omega) HR2 hTr' HU2).mono ?_
    rintro e w4 ⟨rfl, hL, hg⟩
    have c1 := hL.c1
    have hb := (below_step HB'.out hi hg)
    clear hL hg HL HB' hTr' hi
    rw [show n + 1 - 1 = n from by omega, HX2.out]
    go_wp2_with fail
    refine (pos13 _ _ _ c1).mono ?_
    rintro e w' ⟨rfl, rfl⟩
    clear c1
    have HD := Lib.hid (HC.out.trans (hb.mono HC.out.size)); clear hb
    go_wp2_with fail
    go_ret
    exact ⟨rfl, HD.out⟩
set_option maxHeartbeats 1600000 in
theorem uif4 (n c : Nat) (x y z : ByteArray) (w : World) (hT : Hid (Tabs w)) (lo : 3 ≤ w.heap.size) (hTr : Hid (Trail w)) (hsum : x.size + y.size + z.size ≤ 1048576) (hn : n ≤ 65536) (hc : c ≤ 255) (hx0 : 0 < x.size)
    (HS : Hid (startB (x[0]'hx0).toNat = true)) (HR : Hid (RunEnd isTrail x 0 x.size)) (HT : Hid (trailB c = false)) (h1 : Hid (¬ (c = 194 ∧ 0 < y.size ∧ (y.get! 0).toNat = 128))) (h2 : Hid (¬ (c = 194 ∧ 0 < z.size ∧ (z.get! 0).toNat = 128)))
    (_u0 : ((c : Int) == 194) = true) (_u1 : 0 < y.size) (_u2 : (0 : Int) < (y.size : Int)) (_u3 : (((y[0].toNat : Nat) : Int) == 128) = false) (_u4 : 0 < z.size) (_u5 : (0 : Int) < (z.size : Int)) (_u6 : (((z[0].toNat : Nat) : Int) == 128) = false) :
    Calls Tryd.prog 8 #[.int .i64 n, .string x, .int .u8 c, .string y, .string z] w fun e w' => e = .returned (.bool true) ∧ Below w.heap.size w w' := by
  have t1 : decide ((1048576 : Int) < (x.size : Int)) = false := by simp; omega
  have t2 : decide ((1048576 : Int) < (y.size : Int)) = false := by simp; omega
  have t3 : decide ((1048576 : Int) < (z.size : Int)) = false := by simp; omega
  have t4 : decide ((1048576 : Int) < (x.size : Int) + (y.size : Int)) = false := by simp; omega
  have t5 : decide ((1048576 : Int) < (x.size : Int) + (y.size : Int) + (z.size : Int)) = false := by simp; omega
  have t6 : decide ((n : Int) < 0) = false := by simp
  have t7 : decide ((65536 : Int) < (n : Int)) = false := by simp; omega
  have t8 : ((x.size : Int) == 0) = false := beqF (by omega)
  have t9 : (0 : Int) < (x.size : Int) := by omega
  have hcv := run_conv1
  have hsz := spc_size n
  have hsf : (strOfNums [(c : Int)]).size = 1 := rfl
  have hap : (spc n ++ x).size = n + x.size := by rw [ByteArray.size_append, hsz]
  have haq : (spc n ++ x ++ strOfNums [(c : Int)]).size = n + x.size + 1 := by rw [ByteArray.size_append, hap, hsf]
  have hn1 : ¬ 9223372036854775807 < n + x.size := by omega
  have hn2 : ¬ 9223372036854775807 < n + x.size + 1 := by omega
  have hn3 : ¬ 9223372036854775807 < n + x.size + 1 + y.size := by omega
  have hn4 : ¬ 9223372036854775807 < n + x.size + 1 + z.size := by omega
  go_enter Tryd.func8, Tryd.ntmps8
  go_wp2_with (go_at_call 29; go_in)
  refine (is_any _ _).mono ?_
  rintro e w' ⟨rfl, rfl⟩
  rw [HS.out]
  go_wp2_with fail
  refine (ir_any x x.size _ (by omega) HR).mono ?_
  rintro e w' ⟨rfl, rfl⟩
  go_wp2_with fail
  refine (it_any c _).mono ?_
  rintro e w' ⟨rfl, rfl⟩
  rw [HT.out]
  go_upto_region 13 with (fail)
  go_cut [11] (fun v wx => v = .string (spc n ++ x ++ strOfNums [(c : Int)]) ∧ Below w.heap.size w wx)
  case first =>
    go_region_with ((go_at_call 17; refine (sp_any n _ hn).mono ?_; rintro e w' ⟨rfl, hb⟩; have kk := fun (b o : Nat) (h : b < _) => hb.cell (p := ⟨b, o, none⟩) h; have hzz := hb.size))
    all_goals
      have HB := Lib.hid hb
      clear kk hb
      go_wp2_with fail
      go_meet
      refine ⟨rfl, ?_⟩
      have hb := HB.out
      first
        | exact (((Below.refl _ w).drew.trans (hb.mono (by simp))).alloc (by have := hb.size; simp at this; omega) _)
        | exact (((Below.refl _ w).drew.alloc (by simp) _).trans (hb.mono (by simp)))
        | trace_state
      done
  case rest =>
    obtain ⟨rfl, hb⟩ := hcut
    have hE1 := laid_size n c x y
    have hE2 := laid_size n c x z
    have hR1 := laid_run n c x y hx0 HR.out HT.out hc
    have hR2 := laid_run n c x z hx0 HR.out HT.out hc
    have hU1 := laid_128 n c x y hc h1.out
    have hU2 := laid_128 n c x z hc h2.out
    have hX1 := laid_cut n c x y
    have hX2 := laid_cut n c x z
    generalize hA : spc n ++ x ++ strOfNums [(c : Int)] = A at *
    generalize hB1 : A ++ y = E1 at *
    generalize hB2 : A ++ z = E2 at *
    have HZ1 := Lib.hid hE1; have HZ2 := Lib.hid hE2; have HR1 := Lib.hid hR1; have HR2 := Lib.hid hR2; have HU1 := Lib.hid hU1; have HU2 := Lib.hid hU2; have HX1 := Lib.hid hX1; have HX2 := Lib.hid hX2
    have HB := Lib.hid hb
    have lo1 : 3 ≤ wc.heap.size := Nat.le_trans lo hb.size
    have hT1 : Hid (Tabs wc) := hT.out.alike fun b _ h2 => hb.cell (show b < w.heap.size by omega)
    have hTr1 : Hid (Trail wc) := hTr.out.below hb lo
    clear hb hE1 hE2 hR1 hR2 hU1 hU2 hX1 hX2 hsz hsf hap hn1 hn2 hT h1 h2 hA hcv

    go_wp2_with fail
    rw [show (n : Int) + 1 = ((n + 1 : Nat) : Int) from by omega]
    refine (newLex13 E1 (n + 1) 1 _ hT1 lo1).mono ?_
    rintro e w1 ⟨rfl, hL, hb⟩
    have hi := hL.hi
    have hTr' : Hid (Trail w1) := hTr1.out.below hb lo1
    have HL := Lib.hid hL; have HB' := Lib.hid hb; clear hL hb
    go_wp2_with fail
    refine (zzId _ E1 (n + 1) 1 (n + x.size) _ HL (by omega) (by rw [HZ1.out]; omega) (by rw [HZ1.out]; omega) HR1 hTr' HU1).mono ?_
    rintro e w2 ⟨rfl, hL, hg⟩
    have c1 := hL.c1
    have hb := (below_step HB'.out hi hg)
    clear hL hg HL HB' hTr' hi
    rw [show n + 1 - 1 = n from by omega, HX1.out]
    go_wp2_with fail
    refine (pos13 _ _ _ c1).mono ?_
    rintro e w' ⟨rfl, rfl⟩
    clear c1
    have lo2 : 3 ≤ w2.heap.size := Nat.le_trans lo1 hb.size
    have hT2 : Hid (Tabs w2) := hT1.out.alike fun b _ h2 => hb.cell (show b < wc.heap.size by omega)
    have hTr2 : Hid (Trail w2) := hTr1.out.below hb lo1
    have HC := Lib.hid (HB.out.trans (hb.mono HB.out.size)); clear hb

    go_wp2_with fail
    rw [show (n : Int) + 1 = ((n + 1 : Nat) : Int) from by omega]
    refine (newLex13 E2 (n + 1) 1 _ hT2 lo2).mono ?_
    rintro e w3 ⟨rfl, hL, hb⟩
    have hi := hL.hi
    have hTr' : Hid (Trail w3) := hTr2.out.below hb lo2
    have HL := Lib.hid hL; have HB' := Lib.hid hb; clear hL hb
    go_wp2_with fail
    refine (zzId _ E2 (n + 1) 1 (n + x.size) _ HL (by omega) (by rw [HZ2.out]; omega) (by rw [HZ2.out]; omega) HR2 hTr' HU2).mono ?_
    rintro e w4 ⟨rfl, hL, hg⟩
    have c1 := hL.c1
    have hb := (below_step HB'.out hi hg)
    clear hL hg HL HB' hTr' hi
    rw [show n + 1 - 1 = n from by omega, HX2.out]
    go_wp2_with fail
    refine (pos13 _ _ _ c1).mono ?_
    rintro e w' ⟨rfl, rfl⟩
    clear c1
    have HD := Lib.hid (HC.out.trans (hb.mono HC.out.size)); clear hb
    go_wp2_with fail
    go_ret
    exact ⟨rfl, HD.out⟩
end Go.Proofs.YtdbnffjidnfhdaaDoor
