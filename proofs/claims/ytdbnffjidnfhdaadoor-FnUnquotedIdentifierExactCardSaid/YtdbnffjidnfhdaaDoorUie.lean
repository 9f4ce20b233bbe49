/-
  The law FnUnquotedIdentifierExact: its walk.
-/
import Derived.Test.YtdbnffjidnfhdaaDoorIds
namespace Go.Proofs.YtdbnffjidnfhdaaDoor
open Go.RowKit
set_option maxRecDepth 100000

set_option maxHeartbeats 1600000 in
theorem uieWalk (pad st : Int) (s : ByteArray) (w : World) (hT : Hid (Tabs w)) (lo : 3 ≤ w.heap.size) (hTr : Hid (Trail w)) (hst : (Lit.int .u8 st).wf = true) (hm : s.size ≤ maxLen) :
    Calls Tryd.prog 6 #[.int .i64 pad, .int .u8 st, .string s] w fun e w' => e = .returned (.bool true) ∧ Below w.heap.size w w' := by
  unfold maxLen at hm
  have hst' : 0 ≤ st ∧ st ≤ 255 := by
    simp [Lit.wf, IntKind.min, IntKind.max, IntKind.signed, IntKind.bits] at hst
    omega
  clear hst
  by_cases h1 : 1048576 < s.size
  · have h1' : (1048576 : Int) < (s.size : Int) := by omega
    go_enter Tryd.func6, Tryd.ntmps6
    go_wp2_with (go_at_call 21; go_in)
    go_ret
    exact ⟨rfl, Below.refl _ _⟩
  have h1' : decide ((1048576 : Int) < (s.size : Int)) = false := by simp; omega
  by_cases h2 : pad < 0
  · go_enter Tryd.func6, Tryd.ntmps6
    go_wp2_with (go_at_call 21; go_in)
    go_ret
    exact ⟨rfl, Below.refl _ _⟩
  have h2' : decide (pad < 0) = false := by simpa using h2
  by_cases h3 : 65536 < pad
  · go_enter Tryd.func6, Tryd.ntmps6
    go_wp2_with (go_at_call 21; go_in)
    go_ret
    exact ⟨rfl, Below.refl _ _⟩
  have h3' : decide (65536 < pad) = false := by simpa using h3
  obtain ⟨n, rfl⟩ : ∃ n : Nat, pad = n := ⟨pad.toNat, by omega⟩
  have hn : n ≤ 65536 := by omega
  obtain ⟨c, rfl⟩ : ∃ c : Nat, st = c := ⟨st.toNat, by omega⟩
  have hc : c ≤ 255 := by omega
  clear h2 h3 hst'
  cases hsB : startB c
  · have HS := Lib.hid hsB; clear hsB
    go_enter Tryd.func6, Tryd.ntmps6
    go_wp2_with (go_at_call 21; go_in)
    refine (is_any c _).mono ?_
    rintro e w' ⟨rfl, rfl⟩
    rw [HS.out]
    go_wp2_with fail
    go_ret
    exact ⟨rfl, Below.refl _ _⟩
  have HS := Lib.hid hsB; clear hsB
  obtain ⟨k, hR⟩ := runEnd_exists isTrail s _ 0 (Nat.le_refl _) (Nat.zero_le _)
  have hks := hR.2.1
  have HR := Lib.hid hR; clear hR
  cases hu : u80 s k
  · have hn1 : ¬ 9223372036854775807 < n + 1 := by omega
    have hn2 : ¬ 9223372036854775807 < n + 1 + s.size := by omega
    have hsz := spc_size n
    have hsf : (strOfNums [(c : Int)]).size = 1 := rfl
    have hap : (spc n ++ strOfNums [(c : Int)]).size = n + 1 := by rw [ByteArray.size_append, hsz, hsf]
    have hE1 : (spc n ++ strOfNums [(c : Int)] ++ s).size = n + 1 + s.size := by rw [ByteArray.size_append, hap]
    have hE2 : RunEnd isTrail (spc n ++ strOfNums [(c : Int)] ++ s) (n + 1) (k + (n + 1)) := by
      have := runEnd_shift (a := spc n ++ strOfNums [(c : Int)]) HR.out
      rw [hap, Nat.zero_add] at this
      exact this
    have hE3 : rn (spc n ++ strOfNums [(c : Int)] ++ s) (k + (n + 1)) ≠ 128 := fun h => by
      obtain ⟨a, b, d⟩ := rn_128 _ _ h
      rw [← hap, app_right] at b
      rw [show k + (n + 1) + 1 = (k + 1) + (n + 1) from by omega, ← hap, app_right] at d
      rw [hE1] at a
      have : u80 s k = true := by simp [u80, b, d]; omega
      rw [hu] at this
      cases this
    have hE4 : (spc n ++ strOfNums [(c : Int)] ++ s).extract n (k + (n + 1)) = strOfNums [(c : Int)] ++ s.extract 0 k := by
      have := cut_behind (spc n) (strOfNums [(c : Int)] ++ s) (1 + k)
      rw [spc_size, ← ByteArray.append_assoc, show n + (1 + k) = k + (n + 1) from by omega] at this
      rw [this, ← hsf, cut_over]
    have HU := Lib.hid hu; have HE1 := Lib.hid hE1; have HE2 := Lib.hid hE2; have HE3 := Lib.hid hE3; have HE4 := Lib.hid hE4
    have hcv := run_conv1
    clear hu hE1 hE2 hE3 hE4
    go_enter Tryd.func6, Tryd.ntmps6
    go_wp2_with (go_at_call 21; go_in)
    refine (is_any c _).mono ?_
    rintro e w' ⟨rfl, rfl⟩
    rw [HS.out]
    go_wp2_with fail
    refine (ir_any s k _ (by omega) HR).mono ?_
    rintro e w' ⟨rfl, rfl⟩
    go_wp2_with fail
    refine (u8_any s k _ (by omega) hks).mono ?_
    rintro e w' ⟨rfl, rfl⟩
    rw [HU.out]
    go_wp2_with fail
    refine (sp_any n _ hn).mono ?_
    rintro e w1 ⟨rfl, hb⟩
    have hb1 : Below w.heap.size w w1 := ((Below.refl _ w).alloc (Nat.le_refl _) _).trans (hb.mono (by simp))
    have lo1 : 3 ≤ w1.heap.size := Nat.le_trans lo hb1.size
    have hT1 : Hid (Tabs w1) := hT.out.alike fun b _ h2 => hb1.cell (show b < w.heap.size by omega)
    have hTr1 : Hid (Trail w1) := hTr.out.below hb1 lo
    have HB1 := Lib.hid hb1
    clear hb hb1
    go_wp2_with fail
    rw [show (n : Int) + 1 = ((n + 1 : Nat) : Int) from by omega]
    refine (newLex13 (spc n ++ strOfNums [(c : Int)] ++ s) (n + 1) 1 _ hT1 lo1).mono ?_
    rintro e w2 ⟨rfl, hL, hb⟩
    have hi := hL.hi
    have hTr2 : Hid (Trail w2) := hTr1.out.below hb lo1
    have HL := Lib.hid hL; have HB2 := Lib.hid hb; clear hL hb
    go_wp2_with fail
    refine (zzId _ (spc n ++ strOfNums [(c : Int)] ++ s) (n + 1) 1 (k + (n + 1)) _ HL (by omega) (by rw [HE1.out]; omega) (by rw [HE1.out]; omega) HE2 hTr2 HE3).mono ?_
    rintro x w3 ⟨rfl, hL, hg⟩
    have c1 := hL.c1
    have HB3 := Lib.hid (HB1.out.trans ((below_step HB2.out hi hg).mono HB1.out.size)); clear hL hg
    rw [show n + 1 - 1 = n from by omega, HE4.out]
    go_wp2_with fail
    refine (pos13 _ _ _ c1).mono ?_
    rintro x w' ⟨rfl, rfl⟩
    have u1 : (((k : Int) + ((n : Int) + 1)) == ((n : Int) + 1 + (k : Int))) = true := beqT (by omega)
    go_wp2_with fail
    go_ret
    exact ⟨rfl, HB3.out⟩
  · have HU := Lib.hid hu; clear hu
    go_enter Tryd.func6, Tryd.ntmps6
    go_wp2_with (go_at_call 21; go_in)
    refine (is_any c _).mono ?_
    rintro e w' ⟨rfl, rfl⟩
    rw [HS.out]
    go_wp2_with fail
    refine (ir_any s k _ (by omega) HR).mono ?_
    rintro e w' ⟨rfl, rfl⟩
    go_wp2_with fail
    refine (u8_any s k _ (by omega) hks).mono ?_
    rintro e w' ⟨rfl, rfl⟩
    rw [HU.out]
    go_wp2_with fail
    go_ret
    exact ⟨rfl, Below.refl _ _⟩
end Go.Proofs.YtdbnffjidnfhdaaDoor
