/-
  The law FnMatchOrElseOperatorTable: its walk.
-/
import Derived.Test.YtdbnffjidnfhdaaDoorMoe
import Derived.Deep.RegionWith
import Derived.Deep.DeepCutAuto
namespace Go.Proofs.YtdbnffjidnfhdaaDoor
open Go.RowKit
set_option maxRecDepth 100000

theorem ot0 (w : World) : Calls Tryd.prog 16 #[.int .i64 0] w fun e w' => e = .returned (.tuple #[.int .u8 124, .int .u8 124, .int .i64 11, .int .i64 12]) ∧ w = w' := by
  go_enter Tryd.func16, Tryd.ntmps16
  go_wp2
  refine bodyPost_ret (v := .tuple #[.int .u8 124, .int .u8 124, .int .i64 11, .int .i64 12]) (by simp [results, Tryd.results16, go_sem]) rfl ⟨rfl, rfl⟩
theorem ot1 (w : World) : Calls Tryd.prog 16 #[.int .i64 1] w fun e w' => e = .returned (.tuple #[.int .u8 60, .int .u8 61, .int .i64 19, .int .i64 18]) ∧ w = w' := by
  go_enter Tryd.func16, Tryd.ntmps16
  go_wp2
  refine bodyPost_ret (v := .tuple #[.int .u8 60, .int .u8 61, .int .i64 19, .int .i64 18]) (by simp [results, Tryd.results16, go_sem]) rfl ⟨rfl, rfl⟩
theorem ot2 (w : World) : Calls Tryd.prog 16 #[.int .i64 2] w fun e w' => e = .returned (.tuple #[.int .u8 62, .int .u8 61, .int .i64 21, .int .i64 20]) ∧ w = w' := by
  go_enter Tryd.func16, Tryd.ntmps16
  go_wp2
  refine bodyPost_ret (v := .tuple #[.int .u8 62, .int .u8 61, .int .i64 21, .int .i64 20]) (by simp [results, Tryd.results16, go_sem]) rfl ⟨rfl, rfl⟩
theorem ot3 (w : World) : Calls Tryd.prog 16 #[.int .i64 3] w fun e w' => e = .returned (.tuple #[.int .u8 33, .int .u8 61, .int .i64 23, .int .i64 29]) ∧ w = w' := by
  go_enter Tryd.func16, Tryd.ntmps16
  go_wp2
  refine bodyPost_ret (v := .tuple #[.int .u8 33, .int .u8 61, .int .i64 23, .int .i64 29]) (by simp [results, Tryd.results16, go_sem]) rfl ⟨rfl, rfl⟩
theorem ot4 (w : World) : Calls Tryd.prog 16 #[.int .i64 4] w fun e w' => e = .returned (.tuple #[.int .u8 61, .int .u8 61, .int .i64 22, .int .i64 0]) ∧ w = w' := by
  go_enter Tryd.func16, Tryd.ntmps16
  go_wp2
  refine bodyPost_ret (v := .tuple #[.int .u8 61, .int .u8 61, .int .i64 22, .int .i64 0]) (by simp [results, Tryd.results16, go_sem]) rfl ⟨rfl, rfl⟩
theorem ot5 (w : World) : Calls Tryd.prog 16 #[.int .i64 5] w fun e w' => e = .returned (.tuple #[.int .u8 38, .int .u8 38, .int .i64 28, .int .i64 27]) ∧ w = w' := by
  go_enter Tryd.func16, Tryd.ntmps16
  go_wp2
  refine bodyPost_ret (v := .tuple #[.int .u8 38, .int .u8 38, .int .i64 28, .int .i64 27]) (by simp [results, Tryd.results16, go_sem]) rfl ⟨rfl, rfl⟩

theorem run_conv1 (W : World) (g : Nat) (v : Int) (hc : W.cell? ⟨g, 0, none⟩ = some (.int .u8 v)) :
    (convert 34 9 (.slice (some ⟨g, 0, none⟩) 1 1)).run Tryd.prog W = .ok (.string (strOfNums [v])) W :=
  run_convert_bytes_arg W 34 5 Tryd.underlying34 Tryd.underlying5 g 0 1 1 [v] rfl (fun i hi => by
    obtain rfl : i = 0 := by omega
    simpa using hc) 9 Tryd.underlying9

theorem run_conv2 (W : World) (g : Nat) (u v : Int) (h0 : W.cell? ⟨g, 0, none⟩ = some (.int .u8 u)) (h1 : W.cell? ⟨g, 1, none⟩ = some (.int .u8 v)) :
    (convert 34 9 (.slice (some ⟨g, 0, none⟩) 2 2)).run Tryd.prog W = .ok (.string (strOfNums [u, v])) W :=
  run_convert_bytes_arg W 34 5 Tryd.underlying34 Tryd.underlying5 g 0 2 2 [u, v] rfl (fun i hi => by
    have : i = 0 ∨ i = 1 := by omega
    rcases this with rfl | rfl
    · simpa using h0
    · simpa using h1) 9 Tryd.underlying9
theorem enc_ascii (a : Nat) (h : a < 128) : Utf8.encode (a : Int) = strOfNums [(a : Int)] := by
  have hv : Utf8.valid (a : Int) = true := by simp [Utf8.valid]; omega
  simp only [Utf8.encode, hv, if_true, Int.toNat_natCast, if_pos h, strOfNums, List.map_cons, List.map_nil]
theorem enc_two (a b : Nat) (h : a < 128) (h' : b < 128) : Utf8.encode (a : Int) ++ Utf8.encode (b : Int) = strOfNums [(a : Int), (b : Int)] := by
  rw [enc_ascii a h, enc_ascii b h']; rfl
theorem app_get (a b : ByteArray) (k : Nat) (h : k < a.size) : (a ++ b).get! k = a.get! k := by
  rw [← get_eq (a ++ b) k (by rw [ByteArray.size_append]; omega), ← get_eq a k h, ByteArray.getElem_append_left h]
theorem app_right (a b : ByteArray) (k : Nat) : (a ++ b).get! (k + a.size) = b.get! k := by
  by_cases h : k < b.size
  · rw [← get_eq (a ++ b) (k + a.size) (by rw [ByteArray.size_append]; omega), ← get_eq b k h, ByteArray.getElem_append_right (by omega)]
    simp
  · rw [get_out b _ (by omega), get_out (a ++ b) _ (by rw [ByteArray.size_append]; omega)]

set_option maxHeartbeats 1600000 in
theorem mot0 (pad op fr sc : Nat) (mt st : Int) (s : ByteArray) (w : World) (hT : Hid (Tabs w)) (lo : 3 ≤ w.heap.size) (hs : s.size ≤ 1048576) (hpad : pad ≤ 65536) (hop : op ≤ 5) (hm1 : -9223372036854775808 ≤ mt) (hm2 : mt ≤ 9223372036854775807) (hm3 : -9223372036854775808 ≤ st) (hm4 : st ≤ 9223372036854775807) (hfr : fr < 128) (hsc : sc < 128)
    (hot : Hid (∀ W, Calls Tryd.prog 16 #[.int .i64 op] W fun e w' => e = .returned (.tuple #[.int .u8 fr, .int .u8 sc, .int .i64 mt, .int .i64 st]) ∧ W = w')) :
    Calls Tryd.prog 5 #[.int .i64 pad, .int .i64 op, .string s] w fun e w' => e = .returned (.bool true) ∧ Below w.heap.size w w' := by
  have t1 : decide ((1048576 : Int) < (s.size : Int)) = false := by simp; omega
  have t2 : decide ((pad : Int) < 0) = false := by simp
  have t3 : decide ((65536 : Int) < (pad : Int)) = false := by simp; omega
  have t4 : decide ((op : Int) < 0) = false := by simp
  have t5 : decide ((5 : Int) < (op : Int)) = false := by simp; omega
  have hcv := run_conv1
  have hsz := spc_size pad
  have hsf : (strOfNums [(fr : Int)]).size = 1 := rfl
  have hn1 : ¬ 9223372036854775807 < pad + 1 := by omega
  have hn2 : ¬ 9223372036854775807 < pad + 1 + s.size := by omega
  have hap : (spc pad ++ strOfNums [(fr : Int)]).size = pad + 1 := by rw [ByteArray.size_append, hsz, hsf]
  go_enter Tryd.func5, Tryd.ntmps5
  go_wp2_with (go_at_call 15; go_in)
  refine (hot.out _).mono ?_
  rintro e w' ⟨rfl, rfl⟩
  go_upto_region 10 with (fail)
  go_cut [11] (fun v wx => v = .string (spc pad ++ strOfNums [(fr : Int)] ++ s) ∧ Below w.heap.size w wx)
  case first =>
    go_region_with ((go_at_call 17; refine (sp_any pad _ hpad).mono ?_; rintro e w' ⟨rfl, hb⟩; have kk := fun (b o : Nat) (h : b < _) => hb.cell (p := ⟨b, o, none⟩) h; have hzz := hb.size))
    all_goals
      have HB := Lib.hid hb
      clear kk hb
      go_wp2_with fail
      go_meet
      refine ⟨rfl, ?_⟩
      have hb := HB.out
      first
        | exact (((Below.refl _ w).drew.trans (hb.mono (by simp))).alloc (by have := hb.size; simp at this; omega) _)
        | exact (((Below.refl _ w).drew.alloc (by simp) _).trans (hb.mono (by simp)))
        | trace_state
      done
  case rest =>
    obtain ⟨rfl, hb⟩ := hcut
    have hE1 : (spc pad ++ strOfNums [(fr : Int)] ++ s).size = pad + 1 + s.size := by rw [ByteArray.size_append, hap]
    have hE2 : ∀ k, (spc pad ++ strOfNums [(fr : Int)] ++ s).get! (k + (pad + 1)) = s.get! k := fun k => by rw [← hap]; exact app_right _ _ k
    generalize hE : spc pad ++ strOfNums [(fr : Int)] ++ s = E at *
    have HE1 := Lib.hid hE1; have HE2 := Lib.hid hE2
    have HX := Lib.hid (enc_two fr sc hfr hsc); have HX1 := Lib.hid (enc_ascii fr hfr)
    have hcv2 := run_conv2
    have HB := Lib.hid hb
    have loc : 3 ≤ wc.heap.size := Nat.le_trans lo hb.size
    have hTc : Hid (Tabs wc) := hT.out.alike fun b _ h2 => hb.cell (show b < w.heap.size by omega)
    clear hb hE1 hE2 hE hsz hsf hn1 hn2 hap hot hT
    go_wp2_with fail
    rw [show (pad : Int) + 1 = ((pad + 1 : Nat) : Int) from by omega]
    refine (newLex13 E (pad + 1) 1 _ hTc loc).mono ?_
    rintro e w1 ⟨rfl, hL, hb⟩
    have hi := hL.hi
    have HL := Lib.hid hL; have HB1 := Lib.hid hb; clear hL hb
    go_wp2_with fail
    by_cases hyes : 0 < s.size ∧ (s.get! 0).toNat = sc
    · obtain ⟨hs0, hs1⟩ := hyes
      have hr : rn E (pad + 1) = (sc : Int) := (rn_is E (pad + 1) sc hsc).2 ⟨by rw [HE1.out]; omega, by have := HE2.out 0; rw [Nat.zero_add] at this; rw [this]; exact hs1⟩
      have hwd : wd E (pad + 1) = 1 := by
        obtain ⟨a, b⟩ := (rn_is E (pad + 1) sc hsc).1 hr
        exact (rn_ascii E (pad + 1) a (by omega)).2
      refine (zzMoeYes _ E (pad + 1) 1 fr sc mt st _ HL (by omega) (by rw [HE1.out]; omega) (by rw [HE1.out]; omega) hm1 hm2 hm3 hm4 (beqT hr)).mono ?_
      rintro x w2 ⟨rfl, hL, hg⟩
      rw [hwd] at hL
      have c1 : w2.cell? ⟨wc.heap.size, 1, none⟩ = some (.int .i64 ((pad : Int) + 2)) := by
        have := hL.c1
        rw [show ((pad + 1 + 1 : Nat) : Int) = (pad : Int) + 2 from by omega] at this
        exact this
      have hb2 := below_step HB1.out hi hg
      have HB2 := Lib.hid (HB.out.trans (hb2.mono HB.out.size))
      rw [HX.out]
      clear hL hg hr hwd hb2
      go_wp2_with fail
      refine (pos13 _ _ _ c1).mono ?_
      rintro x w' ⟨rfl, rfl⟩
      have u1 : decide ((0 : Int) < (s.size : Int)) = true := by simp; omega
      have u2 : (((s[0]'hs0).toNat : Int) == (sc : Int)) = true := beqT (by rw [get_eq s 0 hs0]; omega)
      have u3 : (0 : Int) < (s.size : Int) := by omega
      clear hs1 c1
      go_wp2_with fail
      go_ret
      exact ⟨rfl, HB2.out.alloc HB2.out.size _⟩
    · have hr : rn E (pad + 1) ≠ (sc : Int) := fun h => by
        obtain ⟨a, b⟩ := (rn_is E (pad + 1) sc hsc).1 h
        have e := HE2.out 0
        rw [Nat.zero_add] at e
        rw [HE1.out] at a
        rw [e] at b
        exact hyes ⟨by omega, b⟩
      refine (zzMoeNo _ E (pad + 1) 1 fr sc mt st _ HL (by omega) (by rw [HE1.out]; omega) (by rw [HE1.out]; omega) hm1 hm2 hm3 hm4 (beqF hr)).mono ?_
      rintro x w2 ⟨rfl, hL, hg⟩
      have c1 : w2.cell? ⟨wc.heap.size, 1, none⟩ = some (.int .i64 ((pad : Int) + 1)) := hL.c1
      have hb2 := below_step HB1.out hi hg
      have HB2 := Lib.hid (HB.out.trans (hb2.mono HB.out.size))
      rw [HX1.out]
      clear hL hg hr hb2
      go_wp2_with fail
      refine (pos13 _ _ _ c1).mono ?_
      rintro x w' ⟨rfl, rfl⟩
      clear c1
      by_cases hs0 : 0 < s.size
      · have u1 : decide ((0 : Int) < (s.size : Int)) = true := by simp; omega
        have u2 : (((s[0]'hs0).toNat : Int) == (sc : Int)) = false := beqF (by rw [get_eq s 0 hs0]; intro h; exact hyes ⟨hs0, by omega⟩)
        have u3 : (0 : Int) < (s.size : Int) := by omega
        clear hyes
        go_wp2_with fail
        go_ret
        exact ⟨rfl, HB2.out.alloc HB2.out.size _⟩
      · have u1 : decide ((0 : Int) < (s.size : Int)) = false := decide_eq_false (by omega)
        clear hyes
        go_wp2_with fail
        go_ret
        exact ⟨rfl, HB2.out.alloc HB2.out.size _⟩
set_option maxHeartbeats 800000 in
theorem motWalk (pad op : Int) (s : ByteArray) (w : World) (hT : Hid (Tabs w)) (lo : 3 ≤ w.heap.size) (hm : s.size ≤ maxLen) :
    Calls Tryd.prog 5 #[.int .i64 pad, .int .i64 op, .string s] w fun e w' => e = .returned (.bool true) ∧ Below w.heap.size w w' := by
  unfold maxLen at hm
  by_cases h1 : 1048576 < s.size
  · have h1' : (1048576 : Int) < (s.size : Int) := by omega
    go_enter Tryd.func5, Tryd.ntmps5
    go_wp2_with (go_at_call 15; go_in)
    go_ret
    exact ⟨rfl, Below.refl _ _⟩
  have h1' : decide ((1048576 : Int) < (s.size : Int)) = false := by simp; omega
  by_cases h2 : pad < 0
  · go_enter Tryd.func5, Tryd.ntmps5
    go_wp2_with (go_at_call 15; go_in)
    go_ret
    exact ⟨rfl, Below.refl _ _⟩
  have h2' : decide (pad < 0) = false := by simpa using h2
  by_cases h3 : 65536 < pad
  · go_enter Tryd.func5, Tryd.ntmps5
    go_wp2_with (go_at_call 15; go_in)
    go_ret
    exact ⟨rfl, Below.refl _ _⟩
  have h3' : decide (65536 < pad) = false := by simpa using h3
  by_cases h4 : op < 0
  · go_enter Tryd.func5, Tryd.ntmps5
    go_wp2_with (go_at_call 15; go_in)
    go_ret
    exact ⟨rfl, Below.refl _ _⟩
  have h4' : decide (op < 0) = false := by simpa using h4
  by_cases h5 : 5 < op
  · go_enter Tryd.func5, Tryd.ntmps5
    go_wp2_with (go_at_call 15; go_in)
    go_ret
    exact ⟨rfl, Below.refl _ _⟩
  obtain ⟨n, rfl⟩ : ∃ n : Nat, pad = n := ⟨pad.toNat, by omega⟩
  have hn : n ≤ 65536 := by omega
  have ho : op = 0 ∨ op = 1 ∨ op = 2 ∨ op = 3 ∨ op = 4 ∨ op = 5 := by omega
  rcases ho with rfl | rfl | rfl | rfl | rfl | rfl
  · exact mot0 n 0 124 124 11 12 s w hT lo (by omega) hn (by omega) (by decide) (by decide) (by decide) (by decide) (by decide) (by decide) ot0
  · exact mot0 n 1 60 61 19 18 s w hT lo (by omega) hn (by omega) (by decide) (by decide) (by decide) (by decide) (by decide) (by decide) ot1
  · exact mot0 n 2 62 61 21 20 s w hT lo (by omega) hn (by omega) (by decide) (by decide) (by decide) (by decide) (by decide) (by decide) ot2
  · exact mot0 n 3 33 61 23 29 s w hT lo (by omega) hn (by omega) (by decide) (by decide) (by decide) (by decide) (by decide) (by decide) ot3
  · exact mot0 n 4 61 61 22 0 s w hT lo (by omega) hn (by omega) (by decide) (by decide) (by decide) (by decide) (by decide) (by decide) ot4
  · exact mot0 n 5 38 38 28 27 s w hT lo (by omega) hn (by omega) (by decide) (by decide) (by decide) (by decide) (by decide) (by decide) ot5
end Go.Proofs.YtdbnffjidnfhdaaDoor
