/-
  The identifier laws' helpers: which bytes may begin and go on an identifier, how far a run of them goes, and the shim.
-/
import Derived.Test.YtdbnffjidnfhdaaDoorId
import Derived.Deep.DeepCutAuto
import Derived.Deep.RegionWith
namespace Go.Proofs.YtdbnffjidnfhdaaDoor
open Go.RowKit
set_option maxRecDepth 100000

def startB (n : Nat) : Bool := (65 ≤ n && n ≤ 90) || n == 95 || (97 ≤ n && n ≤ 122)
theorem trail_of_start (n : Nat) (h : startB n = true) : trailB n = true := by simp [startB, trailB] at *; omega
theorem trail_start (n : Nat) (h : ¬ (48 ≤ n ∧ n ≤ 57)) : trailB n = startB n := by
  rw [Bool.eq_iff_iff]; simp [startB, trailB]; omega
theorem is_any (c : Nat) (w : World) : Calls Tryd.prog 22 #[.int .u8 c] w fun e w' => e = .returned (.bool (startB c)) ∧ w = w' := by
  by_cases h : c < 65
  · have t : startB c = false := by simp [startB]; omega
    have T := Lib.hid t; clear t
    have x0 : decide ((65 : Int) ≤ (c : Int)) = false := by simp; omega
    have x1 : decide ((97 : Int) ≤ (c : Int)) = false := by simp; omega
    have x2 : ((c : Int) == 95) = false := by first | exact beqT (by omega) | exact beqF (by omega)
    clear h
    go_enter Tryd.func22, Tryd.ntmps22
    go_wp2
    go_ret
    exact ⟨by rw [T.out]; rfl, rfl⟩
  by_cases h : 65 ≤ c ∧ c ≤ 90
  · have t : startB c = true := by simp [startB]; omega
    have T := Lib.hid t; clear t
    have x0 : decide ((65 : Int) ≤ (c : Int)) = true := by simp; omega
    have x1 : decide ((c : Int) ≤ 90) = true := by simp; omega
    clear h
    go_enter Tryd.func22, Tryd.ntmps22
    go_wp2
    go_ret
    exact ⟨by rw [T.out]; rfl, rfl⟩
  by_cases h : c = 95
  · have t : startB c = true := by simp [startB]; omega
    have T := Lib.hid t; clear t
    have x0 : decide ((65 : Int) ≤ (c : Int)) = true := by simp; omega
    have x1 : decide ((c : Int) ≤ 90) = false := by simp; omega
    have x2 : decide ((97 : Int) ≤ (c : Int)) = false := by simp; omega
    have x3 : ((c : Int) == 95) = true := by first | exact beqT (by omega) | exact beqF (by omega)
    clear h
    go_enter Tryd.func22, Tryd.ntmps22
    go_wp2
    go_ret
    exact ⟨by rw [T.out]; rfl, rfl⟩
  by_cases h : 91 ≤ c ∧ c ≤ 96 ∧ c ≠ 95
  · have t : startB c = false := by simp [startB]; omega
    have T := Lib.hid t; clear t
    have x0 : decide ((65 : Int) ≤ (c : Int)) = true := by simp; omega
    have x1 : decide ((c : Int) ≤ 90) = false := by simp; omega
    have x2 : decide ((97 : Int) ≤ (c : Int)) = false := by simp; omega
    have x3 : ((c : Int) == 95) = false := by first | exact beqT (by omega) | exact beqF (by omega)
    clear h
    go_enter Tryd.func22, Tryd.ntmps22
    go_wp2
    go_ret
    exact ⟨by rw [T.out]; rfl, rfl⟩
  by_cases h : 97 ≤ c ∧ c ≤ 122
  · have t : startB c = true := by simp [startB]; omega
    have T := Lib.hid t; clear t
    have x0 : decide ((65 : Int) ≤ (c : Int)) = true := by simp; omega
    have x1 : decide ((c : Int) ≤ 90) = false := by simp; omega
    have x2 : decide ((97 : Int) ≤ (c : Int)) = true := by simp; omega
    have x3 : decide ((c : Int) ≤ 122) = true := by simp; omega
    clear h
    go_enter Tryd.func22, Tryd.ntmps22
    go_wp2
    go_ret
    exact ⟨by rw [T.out]; rfl, rfl⟩
  by_cases h : 123 ≤ c
  · have t : startB c = false := by simp [startB]; omega
    have T := Lib.hid t; clear t
    have x0 : decide ((65 : Int) ≤ (c : Int)) = true := by simp; omega
    have x1 : decide ((c : Int) ≤ 90) = false := by simp; omega
    have x2 : decide ((97 : Int) ≤ (c : Int)) = true := by simp; omega
    have x3 : decide ((c : Int) ≤ 122) = false := by simp; omega
    have x4 : ((c : Int) == 95) = false := by first | exact beqT (by omega) | exact beqF (by omega)
    clear h
    go_enter Tryd.func22, Tryd.ntmps22
    go_wp2
    go_ret
    exact ⟨by rw [T.out]; rfl, rfl⟩
  exfalso; omega
theorem it_any (c : Nat) (w : World) : Calls Tryd.prog 30 #[.int .u8 c] w fun e w' => e = .returned (.bool (trailB c)) ∧ w = w' := by
  by_cases h : 48 ≤ c ∧ c ≤ 57
  · have t : trailB c = true := by simp [trailB]; omega
    have T := Lib.hid t; clear t
    have x0 : decide ((48 : Int) ≤ (c : Int)) = true := by simp; omega
    have x1 : decide ((c : Int) ≤ 57) = true := by simp; omega
    go_enter Tryd.func30, Tryd.ntmps30
    go_wp2_with fail
    go_ret
    exact ⟨by rw [T.out]; rfl, rfl⟩
  · have T := Lib.hid (trail_start c h)
    by_cases h1 : 48 ≤ c
    · have x0 : decide ((48 : Int) ≤ (c : Int)) = true := by simp; omega
      have x1 : decide ((c : Int) ≤ 57) = false := by simp; omega
      go_enter Tryd.func30, Tryd.ntmps30
      go_wp2_with fail
      refine (is_any c _).mono ?_
      rintro e w' ⟨rfl, rfl⟩
      go_wp2_with fail
      go_ret
      exact ⟨by rw [T.out]; rfl, rfl⟩
    · have x0 : decide ((48 : Int) ≤ (c : Int)) = false := by simp; omega
      go_enter Tryd.func30, Tryd.ntmps30
      go_wp2_with fail
      refine (is_any c _).mono ?_
      rintro e w' ⟨rfl, rfl⟩
      go_wp2_with fail
      go_ret
      exact ⟨by rw [T.out]; rfl, rfl⟩

def IrRel (s : ByteArray) (v : Value) : Prop := ∃ j : Nat, j ≤ s.size ∧ v = .int .i64 j ∧ AllIn isTrail s 0 j
set_option maxHeartbeats 800000 in
theorem ir_any (s : ByteArray) (q : Nat) (w : World) (hs : s.size ≤ 10000000) (hR : Hid (RunEnd isTrail s 0 q)) :
    Calls Tryd.prog 23 #[.string s] w fun e w' => e = .returned (.int .i64 q) ∧ w = w' := by
  go_enter Tryd.func23, Tryd.ntmps23
  go_wp2_with fail
  go_loop [3] (fun v => IrRel s v) (fun v => s.size - (intOf v).toNat)
  case atStart => exact ⟨0, Nat.zero_le _, rfl, AllIn.none⟩
  case round =>
    obtain ⟨j, hj, rfl, hA⟩ := hrel
    have HA := Lib.hid hA; clear hA
    by_cases hlt : j < s.size
    · have t0 : decide ((j : Int) < (s.size : Int)) = true := by simp; omega
      have t1 : (0 : Int) ≤ (j : Int) := by omega
      have t2 : (j : Int) < (s.size : Int) := by omega
      cases hb : trailB (s[j]'hlt).toNat
      · have hE : RunEnd isTrail s 0 j := ⟨Nat.zero_le _, hj, HA.out, fun _ hx => by
          have := (trailB_iff _).2 hx
          rw [← get_eq s j hlt, hb] at this
          cases this⟩
        obtain rfl := hR.out.unique hE
        have HB := Lib.hid hb
        clear hE hb HA
        go_wp2_with fail
        refine (it_any _ _).mono ?_
        rintro e w' ⟨rfl, rfl⟩
        rw [HB.out]
        go_wp2_with fail
        go_ret
        exact ⟨rfl, rfl⟩
      · have HA2 := Lib.hid (HA.out.succ (D := isTrail) (by rw [← get_eq s j hlt]; exact (trailB_iff _).1 hb))
        have HB := Lib.hid hb
        clear hb HA
        go_wp2_with fail
        refine (it_any _ _).mono ?_
        rintro e w' ⟨rfl, rfl⟩
        rw [HB.out]
        go_wp2_with fail
        go_round
        case rel => exact ⟨j + 1, by omega, by go_num, HA2.out⟩
        case measure => simp [intOf]; omega
    · have t0 : decide ((j : Int) < (s.size : Int)) = false := by simp; omega
      have hE : RunEnd isTrail s 0 j := ⟨Nat.zero_le _, hj, HA.out, fun hx => absurd hx hlt⟩
      obtain rfl := hR.out.unique hE
      clear hE HA
      go_wp2_with fail
      go_ret
      exact ⟨rfl, rfl⟩

def u80 (s : ByteArray) (k : Nat) : Bool := decide (k + 1 < s.size) && decide ((s.get! k).toNat = 194) && decide ((s.get! (k + 1)).toNat = 128)
set_option maxHeartbeats 800000 in
theorem u8_any (s : ByteArray) (k : Nat) (w : World) (hs : s.size ≤ 10000000) (hk : k ≤ s.size) :
    Calls Tryd.prog 24 #[.string s, .int .i64 k] w fun e w' => e = .returned (.bool (u80 s k)) ∧ w = w' := by
  by_cases h : k + 1 < s.size
  · have x0 : decide ((k : Int) + 1 < (s.size : Int)) = true := by simp; omega
    have x1 : (0 : Int) ≤ (k : Int) := by omega
    have x2 : (k : Int) < (s.size : Int) := by omega
    have x3 : (k : Int) + 1 < (s.size : Int) := by omega
    have x4 : k < s.size := by omega
    by_cases h1 : (s.get! k).toNat = 194
    · have y1 : (((s[k]'x4).toNat : Int) == 194) = true := beqT (by rw [get_eq s k x4]; omega)
      by_cases h2 : (s.get! (k + 1)).toNat = 128
      · have t : u80 s k = true := by simp [u80, h, h1, h2]
        have y2 : (((s[k + 1]'h).toNat : Int) == 128) = true := beqT (by rw [get_eq s (k + 1) h]; omega)
        have T := Lib.hid t; clear t h1 h2
        go_enter Tryd.func24, Tryd.ntmps24
        go_wp2
        go_ret
        exact ⟨by rw [T.out]; rfl, rfl⟩
      · have t : u80 s k = false := by simp [u80, h2]
        have y2 : (((s[k + 1]'h).toNat : Int) == 128) = false := beqF (by rw [get_eq s (k + 1) h]; omega)
        have T := Lib.hid t; clear t h1 h2
        go_enter Tryd.func24, Tryd.ntmps24
        go_wp2
        go_ret
        exact ⟨by rw [T.out]; rfl, rfl⟩
    · have t : u80 s k = false := by simp [u80, h1]
      have y1 : (((s[k]'x4).toNat : Int) == 194) = false := beqF (by rw [get_eq s k x4]; omega)
      have T := Lib.hid t; clear t h1
      go_enter Tryd.func24, Tryd.ntmps24
      go_wp2
      go_ret
      exact ⟨by rw [T.out]; rfl, rfl⟩
  · have t : u80 s k = false := by simp [u80, h]
    have x0 : decide ((k : Int) + 1 < (s.size : Int)) = false := by simp; omega
    have T := Lib.hid t; clear t
    go_enter Tryd.func24, Tryd.ntmps24
    go_wp2
    go_ret
    exact ⟨by rw [T.out]; rfl, rfl⟩

set_option maxHeartbeats 4000000 in
theorem decodeN_128 (n b0 b1 b2 b3 : Nat) (_h0 : b0 < 256) (_h1 : b1 < 256) (h : (Lib.decodeN n b0 b1 b2 b3).1 = 128) : 1 < n ∧ b0 = 194 ∧ b1 = 128 := by
  unfold Lib.decodeN at h
  (repeat' split at h) <;> (simp only at h; omega)
theorem rn_128 (s : ByteArray) (q : Nat) (h : rn s q = 128) : q + 1 < s.size ∧ (s.get! q).toNat = 194 ∧ (s.get! (q + 1)).toNat = 128 := by
  unfold rn at h
  by_cases hq : q < s.size
  · rw [if_pos hq, decode_here s q hq] at h
    have h' : (Lib.decodeN (s.size - q) (s.get! q).toNat (s.get! (q + 1)).toNat (s.get! (q + 2)).toNat (s.get! (q + 3)).toNat).1 = 128 := by omega
    obtain ⟨a, b, c⟩ := decodeN_128 _ _ _ _ _ (byte_lt _) (byte_lt _) h'
    exact ⟨by omega, b, c⟩
  · rw [if_neg hq] at h; omega

set_option maxHeartbeats 800000 in
theorem zzId (B : Nat) (s : ByteArray) (p d q : Nat) (w : World) (h : Hid (Lex B s p d w)) (hd : d ≤ p) (hs : s.size ≤ 10000000) (hp : p ≤ s.size) (hR : Hid (RunEnd isTrail s p q)) (hTr : Hid (Trail w)) (hU : Hid (rn s q ≠ 128)) :
    Calls Tryd.prog 25 #[.pointer (some ⟨B, 0, none⟩)] w fun e w' => e = .returned (.tuple #[.int .i64 14, .string (s.extract (p - d) q), .int .i64 ((p : Int) - d), .int .i64 ((q : Int) - ((p : Int) - d))]) ∧ Lex B s q (wd s q) w' ∧ w.grownBy w' (some B) := by
  go_enter Tryd.func25, Tryd.ntmps25
  go_wp2_with fail
  refine (id_any B s p d q _ h hd hs hp hR hTr hU).mono ?_
  rintro x w1 ⟨rfl, hL, hg⟩
  have hz := hg.size
  have HL := Lib.hid hL; have HG := Lib.hid hg; clear hL hg
  go_wp2_with fail
  go_quiet (fail)
  go_wp2_with fail
  refine bodyPost_ret (v := .tuple #[.int .i64 14, .string (s.extract (p - d) q), .int .i64 ((p : Int) - d), .int .i64 ((q : Int) - ((p : Int) - d))]) (by simp [results, Tryd.results25, go_sem]) rfl ⟨rfl, ?_, ?_⟩
  · exact (HL.out.alloc _).drewN _
  · exact grown_drewN (grown_then HG.out ((Below.refl _ _).alloc hz _)) _

theorem run_conv1 (W : World) (g : Nat) (v : Int) (hc : W.cell? ⟨g, 0, none⟩ = some (.int .u8 v)) :
    (convert 34 9 (.slice (some ⟨g, 0, none⟩) 1 1)).run Tryd.prog W = .ok (.string (strOfNums [v])) W :=
  run_convert_bytes_arg W 34 5 Tryd.underlying34 Tryd.underlying5 g 0 1 1 [v] rfl (fun i hi => by
    obtain rfl : i = 0 := by omega
    simpa using hc) 9 Tryd.underlying9
theorem app_get (a b : ByteArray) (k : Nat) (h : k < a.size) : (a ++ b).get! k = a.get! k := by
  rw [← get_eq (a ++ b) k (by rw [ByteArray.size_append]; omega), ← get_eq a k h, ByteArray.getElem_append_left h]
theorem app_right (a b : ByteArray) (k : Nat) : (a ++ b).get! (k + a.size) = b.get! k := by
  by_cases h : k < b.size
  · rw [← get_eq (a ++ b) (k + a.size) (by rw [ByteArray.size_append]; omega), ← get_eq b k h, ByteArray.getElem_append_right (by omega)]
    simp
  · rw [get_out b _ (by omega), get_out (a ++ b) _ (by rw [ByteArray.size_append]; omega)]
theorem runEnd_shift {D : Nat → Prop} {a b : ByteArray} {p q : Nat} (h : RunEnd D b p q) : RunEnd D (a ++ b) (p + a.size) (q + a.size) := by
  obtain ⟨h1, h2, h3, h4⟩ := h
  refine ⟨by omega, by rw [ByteArray.size_append]; omega, fun j h5 h6 => ?_, fun h5 => ?_⟩
  · have := h3 (j - a.size) (by omega) (by omega)
    rw [← app_right a b (j - a.size), show j - a.size + a.size = j from by omega] at this
    exact this
  · rw [app_right]; exact h4 (by rw [ByteArray.size_append] at h5; omega)
theorem toList_inj {a b : ByteArray} (h : a.toList = b.toList) : a = b := by
  rw [ByteArray.toList_eq, ByteArray.toList_eq] at h
  exact ByteArray.ext (Array.toList_inj.1 h)
theorem toList_app (a b : ByteArray) : (a ++ b).toList = a.toList ++ b.toList := by
  rw [ByteArray.toList_eq, ByteArray.toList_eq, ByteArray.toList_eq, ByteArray.data_append, Array.toList_append]
theorem toList_len (a : ByteArray) : a.toList.length = a.size := by rw [Lib.toList_data, ← Lib.size_eq]
theorem toList_extract (a : ByteArray) (i j : Nat) : (a.extract i j).toList = (a.toList.drop i).take (j - i) := by rw [Lib.extract_toList, Lib.toList_data]
/-- A cut that begins behind the blanks. -/
theorem cut_behind (a b : ByteArray) (k : Nat) : (a ++ b).extract a.size (a.size + k) = b.extract 0 k := by
  apply toList_inj
  rw [toList_extract, toList_extract, toList_app, List.drop_append_of_le_length (by rw [toList_len]; exact Nat.le_refl _), List.drop_eq_nil_of_le (by rw [toList_len]; exact Nat.le_refl _), List.nil_append, List.drop_zero, show a.size + k - a.size = k - 0 from by omega]
theorem cut_over (a b : ByteArray) (k : Nat) : (a ++ b).extract 0 (a.size + k) = a ++ b.extract 0 k := by
  apply toList_inj
  rw [toList_extract, toList_app, toList_app, toList_extract, List.drop_zero, List.drop_zero, Nat.sub_zero, Nat.sub_zero, List.take_append, toList_len, show a.size + k - a.size = k from by omega, List.take_of_length_le (by rw [toList_len]; omega)]
end Go.Proofs.YtdbnffjidnfhdaaDoor
