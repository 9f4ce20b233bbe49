/-
  'expectedWidth' gives the width of the rune just read.
-/
import Derived.Test.YthipmjgibcnfiaaDoorLx
namespace Go.Proofs.YthipmjgibcnfiaaDoor
open Go.RowKit Go.Lib
set_option maxRecDepth 100000

set_option maxHeartbeats 4000000 in
theorem decodeN_width (n b0 b1 b2 b3 : Nat) (_h0 : b0 < 256) (_h1 : b1 < 256) (_h2 : b2 < 256) (_h3 : b3 < 256) :
    ((decodeN n b0 b1 b2 b3).1 < 128 → (decodeN n b0 b1 b2 b3).2 = 1) ∧
    (128 ≤ (decodeN n b0 b1 b2 b3).1 → (decodeN n b0 b1 b2 b3).1 < 2048 → (decodeN n b0 b1 b2 b3).2 = 2) ∧
    (2048 ≤ (decodeN n b0 b1 b2 b3).1 → (decodeN n b0 b1 b2 b3).1 < 65536 → (decodeN n b0 b1 b2 b3).1 ≠ 65533 → (decodeN n b0 b1 b2 b3).2 = 3) ∧
    (65536 ≤ (decodeN n b0 b1 b2 b3).1 → (decodeN n b0 b1 b2 b3).2 = 4) ∧
    ((decodeN n b0 b1 b2 b3).1 = 65533 → ((3 ≤ n ∧ b0 = 239 ∧ b1 = 191 ∧ b2 = 189) → (decodeN n b0 b1 b2 b3).2 = 3) ∧ (¬ (3 ≤ n ∧ b0 = 239 ∧ b1 = 191 ∧ b2 = 189) → (decodeN n b0 b1 b2 b3).2 = 1)) := by
  unfold decodeN
  repeat' split
  all_goals refine ⟨fun h => ?_, fun h k => ?_, fun h k l => ?_, fun h => ?_, fun h => ⟨fun k => ?_, fun k => ?_⟩⟩
  all_goals (try dsimp only at *)
  all_goals omega
theorem rn_width (s : ByteArray) (p : Nat) (hp : p < s.size) :
    (rn s p < 128 → wd s p = 1) ∧ (128 ≤ rn s p → rn s p < 2048 → wd s p = 2) ∧ (2048 ≤ rn s p → rn s p < 65536 → rn s p ≠ 65533 → wd s p = 3) ∧ (65536 ≤ rn s p → wd s p = 4) ∧
    (rn s p = 65533 → ((p + 3 ≤ s.size ∧ (s.get! p).toNat = 239 ∧ (s.get! (p + 1)).toNat = 191 ∧ (s.get! (p + 2)).toNat = 189) → wd s p = 3) ∧ (¬ (p + 3 ≤ s.size ∧ (s.get! p).toNat = 239 ∧ (s.get! (p + 1)).toNat = 191 ∧ (s.get! (p + 2)).toNat = 189) → wd s p = 1)) := by
  unfold rn wd
  rw [if_pos hp, if_pos hp, decode_here s p hp]
  obtain ⟨a, b, c, d, e⟩ := decodeN_width (s.size - p) (s.get! p).toNat (s.get! (p + 1)).toNat (s.get! (p + 2)).toNat (s.get! (p + 3)).toNat (byte_lt _) (byte_lt _) (byte_lt _) (byte_lt _)
  refine ⟨fun h => a (by omega), fun h k => b (by omega) (by omega), fun h k l => c (by omega) (by omega) (by omega), fun h => d (by omega), fun h => ?_⟩
  obtain ⟨e1, e2⟩ := e (by omega)
  exact ⟨fun k => e1 ⟨by omega, k.2⟩, fun k => e2 fun l => k ⟨by omega, l.2⟩⟩
theorem get_eq (s : ByteArray) (k : Nat) (h : k < s.size) : s[k]'h = s.get! k := (Utf8W.get!_of_lt s k h).symm

theorem ewEnd (s : ByteArray) (p : Nat) (r : Int) (w : World) (h : (r == -1) = true) :
    Calls Tryd.prog 14 #[.string s, .int .i64 p, .int .i32 r] w fun e w' => e = .returned (.int .i64 0) ∧ w = w' := by
  go_enter Tryd.func14, Tryd.ntmps14
  go_wp2
  go_ret
  exact ⟨rfl, rfl⟩
theorem ewFd0 (s : ByteArray) (p : Nat) (r : Int) (w : World) (hs : s.size ≤ 1000000) (_hp : p ≤ s.size) (h0 : (r == -1) = false) (h1 : (r == 65533) = true) (h2 : s.size < p + 3) :
    Calls Tryd.prog 14 #[.string s, .int .i64 p, .int .i32 r] w fun e w' => e = .returned (.int .i64 1) ∧ w = w' := by
  have t1 : decide ((p : Int) + 3 ≤ (s.size : Int)) = false := by simp; omega
  go_enter Tryd.func14, Tryd.ntmps14
  go_wp2
  go_ret
  exact ⟨rfl, rfl⟩
theorem ewFd1 (s : ByteArray) (p : Nat) (r : Int) (w : World) (hs : s.size ≤ 1000000) (h0 : (r == -1) = false) (h1 : (r == 65533) = true) (h2 : p + 3 ≤ s.size) (h3 : (((s[p]'(by omega)).toNat : Int) == 239) = false) :
    Calls Tryd.prog 14 #[.string s, .int .i64 p, .int .i32 r] w fun e w' => e = .returned (.int .i64 1) ∧ w = w' := by
  have t1 : decide ((p : Int) + 3 ≤ (s.size : Int)) = true := by simp; omega
  have t2 : (0 : Int) ≤ (p : Int) := by omega
  have t3 : (p : Int) < (s.size : Int) := by omega
  have t4 : (p : Int) + 1 < (s.size : Int) := by omega
  have t5 : (p : Int) + 2 < (s.size : Int) := by omega
  go_enter Tryd.func14, Tryd.ntmps14
  go_wp2
  go_ret
  exact ⟨rfl, rfl⟩
theorem ewFd2 (s : ByteArray) (p : Nat) (r : Int) (w : World) (hs : s.size ≤ 1000000) (h0 : (r == -1) = false) (h1 : (r == 65533) = true) (h2 : p + 3 ≤ s.size) (h3 : (((s[p]'(by omega)).toNat : Int) == 239) = true) (h4 : (((s[p + 1]'(by omega)).toNat : Int) == 191) = false) :
    Calls Tryd.prog 14 #[.string s, .int .i64 p, .int .i32 r] w fun e w' => e = .returned (.int .i64 1) ∧ w = w' := by
  have t1 : decide ((p : Int) + 3 ≤ (s.size : Int)) = true := by simp; omega
  have t2 : (0 : Int) ≤ (p : Int) := by omega
  have t3 : (p : Int) < (s.size : Int) := by omega
  have t4 : (p : Int) + 1 < (s.size : Int) := by omega
  have t5 : (p : Int) + 2 < (s.size : Int) := by omega
  go_enter Tryd.func14, Tryd.ntmps14
  go_wp2
  go_ret
  exact ⟨rfl, rfl⟩
theorem ewFd3 (s : ByteArray) (p : Nat) (r : Int) (w : World) (hs : s.size ≤ 1000000) (h0 : (r == -1) = false) (h1 : (r == 65533) = true) (h2 : p + 3 ≤ s.size) (h3 : (((s[p]'(by omega)).toNat : Int) == 239) = true) (h4 : (((s[p + 1]'(by omega)).toNat : Int) == 191) = true) (h5 : (((s[p + 2]'(by omega)).toNat : Int) == 189) = false) :
    Calls Tryd.prog 14 #[.string s, .int .i64 p, .int .i32 r] w fun e w' => e = .returned (.int .i64 1) ∧ w = w' := by
  have t1 : decide ((p : Int) + 3 ≤ (s.size : Int)) = true := by simp; omega
  have t2 : (0 : Int) ≤ (p : Int) := by omega
  have t3 : (p : Int) < (s.size : Int) := by omega
  have t4 : (p : Int) + 1 < (s.size : Int) := by omega
  have t5 : (p : Int) + 2 < (s.size : Int) := by omega
  go_enter Tryd.func14, Tryd.ntmps14
  go_wp2
  go_ret
  exact ⟨rfl, rfl⟩
theorem ewFd4 (s : ByteArray) (p : Nat) (r : Int) (w : World) (hs : s.size ≤ 1000000) (h0 : (r == -1) = false) (h1 : (r == 65533) = true) (h2 : p + 3 ≤ s.size) (h3 : (((s[p]'(by omega)).toNat : Int) == 239) = true) (h4 : (((s[p + 1]'(by omega)).toNat : Int) == 191) = true) (h5 : (((s[p + 2]'(by omega)).toNat : Int) == 189) = true) :
    Calls Tryd.prog 14 #[.string s, .int .i64 p, .int .i32 r] w fun e w' => e = .returned (.int .i64 3) ∧ w = w' := by
  have t1 : decide ((p : Int) + 3 ≤ (s.size : Int)) = true := by simp; omega
  have t2 : (0 : Int) ≤ (p : Int) := by omega
  have t3 : (p : Int) < (s.size : Int) := by omega
  have t4 : (p : Int) + 1 < (s.size : Int) := by omega
  have t5 : (p : Int) + 2 < (s.size : Int) := by omega
  go_enter Tryd.func14, Tryd.ntmps14
  go_wp2
  go_ret
  exact ⟨rfl, rfl⟩
theorem ew1 (s : ByteArray) (p : Nat) (r : Int) (w : World) (h0 : (r == -1) = false) (h1 : (r == 65533) = false) (h2 : decide (r < 128) = true) :
    Calls Tryd.prog 14 #[.string s, .int .i64 p, .int .i32 r] w fun e w' => e = .returned (.int .i64 1) ∧ w = w' := by
  go_enter Tryd.func14, Tryd.ntmps14
  go_wp2
  go_ret
  exact ⟨rfl, rfl⟩
theorem ew2 (s : ByteArray) (p : Nat) (r : Int) (w : World) (h0 : (r == -1) = false) (h1 : (r == 65533) = false) (h2 : decide (r < 128) = false) (h3 : decide (r < 2048) = true) :
    Calls Tryd.prog 14 #[.string s, .int .i64 p, .int .i32 r] w fun e w' => e = .returned (.int .i64 2) ∧ w = w' := by
  go_enter Tryd.func14, Tryd.ntmps14
  go_wp2
  go_ret
  exact ⟨rfl, rfl⟩
theorem ew3 (s : ByteArray) (p : Nat) (r : Int) (w : World) (h0 : (r == -1) = false) (h1 : (r == 65533) = false) (h2 : decide (r < 128) = false) (h3 : decide (r < 2048) = false) (h4 : decide (r < 65536) = true) :
    Calls Tryd.prog 14 #[.string s, .int .i64 p, .int .i32 r] w fun e w' => e = .returned (.int .i64 3) ∧ w = w' := by
  go_enter Tryd.func14, Tryd.ntmps14
  go_wp2
  go_ret
  exact ⟨rfl, rfl⟩
theorem ew4 (s : ByteArray) (p : Nat) (r : Int) (w : World) (h0 : (r == -1) = false) (h1 : (r == 65533) = false) (h2 : decide (r < 128) = false) (h3 : decide (r < 2048) = false) (h4 : decide (r < 65536) = false) :
    Calls Tryd.prog 14 #[.string s, .int .i64 p, .int .i32 r] w fun e w' => e = .returned (.int .i64 4) ∧ w = w' := by
  go_enter Tryd.func14, Tryd.ntmps14
  go_wp2
  go_ret
  exact ⟨rfl, rfl⟩

theorem beqF {a b : Int} (h : a ≠ b) : (a == b) = false := beq_eq_false_iff_ne.2 h
theorem beqT {a b : Int} (h : a = b) : (a == b) = true := beq_iff_eq.2 h
/-- ████ 'expectedWidth' at the rune that stands at p. ████ -/
theorem ew_any (s : ByteArray) (p : Nat) (w : World) (hs : s.size ≤ 1000000) (hp : p ≤ s.size) :
    Calls Tryd.prog 14 #[.string s, .int .i64 p, .int .i32 (rn s p)] w fun e w' => e = .returned (.int .i64 (wd s p)) ∧ w = w' := by
  by_cases hlt : p < s.size
  · obtain ⟨w1, w2, w3, w4, w5⟩ := rn_width s p hlt
    have hge : 0 ≤ rn s p := by
      unfold rn; rw [if_pos hlt]; omega
    have h0 : (rn s p == -1) = false := beqF (by omega)
    by_cases hf : rn s p = 65533
    · have h1 : (rn s p == 65533) = true := beqT hf
      obtain ⟨e1, e2⟩ := w5 hf
      by_cases h2 : s.size < p + 3
      · rw [e2 (by omega)]; exact ewFd0 s p _ w hs hp h0 h1 h2
      have h2' : p + 3 ≤ s.size := by omega
      by_cases h3 : (s.get! p).toNat = 239
      · have h3' : (((s[p]'(by omega)).toNat : Int) == 239) = true := beqT (by rw [get_eq s p (by omega)]; omega)
        by_cases h4 : (s.get! (p + 1)).toNat = 191
        · have h4' : (((s[p + 1]'(by omega)).toNat : Int) == 191) = true := beqT (by rw [get_eq s (p + 1) (by omega)]; omega)
          by_cases h5 : (s.get! (p + 2)).toNat = 189
          · have h5' : (((s[p + 2]'(by omega)).toNat : Int) == 189) = true := beqT (by rw [get_eq s (p + 2) (by omega)]; omega)
            rw [e1 ⟨h2', h3, h4, h5⟩]; exact ewFd4 s p _ w hs h0 h1 h2' h3' h4' h5'
          · have h5' : (((s[p + 2]'(by omega)).toNat : Int) == 189) = false := beqF (by rw [get_eq s (p + 2) (by omega)]; omega)
            rw [e2 (fun l => h5 l.2.2.2)]; exact ewFd3 s p _ w hs h0 h1 h2' h3' h4' h5'
        · have h4' : (((s[p + 1]'(by omega)).toNat : Int) == 191) = false := beqF (by rw [get_eq s (p + 1) (by omega)]; omega)
          rw [e2 (fun l => h4 l.2.2.1)]; exact ewFd2 s p _ w hs h0 h1 h2' h3' h4'
      · have h3' : (((s[p]'(by omega)).toNat : Int) == 239) = false := beqF (by rw [get_eq s p (by omega)]; omega)
        rw [e2 (fun l => h3 l.2.1)]; exact ewFd1 s p _ w hs h0 h1 h2' h3'
    · have h1 : (rn s p == 65533) = false := beqF hf
      by_cases a1 : rn s p < 128
      · rw [w1 a1]; exact ew1 s p _ w h0 h1 (decide_eq_true a1)
      by_cases a2 : rn s p < 2048
      · rw [w2 (by omega) a2]; exact ew2 s p _ w h0 h1 (decide_eq_false a1) (decide_eq_true a2)
      by_cases a3 : rn s p < 65536
      · rw [w3 (by omega) a3 hf]; exact ew3 s p _ w h0 h1 (decide_eq_false a1) (decide_eq_false a2) (decide_eq_true a3)
      · rw [w4 (by omega)]; exact ew4 s p _ w h0 h1 (decide_eq_false a1) (decide_eq_false a2) (decide_eq_false a3)
  · rw [wd_end s p (by omega)]
    exact ewEnd s p _ w (beqT (rn_end s p (by omega)))
end Go.Proofs.YthipmjgibcnfiaaDoor
