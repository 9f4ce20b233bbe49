/-
  'firstUnescaped' gives the place of the first delimiter that stands behind an even run of backslashes, -1 if there is none.
-/
import Derived.Test.YthipmjgibcnfiaaDoorUnt
import Derived.Deep.LoopGhost
namespace Go.Proofs.YthipmjgibcnfiaaDoor
open Go.RowKit
set_option maxRecDepth 100000

def FuPost (s : ByteArray) (p : Nat) (e : Nat) (w : World) (x : Ending) (w' : World) : Prop :=
  ((∃ q, First s p e q ∧ x = .returned (.int .i64 q)) ∨ (Clear s p e s.size ∧ x = .returned (.int .i64 (-1)))) ∧ w = w'
/-- The inner loop: m backslashes seen, the next place to look at is i - 1. -/
def FuIn (s : ByteArray) (p j : Nat) (m t : Value) : Prop := ∃ n i : Nat, n + i = j ∧ p ≤ i ∧ m = .int .i64 n ∧ t = .int .i64 ((i : Int) - 1) ∧ bs s p j = n + bs s p i
def FuOut (s : ByteArray) (p e : Nat) (v : Value) : Prop := ∃ j : Nat, p ≤ j ∧ j ≤ s.size ∧ v = .int .i64 j ∧ Clear s p e j

theorem clear_succ {s : ByteArray} {p : Nat} {e : Int} {j : Nat} (h : Clear s p e j) (hn : ¬ Hit s p e j) : Clear s p e (j + 1) := fun i hi hh => by
  rcases Nat.lt_succ_iff_lt_or_eq.1 hi with a | rfl
  · exact h i a hh
  · exact hn hh

set_option maxHeartbeats 1600000 in
theorem fu_any (s : ByteArray) (p e : Nat) (w : World) (hs : s.size ≤ 1000000) (hp : p ≤ s.size) :
    Calls Tryd.prog 18 #[.string s, .int .i64 p, .int .u8 e] w (FuPost s p e w) := by
  go_enter Tryd.func18, Tryd.ntmps18
  go_wp2
  go_loop [7] (fun v => FuOut s p e v) (fun v => s.size - (intOf v).toNat)
  case atStart => exact ⟨p, Nat.le_refl _, hp, rfl, fun j hj h => by have := h.1; omega⟩
  case round =>
    obtain ⟨j, hj1, hj2, rfl, hc⟩ := hrel
    have HC := Lib.hid hc; clear hc
    by_cases hlt : j < s.size
    · have t0 : decide ((j : Int) < (s.size : Int)) = true := by simp; omega
      have t1 : (0 : Int) ≤ (j : Int) := by omega
      have t2 : (j : Int) < (s.size : Int) := by omega
      by_cases hb : (((s[j]'hlt).toNat : Int) == (e : Int)) = true
      · have hbe : (((s.get! j).toNat : Nat) : Int) = (e : Int) := by rw [← get_eq s j hlt]; exact beq_iff_eq.1 hb
        have HE := Lib.hid hbe; clear hbe
        go_wp2
        go_loop [8, 9] (fun m t => FuIn s p j m t) (fun _ t => (intOf t + 1 - p).toNat)
        case atStart => exact ⟨0, j, by omega, hj1, rfl, rfl, by omega⟩
        case round =>
          obtain ⟨n, i, hni, hpi, rfl, rfl, hq⟩ := hrel
          have HQ := Lib.hid hq; clear hq
          have HNI := Lib.hid hni; have hnj : n ≤ j := by omega
          have hij : i ≤ j := by omega
          clear hni
          by_cases hpi2 : p < i
          · have u1 : decide ((p : Int) ≤ (i : Int) - 1) = true := by simp; omega
            have u2 : (0 : Int) ≤ (i : Int) - 1 := by omega
            have u3 : (i : Int) - 1 < (s.size : Int) := by omega
            have hi1 : i - 1 < s.size := by omega
            by_cases hx : (((s[i - 1]'hi1).toNat : Int) == 92) = true
            · have h92 : (s.get! (i - 1)).toNat = 92 := by rw [← get_eq s _ hi1]; have := beq_iff_eq.1 hx; omega
              have HQ2 : Hid (bs s p j = (n + 1) + bs s p (i - 1)) := by
                have e := bs_succ_hit (s := s) (p := p) (j := i - 1) (by omega) h92
                rw [show i - 1 + 1 = i from by omega] at e
                show bs s p j = (n + 1) + bs s p (i - 1)
                rw [HQ.out, e]; omega
              clear h92
              go_wp2
              go_round
              case rel => exact ⟨n + 1, i - 1, by have := HNI.out; omega, by omega, by go_num, by rw [show (((i - 1 : Nat) : Int) - 1) = (i : Int) - 1 - 1 from by omega], HQ2.out⟩
              case measure => simp [intOf]; omega
            · have hx' := eq_false_of_ne_true hx
              have hz : bs s p i = 0 := by
                have e := bs_succ_miss (s := s) (p := p) (j := i - 1) (fun h => hx (beqT (by rw [get_eq s _ hi1]; omega)))
                rw [show i - 1 + 1 = i from by omega] at e
                exact e
              clear hx
              have hbn : bs s p j = n := by rw [HQ.out, hz]; omega
              by_cases hev : n % 2 = 0
              · have v1 : (((n : Int) % 2) == 0) = true := beqT (by omega)
                have HF : Hid (FuPost s p e w (.returned (.int .i64 j)) w) := ⟨Or.inl ⟨j, ⟨⟨hj1, hlt, HE.out, by rw [hbn]; exact hev⟩, HC.out⟩, rfl⟩, rfl⟩
                clear hbn hev hz
                go_wp2
                go_ret
                exact HF.out
              · have v1 : (((n : Int) % 2) == 0) = false := beqF (by omega)
                have HN : Hid (¬ Hit s p e j) := fun h => hev (by have := h.2.2.2; rw [hbn] at this; exact this)
                clear hbn hev hz
                go_wp2
                go_round
                case rel => exact ⟨j + 1, by omega, by omega, by go_num, clear_succ HC.out HN.out⟩
                case measure => simp [intOf]; omega
          · have u1 : decide ((p : Int) ≤ (i : Int) - 1) = false := by simp; omega
            have hip : i = p := by omega
            have hz : bs s p i = 0 := by rw [hip]; exact bs_at
            clear hip
            have hbn : bs s p j = n := by rw [HQ.out, hz]; omega
            by_cases hev : n % 2 = 0
            · have v1 : (((n : Int) % 2) == 0) = true := beqT (by omega)
              have HF : Hid (FuPost s p e w (.returned (.int .i64 j)) w) := ⟨Or.inl ⟨j, ⟨⟨hj1, hlt, HE.out, by rw [hbn]; exact hev⟩, HC.out⟩, rfl⟩, rfl⟩
              clear hbn hev hz
              go_wp2
              go_ret
              exact HF.out
            · have v1 : (((n : Int) % 2) == 0) = false := beqF (by omega)
              have HN : Hid (¬ Hit s p e j) := fun h => hev (by have := h.2.2.2; rw [hbn] at this; exact this)
              clear hbn hev hz
              go_wp2
              go_round
              case rel => exact ⟨j + 1, by omega, by omega, by go_num, clear_succ HC.out HN.out⟩
              case measure => simp [intOf]; omega
      · have hb' := eq_false_of_ne_true hb
        have HN : Hid (¬ Hit s p e j) := fun h => hb (beq_iff_eq.2 (by rw [get_eq s j hlt]; exact h.2.2.1))
        clear hb
        go_wp2
        go_round
        case rel => exact ⟨j + 1, by omega, by omega, by go_num, clear_succ HC.out HN.out⟩
        case measure => simp [intOf]; omega
    · have t0 : decide ((j : Int) < (s.size : Int)) = false := by simp; omega
      have HF : Hid (FuPost s p e w (.returned (.int .i64 (-1))) w) := ⟨Or.inr ⟨(show j = s.size by omega) ▸ HC.out, rfl⟩, rfl⟩
      go_wp2
      go_ret
      exact HF.out
end Go.Proofs.YthipmjgibcnfiaaDoor
