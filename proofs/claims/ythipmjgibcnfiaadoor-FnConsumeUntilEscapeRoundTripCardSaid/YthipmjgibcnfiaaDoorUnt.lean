/-
  Plain facts on the first delimiter that stands behind an even run of backslashes.
-/
import Derived.Test.YthipmjgibcnfiaaDoorEw
namespace Go.Proofs.YthipmjgibcnfiaaDoor
open Go.Lib

/-- How many backslashes stand right before j, none before p. -/
def bs (s : ByteArray) (p : Nat) : Nat → Nat
  | 0 => 0
  | j + 1 => if p ≤ j ∧ (s.get! j).toNat = 92 then bs s p j + 1 else 0
/-- A delimiter at j that no backslash escapes. -/
def Hit (s : ByteArray) (p : Nat) (e : Int) (j : Nat) : Prop := p ≤ j ∧ j < s.size ∧ ((s.get! j).toNat : Int) = e ∧ bs s p j % 2 = 0
/-- No such delimiter before q. -/
def Clear (s : ByteArray) (p : Nat) (e : Int) (q : Nat) : Prop := ∀ j, j < q → ¬ Hit s p e j
/-- The place of the first. -/
def First (s : ByteArray) (p : Nat) (e : Int) (q : Nat) : Prop := Hit s p e q ∧ Clear s p e q

theorem First.unique {s : ByteArray} {p : Nat} {e : Int} {q q' : Nat} (h : First s p e q) (h' : First s p e q') : q = q' := by
  rcases Nat.lt_trichotomy q q' with a | a | a
  · exact absurd h.1 (h'.2 q a)
  · exact a
  · exact absurd h'.1 (h.2 q' a)

theorem bs_succ_hit {s : ByteArray} {p j : Nat} (h : p ≤ j) (hb : (s.get! j).toNat = 92) : bs s p (j + 1) = bs s p j + 1 := by simp [bs, h, hb]
theorem bs_succ_miss {s : ByteArray} {p j : Nat} (hb : (s.get! j).toNat ≠ 92) : bs s p (j + 1) = 0 := by simp [bs, hb]
theorem bs_at {s : ByteArray} {p : Nat} : bs s p p = 0 := by
  cases p with
  | zero => rfl
  | succ p => simp [bs]; omega

/-- The bytes of one rune, but for an ASCII byte, are all of 128 or more. -/
theorem rune_bytes (s : ByteArray) (q : Nat) (hq : q < s.size) (hb : ¬ (s.get! q).toNat < 128) : ∀ j, q ≤ j → j < q + wd s q → 128 ≤ (s.get! j).toNat := by
  intro j h1 h2
  unfold wd at h2
  rw [if_pos hq, decode_here s q hq] at h2
  unfold decodeN at h2
  rw [if_neg hb] at h2
  have hj : j = q ∨ j = q + 1 ∨ j = q + 2 ∨ j = q + 3 ∨ q + 4 ≤ j := by omega
  rcases hj with rfl | rfl | rfl | rfl | hj
  · omega
  · (repeat' split at h2) <;> (simp only at h2; omega)
  · (repeat' split at h2) <;> (simp only at h2; omega)
  · (repeat' split at h2) <;> (simp only at h2; omega)
  · (repeat' split at h2) <;> (simp only at h2; omega)

/-- What holds where a rune begins: no delimiter is passed, and the backslashes right before it pair off. -/
def Inv (s : ByteArray) (p : Nat) (e : Int) (q : Nat) : Prop := p ≤ q ∧ q ≤ s.size ∧ Clear s p e q ∧ (q < s.size → bs s p q % 2 = 0)

theorem inv_start (s : ByteArray) (p : Nat) (e : Int) (hp : p ≤ s.size) : Inv s p e p :=
  ⟨Nat.le_refl _, hp, fun j hj h => by have := h.1; omega, fun _ => by rw [bs_at]⟩
/-- A rune of several bytes, whatever stood before it. -/
theorem over_high {s : ByteArray} {p : Nat} {e : Int} {q : Nat} (he : 0 ≤ e ∧ e ≤ 127) (h1 : p ≤ q) (hc : Clear s p e q) (hq : q < s.size) (hb : ¬ (s.get! q).toNat < 128) : Inv s p e (q + wd s q) := by
  have hw := (wd_le s q).2 (by omega)
  have hpos := wd_pos s q hq
  have hr := rune_bytes s q hq hb
  refine ⟨by omega, hw, fun j hj h => ?_, fun _ => ?_⟩
  · by_cases hlt : j < q
    · exact hc j hlt h
    · have := hr j (by omega) hj
      have := h.2.2.1
      omega
  · obtain ⟨k, hk⟩ : ∃ k, q + wd s q = k + 1 := ⟨q + wd s q - 1, by omega⟩
    rw [hk, bs_succ_miss (by have := hr k (by omega) (by omega); omega)]
/-- A plain rune. -/
theorem inv_plain {s : ByteArray} {p : Nat} {e : Int} {q : Nat} (he : 0 ≤ e ∧ e ≤ 127) (h : Inv s p e q) (hq : q < s.size) (h92 : rn s q ≠ 92) (hne : rn s q ≠ e) : Inv s p e (q + wd s q) := by
  obtain ⟨h1, _, hc, _⟩ := h
  by_cases hb : (s.get! q).toNat < 128
  · obtain ⟨er, ed⟩ := rn_ascii s q hq hb
    rw [ed]
    refine ⟨by omega, by omega, fun j hj h => ?_, fun _ => ?_⟩
    · by_cases hlt : j < q
      · exact hc j hlt h
      · obtain rfl : j = q := by omega
        have := h.2.2.1
        omega
    · rw [bs_succ_miss (by omega)]
  · exact over_high he h1 hc hq hb
/-- A backslash with a rune behind it: both are passed. -/
theorem inv_escape {s : ByteArray} {p : Nat} {e : Int} {q : Nat} (he : 0 ≤ e ∧ e ≤ 127) (hne : e ≠ 92) (h : Inv s p e q) (h92 : rn s q = 92) (hq1 : q + 1 < s.size) : Inv s p e (q + 1 + wd s (q + 1)) := by
  obtain ⟨h1, _, hc, hp⟩ := h
  obtain ⟨hq, hb92⟩ := (rn_is s q 92 (by omega)).1 h92
  have he0 := hp hq
  have hb1 : bs s p (q + 1) = bs s p q + 1 := bs_succ_hit h1 hb92
  have hc1 : Clear s p e (q + 1) := fun j hj h => by
    by_cases hlt : j < q
    · exact hc j hlt h
    · obtain rfl : j = q := by omega
      have := h.2.2.1
      omega
  by_cases hb : (s.get! (q + 1)).toNat < 128
  · obtain ⟨er, ed⟩ := rn_ascii s (q + 1) hq1 hb
    rw [ed]
    refine ⟨by omega, by omega, fun j hj h => ?_, fun _ => ?_⟩
    · by_cases hlt : j < q + 1
      · exact hc1 j hlt h
      · obtain rfl : j = q + 1 := by omega
        have := h.2.2.2
        omega
    · by_cases hx : (s.get! (q + 1)).toNat = 92
      · rw [bs_succ_hit (by omega) hx]; omega
      · rw [bs_succ_miss hx]
  · exact over_high he (by omega) hc1 hq1 hb
/-- A backslash at the very end. -/
theorem inv_last {s : ByteArray} {p : Nat} {e : Int} {q : Nat} (hne : e ≠ 92) (h : Inv s p e q) (h92 : rn s q = 92) (hq1 : q + 1 = s.size) : Inv s p e (q + 1) := by
  obtain ⟨h1, _, hc, _⟩ := h
  obtain ⟨hq, hb92⟩ := (rn_is s q 92 (by omega)).1 h92
  refine ⟨by omega, by omega, fun j hj h => ?_, fun h => by omega⟩
  by_cases hlt : j < q
  · exact hc j hlt h
  · obtain rfl : j = q := by omega
    have := h.2.2.1
    omega
theorem inv_found {s : ByteArray} {p : Nat} {e : Int} {q : Nat} (he : 0 ≤ e ∧ e ≤ 127) (h : Inv s p e q) (hr : rn s q = e) : First s p e q ∧ q < s.size ∧ wd s q = 1 := by
  obtain ⟨h1, _, hc, hp⟩ := h
  obtain ⟨k, rfl⟩ : ∃ k : Nat, e = k := ⟨e.toNat, by omega⟩
  obtain ⟨hq, hb⟩ := (rn_is s q k (by omega)).1 hr
  exact ⟨⟨⟨h1, hq, by omega, hp hq⟩, hc⟩, hq, (rn_ascii s q hq (by omega)).2⟩
theorem inv_none {s : ByteArray} {p : Nat} {e : Int} {q : Nat} (h : Inv s p e q) (hr : rn s q = -1) : q = s.size ∧ Clear s p e s.size := by
  obtain ⟨_, h2, hc, _⟩ := h
  have : q = s.size := by
    by_cases hq : q < s.size
    · exfalso
      unfold rn at hr; rw [if_pos hq] at hr; omega
    · omega
  subst this
  exact ⟨rfl, hc⟩
end Go.Proofs.YthipmjgibcnfiaaDoor
