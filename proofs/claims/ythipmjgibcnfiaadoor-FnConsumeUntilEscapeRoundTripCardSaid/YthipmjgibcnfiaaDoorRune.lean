/-
  Plain facts on the rune that stands at a place of a string: its value, its width.
-/
import Derived.Test.YthipmjgibcnfiaaDoorUtf
namespace Go.Proofs.YthipmjgibcnfiaaDoor
open Go.Lib

/-- The rune that 'next' hands back at place p: -1 at the end. -/
def rn (s : ByteArray) (p : Nat) : Int := if p < s.size then ((decodeGo (s.extract p s.size)).1 : Int) else -1
/-- Its width. -/
def wd (s : ByteArray) (p : Nat) : Nat := if p < s.size then (decodeGo (s.extract p s.size)).2 else 0

theorem byte_lt (u : UInt8) : u.toNat < 256 := u.toNat_lt

theorem get_out (s : ByteArray) (k : Nat) (h : s.size ≤ k) : s.get! k = 0 := by
  cases s with
  | mk d =>
    have : d[k]! = default := getElem!_neg d k (by simpa [ByteArray.size] using h)
    exact this
theorem extract_get (s : ByteArray) (p k : Nat) (hp : p ≤ s.size) : (s.extract p s.size).get! k = s.get! (p + k) := by
  by_cases h : p + k < s.size
  · rw [Utf8W.get!_of_lt _ _ (by simp; omega), Utf8W.get!_of_lt _ _ h]
    simp [ByteArray.getElem_extract]
  · rw [get_out _ _ (by simp; omega), get_out _ _ (by omega)]
/-- The decoder's answer, by the bytes that stand at p. -/
theorem decode_here (s : ByteArray) (p : Nat) (hp : p < s.size) :
    decodeGo (s.extract p s.size) = decodeN (s.size - p) (s.get! p).toNat (s.get! (p + 1)).toNat (s.get! (p + 2)).toNat (s.get! (p + 3)).toNat := by
  have hz : (s.extract p s.size).size = s.size - p := by simp
  unfold decodeGo
  rw [if_neg (by omega), decode_at, hz]
  have e0 := extract_get s p 0 (by omega)
  have e1 := extract_get s p 1 (by omega)
  have e2 := extract_get s p 2 (by omega)
  have e3 := extract_get s p 3 (by omega)
  simp only [Nat.zero_add, Nat.sub_zero, Nat.add_zero] at e0 e1 e2 e3 ⊢
  rw [e0, e1, e2, e3]
theorem decodeN_ascii (n b0 b1 b2 b3 : Nat) (h : b0 < 128) : decodeN n b0 b1 b2 b3 = (b0, 1) := by unfold decodeN; rw [if_pos h]
set_option maxHeartbeats 1000000 in
theorem decodeN_high (n b0 b1 b2 b3 : Nat) (hn : 1 ≤ n) (h : ¬ b0 < 128) : 128 ≤ (decodeN n b0 b1 b2 b3).1 ∧ (decodeN n b0 b1 b2 b3).1 ≤ 1114111 ∧ 1 ≤ (decodeN n b0 b1 b2 b3).2 ∧ (decodeN n b0 b1 b2 b3).2 ≤ 4 ∧ (decodeN n b0 b1 b2 b3).2 ≤ n := by
  unfold decodeN
  rw [if_neg h]
  repeat' split
  all_goals (simp only; omega)

theorem rn_end (s : ByteArray) (p : Nat) (h : s.size ≤ p) : rn s p = -1 := by unfold rn; rw [if_neg (by omega)]
theorem wd_end (s : ByteArray) (p : Nat) (h : s.size ≤ p) : wd s p = 0 := by unfold wd; rw [if_neg (by omega)]
theorem rn_ascii (s : ByteArray) (p : Nat) (h : p < s.size) (hb : (s.get! p).toNat < 128) : rn s p = ((s.get! p).toNat : Int) ∧ wd s p = 1 := by
  unfold rn wd
  rw [if_pos h, if_pos h, decode_here s p h, decodeN_ascii _ _ _ _ _ hb]
  exact ⟨rfl, rfl⟩
theorem rn_high (s : ByteArray) (p : Nat) (h : p < s.size) (hb : ¬ (s.get! p).toNat < 128) : 128 ≤ rn s p ∧ rn s p ≤ 1114111 ∧ 1 ≤ wd s p ∧ wd s p ≤ 4 ∧ p + wd s p ≤ s.size := by
  unfold rn wd
  rw [if_pos h, if_pos h, decode_here s p h]
  obtain ⟨a, b, c, d, e⟩ := decodeN_high (s.size - p) (s.get! p).toNat (s.get! (p + 1)).toNat (s.get! (p + 2)).toNat (s.get! (p + 3)).toNat (by omega) hb
  omega
theorem wd_le (s : ByteArray) (p : Nat) : wd s p ≤ 4 ∧ (p ≤ s.size → p + wd s p ≤ s.size) := by
  by_cases h : p < s.size
  · by_cases hb : (s.get! p).toNat < 128
    · have := (rn_ascii s p h hb).2; omega
    · have := rn_high s p h hb; omega
  · have := wd_end s p (by omega); omega
theorem wd_pos (s : ByteArray) (p : Nat) (h : p < s.size) : 1 ≤ wd s p := by
  by_cases hb : (s.get! p).toNat < 128
  · have := (rn_ascii s p h hb).2; omega
  · have := rn_high s p h hb; omega
theorem rn_ge (s : ByteArray) (p : Nat) : -1 ≤ rn s p ∧ rn s p ≤ 1114111 := by
  by_cases h : p < s.size
  · by_cases hb : (s.get! p).toNat < 128
    · have := (rn_ascii s p h hb).1; omega
    · have := rn_high s p h hb; omega
  · have := rn_end s p (by omega); omega
/-- A rune below 128 that is not the end is the byte itself, and stands alone. -/
theorem rn_is (s : ByteArray) (p : Nat) (c : Nat) (hc : c < 128) : rn s p = (c : Int) ↔ p < s.size ∧ (s.get! p).toNat = c := by
  by_cases h : p < s.size
  · by_cases hb : (s.get! p).toNat < 128
    · have := (rn_ascii s p h hb).1
      exact ⟨fun e => ⟨h, by omega⟩, fun ⟨_, e⟩ => by omega⟩
    · have := rn_high s p h hb
      exact ⟨fun e => by omega, fun ⟨_, e⟩ => by omega⟩
  · have := rn_end s p (by omega)
    exact ⟨fun e => by omega, fun ⟨e, _⟩ => by omega⟩
end Go.Proofs.YthipmjgibcnfiaaDoor
