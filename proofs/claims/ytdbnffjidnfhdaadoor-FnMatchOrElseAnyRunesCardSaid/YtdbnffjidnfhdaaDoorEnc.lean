/-
  Plain facts: the rune that stands at a place, and the bytes that encode it.
-/
import Derived.Test.YtdbnffjidnfhdaaDoorIds
namespace Go.Proofs.YtdbnffjidnfhdaaDoor
open Go.RowKit
set_option maxRecDepth 100000

def okR (c : Nat) : Prop := c < 55296 ∨ (57344 ≤ c ∧ c ≤ 1114111)
/-- The bytes of c, as numbers. -/
def encL (c : Nat) : List Nat :=
  if c < 128 then [c] else if c < 2048 then [192 + c / 64, 128 + c % 64] else if c < 65536 then [224 + c / 4096, 128 + c / 64 % 64, 128 + c % 64]
  else [240 + c / 262144, 128 + c / 4096 % 64, 128 + c / 64 % 64, 128 + c % 64]
theorem enc_data (c : Nat) (h : okR c) : Utf8.encode (c : Int) = ⟨((encL c).map UInt8.ofNat).toArray⟩ := by
  have hv : Utf8.valid (c : Int) = true := by unfold okR at h; simp [Utf8.valid]; omega
  simp only [Utf8.encode, hv, if_true, Int.toNat_natCast, encL]
  repeat' split
  all_goals rfl
theorem enc_size (c : Nat) (h : okR c) : (Utf8.encode (c : Int)).size = (encL c).length := by
  rw [enc_data c h]; simp [ByteArray.size]
theorem encL_lt (c : Nat) (h : okR c) : ∀ x ∈ encL c, x < 256 := by
  unfold okR at h
  unfold encL
  repeat' split
  all_goals (simp; omega)
theorem encL_len (c : Nat) : 1 ≤ (encL c).length ∧ (encL c).length ≤ 4 := by
  unfold encL
  repeat' split
  all_goals simp
theorem get_mk : ∀ (b : ByteArray) (l : List UInt8) (_ : b = ⟨l.toArray⟩) (i : Nat) (h1 : i < b.size) (h2 : i < l.length), b[i]'h1 = l[i]'h2 := by
  rintro _ l rfl i h1 h2
  rfl
theorem enc_get (c : Nat) (h : okR c) (i : Nat) (hi : i < (encL c).length) : ((Utf8.encode (c : Int)).get! i).toNat = (encL c)[i] := by
  rw [← get_eq _ i (by rw [enc_size c h]; exact hi)]
  have e : (Utf8.encode (c : Int))[i]'(by rw [enc_size c h]; exact hi) = UInt8.ofNat ((encL c)[i]) := by
    rw [get_mk _ _ (enc_data c h) i _ (by rw [List.length_map]; exact hi), List.getElem_map]
  rw [e, UInt8.toNat_ofNat']
  exact Nat.mod_eq_of_lt (encL_lt c h _ (List.getElem_mem hi))
/-- The bytes e stand at place p of s. -/
def At (s : ByteArray) (p : Nat) (e : ByteArray) : Prop := p + e.size ≤ s.size ∧ ∀ i, i < e.size → s.get! (p + i) = e.get! i
set_option maxHeartbeats 4000000 in
theorem dec_1 (n b0 b1 b2 b3 c : Nat) (_h0 : b0 < 256) (h1 : c < 128) :
    ((Lib.decodeN n b0 b1 b2 b3).1 = c ↔ b0 = c) ∧ (b0 = c → (Lib.decodeN n b0 b1 b2 b3).2 = 1) := by
  unfold Lib.decodeN
  (repeat' split) <;> refine ⟨⟨fun e => ?_, fun e => ?_⟩, fun e => ?_⟩ <;> (try dsimp only at *) <;> omega
set_option maxHeartbeats 4000000 in
theorem dec_2 (n b0 b1 b2 b3 c : Nat) (_h0 : b0 < 256) (_g1 : b1 < 256) (h1 : 128 ≤ c) (h2 : c < 2048) :
    ((Lib.decodeN n b0 b1 b2 b3).1 = c ↔ 1 < n ∧ b0 = 192 + c / 64 ∧ b1 = 128 + c % 64) ∧ (1 < n ∧ b0 = 192 + c / 64 ∧ b1 = 128 + c % 64 → (Lib.decodeN n b0 b1 b2 b3).2 = 2) := by
  unfold Lib.decodeN
  (repeat' split) <;> refine ⟨⟨fun e => ?_, fun e => ?_⟩, fun e => ?_⟩ <;> (try dsimp only at *) <;> omega
set_option maxHeartbeats 4000000 in
theorem dec_3 (n b0 b1 b2 b3 c : Nat) (_h0 : b0 < 256) (_g1 : b1 < 256) (_g2 : b2 < 256) (h1 : 2048 ≤ c) (h2 : c < 65536) (hv : okR c) (hc : c ≠ 65533) :
    ((Lib.decodeN n b0 b1 b2 b3).1 = c ↔ 2 < n ∧ b0 = 224 + c / 4096 ∧ b1 = 128 + c / 64 % 64 ∧ b2 = 128 + c % 64) ∧ (2 < n ∧ b0 = 224 + c / 4096 ∧ b1 = 128 + c / 64 % 64 ∧ b2 = 128 + c % 64 → (Lib.decodeN n b0 b1 b2 b3).2 = 3) := by
  unfold okR at hv
  unfold Lib.decodeN
  (repeat' split) <;> refine ⟨⟨fun e => ?_, fun e => ?_⟩, fun e => ?_⟩ <;> (try dsimp only at *) <;> omega
set_option maxHeartbeats 4000000 in
theorem dec_4 (n b0 b1 b2 b3 c : Nat) (_h0 : b0 < 256) (_g1 : b1 < 256) (_g2 : b2 < 256) (_g3 : b3 < 256) (h1 : 65536 ≤ c) (h2 : c ≤ 1114111) :
    ((Lib.decodeN n b0 b1 b2 b3).1 = c ↔ 3 < n ∧ b0 = 240 + c / 262144 ∧ b1 = 128 + c / 4096 % 64 ∧ b2 = 128 + c / 64 % 64 ∧ b3 = 128 + c % 64) ∧ (3 < n ∧ b0 = 240 + c / 262144 ∧ b1 = 128 + c / 4096 % 64 ∧ b2 = 128 + c / 64 % 64 ∧ b3 = 128 + c % 64 → (Lib.decodeN n b0 b1 b2 b3).2 = 4) := by
  unfold Lib.decodeN
  (repeat' split) <;> refine ⟨⟨fun e => ?_, fun e => ?_⟩, fun e => ?_⟩ <;> (try dsimp only at *) <;> omega
theorem u8_eq {a b : UInt8} (h : a.toNat = b.toNat) : a = b := UInt8.toNat_inj.1 h
/-- That the bytes of c stand there, by numbers. -/
theorem at_iff (s : ByteArray) (p c : Nat) (h : okR c) : At s p (Utf8.encode (c : Int)) ↔ p + (encL c).length ≤ s.size ∧ ∀ i (hi : i < (encL c).length), (s.get! (p + i)).toNat = (encL c)[i] := by
  unfold At
  rw [enc_size c h]
  constructor
  · rintro ⟨a, b⟩
    exact ⟨a, fun i hi => by rw [b i hi, enc_get c h i hi]⟩
  · rintro ⟨a, b⟩
    exact ⟨a, fun i hi => u8_eq (by rw [b i hi, enc_get c h i hi])⟩
theorem all1 (f : Nat → Nat) (a : Nat) : (∀ i (hi : i < [a].length), f i = [a][i]) ↔ f 0 = a := by
  constructor
  · intro h; exact h 0 (by simp)
  · intro h0 i hi
    match i, hi with
    | 0, _ => exact h0
    | i + 1, hi => exact absurd hi (by simp)
theorem all2 (f : Nat → Nat) (a b : Nat) : (∀ i (hi : i < [a, b].length), f i = [a, b][i]) ↔ f 0 = a ∧ f 1 = b := by
  constructor
  · intro h; exact ⟨h 0 (by simp), h 1 (by simp)⟩
  · rintro ⟨h0, h1⟩ i hi
    match i, hi with
    | 0, _ => exact h0
    | 1, _ => exact h1
    | i + 2, hi => exact absurd hi (by simp)
theorem all3 (f : Nat → Nat) (a b c : Nat) : (∀ i (hi : i < [a, b, c].length), f i = [a, b, c][i]) ↔ f 0 = a ∧ f 1 = b ∧ f 2 = c := by
  constructor
  · intro h; exact ⟨h 0 (by simp), h 1 (by simp), h 2 (by simp)⟩
  · rintro ⟨h0, h1, h2⟩ i hi
    match i, hi with
    | 0, _ => exact h0
    | 1, _ => exact h1
    | 2, _ => exact h2
    | i + 3, hi => exact absurd hi (by simp)
theorem all4 (f : Nat → Nat) (a b c d : Nat) : (∀ i (hi : i < [a, b, c, d].length), f i = [a, b, c, d][i]) ↔ f 0 = a ∧ f 1 = b ∧ f 2 = c ∧ f 3 = d := by
  constructor
  · intro h; exact ⟨h 0 (by simp), h 1 (by simp), h 2 (by simp), h 3 (by simp)⟩
  · rintro ⟨h0, h1, h2, h3⟩ i hi
    match i, hi with
    | 0, _ => exact h0
    | 1, _ => exact h1
    | 2, _ => exact h2
    | 3, _ => exact h3
    | i + 4, hi => exact absurd hi (by simp)
set_option maxHeartbeats 1000000 in
theorem rn_enc (s : ByteArray) (p c : Nat) (h : okR c) (hc : c ≠ 65533) : (rn s p = (c : Int) ↔ At s p (Utf8.encode (c : Int))) ∧ (At s p (Utf8.encode (c : Int)) → wd s p = (Utf8.encode (c : Int)).size) := by
  rw [at_iff s p c h, enc_size c h]
  by_cases hp : p < s.size
  · unfold rn wd
    rw [if_pos hp, if_pos hp, decode_here s p hp]
    have cast : ∀ x : Nat, ((x : Int) = (c : Int)) = (x = c) := fun x => propext (by omega)
    rw [cast]
    have k0 := byte_lt (s.get! p); have k1 := byte_lt (s.get! (p + 1)); have k2 := byte_lt (s.get! (p + 2)); have k3 := byte_lt (s.get! (p + 3))
    by_cases l1 : c < 128
    · obtain ⟨d1, d2⟩ := dec_1 (s.size - p) _ (s.get! (p + 1)).toNat (s.get! (p + 2)).toNat (s.get! (p + 3)).toNat c k0 l1
      have q : (∀ i (hi : i < [c].length), (s.get! (p + i)).toNat = [c][i]) ↔ (s.get! p).toNat = c := all1 (fun i => (s.get! (p + i)).toNat) c
      rw [show encL c = [c] from by unfold encL; rw [if_pos l1], q]
      exact ⟨d1.trans ⟨fun e => ⟨by show p + 1 ≤ s.size; omega, e⟩, fun e => e.2⟩, fun e => d2 e.2⟩
    by_cases l2 : c < 2048
    · obtain ⟨d1, d2⟩ := dec_2 (s.size - p) _ _ (s.get! (p + 2)).toNat (s.get! (p + 3)).toNat c k0 k1 (by omega) l2
      have q : (∀ i (hi : i < [192 + c / 64, 128 + c % 64].length), (s.get! (p + i)).toNat = [192 + c / 64, 128 + c % 64][i]) ↔ (s.get! p).toNat = 192 + c / 64 ∧ (s.get! (p + 1)).toNat = 128 + c % 64 := all2 (fun i => (s.get! (p + i)).toNat) _ _
      rw [show encL c = [192 + c / 64, 128 + c % 64] from by unfold encL; rw [if_neg l1, if_pos l2], q]
      exact ⟨d1.trans ⟨fun e => ⟨by show p + 2 ≤ s.size; omega, e.2⟩, fun e => ⟨by have : p + 2 ≤ s.size := e.1; omega, e.2⟩⟩, fun e => d2 ⟨by have : p + 2 ≤ s.size := e.1; omega, e.2⟩⟩
    by_cases l3 : c < 65536
    · obtain ⟨d1, d2⟩ := dec_3 (s.size - p) _ _ _ (s.get! (p + 3)).toNat c k0 k1 k2 (by omega) l3 h hc
      have q : (∀ i (hi : i < [224 + c / 4096, 128 + c / 64 % 64, 128 + c % 64].length), (s.get! (p + i)).toNat = [224 + c / 4096, 128 + c / 64 % 64, 128 + c % 64][i]) ↔ (s.get! p).toNat = 224 + c / 4096 ∧ (s.get! (p + 1)).toNat = 128 + c / 64 % 64 ∧ (s.get! (p + 2)).toNat = 128 + c % 64 := all3 (fun i => (s.get! (p + i)).toNat) _ _ _
      rw [show encL c = [224 + c / 4096, 128 + c / 64 % 64, 128 + c % 64] from by unfold encL; rw [if_neg l1, if_neg l2, if_pos l3], q]
      exact ⟨d1.trans ⟨fun e => ⟨by show p + 3 ≤ s.size; omega, e.2⟩, fun e => ⟨by have : p + 3 ≤ s.size := e.1; omega, e.2⟩⟩, fun e => d2 ⟨by have : p + 3 ≤ s.size := e.1; omega, e.2⟩⟩
    · obtain ⟨d1, d2⟩ := dec_4 (s.size - p) _ _ _ _ c k0 k1 k2 k3 (by omega) (by unfold okR at h; omega)
      have q : (∀ i (hi : i < [240 + c / 262144, 128 + c / 4096 % 64, 128 + c / 64 % 64, 128 + c % 64].length), (s.get! (p + i)).toNat = [240 + c / 262144, 128 + c / 4096 % 64, 128 + c / 64 % 64, 128 + c % 64][i]) ↔ (s.get! p).toNat = 240 + c / 262144 ∧ (s.get! (p + 1)).toNat = 128 + c / 4096 % 64 ∧ (s.get! (p + 2)).toNat = 128 + c / 64 % 64 ∧ (s.get! (p + 3)).toNat = 128 + c % 64 := all4 (fun i => (s.get! (p + i)).toNat) _ _ _ _
      rw [show encL c = [240 + c / 262144, 128 + c / 4096 % 64, 128 + c / 64 % 64, 128 + c % 64] from by unfold encL; rw [if_neg l1, if_neg l2, if_neg l3], q]
      exact ⟨d1.trans ⟨fun e => ⟨by show p + 4 ≤ s.size; omega, e.2⟩, fun e => ⟨by have : p + 4 ≤ s.size := e.1; omega, e.2⟩⟩, fun e => d2 ⟨by have : p + 4 ≤ s.size := e.1; omega, e.2⟩⟩
  · have e := rn_end s p (by omega)
    have l := encL_len c
    exact ⟨⟨fun x => by omega, fun x => by omega⟩, fun x => by omega⟩
end Go.Proofs.YtdbnffjidnfhdaaDoor
