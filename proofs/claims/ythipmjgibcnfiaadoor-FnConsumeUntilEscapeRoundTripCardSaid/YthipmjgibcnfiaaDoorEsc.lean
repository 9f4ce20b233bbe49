/-
  Plain facts: a text whose delimiter and backslashes are escaped ends where the first bare delimiter stands; and how it is read back.
-/
import Derived.Test.YthipmjgibcnfiaaDoorCf
import Derived.Laws.BytesArg
namespace Go.Proofs.YthipmjgibcnfiaaDoor
open Go.RowKit
set_option maxRecDepth 100000

def esc1 (e b : Nat) : List Nat := if b = e ∨ b = 92 then [92, b] else [b]
def escL (e : Nat) (l : List Nat) : List Nat := l.flatMap (esc1 e)
theorem escL_cons (e b : Nat) (t : List Nat) : escL e (b :: t) = esc1 e b ++ escL e t := by simp [escL]
theorem escL_append (e : Nat) (a b : List Nat) : escL e (a ++ b) = escL e a ++ escL e b := by simp [escL]
theorem escL_one (e b : Nat) : escL e [b] = esc1 e b := by simp [escL]
theorem escL_len (e : Nat) : ∀ l : List Nat, (escL e l).length ≤ 2 * l.length
  | [] => by simp [escL]
  | b :: t => by
    have := escL_len e t
    have h : (esc1 e b).length ≤ 2 := by unfold esc1; split <;> simp
    rw [escL_cons, List.length_append, List.length_cons]
    omega
/-- The bytes of s, as numbers. -/
def nums (s : ByteArray) : List Nat := s.data.toList.map UInt8.toNat
theorem nums_len (s : ByteArray) : (nums s).length = s.size := by unfold nums; rw [List.length_map, Array.length_toList]; rfl
theorem nums_at (s : ByteArray) (i : Nat) (h : i < s.size) : (nums s)[i]? = some (s.get! i).toNat := by
  rw [← get_eq s i h]
  have h' : i < s.data.size := h
  unfold nums
  rw [List.getElem?_map, Array.getElem?_toList, Array.getElem?_eq_getElem h']
  rfl
/-- The bytes at q are these numbers. -/
def Holds (s : ByteArray) (q : Nat) (l : List Nat) : Prop := ∀ j x, l[j]? = some x → (s.get! (q + j)).toNat = x
theorem Holds.left {s : ByteArray} {q : Nat} {a b : List Nat} (h : Holds s q (a ++ b)) : Holds s q a := fun j x hj => by
  refine h j x ?_
  have hl : j < a.length := by
    rcases Nat.lt_or_ge j a.length with h | h
    · exact h
    · rw [List.getElem?_eq_none h] at hj; cases hj
  rw [List.getElem?_append_left hl]; exact hj
theorem Holds.right {s : ByteArray} {q : Nat} {a b : List Nat} (h : Holds s q (a ++ b)) : Holds s (q + a.length) b := fun j x hj => by
  have := h (a.length + j) x (by rw [List.getElem?_append_right (by omega), Nat.add_sub_cancel_left]; exact hj)
  rw [Nat.add_assoc]; exact this
theorem esc_inv (s : ByteArray) (e : Nat) (hne : e ≠ 92) : ∀ (l : List Nat) (q : Nat), Holds s q (escL e l) → Clear s 0 e q → bs s 0 q % 2 = 0 → Clear s 0 e (q + (escL e l).length) ∧ bs s 0 (q + (escL e l).length) % 2 = 0
  | [], q, _, hc, hb => by simpa [escL] using ⟨hc, hb⟩
  | b :: t, q, h, hc, hb => by
    rw [escL_cons] at h ⊢
    have ha := h.left
    have hr := h.right
    by_cases hsp : b = e ∨ b = 92
    · have h1 : esc1 e b = [92, b] := if_pos hsp
      rw [h1] at ha hr ⊢
      have g0 : (s.get! q).toNat = 92 := ha 0 92 rfl
      have g1 : (s.get! (q + 1)).toNat = b := ha 1 b rfl
      have b1 := bs_succ_hit (s := s) (Nat.zero_le q) g0
      have c1 : Clear s 0 e (q + 1) := clear_succ hc fun hh => by have := hh.2.2.1; omega
      have c2 : Clear s 0 e (q + 1 + 1) := clear_succ c1 fun hh => by have := hh.2.2.2; omega
      have b2 : bs s 0 (q + 1 + 1) % 2 = 0 := by
        by_cases h92 : b = 92
        · rw [bs_succ_hit (Nat.zero_le _) (by omega)]; omega
        · rw [bs_succ_miss (by omega)]
      have := esc_inv s e hne t (q + 2) hr c2 b2
      rw [List.length_append, show q + ([92, b].length + (escL e t).length) = q + 2 + (escL e t).length from by simp; omega]
      exact this
    · have h1 : esc1 e b = [b] := if_neg hsp
      rw [h1] at ha hr ⊢
      have g0 : (s.get! q).toNat = b := ha 0 b rfl
      have c1 : Clear s 0 e (q + 1) := clear_succ hc fun hh => by have := hh.2.2.1; omega
      have b1 : bs s 0 (q + 1) % 2 = 0 := by rw [bs_succ_miss (by omega)]
      have := esc_inv s e hne t (q + 1) hr c1 b1
      rw [List.length_append, show q + ([b].length + (escL e t).length) = q + 1 + (escL e t).length from by simp; omega]
      exact this
theorem esc_first (s : ByteArray) (e : Nat) (hne : e ≠ 92) (l R : List Nat) (h : Holds s 0 (escL e l ++ ([e] ++ R))) (hz : (escL e l).length < s.size) : First s 0 e (escL e l).length := by
  have h0 := esc_inv s e hne l 0 h.left (fun j hj => by omega) (by rw [bs_at])
  rw [Nat.zero_add] at h0
  have h1 : (s.get! (0 + (escL e l).length)).toNat = e := h.right.left 0 e rfl
  rw [Nat.zero_add] at h1
  exact ⟨⟨Nat.zero_le _, hz, by omega, h0.2⟩, h0.1⟩
/-- How far the first k bytes reach. -/
def reach (e : Nat) (l : List Nat) (k : Nat) : Nat := (escL e (l.take k)).length
theorem escL_take (e : Nat) (l : List Nat) (k b : Nat) (h : l[k]? = some b) : escL e (l.take (k + 1)) = escL e (l.take k) ++ esc1 e b := by
  rw [List.take_add_one, h, Option.toList_some, escL_append, escL_one]
theorem escL_split (e : Nat) (l : List Nat) (k b : Nat) (h : l[k]? = some b) : escL e l = escL e (l.take k) ++ (esc1 e b ++ escL e (l.drop (k + 1))) := by
  have : escL e l = escL e (l.take (k + 1)) ++ escL e (l.drop (k + 1)) := by rw [← escL_append, List.take_append_drop]
  rw [this, escL_take e l k b h, List.append_assoc]
theorem esc_at (e : Nat) (l : List Nat) (k b : Nat) (h : l[k]? = some b) (hsp : b = e ∨ b = 92) : (escL e l)[reach e l k]? = some 92 ∧ (escL e l)[reach e l k + 1]? = some b ∧ reach e l (k + 1) = reach e l k + 2 ∧ reach e l k + 2 ≤ (escL e l).length := by
  have h1 : esc1 e b = [92, b] := if_pos hsp
  unfold reach
  rw [escL_take e l k b h, escL_split e l k b h, h1]
  refine ⟨?_, ?_, by simp, by simp⟩
  · rw [List.getElem?_append_right (by omega)]; simp
  · rw [List.getElem?_append_right (by omega), Nat.add_sub_cancel_left]; rfl
theorem plain_at (e : Nat) (l : List Nat) (k b : Nat) (h : l[k]? = some b) (hsp : ¬ (b = e ∨ b = 92)) : (escL e l)[reach e l k]? = some b ∧ reach e l (k + 1) = reach e l k + 1 ∧ reach e l k + 1 ≤ (escL e l).length := by
  have h1 : esc1 e b = [b] := if_neg hsp
  unfold reach
  rw [escL_take e l k b h, escL_split e l k b h, h1]
  refine ⟨?_, by simp, by simp⟩
  rw [List.getElem?_append_right (by omega)]; simp
theorem reach_all (e : Nat) (l : List Nat) : reach e l l.length = (escL e l).length := by unfold reach; rw [List.take_length]
theorem reach_le (e : Nat) (l : List Nat) (k : Nat) : reach e l k ≤ 2 * k := by
  unfold reach
  have := escL_len e (l.take k)
  have h2 : (l.take k).length ≤ k := by rw [List.length_take]; omega
  omega
end Go.Proofs.YthipmjgibcnfiaaDoor
