/-
  The bracket shim by its three ways: a question mark, a closing bracket, anything else behind the bracket.
-/
import Derived.Test.YtogdcenkgndfaaaDoorZz
namespace Go.Proofs.YtogdcenkgndfaaaDoor
open Go.RowKit
set_option maxRecDepth 100000

theorem zzLbr63 (s : ByteArray) (q : Nat) (w : World) (hT : Hid (Tabs w)) (lo : 2 ≤ w.heap.size) (h1 : 1 ≤ q) (hs : s.size ≤ 1000000000) (hq : q < s.size) (hb : (s.get! q).toNat = 63) :
    Calls Tryd.prog 8 #[.string s, .int .i64 q, .int .i64 1] w fun e w' => e = .returned (.tuple #[.int .i64 3, .string ⟨#[91, 63]⟩, .int .i64 ((q : Int) - 1), .int .i64 2, .int .i64 ((q : Int) + 1), .int .i64 1]) ∧ Below w.heap.size w w' := by
  have e : rn s q = 63 := (rn_is s q 63 (by omega)).2 ⟨hq, hb⟩
  have ew := (rn_ascii s q hq (by omega)).2
  have := zzLbr s q 1 w hT lo h1 hs (by omega)
  unfold lbTT lbVal lbLen lbEnd at this
  rw [if_pos e, if_pos e, if_pos e, if_pos e, ew] at this
  exact this
theorem zzLbr93 (s : ByteArray) (q : Nat) (w : World) (hT : Hid (Tabs w)) (lo : 2 ≤ w.heap.size) (h1 : 1 ≤ q) (hs : s.size ≤ 1000000000) (hq : q < s.size) (hb : (s.get! q).toNat = 93) :
    Calls Tryd.prog 8 #[.string s, .int .i64 q, .int .i64 1] w fun e w' => e = .returned (.tuple #[.int .i64 4, .string ⟨#[91, 93]⟩, .int .i64 ((q : Int) - 1), .int .i64 2, .int .i64 ((q : Int) + 1), .int .i64 1]) ∧ Below w.heap.size w w' := by
  have e : rn s q = 93 := (rn_is s q 93 (by omega)).2 ⟨hq, hb⟩
  have n : ¬ rn s q = 63 := by omega
  have ew := (rn_ascii s q hq (by omega)).2
  have := zzLbr s q 1 w hT lo h1 hs (by omega)
  unfold lbTT lbVal lbLen lbEnd at this
  rw [if_neg n, if_neg n, if_neg n, if_neg n, if_pos e, if_pos e, if_pos e, if_pos e, ew] at this
  exact this
theorem zzLbr91 (s : ByteArray) (q : Nat) (w : World) (hT : Hid (Tabs w)) (lo : 2 ≤ w.heap.size) (h1 : 1 ≤ q) (hs : s.size ≤ 1000000000) (hq : q ≤ s.size) (hb : ¬ (q < s.size ∧ ((s.get! q).toNat = 63 ∨ (s.get! q).toNat = 93))) :
    Calls Tryd.prog 8 #[.string s, .int .i64 q, .int .i64 1] w fun e w' => (∃ d : Nat, e = .returned (.tuple #[.int .i64 7, .string ⟨#[91]⟩, .int .i64 ((q : Int) - 1), .int .i64 1, .int .i64 q, .int .i64 d])) ∧ Below w.heap.size w w' := by
  have n1 : ¬ rn s q = 63 := fun h => hb (by have := (rn_is s q 63 (by omega)).1 h; exact ⟨this.1, Or.inl this.2⟩)
  have n2 : ¬ rn s q = 93 := fun h => hb (by have := (rn_is s q 93 (by omega)).1 h; exact ⟨this.1, Or.inr this.2⟩)
  have := zzLbr s q 1 w hT lo h1 hs (by omega)
  unfold lbTT lbVal lbLen lbEnd at this
  rw [if_neg n1, if_neg n1, if_neg n1, if_neg n1, if_neg n2, if_neg n2, if_neg n2, if_neg n2] at this
  exact this.mono fun e w' ⟨he, hb⟩ => ⟨⟨_, he⟩, hb⟩
theorem get_eq (s : ByteArray) (k : Nat) (h : k < s.size) : s[k]'h = s.get! k := (Utf8W.get!_of_lt s k h).symm
/-- Two bytes of a string. -/
theorem cut_two (s : ByteArray) (k : Nat) (a b : UInt8) (h : k + 1 < s.size) (ha : s.get! k = a) (hb : s.get! (k + 1) = b) : (s.extract k (k + 2)).toList = [a, b] := by
  rw [Lib.extract_toList, show k + 2 - k = 2 from by omega]
  have h0 : k < s.data.toList.length := by rw [← Lib.size_eq]; omega
  have h1 : k + 1 < s.data.toList.length := by rw [← Lib.size_eq]; omega
  rw [List.drop_eq_getElem_cons h0, List.drop_eq_getElem_cons h1]
  simp only [List.take_succ_cons, List.take_zero]
  have e0 : s.data.toList[k] = a := by rw [← ha, ← get_eq s k (by omega)]; rfl
  have e1 : s.data.toList[k + 1] = b := by rw [← hb, ← get_eq s (k + 1) (by omega)]; rfl
  rw [e0, e1]
theorem cut_one (s : ByteArray) (k : Nat) (a : UInt8) (h : k < s.size) (ha : s.get! k = a) : (s.extract k (k + 1)).toList = [a] := by
  rw [Lib.extract_toList, show k + 1 - k = 1 from by omega]
  have h0 : k < s.data.toList.length := by rw [← Lib.size_eq]; omega
  rw [List.drop_eq_getElem_cons h0]
  simp only [List.take_succ_cons, List.take_zero]
  have e0 : s.data.toList[k] = a := by rw [← ha, ← get_eq s k (by omega)]; rfl
  rw [e0]
end Go.Proofs.YtogdcenkgndfaaaDoor
