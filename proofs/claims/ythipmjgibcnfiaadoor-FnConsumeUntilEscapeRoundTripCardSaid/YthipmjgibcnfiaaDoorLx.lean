/-
  The shims of the lexer's steps, 'peek', and the lexer that has read k runes.
-/
import Derived.Test.YthipmjgibcnfiaaDoorLex
namespace Go.Proofs.YthipmjgibcnfiaaDoor
open Go.RowKit
set_option maxRecDepth 100000

theorem Lex.new {w : World} {s : ByteArray} {p d : Nat} {x3 x4 x5 : Value} {t : TypeId} (hT : Tabs w) (lo : 2 ≤ w.heap.size) : Lex w.heap.size s p d (w.alloc (.cells #[.string s, .int .i64 p, .int .i64 d, x3, x4, x5] t)) := by
  have hb : Below w.heap.size w (w.alloc (.cells #[.string s, .int .i64 p, .int .i64 d, x3, x4, x5] t)) := (Below.refl _ w).alloc (Nat.le_refl _) _
  refine ⟨by go_simp, by go_simp, by go_simp, by go_simp, by go_simp, lo, by simp, hT.alike fun b _ h2 => hb.cell (show b < w.heap.size by omega)⟩


theorem zzNew (s : ByteArray) (w : World) (hT : Hid (Tabs w)) (lo : 2 ≤ w.heap.size) :
    Calls Tryd.prog 24 #[.string s] w fun e w' => e = .returned (.pointer (some ⟨w.heap.size, 0, none⟩)) ∧ Lex w.heap.size s 0 0 w' ∧ Below w.heap.size w w' := by
  go_enter Tryd.func24, Tryd.ntmps24
  go_wp2
  go_ret
  exact ⟨rfl, Lex.new hT.out lo, (Below.refl _ w).alloc (Nat.le_refl _) _⟩

theorem zzPos (B : Nat) (p : Int) (w : World) (h : w.cell? ⟨B, 1, none⟩ = some (.int .i64 p)) :
    Calls Tryd.prog 11 #[.pointer (some ⟨B, 0, none⟩)] w fun e w' => e = .returned (.int .i64 p) ∧ w = w' := by
  go_enter Tryd.func11, Tryd.ntmps11
  go_wp2
  go_ret
  exact ⟨rfl, rfl⟩
theorem zzWidth (B : Nat) (p : Int) (w : World) (h : w.cell? ⟨B, 2, none⟩ = some (.int .i64 p)) :
    Calls Tryd.prog 20 #[.pointer (some ⟨B, 0, none⟩)] w fun e w' => e = .returned (.int .i64 p) ∧ w = w' := by
  go_enter Tryd.func20, Tryd.ntmps20
  go_wp2
  go_ret
  exact ⟨rfl, rfl⟩

theorem zzNext (B : Nat) (s : ByteArray) (p d : Nat) (w : World) (h : Hid (Lex B s p d w)) (hs : s.size ≤ 1000000000) :
    Calls Tryd.prog 12 #[.pointer (some ⟨B, 0, none⟩)] w fun e w' => e = .returned (.int .i32 (rn s p)) ∧ Lex B s (p + wd s p) (wd s p) w' ∧ w.grownBy w' (some B) := by
  go_enter Tryd.func12, Tryd.ntmps12
  go_wp2_with fail
  refine (next_lex B s p d _ h.out hs).mono ?_
  rintro e w1 ⟨rfl, hL, hg⟩
  have HL := Lib.hid hL; have HG := Lib.hid hg; clear hL hg
  go_wp2_with fail
  go_ret
  exact ⟨rfl, HL.out, HG.out⟩
theorem zzBack (B : Nat) (s : ByteArray) (p d : Nat) (w : World) (h : Hid (Lex B s p d w)) (hd : d ≤ p) (hp : p ≤ 1000000000) :
    Calls Tryd.prog 13 #[.pointer (some ⟨B, 0, none⟩)] w fun e w' => e = .returned (.tuple #[]) ∧ Lex B s (p - d) d w' ∧ w.grownBy w' (some B) := by
  go_enter Tryd.func13, Tryd.ntmps13
  go_wp2_with fail
  refine (back_lex B s p d _ h.out hd hp).mono ?_
  rintro e w1 ⟨rfl, hL, hg⟩
  have HL := Lib.hid hL; have HG := Lib.hid hg; clear hL hg
  go_wp2_with fail
  go_end0
  exact ⟨rfl, HL.out, HG.out⟩
theorem peek_lex (B : Nat) (s : ByteArray) (p d : Nat) (w : World) (h : Hid (Lex B s p d w)) (hs : s.size ≤ 1000000000) (hp : p ≤ s.size) :
    Calls Tryd.prog 27 #[.pointer (some ⟨B, 0, none⟩)] w fun e w' => e = .returned (.int .i32 (rn s p)) ∧ Lex B s p (wd s p) w' ∧ w.grownBy w' (some B) := by
  have hw := (wd_le s p).2 hp
  go_enter Tryd.func27, Tryd.ntmps27
  go_wp2_with fail
  refine (next_lex B s p d _ h.out hs).mono ?_
  rintro e w1 ⟨rfl, hL, hg⟩
  have HL := Lib.hid hL; have HG := Lib.hid hg; clear hL hg
  go_wp2_with fail
  refine (back_lex B s _ _ _ HL.out (by omega) (by omega)).mono ?_
  rintro e w2 ⟨rfl, hL, hg⟩
  rw [Nat.add_sub_cancel] at hL
  have HL2 := Lib.hid hL; have HG2 := Lib.hid (grown_trans HG.out hg); clear hL hg
  go_wp2_with fail
  go_ret
  exact ⟨rfl, HL2.out, HG2.out⟩
theorem zzPeek (B : Nat) (s : ByteArray) (p d : Nat) (w : World) (h : Hid (Lex B s p d w)) (hs : s.size ≤ 1000000000) (hp : p ≤ s.size) :
    Calls Tryd.prog 16 #[.pointer (some ⟨B, 0, none⟩)] w fun e w' => e = .returned (.int .i32 (rn s p)) ∧ Lex B s p (wd s p) w' ∧ w.grownBy w' (some B) := by
  go_enter Tryd.func16, Tryd.ntmps16
  go_wp2_with fail
  refine (peek_lex B s p d _ h hs hp).mono ?_
  rintro e w1 ⟨rfl, hL, hg⟩
  have HL := Lib.hid hL; have HG := Lib.hid hg; clear hL hg
  go_wp2_with fail
  go_ret
  exact ⟨rfl, HL.out, HG.out⟩

/-- The state that reading k runes reaches: some place of the text. -/
def Reached (B : Nat) (s : ByteArray) (w w' : World) : Prop := ∃ p d : Nat, p ≤ s.size ∧ Lex B s p d w' ∧ Below B w w'

set_option maxHeartbeats 800000 in
theorem after_any (s : ByteArray) (k : Nat) (w : World) (hT : Hid (Tabs w)) (lo : 2 ≤ w.heap.size) (hs : s.size ≤ 1000000) (hk : k ≤ 1000001) :
    Calls Tryd.prog 10 #[.string s, .int .i64 k] w fun e w' => e = .returned (.pointer (some ⟨w.heap.size, 0, none⟩)) ∧ Reached w.heap.size s w w' := by
  go_enter Tryd.func10, Tryd.ntmps10
  go_wp2_with fail
  refine (zzNew s _ hT lo).mono ?_
  rintro e w1 ⟨rfl, hL, hb⟩
  have HL := Lib.hid hL; have HB := Lib.hid hb; clear hL hb
  go_wp2_with fail
  go_loopw [6] (fun i wr => ∃ j : Nat, j ≤ k ∧ i = .int .i64 j ∧ Reached w.heap.size s w wr) (fun i _ => k - (intOf i).toNat)
  case atStart => exact ⟨0, Nat.zero_le _, rfl, 0, 0, Nat.zero_le _, HL.out, HB.out⟩
  case round =>
    obtain ⟨j, hj, rfl, hR⟩ := hrel
    have HR := Lib.hid hR; clear hR
    by_cases hlt : j < k
    · obtain ⟨p, d, hp, hL, hb⟩ := HR.out
      have HL2 := Lib.hid hL; have HB2 := Lib.hid hb; clear hL hb HR
      have hw := (wd_le s p).2 hp
      go_wp2_with fail
      refine (zzNext w.heap.size s p d _ HL2 (by omega)).mono ?_
      rintro e w2 ⟨rfl, hL, hg⟩
      have HR3 : Hid (Reached w.heap.size s w w2) := ⟨_, _, hw, hL, HB2.out.trans ⟨hg.os, hg.tape, hg.output, hg.size, fun i hi => hg.block i (Nat.lt_of_lt_of_le hi HB2.out.size) (by simp; omega)⟩⟩
      clear hL hg
      go_wp2_with fail
      go_roundw
      case rel => exact ⟨j + 1, by omega, by go_num, HR3.out⟩
      case measure => simp [intOf]; omega
    · go_wp2_with fail
      go_ret
      exact ⟨rfl, HR.out⟩
end Go.Proofs.YthipmjgibcnfiaaDoor
