/-
  The lexer's steps 'next' and 'back': what they return, and that they turn no block but the lexer's own.
-/
import Derived.Test.YthipmjgibcnfiaaDoorRune
import Derived.WalkKit
import Derived.WalkSpells
import Derived.WalkLawsBesides
import Derived.Deep.QuietTactic
import Derived.BigQuiet
import Derived.Deep.RegionHeld3
import Derived.RegionTactic
import Derived.Lib.Hide
namespace Go.Proofs.YthipmjgibcnfiaaDoor
open Go.RowKit
set_option maxRecDepth 100000

/-- Block B is a lexer over s, at place p, its last width d; the decoder's tables lie. -/
structure Lex (B : Nat) (s : ByteArray) (p d : Nat) (w : World) : Prop where
  c0 : w.cell? ⟨B, 0, none⟩ = some (.string s)
  c1 : w.cell? ⟨B, 1, none⟩ = some (.int .i64 p)
  c2 : w.cell? ⟨B, 2, none⟩ = some (.int .i64 d)
  z1 : w.frozen? ⟨B, 1, none⟩ = false
  z2 : w.frozen? ⟨B, 2, none⟩ = false
  lo : 2 ≤ B
  hi : B < w.heap.size
  tabs : Tabs w

theorem grown_trans {a b c : World} {row : Option Nat} (h : a.grownBy b row) (k : b.grownBy c row) : a.grownBy c row :=
  ⟨k.os.trans h.os, k.tape.trans h.tape, k.output.trans h.output, Nat.le_trans h.size k.size, fun i hi hn => (k.block i (Nat.lt_of_lt_of_le hi h.size) hn).trans (h.block i hi hn)⟩
theorem grown_drewN {a w : World} {row : Option Nat} (h : a.grownBy w row) (n : Nat) : a.grownBy (w.drewN n) row := ⟨h.os, h.tape, h.output, h.size, h.block⟩
theorem grown_of_below {a w : World} (h : Below a.heap.size a w) (row : Option Nat) : a.grownBy w row := ⟨h.os, h.tape, h.output, h.size, fun i hi _ => h.block i hi⟩
theorem grown_setCell {a w : World} {g : Nat} (h : a.grownBy w (some g)) {p : Addr} (hp : p.block = g) (u : Value) : a.grownBy (w.setCell p u) (some g) :=
  ⟨h.os, h.tape, h.output, by simpa [World.setCell] using h.size, fun i hi hne => (Below.heap_setCell w p u i (by
    rintro rfl
    exact hne (by rw [hp]))).trans (h.block i hi hne)⟩
theorem size_setCell (w : World) (p : Addr) (u : Value) : (w.setCell p u).heap.size = w.heap.size := by simp [World.setCell]
theorem Tabs.grown {w w' : World} {B : Nat} (h : Tabs w) (hg : w.grownBy w' (some B)) (lo : 2 ≤ B) (hi : B < w.heap.size) : Tabs w' :=
  h.alike fun b o hb => World.cell?_of_block (hg.block b (by omega) (by simp; omega))

theorem back_cells (B : Nat) (p d : Int) (w : World) (h1 : w.cell? ⟨B, 1, none⟩ = some (.int .i64 p)) (h2 : w.cell? ⟨B, 2, none⟩ = some (.int .i64 d)) (hf : w.frozen? ⟨B, 1, none⟩ = false)
    (hd : 0 ≤ d) (hp : d ≤ p) (hpm : p ≤ 1000000000) :
    Calls Tryd.prog 26 #[.pointer (some ⟨B, 0, none⟩)] w fun e w' => e = .returned (.tuple #[]) ∧ (w.setCell ⟨B, 1, none⟩ (.int .i64 (p - d))).drewN 1 = w' := by
  go_enter Tryd.func26, Tryd.ntmps26
  go_wp2
  go_region
  go_end0
  exact ⟨rfl, rfl⟩

theorem back_lex (B : Nat) (s : ByteArray) (p d : Nat) (w : World) (h : Lex B s p d w) (hd : d ≤ p) (hp : p ≤ 1000000000) :
    Calls Tryd.prog 26 #[.pointer (some ⟨B, 0, none⟩)] w fun e w' => e = .returned (.tuple #[]) ∧ Lex B s (p - d) d w' ∧ w.grownBy w' (some B) := by
  refine (back_cells B p d w h.c1 h.c2 h.z1 (by omega) (by omega) (by omega)).mono ?_
  rintro e w' ⟨rfl, rfl⟩
  have e : ((p : Int) - (d : Int)) = ((p - d : Nat) : Int) := by omega
  rw [e]
  have hg : w.grownBy ((w.setCell ⟨B, 1, none⟩ (.int .i64 ((p - d : Nat) : Int))).drewN 1) (some B) := grown_drewN (grown_setCell (World.grownBy.refl _ _) rfl _) 1
  refine ⟨rfl, ⟨?_, ?_, ?_, ?_, ?_, h.lo, ?_, h.tabs.grown hg h.lo h.hi⟩, hg⟩
  · have := h.c0; go_simp
  · have := h.c1; go_simp
  · have := h.c2; go_simp
  · have := h.z1; go_simp
  · have := h.z2; go_simp
  · have := h.hi; simp; exact this

theorem next_end (B : Nat) (s : ByteArray) (p d : Nat) (w : World) (h0 : w.cell? ⟨B, 0, none⟩ = some (.string s)) (h1 : w.cell? ⟨B, 1, none⟩ = some (.int .i64 p)) (h2 : w.cell? ⟨B, 2, none⟩ = some (.int .i64 d))
    (hf2 : w.frozen? ⟨B, 2, none⟩ = false) (hp : s.size ≤ p) :
    Calls Tryd.prog 25 #[.pointer (some ⟨B, 0, none⟩)] w fun e w' => e = .returned (.int .i32 (-1)) ∧ ∃ n, (w.setCell ⟨B, 2, none⟩ (.int .i64 0)).drewN n = w' := by
  have t1 : decide ((s.size : Int) ≤ (p : Int)) = true := by simp; omega
  go_enter Tryd.func25, Tryd.ntmps25
  go_wp2
  go_quiet (fail)
  go_wp2
  go_ret
  exact ⟨rfl, nq, rfl⟩

set_option maxHeartbeats 400000 in
theorem next_in (B : Nat) (s : ByteArray) (p d r d' : Nat) (w : World) (hT : Hid (Tabs w)) (h0 : w.cell? ⟨B, 0, none⟩ = some (.string s)) (h1 : w.cell? ⟨B, 1, none⟩ = some (.int .i64 p)) (h2 : w.cell? ⟨B, 2, none⟩ = some (.int .i64 d))
    (hf1 : w.frozen? ⟨B, 1, none⟩ = false) (hf2 : w.frozen? ⟨B, 2, none⟩ = false) (hB : B < w.heap.size) (hp : p < s.size) (hs : s.size ≤ 1000000000) (hr : Hid (Lib.decodeGo (s.extract p s.size) = (r, d'))) (hd : d' ≤ 4) :
    Calls Tryd.prog 25 #[.pointer (some ⟨B, 0, none⟩)] w fun e w' => e = .returned (.int .i32 r) ∧ ∃ w1, Below w.heap.size w w1 ∧ (w1.setCell ⟨B, 2, none⟩ (.int .i64 d')).setCell ⟨B, 1, none⟩ (.int .i64 ((p : Int) + d')) = w' := by
  have t1 : decide ((s.size : Int) ≤ (p : Int)) = false := by simp; omega
  have t2 : (0 : Int) ≤ (p : Int) := by omega
  have t3 : (p : Int) ≤ (s.size : Int) := by omega
  have c1 : (Lib.decodeGo (s.extract p s.size)).1 = r := by rw [hr.out]
  have c2 : (Lib.decodeGo (s.extract p s.size)).2 = d' := by rw [hr.out]
  have C1 := Lib.hid c1; have C2 := Lib.hid c2; clear c1 c2
  go_enter Tryd.func25, Tryd.ntmps25
  go_wp2
  go_quiet (fail)
  go_wp2
  go_region_held3 (fun w' => w'.cell? ⟨B, 0, none⟩ = some (.string s) ∧ w'.cell? ⟨B, 1, none⟩ = some (.int .i64 p)) (go_keep)
    (first | (go_at_call 29; refine (decode_any _ _ ?_).mono ?_; exact hT.out; rintro e w' ⟨rfl, hb⟩; rw [C1.out, C2.out]; have k0 := (hb.cell (p := ⟨B, 0, none⟩) hB).trans h0; have k1 := (hb.cell (p := ⟨B, 1, none⟩) hB).trans h1))
  have k2 := (hb.cell (p := ⟨B, 2, none⟩) hB).trans h2
  have g1 := (hb.frozen (p := ⟨B, 1, none⟩) hB).trans hf1
  have g2 := (hb.frozen (p := ⟨B, 2, none⟩) hB).trans hf2
  have HB := Lib.hid hb; clear hb
  go_wp2
  go_ret
  exact ⟨rfl, w', ⟨HB.out.os, HB.out.tape, HB.out.output, HB.out.size, HB.out.block⟩, rfl⟩

theorem lex_moved {B : Nat} {s : ByteArray} {p d D q : Nat} {w w1 : World} (h : Lex B s p d w) (hb : Below w.heap.size w w1) :
    Lex B s q D ((w1.setCell ⟨B, 2, none⟩ (.int .i64 D)).setCell ⟨B, 1, none⟩ (.int .i64 q)) ∧ w.grownBy ((w1.setCell ⟨B, 2, none⟩ (.int .i64 D)).setCell ⟨B, 1, none⟩ (.int .i64 q)) (some B) := by
  have hg : w.grownBy ((w1.setCell ⟨B, 2, none⟩ (.int .i64 D)).setCell ⟨B, 1, none⟩ (.int .i64 q)) (some B) := grown_setCell (p := ⟨B, 1, none⟩) (grown_setCell (p := ⟨B, 2, none⟩) (grown_of_below hb _) rfl _) rfl _
  have k0 := (hb.cell (p := ⟨B, 0, none⟩) h.hi).trans h.c0
  have k1 := (hb.cell (p := ⟨B, 1, none⟩) h.hi).trans h.c1
  have k2 := (hb.cell (p := ⟨B, 2, none⟩) h.hi).trans h.c2
  have g1 := (hb.frozen (p := ⟨B, 1, none⟩) h.hi).trans h.z1
  have g2 := (hb.frozen (p := ⟨B, 2, none⟩) h.hi).trans h.z2
  refine ⟨⟨?_, ?_, ?_, ?_, ?_, h.lo, Nat.lt_of_lt_of_le h.hi hg.size, h.tabs.grown hg h.lo h.hi⟩, hg⟩
  all_goals (clear hg; go_simp)
theorem lex_stood {B : Nat} {s : ByteArray} {p d : Nat} {w : World} (h : Lex B s p d w) (n : Nat) :
    Lex B s p 0 ((w.setCell ⟨B, 2, none⟩ (.int .i64 0)).drewN n) ∧ w.grownBy ((w.setCell ⟨B, 2, none⟩ (.int .i64 0)).drewN n) (some B) := by
  have hg : w.grownBy ((w.setCell ⟨B, 2, none⟩ (.int .i64 0)).drewN n) (some B) := grown_drewN (grown_setCell (p := ⟨B, 2, none⟩) (World.grownBy.refl _ _) rfl _) n
  have k0 := h.c0; have k1 := h.c1; have k2 := h.c2; have g1 := h.z1; have g2 := h.z2
  refine ⟨⟨?_, ?_, ?_, ?_, ?_, h.lo, Nat.lt_of_lt_of_le h.hi hg.size, h.tabs.grown hg h.lo h.hi⟩, hg⟩
  all_goals (clear hg; go_simp)
  all_goals simp

/-- ████ 'next', at every place. ████ -/
theorem next_lex (B : Nat) (s : ByteArray) (p d : Nat) (w : World) (h : Lex B s p d w) (hs : s.size ≤ 1000000000) :
    Calls Tryd.prog 25 #[.pointer (some ⟨B, 0, none⟩)] w fun e w' => e = .returned (.int .i32 (rn s p)) ∧ Lex B s (p + wd s p) (wd s p) w' ∧ w.grownBy w' (some B) := by
  by_cases hlt : p < s.size
  · have hd := (wd_le s p).1
    obtain ⟨R, D, hRD⟩ : ∃ R D, Lib.decodeGo (s.extract p s.size) = (R, D) := ⟨_, _, rfl⟩
    have er : rn s p = (R : Int) := by unfold rn; rw [if_pos hlt, hRD]
    have ed : wd s p = D := by unfold wd; rw [if_pos hlt, hRD]
    rw [er, ed]
    rw [ed] at hd
    refine (next_in B s p d R D w h.tabs h.c0 h.c1 h.c2 h.z1 h.z2 h.hi hlt hs (Lib.hid hRD) hd).mono fun e w' hh => ?_
    obtain ⟨he, w1, hb, hw⟩ := hh
    refine ⟨he, ?_⟩
    rw [← hw, show ((p : Int) + (D : Int)) = ((p + D : Nat) : Int) from by omega]
    exact lex_moved h hb
  · rw [rn_end s p (by omega), wd_end s p (by omega)]
    refine (next_end B s p d w h.c0 h.c1 h.c2 h.z2 (by omega)).mono fun e w' hh => ?_
    obtain ⟨he, n, hw⟩ := hh
    refine ⟨he, ?_⟩
    rw [← hw]
    exact lex_stood h n
theorem Lex.alloc {B : Nat} {s : ByteArray} {p d : Nat} {w : World} (h : Lex B s p d w) (o : Obj) : Lex B s p d (w.alloc o) := by
  have hb : Below w.heap.size w (w.alloc o) := (Below.refl _ w).alloc (Nat.le_refl _) o
  have hlo := h.lo
  have hhi := h.hi
  exact ⟨(hb.cell h.hi).trans h.c0, (hb.cell h.hi).trans h.c1, (hb.cell h.hi).trans h.c2, (hb.frozen h.hi).trans h.z1, (hb.frozen h.hi).trans h.z2, h.lo, Nat.lt_of_lt_of_le h.hi hb.size, h.tabs.alike fun b _ hb2 => hb.cell (show b < w.heap.size by omega)⟩
theorem Lex.drewN {B : Nat} {s : ByteArray} {p d : Nat} {w : World} (h : Lex B s p d w) (n : Nat) : Lex B s p d (w.drewN n) := ⟨h.c0, h.c1, h.c2, h.z1, h.z2, h.lo, h.hi, h.tabs⟩
theorem Lex.drew {B : Nat} {s : ByteArray} {p d : Nat} {w : World} (h : Lex B s p d w) : Lex B s p d w.drew := ⟨h.c0, h.c1, h.c2, h.z1, h.z2, h.lo, h.hi, h.tabs⟩
/-- What is written above the lexer's block leaves it alone. -/
theorem Lex.below {B : Nat} {s : ByteArray} {p d : Nat} {w w' : World} (h : Lex B s p d w) (hb : Below (B + 1) w w') : Lex B s p d w' := by
  have hlo := h.lo
  exact ⟨(hb.cell (Nat.lt_succ_self _)).trans h.c0, (hb.cell (Nat.lt_succ_self _)).trans h.c1, (hb.cell (Nat.lt_succ_self _)).trans h.c2, (hb.frozen (Nat.lt_succ_self _)).trans h.z1, (hb.frozen (Nat.lt_succ_self _)).trans h.z2, h.lo,
    Nat.lt_of_lt_of_le h.hi hb.size, h.tabs.alike fun b _ hb2 => hb.cell (show b < B + 1 by omega)⟩
theorem kept_cell {W w1 : World} {B k o : Nat} {v : Value} (hg : W.grownBy w1 (some B)) (hne : k ≠ B) (h : W.cell? ⟨k, o, none⟩ = some v) : w1.cell? ⟨k, o, none⟩ = some v := hg.cell h (by simp; exact hne)
theorem kept_frozen {W w1 : World} {B k o : Nat} {b : Bool} (hg : W.grownBy w1 (some B)) (hne : k ≠ B) (hk : k < W.heap.size) (h : W.frozen? ⟨k, o, none⟩ = b) : w1.frozen? ⟨k, o, none⟩ = b :=
  (World.frozen?_of_block (hg.block k hk (by simp; exact hne))).trans h
theorem grown_from {w W0 w1 : World} {B : Nat} (h0 : Below w.heap.size w W0) (h1 : W0.grownBy w1 (some B)) : w.grownBy w1 (some B) :=
  grown_trans (grown_of_below h0 _) h1
theorem grown_then {w w1 w' : World} {B : Nat} (h1 : w.grownBy w1 (some B)) (h2 : Below w.heap.size w1 w') : w.grownBy w' (some B) :=
  ⟨h2.os.trans h1.os, h2.tape.trans h1.tape, h2.output.trans h1.output, Nat.le_trans h1.size h2.size, fun k hk hne => (h2.block k hk).trans (h1.block k hk hne)⟩
theorem below_drewN {B : Nat} {a w : World} (h : Below B a w) (n : Nat) : Below B a (w.drewN n) := ⟨h.os, h.tape, h.output, h.size, h.block⟩
theorem below_grown {w w1 w' : World} {B0 B : Nat} (h : Below B0 w w1) (hg : w1.grownBy w' (some B)) (h0 : B0 ≤ B) (h1 : B0 ≤ w1.heap.size) : Below B0 w w' :=
  h.grown hg h1 (fun k hk => by cases hk; exact h0)
end Go.Proofs.YthipmjgibcnfiaaDoor
