/-
  'consumeLBracket' and the functions that call it: what they return.
-/
import Derived.Test.YtogdcenkgndfaaaDoorLex
namespace Go.Proofs.YtogdcenkgndfaaaDoor
open Go.RowKit
set_option maxRecDepth 100000

set_option maxHeartbeats 800000 in
theorem lbr63 (B : Nat) (s : ByteArray) (p d : Nat) (w : World) (h : Lex B s p d w) (hd : d ≤ p) (hs : s.size ≤ 1000000000) (hp : p ≤ s.size) (hr : (rn s p == 63) = true) :
    Calls Tryd.prog 13 #[.pointer (some ⟨B, 0, none⟩)] w fun e w' => e = .returned (.agg #[.int .i64 3, .string ⟨#[91, 63]⟩, .int .i64 ((p : Int) - d), .int .i64 2]) ∧ Lex B s (p + wd s p) (wd s p) w' ∧ w.grownBy w' (some B) := by
  have hw := (wd_le s p).2 hp
  have H := Lib.hid h
  have c1 := h.c1; have c2 := h.c2; have hi := h.hi
  clear h
  go_enter Tryd.func13, Tryd.ntmps13
  go_wp2
  go_quiet (fail)
  go_wp2_with fail
  refine (next_lex B s p d _ ((H.out.alloc _).drewN _) hs).mono ?_
  rintro e w1 ⟨rfl, hL1, hg1⟩
  have ne : w.heap.size ≠ B := by omega
  have q0 := kept_cell hg1 ne (o := 0) (v := .int .i64 0) (by go_simp)
  have q1 := kept_cell hg1 ne (o := 1) (v := .string ⟨#[]⟩) (by go_simp)
  have q2 := kept_cell hg1 ne (o := 2) (v := .int .i64 0) (by go_simp)
  have q3 := kept_cell hg1 ne (o := 3) (v := .int .i64 0) (by go_simp)
  have g0 := kept_frozen hg1 ne (o := 0) (b := false) (by simp) (by go_simp)
  have g1 := kept_frozen hg1 ne (o := 1) (b := false) (by simp) (by go_simp)
  have g2 := kept_frozen hg1 ne (o := 2) (b := false) (by simp) (by go_simp)
  have g3 := kept_frozen hg1 ne (o := 3) (b := false) (by simp) (by go_simp)
  have hz : w.heap.size < w1.heap.size := by have := hg1.size; simp at this; omega
  have hi1 := hL1.hi
  have HG := Lib.hid (grown_from (w := w) (below_drewN ((Below.refl _ w).alloc (Nat.le_refl _) _) _) hg1)
  have HL := Lib.hid hL1
  clear hg1 hL1
  go_wp2_with fail
  refine bodyPost_ret (v := .agg #[.int .i64 3, .string ⟨#[91, 63]⟩, .int .i64 ((p : Int) - d), .int .i64 2]) (by simp [results, Tryd.results13, go_sem, q0, q1, q2, q3, hz]) rfl ⟨rfl, ?_, ?_⟩
  · refine HL.out.below ?_
    repeat (first | refine Below.setCell ?_ (by first | omega | (simp <;> omega)) _ | refine Below.alloc ?_ (by first | omega | (simp <;> omega)) _ | exact Below.refl _ _)
  · refine grown_then HG.out ?_
    repeat (first | refine Below.setCell ?_ (by first | omega | (simp <;> omega)) _ | refine Below.alloc ?_ (by first | omega | (simp <;> omega)) _ | exact Below.refl _ _)
set_option maxHeartbeats 800000 in
theorem lbr93 (B : Nat) (s : ByteArray) (p d : Nat) (w : World) (h : Lex B s p d w) (hd : d ≤ p) (hs : s.size ≤ 1000000000) (hp : p ≤ s.size) (hr0 : (rn s p == 63) = false) (hr : (rn s p == 93) = true) :
    Calls Tryd.prog 13 #[.pointer (some ⟨B, 0, none⟩)] w fun e w' => e = .returned (.agg #[.int .i64 4, .string ⟨#[91, 93]⟩, .int .i64 ((p : Int) - d), .int .i64 2]) ∧ Lex B s (p + wd s p) (wd s p) w' ∧ w.grownBy w' (some B) := by
  have hw := (wd_le s p).2 hp
  have H := Lib.hid h
  have c1 := h.c1; have c2 := h.c2; have hi := h.hi
  clear h
  go_enter Tryd.func13, Tryd.ntmps13
  go_wp2
  go_quiet (fail)
  go_wp2_with fail
  refine (next_lex B s p d _ ((H.out.alloc _).drewN _) hs).mono ?_
  rintro e w1 ⟨rfl, hL1, hg1⟩
  have ne : w.heap.size ≠ B := by omega
  have q0 := kept_cell hg1 ne (o := 0) (v := .int .i64 0) (by go_simp)
  have q1 := kept_cell hg1 ne (o := 1) (v := .string ⟨#[]⟩) (by go_simp)
  have q2 := kept_cell hg1 ne (o := 2) (v := .int .i64 0) (by go_simp)
  have q3 := kept_cell hg1 ne (o := 3) (v := .int .i64 0) (by go_simp)
  have g0 := kept_frozen hg1 ne (o := 0) (b := false) (by simp) (by go_simp)
  have g1 := kept_frozen hg1 ne (o := 1) (b := false) (by simp) (by go_simp)
  have g2 := kept_frozen hg1 ne (o := 2) (b := false) (by simp) (by go_simp)
  have g3 := kept_frozen hg1 ne (o := 3) (b := false) (by simp) (by go_simp)
  have hz : w.heap.size < w1.heap.size := by have := hg1.size; simp at this; omega
  have hi1 := hL1.hi
  have HG := Lib.hid (grown_from (w := w) (below_drewN ((Below.refl _ w).alloc (Nat.le_refl _) _) _) hg1)
  have HL := Lib.hid hL1
  clear hg1 hL1
  go_wp2_with fail
  refine bodyPost_ret (v := .agg #[.int .i64 4, .string ⟨#[91, 93]⟩, .int .i64 ((p : Int) - d), .int .i64 2]) (by simp [results, Tryd.results13, go_sem, q0, q1, q2, q3, hz]) rfl ⟨rfl, ?_, ?_⟩
  · refine HL.out.below ?_
    repeat (first | refine Below.setCell ?_ (by first | omega | (simp <;> omega)) _ | refine Below.alloc ?_ (by first | omega | (simp <;> omega)) _ | exact Below.refl _ _)
  · refine grown_then HG.out ?_
    repeat (first | refine Below.setCell ?_ (by first | omega | (simp <;> omega)) _ | refine Below.alloc ?_ (by first | omega | (simp <;> omega)) _ | exact Below.refl _ _)
set_option maxHeartbeats 800000 in
theorem lbr91 (B : Nat) (s : ByteArray) (p d : Nat) (w : World) (h : Lex B s p d w) (hd : d ≤ p) (hs : s.size ≤ 1000000000) (hp : p ≤ s.size) (hr0 : (rn s p == 63) = false) (hr : (rn s p == 93) = false) :
    Calls Tryd.prog 13 #[.pointer (some ⟨B, 0, none⟩)] w fun e w' => e = .returned (.agg #[.int .i64 7, .string ⟨#[91]⟩, .int .i64 ((p : Int) - d), .int .i64 1]) ∧ Lex B s (p) (wd s p) w' ∧ w.grownBy w' (some B) := by
  have hw := (wd_le s p).2 hp
  have H := Lib.hid h
  have c1 := h.c1; have c2 := h.c2; have hi := h.hi
  clear h
  go_enter Tryd.func13, Tryd.ntmps13
  go_wp2
  go_quiet (fail)
  go_wp2_with fail
  refine (next_lex B s p d _ ((H.out.alloc _).drewN _) hs).mono ?_
  rintro e w1 ⟨rfl, hL1, hg1⟩
  have ne : w.heap.size ≠ B := by omega
  have q0 := kept_cell hg1 ne (o := 0) (v := .int .i64 0) (by go_simp)
  have q1 := kept_cell hg1 ne (o := 1) (v := .string ⟨#[]⟩) (by go_simp)
  have q2 := kept_cell hg1 ne (o := 2) (v := .int .i64 0) (by go_simp)
  have q3 := kept_cell hg1 ne (o := 3) (v := .int .i64 0) (by go_simp)
  have g0 := kept_frozen hg1 ne (o := 0) (b := false) (by simp) (by go_simp)
  have g1 := kept_frozen hg1 ne (o := 1) (b := false) (by simp) (by go_simp)
  have g2 := kept_frozen hg1 ne (o := 2) (b := false) (by simp) (by go_simp)
  have g3 := kept_frozen hg1 ne (o := 3) (b := false) (by simp) (by go_simp)
  have hz : w.heap.size < w1.heap.size := by have := hg1.size; simp at this; omega
  have hi1 := hL1.hi
  have HG := Lib.hid (grown_from (w := w) (below_drewN ((Below.refl _ w).alloc (Nat.le_refl _) _) _) hg1)
  have HL := Lib.hid hL1
  clear hg1 hL1
  go_wp2_with fail
  refine (back_lex B s (p + wd s p) (wd s p) _ (HL.out.alloc _) (by omega) (by omega)).mono ?_
  rintro e w2 ⟨rfl, hL2, hg2⟩
  rw [Nat.add_sub_cancel] at hL2
  have ne1 : w1.heap.size ≠ B := by omega
  have n0 : w.heap.size ≠ w1.heap.size := by omega
  have r0 := kept_cell hg2 ne (o := 0) (v := .int .i64 0) (by go_simp)
  have r1 := kept_cell hg2 ne (o := 1) (v := .string ⟨#[]⟩) (by go_simp)
  have r2 := kept_cell hg2 ne (o := 2) (v := .int .i64 0) (by go_simp)
  have r3 := kept_cell hg2 ne (o := 3) (v := .int .i64 0) (by go_simp)
  have f0 := kept_frozen hg2 ne (o := 0) (b := false) (by simp; omega) (by go_simp)
  have f1 := kept_frozen hg2 ne (o := 1) (b := false) (by simp; omega) (by go_simp)
  have f2 := kept_frozen hg2 ne (o := 2) (b := false) (by simp; omega) (by go_simp)
  have f3 := kept_frozen hg2 ne (o := 3) (b := false) (by simp; omega) (by go_simp)
  have s0 := kept_cell hg2 ne1 (o := 0) (v := .int .i64 7) (by go_simp)
  have s1 := kept_cell hg2 ne1 (o := 1) (v := .string ⟨#[91]⟩) (by go_simp)
  have s2 := kept_cell hg2 ne1 (o := 2) (v := .int .i64 ((p : Int) - d)) (by go_simp)
  have s3 := kept_cell hg2 ne1 (o := 3) (v := .int .i64 1) (by go_simp)
  have hz2 : w1.heap.size < w2.heap.size := by have := hg2.size; simp at this; omega
  have HG2 := Lib.hid (grown_trans (grown_then HG.out ((Below.refl _ _).alloc (by omega) _)) hg2)
  have HL2 := Lib.hid hL2
  clear hg2 hL2
  go_wp2_with fail
  refine bodyPost_ret (v := .agg #[.int .i64 7, .string ⟨#[91]⟩, .int .i64 ((p : Int) - d), .int .i64 1]) (by simp [results, Tryd.results13, go_sem, r0, r1, r2, r3]) rfl ⟨rfl, ?_, ?_⟩
  · refine HL2.out.below ?_
    repeat (first | refine Below.setCell ?_ (by first | omega | (simp <;> omega)) _ | refine Below.alloc ?_ (by first | omega | (simp <;> omega)) _ | exact Below.refl _ _)
  · refine grown_then HG2.out ?_
    repeat (first | refine Below.setCell ?_ (by first | omega | (simp <;> omega)) _ | refine Below.alloc ?_ (by first | omega | (simp <;> omega)) _ | exact Below.refl _ _)
end Go.Proofs.YtogdcenkgndfaaaDoor
