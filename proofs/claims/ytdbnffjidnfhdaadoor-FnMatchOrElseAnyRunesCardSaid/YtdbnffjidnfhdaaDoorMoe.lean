/-
  'matchOrElse' and its shims: the two-rune token if the next rune is the second one, else the one-rune token.
-/
import Derived.Test.YtdbnffjidnfhdaaDoorSp
namespace Go.Proofs.YtdbnffjidnfhdaaDoor
open Go.RowKit
set_option maxRecDepth 100000

set_option maxHeartbeats 1600000 in
theorem moeYes (B : Nat) (s : ByteArray) (p d : Nat) (r1 r2 mt st : Int) (w : World) (h : Lex B s p d w) (hd : d ≤ p) (hs : s.size ≤ 10000000) (hp : p ≤ s.size) (hr : (rn s p == r2) = true) :
    Calls Tryd.prog 32 #[.pointer (some ⟨B, 0, none⟩), .int .i32 r1, .int .i32 r2, .int .i64 mt, .int .i64 st] w fun e w' => e = .returned (.agg #[.int .i64 mt, .string (Utf8.encode r1 ++ Utf8.encode r2), .int .i64 ((p : Int) - d), .int .i64 2]) ∧ Lex B s (p + wd s p) (wd s p) w' ∧ w.grownBy w' (some B) := by
  have hw := (wd_le s p).2 hp
  have H := Lib.hid h
  have c1 := h.c1; have c2 := h.c2; have hi := h.hi
  clear h
  have hz1 := encode_size_le r1
  have hz2 := encode_size_le r2
  have hnn : ¬ (9223372036854775807 < (Utf8.encode r1).size + (Utf8.encode r2).size) := by omega
  go_enter Tryd.func32, Tryd.ntmps32
  go_wp2
  go_quiet (fail)
  go_wp2_with fail
  refine (next_lex B s p d _ ((H.out.alloc _).drewN _) (by omega)).mono ?_
  rintro e w1 ⟨rfl, hL1, hg1⟩
  have ne : w.heap.size ≠ B := by omega
  have q0 := kept_cell hg1 ne (o := 0) (v := .int .i64 0) (by go_simp)
  have q1 := kept_cell hg1 ne (o := 1) (v := .string ⟨#[]⟩) (by go_simp)
  have q2 := kept_cell hg1 ne (o := 2) (v := .int .i64 0) (by go_simp)
  have q3 := kept_cell hg1 ne (o := 3) (v := .int .i64 0) (by go_simp)
  have qf0 := kept_frozen hg1 ne (o := 0) (b := false) (by simp) (by go_simp)
  have qf1 := kept_frozen hg1 ne (o := 1) (b := false) (by simp) (by go_simp)
  have qf2 := kept_frozen hg1 ne (o := 2) (b := false) (by simp) (by go_simp)
  have qf3 := kept_frozen hg1 ne (o := 3) (b := false) (by simp) (by go_simp)
  have hz : w.heap.size < w1.heap.size := by have := hg1.size; simp at this; omega
  have hi1 := hL1.hi
  have HG := Lib.hid (grown_from (w := w) (below_drewN ((Below.refl _ w).alloc (Nat.le_refl _) _) _) hg1)
  have HL := Lib.hid hL1
  clear hg1 hL1
  go_wp2_with fail
  refine bodyPost_ret (v := (.agg #[.int .i64 mt, .string (Utf8.encode r1 ++ Utf8.encode r2), .int .i64 ((p : Int) - d), .int .i64 2])) (by simp [results, Tryd.results32, go_sem, q0, q1, q2, q3, hz]) rfl ⟨rfl, ?_, ?_⟩
  · refine HL.out.below ?_
    repeat (first | refine Below.setCell ?_ (by first | omega | (simp <;> omega)) _ | refine Below.alloc ?_ (by first | omega | (simp <;> omega)) _ | exact Below.refl _ _)
  · refine grown_then HG.out ?_
    repeat (first | refine Below.setCell ?_ (by first | omega | (simp <;> omega)) _ | refine Below.alloc ?_ (by first | omega | (simp <;> omega)) _ | exact Below.refl _ _)
set_option maxHeartbeats 1600000 in
theorem moeNo (B : Nat) (s : ByteArray) (p d : Nat) (r1 r2 mt st : Int) (w : World) (h : Lex B s p d w) (hd : d ≤ p) (hs : s.size ≤ 10000000) (hp : p ≤ s.size) (hr : (rn s p == r2) = false) :
    Calls Tryd.prog 32 #[.pointer (some ⟨B, 0, none⟩), .int .i32 r1, .int .i32 r2, .int .i64 mt, .int .i64 st] w fun e w' => e = .returned (.agg #[.int .i64 st, .string (Utf8.encode r1), .int .i64 ((p : Int) - d), .int .i64 1]) ∧ Lex B s (p) (wd s p) w' ∧ w.grownBy w' (some B) := by
  have hw := (wd_le s p).2 hp
  have H := Lib.hid h
  have c1 := h.c1; have c2 := h.c2; have hi := h.hi
  clear h
  have hz1 := encode_size_le r1
  have hz2 := encode_size_le r2
  have hnn : ¬ (9223372036854775807 < (Utf8.encode r1).size + (Utf8.encode r2).size) := by omega
  go_enter Tryd.func32, Tryd.ntmps32
  go_wp2
  go_quiet (fail)
  go_wp2_with fail
  refine (next_lex B s p d _ ((H.out.alloc _).drewN _) (by omega)).mono ?_
  rintro e w1 ⟨rfl, hL1, hg1⟩
  have ne : w.heap.size ≠ B := by omega
  have q0 := kept_cell hg1 ne (o := 0) (v := .int .i64 0) (by go_simp)
  have q1 := kept_cell hg1 ne (o := 1) (v := .string ⟨#[]⟩) (by go_simp)
  have q2 := kept_cell hg1 ne (o := 2) (v := .int .i64 0) (by go_simp)
  have q3 := kept_cell hg1 ne (o := 3) (v := .int .i64 0) (by go_simp)
  have qf0 := kept_frozen hg1 ne (o := 0) (b := false) (by simp) (by go_simp)
  have qf1 := kept_frozen hg1 ne (o := 1) (b := false) (by simp) (by go_simp)
  have qf2 := kept_frozen hg1 ne (o := 2) (b := false) (by simp) (by go_simp)
  have qf3 := kept_frozen hg1 ne (o := 3) (b := false) (by simp) (by go_simp)
  have hz : w.heap.size < w1.heap.size := by have := hg1.size; simp at this; omega
  have hi1 := hL1.hi
  have HG := Lib.hid (grown_from (w := w) (below_drewN ((Below.refl _ w).alloc (Nat.le_refl _) _) _) hg1)
  have HL := Lib.hid hL1
  clear hg1 hL1
  go_wp2_with fail
  refine (back_lex B s (p + wd s p) (wd s p) _ (HL.out.alloc _) (by omega) (by omega)).mono ?_
  rintro e w2 ⟨rfl, hL2, hg2⟩
  rw [Nat.add_sub_cancel] at hL2
  have ne1 : w1.heap.size ≠ B := by omega
  have n0 : w.heap.size ≠ w1.heap.size := by omega
  have x0 := kept_cell hg2 ne (o := 0) (v := .int .i64 0) (by go_simp)
  have x1 := kept_cell hg2 ne (o := 1) (v := .string ⟨#[]⟩) (by go_simp)
  have x2 := kept_cell hg2 ne (o := 2) (v := .int .i64 0) (by go_simp)
  have x3 := kept_cell hg2 ne (o := 3) (v := .int .i64 0) (by go_simp)
  have rf0 := kept_frozen hg2 ne (o := 0) (b := false) (by simp; omega) (by go_simp)
  have rf1 := kept_frozen hg2 ne (o := 1) (b := false) (by simp; omega) (by go_simp)
  have rf2 := kept_frozen hg2 ne (o := 2) (b := false) (by simp; omega) (by go_simp)
  have rf3 := kept_frozen hg2 ne (o := 3) (b := false) (by simp; omega) (by go_simp)
  have s0 := kept_cell hg2 ne1 (o := 0) (v := .int .i64 0) (by go_simp)
  have s1 := kept_cell hg2 ne1 (o := 1) (v := .string ⟨#[]⟩) (by go_simp)
  have s2 := kept_cell hg2 ne1 (o := 2) (v := .int .i64 0) (by go_simp)
  have s3 := kept_cell hg2 ne1 (o := 3) (v := .int .i64 0) (by go_simp)
  have sf0 := kept_frozen hg2 ne1 (o := 0) (b := false) (by simp) (by go_simp)
  have sf1 := kept_frozen hg2 ne1 (o := 1) (b := false) (by simp) (by go_simp)
  have sf2 := kept_frozen hg2 ne1 (o := 2) (b := false) (by simp) (by go_simp)
  have sf3 := kept_frozen hg2 ne1 (o := 3) (b := false) (by simp) (by go_simp)
  have hz2 : w1.heap.size < w2.heap.size := by have := hg2.size; simp at this; omega
  have HG2 := Lib.hid (grown_trans (grown_then HG.out ((Below.refl _ _).alloc (by omega) _)) hg2)
  have HL2 := Lib.hid hL2
  clear hg2 hL2
  go_wp2_with fail
  refine bodyPost_ret (v := (.agg #[.int .i64 st, .string (Utf8.encode r1), .int .i64 ((p : Int) - d), .int .i64 1])) (by simp [results, Tryd.results32, go_sem, x0, x1, x2, x3]) rfl ⟨rfl, ?_, ?_⟩
  · refine HL2.out.below ?_
    repeat (first | refine Below.setCell ?_ (by first | omega | (simp <;> omega)) _ | refine Below.alloc ?_ (by first | omega | (simp <;> omega)) _ | exact Below.refl _ _)
  · refine grown_then HG2.out ?_
    repeat (first | refine Below.setCell ?_ (by first | omega | (simp <;> omega)) _ | refine Below.alloc ?_ (by first | omega | (simp <;> omega)) _ | exact Below.refl _ _)
set_option maxHeartbeats 800000 in
theorem zzMoeYes (B : Nat) (s : ByteArray) (p d : Nat) (r1 r2 mt st : Int) (w : World) (h : Hid (Lex B s p d w)) (hd : d ≤ p) (hs : s.size ≤ 10000000) (hp : p ≤ s.size) (_m1 : -9223372036854775808 ≤ mt) (_m2 : mt ≤ 9223372036854775807) (_n1 : -9223372036854775808 ≤ st) (_n2 : st ≤ 9223372036854775807) (hr : (rn s p == r2) = true) :
    Calls Tryd.prog 19 #[.pointer (some ⟨B, 0, none⟩), .int .i32 r1, .int .i32 r2, .int .i64 mt, .int .i64 st] w fun e w' => e = .returned (.tuple #[.int .i64 mt, .string (Utf8.encode r1 ++ Utf8.encode r2), .int .i64 ((p : Int) - d), .int .i64 2]) ∧ Lex B s (p + wd s p) (wd s p) w' ∧ w.grownBy w' (some B) := by
  have HR := Lib.hid hr; clear hr
  go_enter Tryd.func19, Tryd.ntmps19
  go_wp2_with fail
  refine (moeYes B s p d r1 r2 mt st _ h.out hd hs hp HR.out).mono ?_
  rintro x w1 ⟨rfl, hL, hg⟩
  have hz := hg.size
  have HL := Lib.hid hL; have HG := Lib.hid hg; clear hL hg
  go_wp2_with fail
  go_quiet (fail)
  go_wp2_with fail
  refine bodyPost_ret (v := (.tuple #[.int .i64 mt, .string (Utf8.encode r1 ++ Utf8.encode r2), .int .i64 ((p : Int) - d), .int .i64 2])) (by simp [results, Tryd.results19, go_sem]) rfl ⟨rfl, ?_, ?_⟩
  · exact (HL.out.alloc _).drewN _
  · exact grown_drewN (grown_then HG.out ((Below.refl _ _).alloc hz _)) _
set_option maxHeartbeats 800000 in
theorem zzMoeNo (B : Nat) (s : ByteArray) (p d : Nat) (r1 r2 mt st : Int) (w : World) (h : Hid (Lex B s p d w)) (hd : d ≤ p) (hs : s.size ≤ 10000000) (hp : p ≤ s.size) (_m1 : -9223372036854775808 ≤ mt) (_m2 : mt ≤ 9223372036854775807) (_n1 : -9223372036854775808 ≤ st) (_n2 : st ≤ 9223372036854775807) (hr : (rn s p == r2) = false) :
    Calls Tryd.prog 19 #[.pointer (some ⟨B, 0, none⟩), .int .i32 r1, .int .i32 r2, .int .i64 mt, .int .i64 st] w fun e w' => e = .returned (.tuple #[.int .i64 st, .string (Utf8.encode r1), .int .i64 ((p : Int) - d), .int .i64 1]) ∧ Lex B s (p) (wd s p) w' ∧ w.grownBy w' (some B) := by
  have HR := Lib.hid hr; clear hr
  go_enter Tryd.func19, Tryd.ntmps19
  go_wp2_with fail
  refine (moeNo B s p d r1 r2 mt st _ h.out hd hs hp HR.out).mono ?_
  rintro x w1 ⟨rfl, hL, hg⟩
  have hz := hg.size
  have HL := Lib.hid hL; have HG := Lib.hid hg; clear hL hg
  go_wp2_with fail
  go_quiet (fail)
  go_wp2_with fail
  refine bodyPost_ret (v := (.tuple #[.int .i64 st, .string (Utf8.encode r1), .int .i64 ((p : Int) - d), .int .i64 1])) (by simp [results, Tryd.results19, go_sem]) rfl ⟨rfl, ?_, ?_⟩
  · exact (HL.out.alloc _).drewN _
  · exact grown_drewN (grown_then HG.out ((Below.refl _ _).alloc hz _)) _
theorem newLex13 (s : ByteArray) (p d : Nat) (w : World) (hT : Hid (Tabs w)) (lo : 3 ≤ w.heap.size) :
    Calls Tryd.prog 18 #[.string s, .int .i64 p, .int .i64 d] w fun e w' => e = .returned (.pointer (some ⟨w.heap.size, 0, none⟩)) ∧ Lex w.heap.size s p d w' ∧ Below w.heap.size w w' := by
  go_enter Tryd.func18, Tryd.ntmps18
  go_wp2
  go_ret
  exact ⟨rfl, Lex.new hT.out lo, (Below.refl _ w).alloc (Nat.le_refl _) _⟩
theorem pos13 (B : Nat) (p : Int) (w : World) (h : w.cell? ⟨B, 1, none⟩ = some (.int .i64 p)) :
    Calls Tryd.prog 20 #[.pointer (some ⟨B, 0, none⟩)] w fun e w' => e = .returned (.int .i64 p) ∧ w = w' := by
  go_enter Tryd.func20, Tryd.ntmps20
  go_wp2
  go_ret
  exact ⟨rfl, rfl⟩
end Go.Proofs.YtdbnffjidnfhdaaDoor
