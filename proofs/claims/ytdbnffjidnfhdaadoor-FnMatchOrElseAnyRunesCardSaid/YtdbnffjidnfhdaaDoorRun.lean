/-
  The longest run of bytes of one kind, from a place on; 'consumeNumber' takes it.
-/
import Derived.Test.YtdbnffjidnfhdaaDoorLex
import Derived.Deep.LoopGhost
namespace Go.Proofs.YtdbnffjidnfhdaaDoor
open Go.RowKit
set_option maxRecDepth 100000

theorem get_eq (s : ByteArray) (k : Nat) (h : k < s.size) : s[k]'h = s.get! k := (Utf8W.get!_of_lt s k h).symm
theorem beqF {a b : Int} (h : a ≠ b) : (a == b) = false := beq_eq_false_iff_ne.2 h
theorem beqT {a b : Int} (h : a = b) : (a == b) = true := beq_iff_eq.2 h

/-- All bytes of [p, q) are of the kind. -/
def AllIn (D : Nat → Prop) (s : ByteArray) (p q : Nat) : Prop := ∀ j, p ≤ j → j < q → D (s.get! j).toNat
/-- q is where the run of bytes of the kind that begins at p ends. -/
def RunEnd (D : Nat → Prop) (s : ByteArray) (p q : Nat) : Prop := p ≤ q ∧ q ≤ s.size ∧ AllIn D s p q ∧ (q < s.size → ¬ D (s.get! q).toNat)
theorem RunEnd.unique {D : Nat → Prop} {s : ByteArray} {p q q' : Nat} (h : RunEnd D s p q) (h' : RunEnd D s p q') : q = q' := by
  obtain ⟨a1, a2, a3, a4⟩ := h
  obtain ⟨b1, b2, b3, b4⟩ := h'
  rcases Nat.lt_trichotomy q q' with a | a | a
  · exact absurd (b3 q a1 a) (a4 (by omega))
  · exact a
  · exact absurd (a3 q' b1 a) (b4 (by omega))
theorem AllIn.succ {D : Nat → Prop} {s : ByteArray} {p q : Nat} (h : AllIn D s p q) (hd : D (s.get! q).toNat) : AllIn D s p (q + 1) := fun j h1 h2 => by
  rcases Nat.lt_succ_iff_lt_or_eq.1 h2 with a | rfl
  · exact h j h1 a
  · exact hd
theorem AllIn.none {D : Nat → Prop} {s : ByteArray} {p : Nat} : AllIn D s p p := fun j h1 h2 => by omega
theorem runEnd_exists (D : Nat → Prop) (s : ByteArray) : ∀ (k p : Nat), s.size - p ≤ k → p ≤ s.size → ∃ q, RunEnd D s p q := by
  intro k
  induction k with
  | zero => intro p h1 h2; exact ⟨p, Nat.le_refl _, h2, AllIn.none, fun h => by omega⟩
  | succ k ih =>
    intro p h1 h2
    by_cases h : p < s.size
    · by_cases hd : D (s.get! p).toNat
      · obtain ⟨q, a, b, c, e⟩ := ih (p + 1) (by omega) (by omega)
        refine ⟨q, by omega, b, fun j h3 h4 => ?_, e⟩
        by_cases hj : j = p
        · subst hj; exact hd
        · exact c j (by omega) h4
      · exact ⟨p, Nat.le_refl _, h2, AllIn.none, fun _ => hd⟩
    · exact ⟨p, Nat.le_refl _, h2, AllIn.none, fun h' => absurd h' h⟩

def isDig (n : Nat) : Prop := 48 ≤ n ∧ n ≤ 57

/-- The loop's head. -/
def RunRel (D : Nat → Prop) (B : Nat) (s : ByteArray) (p : Nat) (W : World) (k : Nat) (wr : World) : Prop :=
  ∃ q d, p ≤ q ∧ q ≤ s.size ∧ k = s.size + 1 - q ∧ AllIn D s p q ∧ Lex B s q d wr ∧ W.grownBy wr (some B)

theorem rn_dig (s : ByteArray) (q : Nat) (hq : q ≤ s.size) : (48 ≤ rn s q ∧ rn s q ≤ 57) ↔ (q < s.size ∧ isDig (s.get! q).toNat) := by
  unfold isDig
  by_cases h : q < s.size
  · by_cases hb : (s.get! q).toNat < 128
    · have := (rn_ascii s q h hb).1
      constructor
      · intro h'; exact ⟨h, by omega⟩
      · intro h'; omega
    · have := rn_high s q h hb
      constructor
      · intro h'; omega
      · intro h'; omega
  · have := rn_end s q (by omega)
    constructor
    · intro h'; omega
    · intro h'; omega

set_option maxHeartbeats 1600000 in
theorem num_any (B : Nat) (s : ByteArray) (p d q : Nat) (w : World) (h : Hid (Lex B s p d w)) (hd : d ≤ p) (hs : s.size ≤ 10000000) (hp : p ≤ s.size) (hR : Hid (RunEnd isDig s p q)) :
    Calls Tryd.prog 31 #[.pointer (some ⟨B, 0, none⟩)] w fun e w' => e = .returned (.agg #[.int .i64 13, .string (s.extract (p - d) q), .int .i64 ((p : Int) - d), .int .i64 ((q : Int) - ((p : Int) - d))]) ∧ Lex B s q (wd s q) w' ∧ w.grownBy w' (some B) := by
  have c1 := h.out.c1; have c2 := h.out.c2; have hi := h.out.hi
  have hqs := hR.out.2.1
  have hpq := hR.out.1
  go_enter Tryd.func31, Tryd.ntmps31
  go_wp2
  go_quiet (fail)
  go_wp2_with fail
  have HL := Lib.hid ((h.out.alloc (.cells #[.int .i64 0, .string ⟨#[]⟩, .int .i64 0, .int .i64 0] 50)).drewN nq)
  clear c1 c2 h
  have q0 : ((w.alloc (.cells #[.int .i64 0, .string ⟨#[]⟩, .int .i64 0, .int .i64 0] 50)).drewN nq).cell? ⟨w.heap.size, 0, none⟩ = some (.int .i64 0) := by go_simp
  have q1 : ((w.alloc (.cells #[.int .i64 0, .string ⟨#[]⟩, .int .i64 0, .int .i64 0] 50)).drewN nq).cell? ⟨w.heap.size, 1, none⟩ = some (.string ⟨#[]⟩) := by go_simp
  have q2 : ((w.alloc (.cells #[.int .i64 0, .string ⟨#[]⟩, .int .i64 0, .int .i64 0] 50)).drewN nq).cell? ⟨w.heap.size, 2, none⟩ = some (.int .i64 0) := by go_simp
  have q3 : ((w.alloc (.cells #[.int .i64 0, .string ⟨#[]⟩, .int .i64 0, .int .i64 0] 50)).drewN nq).cell? ⟨w.heap.size, 3, none⟩ = some (.int .i64 0) := by go_simp
  have g0 : ((w.alloc (.cells #[.int .i64 0, .string ⟨#[]⟩, .int .i64 0, .int .i64 0] 50)).drewN nq).frozen? ⟨w.heap.size, 0, none⟩ = false := by go_simp
  have g1 : ((w.alloc (.cells #[.int .i64 0, .string ⟨#[]⟩, .int .i64 0, .int .i64 0] 50)).drewN nq).frozen? ⟨w.heap.size, 1, none⟩ = false := by go_simp
  have g2 : ((w.alloc (.cells #[.int .i64 0, .string ⟨#[]⟩, .int .i64 0, .int .i64 0] 50)).drewN nq).frozen? ⟨w.heap.size, 2, none⟩ = false := by go_simp
  have g3 : ((w.alloc (.cells #[.int .i64 0, .string ⟨#[]⟩, .int .i64 0, .int .i64 0] 50)).drewN nq).frozen? ⟨w.heap.size, 3, none⟩ = false := by go_simp
  have hz : w.heap.size < ((w.alloc (.cells #[.int .i64 0, .string ⟨#[]⟩, .int .i64 0, .int .i64 0] 50)).drewN nq).heap.size := by simp
  have HG0 : Hid (w.grownBy ((w.alloc (.cells #[.int .i64 0, .string ⟨#[]⟩, .int .i64 0, .int .i64 0] 50)).drewN nq) (some B)) := grown_of_below (below_drewN ((Below.refl _ w).alloc (Nat.le_refl _) _) _) _
  generalize hW : ((w.alloc (.cells #[.int .i64 0, .string ⟨#[]⟩, .int .i64 0, .int .i64 0] 50)).drewN nq) = W at *
  have Q0 := Lib.hid q0; have Q1 := Lib.hid q1; have Q2 := Lib.hid q2; have Q3 := Lib.hid q3
  have G0 := Lib.hid g0; have G1 := Lib.hid g1; have G2 := Lib.hid g2; have G3 := Lib.hid g3
  clear q0 q1 q2 q3 g0 g1 g2 g3 hW
  go_loopg [4] (s.size + 1 - p) (fun k _ wr => RunRel isDig B s p W k wr)
  case atStart => exact ⟨p, d, Nat.le_refl _, hp, rfl, AllIn.none, HL.out, World.grownBy.refl _ _⟩
  case round =>
    obtain ⟨q', d', hpq', hqs', hk, hA, hL, hg⟩ := hrel
    have HK := Lib.hid hk; have HA := Lib.hid hA; have HL2 := Lib.hid hL; have HG := Lib.hid hg
    clear hk hA hL hg HL
    have hw := (wd_le s q').2 hqs'
    go_wp2_with fail
    refine (next_lex B s q' d' _ HL2.out (by omega)).mono ?_
    rintro x w1 ⟨rfl, hL, hg⟩
    have HL3 := Lib.hid hL; have HG3 := Lib.hid (grown_trans HG.out hg); clear hL hg
    by_cases hdig : 48 ≤ rn s q' ∧ rn s q' ≤ 57
    · obtain ⟨hlt, hD⟩ := (rn_dig s q' hqs').1 hdig
      have t1 : decide (rn s q' < 48) = false := by simp; omega
      have t2 : decide (57 < rn s q') = false := by simp; omega
      have hwd : wd s q' = 1 := (rn_ascii s q' hlt (by have := hD.2; omega)).2
      have HL4 : Hid (Lex B s (q' + 1) 1 w1) := by have := HL3.out; rw [hwd] at this; exact this
      have HA2 := Lib.hid (HA.out.succ hD)
      clear hD hwd hdig
      go_wp2_with fail
      go_roundg (s.size + 1 - (q' + 1))
      case measure => have := HK.out; omega
      case rel => exact ⟨q' + 1, 1, by omega, by omega, rfl, HA2.out, HL4.out, HG3.out⟩
    · have hE : RunEnd isDig s p q' := ⟨hpq', hqs', HA.out, fun hlt hD => hdig ((rn_dig s q' hqs').2 ⟨hlt, hD⟩)⟩
      obtain rfl := hR.out.unique hE
      clear hE HA
      have ne : w.heap.size ≠ B := by omega
      have b1 : (0 : Int) ≤ (p : Int) - d := by omega
      have b2 : (p : Int) - d ≤ (q : Int) := by omega
      have b3 : (q : Int) ≤ (s.size : Int) := by omega
      by_cases t1 : rn s q < 48
      · go_wp2_with fail
        refine (back_lex B s _ _ _ HL3.out (by omega) (by omega)).mono ?_
        rintro x w2 ⟨rfl, hL, hg⟩
        rw [Nat.add_sub_cancel] at hL
        have a0 := hL.c0; have a1 := hL.c1
        have HL5 := Lib.hid hL; have hg5 := grown_trans HG3.out hg; clear hL hg
        have r0 := kept_cell hg5 ne Q0.out
        have r1 := kept_cell hg5 ne Q1.out
        have r2 := kept_cell hg5 ne Q2.out
        have r3 := kept_cell hg5 ne Q3.out
        have f0 := kept_frozen hg5 ne hz G0.out
        have f1 := kept_frozen hg5 ne hz G1.out
        have f2 := kept_frozen hg5 ne hz G2.out
        have f3 := kept_frozen hg5 ne hz G3.out
        have HG5 := Lib.hid (grown_trans HG0.out hg5); clear hg5
        go_wp2_with fail
        go_quiet (fail)
        go_wp2_with fail
        refine bodyPost_ret (v := .agg #[.int .i64 13, .string (s.extract (p - d) q), .int .i64 ((p : Int) - d), .int .i64 ((q : Int) - ((p : Int) - d))]) (by simp [results, Tryd.results31, go_sem, r0, r1, r2, r3]) rfl ⟨rfl, ?_, ?_⟩
        · refine (HL5.out.drewN nq).below ?_
          repeat (first | refine Below.setCell ?_ (by first | omega | (simp <;> omega)) _ | exact Below.refl _ _)
        · refine grown_then (grown_drewN HG5.out nq) ?_
          repeat (first | refine Below.setCell ?_ (by first | omega | (simp <;> omega)) _ | exact Below.refl _ _)
      · have t1' : decide (rn s q < 48) = false := by simpa using t1
        have t2 : 57 < rn s q := by omega
        go_wp2_with fail
        refine (back_lex B s _ _ _ HL3.out (by omega) (by omega)).mono ?_
        rintro x w2 ⟨rfl, hL, hg⟩
        rw [Nat.add_sub_cancel] at hL
        have a0 := hL.c0; have a1 := hL.c1
        have HL5 := Lib.hid hL; have hg5 := grown_trans HG3.out hg; clear hL hg
        have r0 := kept_cell hg5 ne Q0.out
        have r1 := kept_cell hg5 ne Q1.out
        have r2 := kept_cell hg5 ne Q2.out
        have r3 := kept_cell hg5 ne Q3.out
        have f0 := kept_frozen hg5 ne hz G0.out
        have f1 := kept_frozen hg5 ne hz G1.out
        have f2 := kept_frozen hg5 ne hz G2.out
        have f3 := kept_frozen hg5 ne hz G3.out
        have HG5 := Lib.hid (grown_trans HG0.out hg5); clear hg5
        go_wp2_with fail
        go_quiet (fail)
        go_wp2_with fail
        refine bodyPost_ret (v := .agg #[.int .i64 13, .string (s.extract (p - d) q), .int .i64 ((p : Int) - d), .int .i64 ((q : Int) - ((p : Int) - d))]) (by simp [results, Tryd.results31, go_sem, r0, r1, r2, r3]) rfl ⟨rfl, ?_, ?_⟩
        · refine (HL5.out.drewN nq).below ?_
          repeat (first | refine Below.setCell ?_ (by first | omega | (simp <;> omega)) _ | exact Below.refl _ _)
        · refine grown_then (grown_drewN HG5.out nq) ?_
          repeat (first | refine Below.setCell ?_ (by first | omega | (simp <;> omega)) _ | exact Below.refl _ _)
end Go.Proofs.YtdbnffjidnfhdaaDoor
