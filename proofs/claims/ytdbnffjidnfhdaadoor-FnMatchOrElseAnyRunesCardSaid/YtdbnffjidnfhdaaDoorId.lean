/-
  'consumeUnquotedIdentifier' takes the longest run of identifier bytes.
-/
import Derived.Test.YtdbnffjidnfhdaaDoorMoe
namespace Go.Proofs.YtdbnffjidnfhdaaDoor
open Go.RowKit
set_option maxRecDepth 100000

/-- A byte that may stand inside an identifier. -/
def isTrail (n : Nat) : Prop := (48 ≤ n ∧ n ≤ 57) ∨ (65 ≤ n ∧ n ≤ 90) ∨ n = 95 ∨ (97 ≤ n ∧ n ≤ 122)
def trailB (n : Nat) : Bool := (48 ≤ n && n ≤ 57) || (65 ≤ n && n ≤ 90) || n == 95 || (97 ≤ n && n ≤ 122)
theorem trailB_iff (n : Nat) : trailB n = true ↔ isTrail n := by simp [trailB, isTrail]; omega
/-- The table of bits lies as its initialiser lays it. -/
def Trail (w : World) : Prop := w.cell? ⟨0, 0, none⟩ = some (.int .u64 287948901175001088) ∧ w.cell? ⟨0, 1, none⟩ = some (.int .u64 576460745995190270)
theorem Trail.grown {w w' : World} {B : Nat} (h : Trail w) (hg : w.grownBy w' (some B)) (lo : 3 ≤ B) (hi : B < w.heap.size) : Trail w' :=
  ⟨(World.cell?_of_block (hg.block _ (show 0 < w.heap.size by omega) (by simp; omega))).trans h.1, (World.cell?_of_block (hg.block _ (show 0 < w.heap.size by omega) (by simp; omega))).trans h.2⟩
theorem Trail.below {w w' : World} (h : Trail w) (hb : Below w.heap.size w w') (lo : 3 ≤ w.heap.size) : Trail w' :=
  ⟨(hb.cell (show 0 < w.heap.size by omega)).trans h.1, (hb.cell (show 0 < w.heap.size by omega)).trans h.2⟩
def tabN (b : Nat) : Int := if b < 64 then 287948901175001088 else 576460745995190270
theorem Trail.at_ {w : World} (h : Trail w) (b : Nat) (hb : b < 128) : w.cell? ⟨0, b / 64, none⟩ = some (.int .u64 (tabN b)) := by
  unfold tabN
  by_cases h1 : b < 64
  · rw [if_pos h1, show b / 64 = 0 from by omega]; exact h.1
  · rw [if_neg h1, show b / 64 = 1 from by omega]; exact h.2
theorem bit_trail : ∀ b, b < 128 → (bits BinOp.and IntKind.u64 (tabN b) (IntKind.u64.wrap (2 ^ (b % 64))) == 0) = !(trailB b) := by decide +kernel

set_option maxHeartbeats 1600000 in
theorem id_any (B : Nat) (s : ByteArray) (p d q : Nat) (w : World) (h : Hid (Lex B s p d w)) (hd : d ≤ p) (hs : s.size ≤ 10000000) (hp : p ≤ s.size) (hR : Hid (RunEnd isTrail s p q)) (hTr : Hid (Trail w)) (hU : Hid (rn s q ≠ 128)) :
    Calls Tryd.prog 33 #[.pointer (some ⟨B, 0, none⟩)] w fun e w' => e = .returned (.agg #[.int .i64 14, .string (s.extract (p - d) q), .int .i64 ((p : Int) - d), .int .i64 ((q : Int) - ((p : Int) - d))]) ∧ Lex B s q (wd s q) w' ∧ w.grownBy w' (some B) := by
  have c1 := h.out.c1; have c2 := h.out.c2; have hi := h.out.hi
  have hqs := hR.out.2.1
  have hpq := hR.out.1
  go_enter Tryd.func33, Tryd.ntmps33
  go_wp2
  go_quiet (fail)
  go_wp2_with fail
  have HT0 : Hid (Trail ((w.alloc (.cells #[.int .i64 0, .string ⟨#[]⟩, .int .i64 0, .int .i64 0] 50)).drewN nq)) := hTr.out.grown (B := B) (grown_of_below (below_drewN ((Below.refl _ w).alloc (Nat.le_refl _) _) _) _) h.out.lo hi
  have HL := Lib.hid ((h.out.alloc (.cells #[.int .i64 0, .string ⟨#[]⟩, .int .i64 0, .int .i64 0] 50)).drewN nq)
  clear c1 c2 h
  have q0 : ((w.alloc (.cells #[.int .i64 0, .string ⟨#[]⟩, .int .i64 0, .int .i64 0] 50)).drewN nq).cell? ⟨w.heap.size, 0, none⟩ = some (.int .i64 0) := by go_simp
  have q1 : ((w.alloc (.cells #[.int .i64 0, .string ⟨#[]⟩, .int .i64 0, .int .i64 0] 50)).drewN nq).cell? ⟨w.heap.size, 1, none⟩ = some (.string ⟨#[]⟩) := by go_simp
  have q2 : ((w.alloc (.cells #[.int .i64 0, .string ⟨#[]⟩, .int .i64 0, .int .i64 0] 50)).drewN nq).cell? ⟨w.heap.size, 2, none⟩ = some (.int .i64 0) := by go_simp
  have q3 : ((w.alloc (.cells #[.int .i64 0, .string ⟨#[]⟩, .int .i64 0, .int .i64 0] 50)).drewN nq).cell? ⟨w.heap.size, 3, none⟩ = some (.int .i64 0) := by go_simp
  have g0 : ((w.alloc (.cells #[.int .i64 0, .string ⟨#[]⟩, .int .i64 0, .int .i64 0] 50)).drewN nq).frozen? ⟨w.heap.size, 0, none⟩ = false := by go_simp
  have g1 : ((w.alloc (.cells #[.int .i64 0, .string ⟨#[]⟩, .int .i64 0, .int .i64 0] 50)).drewN nq).frozen? ⟨w.heap.size, 1, none⟩ = false := by go_simp
  have g2 : ((w.alloc (.cells #[.int .i64 0, .string ⟨#[]⟩, .int .i64 0, .int .i64 0] 50)).drewN nq).frozen? ⟨w.heap.size, 2, none⟩ = false := by go_simp
  have g3 : ((w.alloc (.cells #[.int .i64 0, .string ⟨#[]⟩, .int .i64 0, .int .i64 0] 50)).drewN nq).frozen? ⟨w.heap.size, 3, none⟩ = false := by go_simp
  have hz : w.heap.size < ((w.alloc (.cells #[.int .i64 0, .string ⟨#[]⟩, .int .i64 0, .int .i64 0] 50)).drewN nq).heap.size := by simp
  have HG0 : Hid (w.grownBy ((w.alloc (.cells #[.int .i64 0, .string ⟨#[]⟩, .int .i64 0, .int .i64 0] 50)).drewN nq) (some B)) := grown_of_below (below_drewN ((Below.refl _ w).alloc (Nat.le_refl _) _) _) _
  generalize hW : ((w.alloc (.cells #[.int .i64 0, .string ⟨#[]⟩, .int .i64 0, .int .i64 0] 50)).drewN nq) = W at *
  have Q0 := Lib.hid q0; have Q1 := Lib.hid q1; have Q2 := Lib.hid q2; have Q3 := Lib.hid q3
  have G0 := Lib.hid g0; have G1 := Lib.hid g1; have G2 := Lib.hid g2; have G3 := Lib.hid g3
  clear q0 q1 q2 q3 g0 g1 g2 g3 hW
  go_loopg [4] (s.size + 1 - p) (fun k _ wr => RunRel isTrail B s p W k wr)
  case atStart => exact ⟨p, d, Nat.le_refl _, hp, rfl, AllIn.none, HL.out, World.grownBy.refl _ _⟩
  case round =>
    obtain ⟨q', d', hpq', hqs', hk, hA, hL, hg⟩ := hrel
    have HK := Lib.hid hk; have HA := Lib.hid hA; have HL2 := Lib.hid hL; have HG := Lib.hid hg
    clear hk hA hL hg HL
    have hw := (wd_le s q').2 hqs'
    go_wp2_with fail
    refine (next_lex B s q' d' _ HL2.out (by omega)).mono ?_
    rintro x w1 ⟨rfl, hL, hg⟩
    have HL3 := Lib.hid hL; have HG3 := Lib.hid (grown_trans HG.out hg); clear hL hg
    have HT1 : Hid (Trail w1) := HT0.out.grown HG3.out HL3.out.lo (by have := hz; omega)
    by_cases hlt : q' < s.size
    · by_cases hb : (s.get! q').toNat < 128
      · obtain ⟨er, ed⟩ := rn_ascii s q' hlt hb
        obtain ⟨b, hbb⟩ : ∃ b, (s.get! q').toNat = b := ⟨_, rfl⟩
        rw [hbb] at er hb
        have t1 : decide ((b : Int) < 0) = false := by simp
        have t2 : decide (128 < (b : Int)) = false := by simp; omega
        have t3 : b / 64 < 2 := by omega
        have t4 : ((b : Int) / 64) < 2 := by omega
        have t5 : (0 : Int) ≤ (b : Int) / 64 := by omega
        have t6 : (0 : Int) ≤ (b : Int) % 64 := by omega
        have t7 : (b : Int) % 64 < 64 := by omega
        have t8 : w1.cell? ⟨0, b / 64, none⟩ = some (.int .u64 (tabN b)) := HT1.out.at_ b hb
        have bt := bit_trail b hb
        by_cases hD : trailB b = true
        · rw [hD] at bt
          have HA2 := Lib.hid (HA.out.succ (D := isTrail) (by rw [hbb]; exact (trailB_iff b).1 hD))
          have HL4 : Hid (Lex B s (q' + 1) 1 w1) := by have := HL3.out; rw [ed] at this; exact this
          rw [er]
          clear er ed hbb hD
          go_wp2_with fail
          go_roundg (s.size + 1 - (q' + 1))
          case measure => have := HK.out; omega
          case rel => exact ⟨q' + 1, 1, by omega, by omega, rfl, HA2.out, HL4.out, HG3.out⟩
        · have hD' := eq_false_of_ne_true hD
          rw [hD'] at bt
          have hE : RunEnd isTrail s p q' := ⟨hpq', hqs', HA.out, fun _ hx => hD ((trailB_iff b).2 (by rw [← hbb]; exact hx))⟩
          obtain rfl := hR.out.unique hE
          rw [er]
          clear hE HA er ed hbb hD hD'
          have ne : w.heap.size ≠ B := by omega
          have b1 : (0 : Int) ≤ (p : Int) - d := by omega
          have b2 : (p : Int) - d ≤ (q : Int) := by omega
          have b3 : (q : Int) ≤ (s.size : Int) := by omega
          go_wp2_with fail
          refine (back_lex B s _ _ _ HL3.out (by omega) (by omega)).mono ?_
          rintro x w2 ⟨rfl, hL, hg⟩
          rw [Nat.add_sub_cancel] at hL
          have a0 := hL.c0; have a1 := hL.c1
          have HL5 := Lib.hid hL; have hg5 := grown_trans HG3.out hg; clear hL hg
          have r0 := kept_cell hg5 ne Q0.out
          have r1 := kept_cell hg5 ne Q1.out
          have r2 := kept_cell hg5 ne Q2.out
          have r3 := kept_cell hg5 ne Q3.out
          have f0 := kept_frozen hg5 ne hz G0.out
          have f1 := kept_frozen hg5 ne hz G1.out
          have f2 := kept_frozen hg5 ne hz G2.out
          have f3 := kept_frozen hg5 ne hz G3.out
          have HG5 := Lib.hid (grown_trans HG0.out hg5); clear hg5
          go_wp2_with fail
          go_quiet (fail)
          go_wp2_with fail
          refine bodyPost_ret (v := .agg #[.int .i64 14, .string (s.extract (p - d) q), .int .i64 ((p : Int) - d), .int .i64 ((q : Int) - ((p : Int) - d))]) (by simp [results, Tryd.results33, go_sem, r0, r1, r2, r3]) rfl ⟨rfl, ?_, ?_⟩
          · refine (HL5.out.drewN nq).below ?_
            repeat (first | refine Below.setCell ?_ (by first | omega | (simp <;> omega)) _ | exact Below.refl _ _)
          · refine grown_then (grown_drewN HG5.out nq) ?_
            repeat (first | refine Below.setCell ?_ (by first | omega | (simp <;> omega)) _ | exact Below.refl _ _)
      · have hE : RunEnd isTrail s p q' := ⟨hpq', hqs', HA.out, fun _ hx => hb (by unfold isTrail at hx; omega)⟩
        obtain rfl := hR.out.unique hE
        have hh := rn_high s q hlt hb
        have t1 : decide (rn s q < 0) = false := by simp; omega
        have t2 : decide (128 < rn s q) = true := by have := hU.out; simp; omega
        clear hE HA hh
        have ne : w.heap.size ≠ B := by omega
        have b1 : (0 : Int) ≤ (p : Int) - d := by omega
        have b2 : (p : Int) - d ≤ (q : Int) := by omega
        have b3 : (q : Int) ≤ (s.size : Int) := by omega
        go_wp2_with fail
        refine (back_lex B s _ _ _ HL3.out (by omega) (by omega)).mono ?_
        rintro x w2 ⟨rfl, hL, hg⟩
        rw [Nat.add_sub_cancel] at hL
        have a0 := hL.c0; have a1 := hL.c1
        have HL5 := Lib.hid hL; have hg5 := grown_trans HG3.out hg; clear hL hg
        have r0 := kept_cell hg5 ne Q0.out
        have r1 := kept_cell hg5 ne Q1.out
        have r2 := kept_cell hg5 ne Q2.out
        have r3 := kept_cell hg5 ne Q3.out
        have f0 := kept_frozen hg5 ne hz G0.out
        have f1 := kept_frozen hg5 ne hz G1.out
        have f2 := kept_frozen hg5 ne hz G2.out
        have f3 := kept_frozen hg5 ne hz G3.out
        have HG5 := Lib.hid (grown_trans HG0.out hg5); clear hg5
        go_wp2_with fail
        go_quiet (fail)
        go_wp2_with fail
        refine bodyPost_ret (v := .agg #[.int .i64 14, .string (s.extract (p - d) q), .int .i64 ((p : Int) - d), .int .i64 ((q : Int) - ((p : Int) - d))]) (by simp [results, Tryd.results33, go_sem, r0, r1, r2, r3]) rfl ⟨rfl, ?_, ?_⟩
        · refine (HL5.out.drewN nq).below ?_
          repeat (first | refine Below.setCell ?_ (by first | omega | (simp <;> omega)) _ | exact Below.refl _ _)
        · refine grown_then (grown_drewN HG5.out nq) ?_
          repeat (first | refine Below.setCell ?_ (by first | omega | (simp <;> omega)) _ | exact Below.refl _ _)
    · have hE : RunEnd isTrail s p q' := ⟨hpq', hqs', HA.out, fun hx => absurd hx hlt⟩
      obtain rfl := hR.out.unique hE
      have er := rn_end s q (by omega)
      have t1 : decide (rn s q < 0) = true := by simp; omega
      clear hE HA er
      have ne : w.heap.size ≠ B := by omega
      have b1 : (0 : Int) ≤ (p : Int) - d := by omega
      have b2 : (p : Int) - d ≤ (q : Int) := by omega
      have b3 : (q : Int) ≤ (s.size : Int) := by omega
      go_wp2_with fail
      refine (back_lex B s _ _ _ HL3.out (by omega) (by omega)).mono ?_
      rintro x w2 ⟨rfl, hL, hg⟩
      rw [Nat.add_sub_cancel] at hL
      have a0 := hL.c0; have a1 := hL.c1
      have HL5 := Lib.hid hL; have hg5 := grown_trans HG3.out hg; clear hL hg
      have r0 := kept_cell hg5 ne Q0.out
      have r1 := kept_cell hg5 ne Q1.out
      have r2 := kept_cell hg5 ne Q2.out
      have r3 := kept_cell hg5 ne Q3.out
      have f0 := kept_frozen hg5 ne hz G0.out
      have f1 := kept_frozen hg5 ne hz G1.out
      have f2 := kept_frozen hg5 ne hz G2.out
      have f3 := kept_frozen hg5 ne hz G3.out
      have HG5 := Lib.hid (grown_trans HG0.out hg5); clear hg5
      go_wp2_with fail
      go_quiet (fail)
      go_wp2_with fail
      refine bodyPost_ret (v := .agg #[.int .i64 14, .string (s.extract (p - d) q), .int .i64 ((p : Int) - d), .int .i64 ((q : Int) - ((p : Int) - d))]) (by simp [results, Tryd.results33, go_sem, r0, r1, r2, r3]) rfl ⟨rfl, ?_, ?_⟩
      · refine (HL5.out.drewN nq).below ?_
        repeat (first | refine Below.setCell ?_ (by first | omega | (simp <;> omega)) _ | exact Below.refl _ _)
      · refine grown_then (grown_drewN HG5.out nq) ?_
        repeat (first | refine Below.setCell ?_ (by first | omega | (simp <;> omega)) _ | exact Below.refl _ _)
end Go.Proofs.YtdbnffjidnfhdaaDoor
