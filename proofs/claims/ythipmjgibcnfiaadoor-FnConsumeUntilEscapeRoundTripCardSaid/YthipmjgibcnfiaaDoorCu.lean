/-
  'consumeUntil' by its closed form: the text up to the first delimiter that no backslash escapes, or an error.
-/
import Derived.Test.YthipmjgibcnfiaaDoorFu
import Derived.Outline
namespace Go.Proofs.YthipmjgibcnfiaaDoor
open Go.RowKit
set_option maxRecDepth 100000

/-- What 'consumeUntil' from place p hands back, and where the lexer stands. -/
def CuPost (B : Nat) (s : ByteArray) (p : Nat) (e : Int) (w : World) (x : Ending) (w' : World) : Prop :=
  ((∃ q, First s p e q ∧ q < s.size ∧ x = .returned (.tuple #[.string (s.extract p q), .nilIface]) ∧ Lex B s (q + 1) 1 w') ∨
   (Clear s p e s.size ∧ (∃ v, x = .returned (.tuple #[.string ⟨#[]⟩, .iface 49 v])) ∧ Lex B s s.size 0 w')) ∧ w.grownBy w' (some B)
/-- The loop's head: the rune that was read at q. -/
def CuRel (B : Nat) (s : ByteArray) (p : Nat) (e : Int) (w : World) (k : Nat) (v : Value) (wr : World) : Prop :=
  ∃ q, Inv s p e q ∧ k = s.size + 1 - q ∧ v = .int .i32 (rn s q) ∧ Lex B s (q + wd s q) (wd s q) wr ∧ w.grownBy wr (some B)

set_option maxHeartbeats 1600000 in
theorem cu_any (B : Nat) (s : ByteArray) (p d : Nat) (e : Int) (w : World) (h : Hid (Lex B s p d w)) (hs : s.size ≤ 1000000) (hp : p ≤ s.size) (he0 : 0 ≤ e) (he1 : e ≤ 127) (he2 : e ≠ 92) :
    Calls Tryd.prog 28 #[.pointer (some ⟨B, 0, none⟩), .int .i32 e] w (CuPost B s p e w) := by
  have HE := Lib.hid he2; clear he2
  have c1 := h.out.c1
  go_enter Tryd.func28, Tryd.ntmps28
  go_wp2_with fail
  refine (next_lex B s p d _ h.out (by omega)).mono ?_
  rintro x w1 ⟨rfl, hL, hg⟩
  have HL := Lib.hid hL; have HG := Lib.hid hg; clear hL hg c1
  go_wp2_with fail
  go_loopg [7] (s.size + 1 - p) (fun k v wr => CuRel B s p e w k v wr)
  case atStart => exact ⟨p, inv_start s p e hp, rfl, rfl, HL.out, HG.out⟩
  case round =>
    obtain ⟨q, hI, hk, rfl, hL, hg⟩ := hrel
    have HI := Lib.hid hI; have HK := Lib.hid hk; have HL2 := Lib.hid hL; have HG2 := Lib.hid hg
    have hpq := hI.1
    have hq := hI.2.1
    have c0 := hL.c0; have c1 := hL.c1; have c2 := hL.c2
    clear hI hk hL hg HL HG
    have hw := (wd_le s q).2 hq
    by_cases r1 : rn s q = e
    · obtain ⟨hF, hlt, hd⟩ := inv_found ⟨he0, he1⟩ HI.out r1
      have t1 : (rn s q != e) = false := by rw [bne_eq_false_iff_eq]; exact r1
      rw [hd] at c1 c2
      have c1' : wr.cell? ⟨B, 1, none⟩ = some (.int .i64 ((q : Int) + 1)) := c1
      have c2' : wr.cell? ⟨B, 2, none⟩ = some (.int .i64 1) := c2
      have b1 : (0 : Int) ≤ (p : Int) := by omega
      have b2 : (p : Int) ≤ (q : Int) := by omega
      have b3 : (q : Int) ≤ (s.size : Int) := by omega
      have b4 : (q : Int) + 1 - 1 = (q : Int) := by omega
      have HF : Hid (∀ n, CuPost B s p e w (.returned (.tuple #[.string (s.extract p q), .nilIface])) (wr.drewN n)) := fun n => by
        refine ⟨Or.inl ⟨q, hF, hlt, rfl, ?_⟩, grown_drewN HG2.out n⟩
        have := HL2.out.drewN n
        rw [hd] at this
        exact this
      clear hF hd r1 c1 c2
      go_wp2_with fail
      go_quiet (fail)
      go_wp2_with fail
      go_ret2
      exact HF.out _
    by_cases r2 : rn s q = -1
    · obtain ⟨hqe, hC⟩ := inv_none HI.out r2
      have t1 : (rn s q != e) = true := by rw [bne_iff_ne]; exact r1
      have t2 : (rn s q != -1) = false := by rw [bne_eq_false_iff_eq]; exact r2
      have hd : wd s q = 0 := wd_end s q (by omega)
      rw [hd] at c1 c2
      have c2' : wr.cell? ⟨B, 2, none⟩ = some (.int .i64 0) := c2
      have HC := Lib.hid hC; have HQ := Lib.hid hqe; have HD := Lib.hid hd
      clear hC hqe hd r1 r2 c1 c2
      have hn : ¬ (9223372036854775807 < 20 + (Utf8.encode e).size) := by have := encode_size_le e; omega
      go_wp2_with fail
      go_quiet (fail)
      have HF : Hid (∀ n v, CuPost B s p e w (.returned (.tuple #[.string ⟨#[]⟩, .iface 49 v])) (wr.drewN n)) := fun n v => by
        refine ⟨Or.inr ⟨HC.out, ⟨v, rfl⟩, ?_⟩, grown_drewN HG2.out n⟩
        have := HL2.out.drewN n
        rw [HD.out, HQ.out] at this
        exact this
      clear hn
      go_wp2_with fail
      go_ret2
      exact HF.out _ _
    have t1 : (rn s q != e) = true := by rw [bne_iff_ne]; exact r1
    have t2 : (rn s q != -1) = true := by rw [bne_iff_ne]; exact r2
    have hlt : q < s.size := by
      by_cases hx : q < s.size
      · exact hx
      · exact absurd (rn_end s q (by omega)) r2
    have hpos := wd_pos s q hlt
    by_cases r3 : rn s q = 92
    · have t3 : (rn s q == 92) = true := beqT r3
      have hd : wd s q = 1 := by
        obtain ⟨_, hb⟩ := (rn_is s q 92 (by omega)).1 r3
        exact (rn_ascii s q hlt (by omega)).2
      have HD := Lib.hid hd
      clear c0 c1 c2
      by_cases hq1 : q + 1 < s.size
      · have HI2 := Lib.hid (inv_escape ⟨he0, he1⟩ HE.out HI.out r3 hq1)
        have hL3 : Hid (Lex B s (q + 1) 1 wr) := by have := HL2.out; rw [hd] at this; exact this
        have t4 : (rn s (q + 1) != -1) = true := by
          rw [bne_iff_ne]; unfold rn; rw [if_pos hq1]; omega
        have hw1 := (wd_le s (q + 1)).2 (by omega)
        have hpos1 := wd_pos s (q + 1) hq1
        clear hd r1 r2 r3
        go_wp2_with fail
        refine (peek_lex B s (q + 1) 1 _ hL3 (by omega) (by omega)).mono ?_
        rintro x w3 ⟨rfl, hL, hg⟩
        have HL4 := Lib.hid hL; have HG4 := Lib.hid (grown_trans HG2.out hg); clear hL hg
        go_wp2_with fail
        refine (next_lex B s (q + 1) _ _ HL4.out (by omega)).mono ?_
        rintro x w4 ⟨rfl, hL, hg⟩
        have HL5 := Lib.hid hL; have HG5 := Lib.hid (grown_trans HG4.out hg); clear hL hg
        go_wp2_with fail
        refine (next_lex B s (q + 1 + wd s (q + 1)) _ _ HL5.out (by omega)).mono ?_
        rintro x w5 ⟨rfl, hL, hg⟩
        have HL6 := Lib.hid hL; have HG6 := Lib.hid (grown_trans HG5.out hg); clear hL hg
        go_wp2_with fail
        go_roundg (s.size + 1 - (q + 1 + wd s (q + 1)))
        case measure => have := HK.out; omega
        case rel => exact ⟨_, HI2.out, rfl, rfl, HL6.out, HG6.out⟩
      · have hqe : q + 1 = s.size := by omega
        have HI2 := Lib.hid (inv_last HE.out HI.out r3 hqe)
        have hL3 : Hid (Lex B s (q + 1) 1 wr) := by have := HL2.out; rw [hd] at this; exact this
        have t4 : (rn s (q + 1) != -1) = false := by
          rw [bne_eq_false_iff_eq]; exact rn_end _ _ (by omega)
        have hle : q + 1 ≤ s.size := by omega
        clear hd r1 r2 r3 hqe
        go_wp2_with fail
        refine (peek_lex B s (q + 1) 1 _ hL3 (by omega) hle).mono ?_
        rintro x w3 ⟨rfl, hL, hg⟩
        have HL4 := Lib.hid hL; have HG4 := Lib.hid (grown_trans HG2.out hg); clear hL hg
        go_wp2_with fail
        refine (next_lex B s (q + 1) _ _ HL4.out (by omega)).mono ?_
        rintro x w4 ⟨rfl, hL, hg⟩
        have HL5 := Lib.hid hL; have HG5 := Lib.hid (grown_trans HG4.out hg); clear hL hg
        go_wp2_with fail
        go_roundg (s.size + 1 - (q + 1))
        case measure => have := HK.out; omega
        case rel => exact ⟨_, HI2.out, rfl, rfl, HL5.out, HG5.out⟩
    · have t3 : (rn s q == 92) = false := beqF r3
      have HI2 := Lib.hid (inv_plain ⟨he0, he1⟩ HI.out hlt r3 r1)
      clear c0 c1 c2 r1 r2 r3
      go_wp2_with fail
      refine (next_lex B s (q + wd s q) _ _ HL2.out (by omega)).mono ?_
      rintro x w4 ⟨rfl, hL, hg⟩
      have HL5 := Lib.hid hL; have HG5 := Lib.hid (grown_trans HG2.out hg); clear hL hg
      go_wp2_with fail
      go_roundg (s.size + 1 - (q + wd s q))
      case measure => have := HK.out; omega
      case rel => exact ⟨_, HI2.out, rfl, rfl, HL5.out, HG5.out⟩
end Go.Proofs.YthipmjgibcnfiaaDoor
