/-
  The two exported shims of the bracket laws: what they return.
-/
import Derived.Test.YtogdcenkgndfaaaDoorLbr
namespace Go.Proofs.YtogdcenkgndfaaaDoor
open Go.RowKit
set_option maxRecDepth 100000

def lbTT (s : ByteArray) (p : Nat) : Int := if rn s p = 63 then 3 else if rn s p = 93 then 4 else 7
def lbVal (s : ByteArray) (p : Nat) : ByteArray := if rn s p = 63 then ⟨#[91, 63]⟩ else if rn s p = 93 then ⟨#[91, 93]⟩ else ⟨#[91]⟩
def lbLen (s : ByteArray) (p : Nat) : Int := if rn s p = 63 then 2 else if rn s p = 93 then 2 else 1
def lbEnd (s : ByteArray) (p : Nat) : Nat := if rn s p = 63 then p + wd s p else if rn s p = 93 then p + wd s p else p

theorem lbr_any (B : Nat) (s : ByteArray) (p d : Nat) (w : World) (h : Lex B s p d w) (hd : d ≤ p) (hs : s.size ≤ 1000000000) (hp : p ≤ s.size) :
    Calls Tryd.prog 13 #[.pointer (some ⟨B, 0, none⟩)] w fun e w' => e = .returned (.agg #[.int .i64 (lbTT s p), .string (lbVal s p), .int .i64 ((p : Int) - d), .int .i64 (lbLen s p)]) ∧ Lex B s (lbEnd s p) (wd s p) w' ∧ w.grownBy w' (some B) := by
  unfold lbTT lbVal lbLen lbEnd
  by_cases h1 : rn s p = 63
  · simp only [if_pos h1]
    exact lbr63 B s p d w h hd hs hp (by simpa using h1)
  by_cases h2 : rn s p = 93
  · simp only [if_neg h1, if_pos h2]
    exact lbr93 B s p d w h hd hs hp (by simpa using h1) (by simpa using h2)
  · simp only [if_neg h1, if_neg h2]
    exact lbr91 B s p d w h hd hs hp (by simpa using h1) (by simpa using h2)

theorem Lex.new {w : World} {s : ByteArray} {p d : Nat} {x3 x4 x5 : Value} {t : TypeId} (hT : Tabs w) (lo : 2 ≤ w.heap.size) : Lex w.heap.size s p d (w.alloc (.cells #[.string s, .int .i64 p, .int .i64 d, x3, x4, x5] t)) := by
  have hb : Below w.heap.size w (w.alloc (.cells #[.string s, .int .i64 p, .int .i64 d, x3, x4, x5] t)) := (Below.refl _ w).alloc (Nat.le_refl _) _
  refine ⟨by go_simp, by go_simp, by go_simp, by go_simp, by go_simp, lo, by simp, hT.alike fun b _ h2 => hb.cell (show b < w.heap.size by omega)⟩

set_option maxHeartbeats 800000 in
theorem zzLbr (s : ByteArray) (p d : Nat) (w : World) (hT : Hid (Tabs w)) (lo : 2 ≤ w.heap.size) (hd : d ≤ p) (hs : s.size ≤ 1000000000) (hp : p ≤ s.size) :
    Calls Tryd.prog 8 #[.string s, .int .i64 p, .int .i64 d] w fun e w' => e = .returned (.tuple #[.int .i64 (lbTT s p), .string (lbVal s p), .int .i64 ((p : Int) - d), .int .i64 (lbLen s p), .int .i64 (lbEnd s p), .int .i64 (wd s p)]) ∧ Below w.heap.size w w' := by
  go_enter Tryd.func8, Tryd.ntmps8
  go_wp2_with fail
  refine (lbr_any w.heap.size s p d _ (Lex.new hT.out lo) hd hs hp).mono ?_
  rintro e w1 ⟨rfl, hL1, hg1⟩
  have c1 := hL1.c1; have c2 := hL1.c2
  have hz : w.heap.size < w1.heap.size := hL1.hi
  have HB := Lib.hid (below_grown ((Below.refl _ w).alloc (Nat.le_refl _) _) hg1 (Nat.le_refl _) (by simp))
  clear hL1 hg1
  go_wp2_with fail
  go_quiet (fail)
  go_wp2_with fail
  refine bodyPost_ret (v := .tuple #[.int .i64 (lbTT s p), .string (lbVal s p), .int .i64 ((p : Int) - d), .int .i64 (lbLen s p), .int .i64 (lbEnd s p), .int .i64 (wd s p)]) (by simp [results, Tryd.results8, go_sem]) rfl ⟨rfl, ?_⟩
  exact below_drewN (HB.out.alloc (by omega) _) _

set_option maxHeartbeats 800000 in
theorem synErr (B : Nat) (s m : ByteArray) (p : Int) (w : World) (h0 : w.cell? ⟨B, 0, none⟩ = some (.string s)) (h1 : w.cell? ⟨B, 1, none⟩ = some (.int .i64 p)) (hi : B < w.heap.size) (hp1 : 1 ≤ p) (hp : p ≤ 1000000000) :
    Calls Tryd.prog 14 #[.pointer (some ⟨B, 0, none⟩), .string m] w fun e w' => e = .returned (.agg #[.string m, .string s, .int .i64 (p - 1)]) ∧ Below w.heap.size w w' := by
  go_enter Tryd.func14, Tryd.ntmps14
  go_wp2
  go_region
  go_wp2
  refine bodyPost_ret (v := .agg #[.string m, .string s, .int .i64 (p - 1)]) (by simp [results, Tryd.results14, go_sem]) rfl ⟨rfl, ?_⟩
  exact ((Below.refl _ w).alloc (Nat.le_refl _) _).drew

set_option maxHeartbeats 800000 in
theorem zzSyn (s m : ByteArray) (p d : Int) (w : World) (hp1 : 1 ≤ p) (hp : p ≤ 1000000000) :
    Calls Tryd.prog 12 #[.string s, .int .i64 p, .int .i64 d, .string m] w fun e w' => e = .returned (.tuple #[.string m, .string s, .int .i64 (p - 1)]) ∧ Below w.heap.size w w' := by
  go_enter Tryd.func12, Tryd.ntmps12
  go_wp2_with fail
  refine (synErr w.heap.size s m p _ (by go_simp) (by go_simp) (by simp) hp1 hp).mono ?_
  rintro e w1 ⟨rfl, hb⟩
  have HB := Lib.hid hb
  have hz : w.heap.size < w1.heap.size := by have := hb.size; simp at this; omega
  clear hb
  go_wp2_with fail
  go_quiet (fail)
  go_wp2_with fail
  go_ret3
  exact ⟨rfl, below_drewN ((((Below.refl _ w).alloc (Nat.le_refl _) _).trans (HB.out.mono (by simp))).alloc (by omega) _) _⟩
end Go.Proofs.YtogdcenkgndfaaaDoor
