/-
  The walks of the two String methods, of the two tables of names and of the four laws: what they return at each declared number. Condition: the index table lies in memory as its initialiser lays it.
-/
import Derived.Test.YtogdcenkgndfaaaFmtRows
import Derived.WalkKit
import Derived.WalkSpells
import Derived.WalkLawsBesides
import Derived.Deep.QuietTactic
import Derived.BigQuiet
import Derived.Lib.Hide
namespace Go.Proofs.YtogdcenkgndfaaaFmt
open Go.RowKit
set_option maxRecDepth 100000
theorem drewN_add (w : World) (a b : Nat) : (w.drewN a).drewN b = w.drewN (a + b) := World.drewN_drewN _ _ _

def tokNm : ByteArray := ⟨#[116, 85, 110, 107, 110, 111, 119, 110, 116, 83, 116, 97, 114, 116, 68, 111, 116, 116, 70, 105, 108, 116, 101, 114, 116, 70, 108, 97, 116, 116, 101, 110, 116, 76, 112, 97, 114, 101, 110, 116, 82, 112, 97, 114, 101, 110, 116, 76, 98, 114, 97, 99, 107, 101, 116, 116, 82, 98, 114, 97, 99, 107, 101, 116, 116, 76, 98, 114, 97, 99, 101, 116, 82, 98, 114, 97, 99, 101, 116, 79, 114, 116, 80, 105, 112, 101, 116, 78, 117, 109, 98, 101, 114, 116, 85, 110, 113, 117, 111, 116, 101, 100, 73, 100, 101, 110, 116, 105, 102, 105, 101, 114, 116, 81, 117, 111, 116, 101, 100, 73, 100, 101, 110, 116, 105, 102, 105, 101, 114, 116, 67, 111, 109, 109, 97, 116, 67, 111, 108, 111, 110, 116, 76, 84, 116, 76, 84, 69, 116, 71, 84, 116, 71, 84, 69, 116, 69, 81, 116, 78, 69, 116, 74, 83, 79, 78, 76, 105, 116, 101, 114, 97, 108, 116, 83, 116, 114, 105, 110, 103, 76, 105, 116, 101, 114, 97, 108, 116, 67, 117, 114, 114, 101, 110, 116, 116, 69, 120, 112, 114, 101, 102, 116, 65, 110, 100, 116, 78, 111, 116, 116, 69, 79, 70]⟩
def tokIx : List Nat := [0, 8, 13, 17, 24, 32, 39, 46, 55, 64, 71, 78, 81, 86, 93, 112, 129, 135, 141, 144, 148, 151, 155, 158, 161, 173, 187, 195, 202, 206, 210, 214]
def tokL : List (List UInt8) := [[116, 85, 110, 107, 110, 111, 119, 110], [116, 83, 116, 97, 114], [116, 68, 111, 116], [116, 70, 105, 108, 116, 101, 114], [116, 70, 108, 97, 116, 116, 101, 110], [116, 76, 112, 97, 114, 101, 110], [116, 82, 112, 97, 114, 101, 110], [116, 76, 98, 114, 97, 99, 107, 101, 116], [116, 82, 98, 114, 97, 99, 107, 101, 116], [116, 76, 98, 114, 97, 99, 101], [116, 82, 98, 114, 97, 99, 101], [116, 79, 114], [116, 80, 105, 112, 101], [116, 78, 117, 109, 98, 101, 114], [116, 85, 110, 113, 117, 111, 116, 101, 100, 73, 100, 101, 110, 116, 105, 102, 105, 101, 114], [116, 81, 117, 111, 116, 101, 100, 73, 100, 101, 110, 116, 105, 102, 105, 101, 114], [116, 67, 111, 109, 109, 97], [116, 67, 111, 108, 111, 110], [116, 76, 84], [116, 76, 84, 69], [116, 71, 84], [116, 71, 84, 69], [116, 69, 81], [116, 78, 69], [116, 74, 83, 79, 78, 76, 105, 116, 101, 114, 97, 108], [116, 83, 116, 114, 105, 110, 103, 76, 105, 116, 101, 114, 97, 108], [116, 67, 117, 114, 114, 101, 110, 116], [116, 69, 120, 112, 114, 101, 102], [116, 65, 110, 100], [116, 78, 111, 116], [116, 69, 79, 70]]
def tokS (k : Nat) : ByteArray := ⟨(tokL.getD k []).toArray⟩
theorem tokCut : ∀ k, k < 31 → tokNm.extract (tokIx.getD k 0) (tokIx.getD (k + 1) 0) = tokS k := by decide +kernel
theorem tokIx_le : ∀ k, k < 31 → tokIx.getD k 0 ≤ tokIx.getD (k + 1) 0 ∧ tokIx.getD (k + 1) 0 ≤ 214 := by decide +kernel
def tokCells (w : World) : Prop := ∀ k, k < 32 → w.cell? ⟨1, k, none⟩ = some (.int .u8 (tokIx.getD k 0 : Nat))
theorem tokStr0 (i a b : Nat) (w : World) (hi : i < 31) (hab : a ≤ b) (hb : b ≤ 214) (hc0 : w.cell? ⟨1, i, none⟩ = some (.int .u8 a)) (hc1 : w.cell? ⟨1, i + 1, none⟩ = some (.int .u8 b)) :
    Calls Tryf.prog 13 #[.int .i64 i] w fun e w' => e = .returned (.string (tokNm.extract a b)) ∧ ∃ n, w' = w.drewN n := by
  have h1 : decide ((i : Int) < 0) = false := by simp
  have h2 : decide ((31 : Int) ≤ (i : Int)) = false := by simp; omega
  have h3 : (0 : Int) ≤ (i : Int) := by omega
  have h4 : (i : Int) < 32 := by omega
  have h5 : (i : Int) + 1 < 32 := by omega
  go_enter Tryf.func13, Tryf.ntmps13
  go_wp2
  go_quiet (fail)
  go_wp2
  go_ret
  exact ⟨rfl, nq, rfl⟩
theorem tokStr (i : Nat) (w : World) (hi : i < 31) (hc : tokCells w) :
    Calls Tryf.prog 13 #[.int .i64 i] w fun e w' => e = .returned (.string (tokS i)) ∧ ∃ n, w' = w.drewN n := by
  refine (tokStr0 i _ _ w hi (tokIx_le i hi).1 (tokIx_le i hi).2 (hc i (by omega)) (hc (i + 1) (by omega))).mono ?_
  rintro e w' ⟨rfl, h⟩
  exact ⟨by rw [tokCut i hi], h⟩
theorem tokZ (i : Nat) (w : World) (hi : i < 31) (hc : Hid (tokCells w)) :
    Calls Tryf.prog 9 #[.int .i64 i] w fun e w' => e = .returned (.string (tokS i)) ∧ ∃ n, w' = w.drewN n := by
  go_enter Tryf.func9, Tryf.ntmps9
  go_wp2_with fail
  refine (tokStr i _ hi hc.out).mono ?_
  rintro e w' ⟨rfl, n, rfl⟩
  go_wp2_with fail
  go_ret
  exact ⟨rfl, n, rfl⟩
theorem tokN0 (w : World) : Calls Tryf.prog 11 #[.int .i64 0] w fun e w' => e = .returned (.string (tokS 0)) ∧ w = w' := by
  go_enter Tryf.func11, Tryf.ntmps11
  go_wp2
  go_ret
  exact ⟨rfl, rfl⟩
theorem tokN1 (w : World) : Calls Tryf.prog 11 #[.int .i64 1] w fun e w' => e = .returned (.string (tokS 1)) ∧ w = w' := by
  go_enter Tryf.func11, Tryf.ntmps11
  go_wp2
  go_ret
  exact ⟨rfl, rfl⟩
theorem tokN2 (w : World) : Calls Tryf.prog 11 #[.int .i64 2] w fun e w' => e = .returned (.string (tokS 2)) ∧ w = w' := by
  go_enter Tryf.func11, Tryf.ntmps11
  go_wp2
  go_ret
  exact ⟨rfl, rfl⟩
theorem tokN3 (w : World) : Calls Tryf.prog 11 #[.int .i64 3] w fun e w' => e = .returned (.string (tokS 3)) ∧ w = w' := by
  go_enter Tryf.func11, Tryf.ntmps11
  go_wp2
  go_ret
  exact ⟨rfl, rfl⟩
theorem tokN4 (w : World) : Calls Tryf.prog 11 #[.int .i64 4] w fun e w' => e = .returned (.string (tokS 4)) ∧ w = w' := by
  go_enter Tryf.func11, Tryf.ntmps11
  go_wp2
  go_ret
  exact ⟨rfl, rfl⟩
theorem tokN5 (w : World) : Calls Tryf.prog 11 #[.int .i64 5] w fun e w' => e = .returned (.string (tokS 5)) ∧ w = w' := by
  go_enter Tryf.func11, Tryf.ntmps11
  go_wp2
  go_ret
  exact ⟨rfl, rfl⟩
theorem tokN6 (w : World) : Calls Tryf.prog 11 #[.int .i64 6] w fun e w' => e = .returned (.string (tokS 6)) ∧ w = w' := by
  go_enter Tryf.func11, Tryf.ntmps11
  go_wp2
  go_ret
  exact ⟨rfl, rfl⟩
theorem tokN7 (w : World) : Calls Tryf.prog 11 #[.int .i64 7] w fun e w' => e = .returned (.string (tokS 7)) ∧ w = w' := by
  go_enter Tryf.func11, Tryf.ntmps11
  go_wp2
  go_ret
  exact ⟨rfl, rfl⟩
theorem tokN8 (w : World) : Calls Tryf.prog 11 #[.int .i64 8] w fun e w' => e = .returned (.string (tokS 8)) ∧ w = w' := by
  go_enter Tryf.func11, Tryf.ntmps11
  go_wp2
  go_ret
  exact ⟨rfl, rfl⟩
theorem tokN9 (w : World) : Calls Tryf.prog 11 #[.int .i64 9] w fun e w' => e = .returned (.string (tokS 9)) ∧ w = w' := by
  go_enter Tryf.func11, Tryf.ntmps11
  go_wp2
  go_ret
  exact ⟨rfl, rfl⟩
theorem tokN10 (w : World) : Calls Tryf.prog 11 #[.int .i64 10] w fun e w' => e = .returned (.string (tokS 10)) ∧ w = w' := by
  go_enter Tryf.func11, Tryf.ntmps11
  go_wp2
  go_ret
  exact ⟨rfl, rfl⟩
theorem tokN11 (w : World) : Calls Tryf.prog 11 #[.int .i64 11] w fun e w' => e = .returned (.string (tokS 11)) ∧ w = w' := by
  go_enter Tryf.func11, Tryf.ntmps11
  go_wp2
  go_ret
  exact ⟨rfl, rfl⟩
theorem tokN12 (w : World) : Calls Tryf.prog 11 #[.int .i64 12] w fun e w' => e = .returned (.string (tokS 12)) ∧ w = w' := by
  go_enter Tryf.func11, Tryf.ntmps11
  go_wp2
  go_ret
  exact ⟨rfl, rfl⟩
theorem tokN13 (w : World) : Calls Tryf.prog 11 #[.int .i64 13] w fun e w' => e = .returned (.string (tokS 13)) ∧ w = w' := by
  go_enter Tryf.func11, Tryf.ntmps11
  go_wp2
  go_ret
  exact ⟨rfl, rfl⟩
theorem tokN14 (w : World) : Calls Tryf.prog 11 #[.int .i64 14] w fun e w' => e = .returned (.string (tokS 14)) ∧ w = w' := by
  go_enter Tryf.func11, Tryf.ntmps11
  go_wp2
  go_ret
  exact ⟨rfl, rfl⟩
theorem tokN15 (w : World) : Calls Tryf.prog 11 #[.int .i64 15] w fun e w' => e = .returned (.string (tokS 15)) ∧ w = w' := by
  go_enter Tryf.func11, Tryf.ntmps11
  go_wp2
  go_ret
  exact ⟨rfl, rfl⟩
theorem tokN16 (w : World) : Calls Tryf.prog 11 #[.int .i64 16] w fun e w' => e = .returned (.string (tokS 16)) ∧ w = w' := by
  go_enter Tryf.func11, Tryf.ntmps11
  go_wp2
  go_ret
  exact ⟨rfl, rfl⟩
theorem tokN17 (w : World) : Calls Tryf.prog 11 #[.int .i64 17] w fun e w' => e = .returned (.string (tokS 17)) ∧ w = w' := by
  go_enter Tryf.func11, Tryf.ntmps11
  go_wp2
  go_ret
  exact ⟨rfl, rfl⟩
theorem tokN18 (w : World) : Calls Tryf.prog 11 #[.int .i64 18] w fun e w' => e = .returned (.string (tokS 18)) ∧ w = w' := by
  go_enter Tryf.func11, Tryf.ntmps11
  go_wp2
  go_ret
  exact ⟨rfl, rfl⟩
theorem tokN19 (w : World) : Calls Tryf.prog 11 #[.int .i64 19] w fun e w' => e = .returned (.string (tokS 19)) ∧ w = w' := by
  go_enter Tryf.func11, Tryf.ntmps11
  go_wp2
  go_ret
  exact ⟨rfl, rfl⟩
theorem tokN20 (w : World) : Calls Tryf.prog 11 #[.int .i64 20] w fun e w' => e = .returned (.string (tokS 20)) ∧ w = w' := by
  go_enter Tryf.func11, Tryf.ntmps11
  go_wp2
  go_ret
  exact ⟨rfl, rfl⟩
theorem tokN21 (w : World) : Calls Tryf.prog 11 #[.int .i64 21] w fun e w' => e = .returned (.string (tokS 21)) ∧ w = w' := by
  go_enter Tryf.func11, Tryf.ntmps11
  go_wp2
  go_ret
  exact ⟨rfl, rfl⟩
theorem tokN22 (w : World) : Calls Tryf.prog 11 #[.int .i64 22] w fun e w' => e = .returned (.string (tokS 22)) ∧ w = w' := by
  go_enter Tryf.func11, Tryf.ntmps11
  go_wp2
  go_ret
  exact ⟨rfl, rfl⟩
theorem tokN23 (w : World) : Calls Tryf.prog 11 #[.int .i64 23] w fun e w' => e = .returned (.string (tokS 23)) ∧ w = w' := by
  go_enter Tryf.func11, Tryf.ntmps11
  go_wp2
  go_ret
  exact ⟨rfl, rfl⟩
theorem tokN24 (w : World) : Calls Tryf.prog 11 #[.int .i64 24] w fun e w' => e = .returned (.string (tokS 24)) ∧ w = w' := by
  go_enter Tryf.func11, Tryf.ntmps11
  go_wp2
  go_ret
  exact ⟨rfl, rfl⟩
theorem tokN25 (w : World) : Calls Tryf.prog 11 #[.int .i64 25] w fun e w' => e = .returned (.string (tokS 25)) ∧ w = w' := by
  go_enter Tryf.func11, Tryf.ntmps11
  go_wp2
  go_ret
  exact ⟨rfl, rfl⟩
theorem tokN26 (w : World) : Calls Tryf.prog 11 #[.int .i64 26] w fun e w' => e = .returned (.string (tokS 26)) ∧ w = w' := by
  go_enter Tryf.func11, Tryf.ntmps11
  go_wp2
  go_ret
  exact ⟨rfl, rfl⟩
theorem tokN27 (w : World) : Calls Tryf.prog 11 #[.int .i64 27] w fun e w' => e = .returned (.string (tokS 27)) ∧ w = w' := by
  go_enter Tryf.func11, Tryf.ntmps11
  go_wp2
  go_ret
  exact ⟨rfl, rfl⟩
theorem tokN28 (w : World) : Calls Tryf.prog 11 #[.int .i64 28] w fun e w' => e = .returned (.string (tokS 28)) ∧ w = w' := by
  go_enter Tryf.func11, Tryf.ntmps11
  go_wp2
  go_ret
  exact ⟨rfl, rfl⟩
theorem tokN29 (w : World) : Calls Tryf.prog 11 #[.int .i64 29] w fun e w' => e = .returned (.string (tokS 29)) ∧ w = w' := by
  go_enter Tryf.func11, Tryf.ntmps11
  go_wp2
  go_ret
  exact ⟨rfl, rfl⟩
theorem tokN30 (w : World) : Calls Tryf.prog 11 #[.int .i64 30] w fun e w' => e = .returned (.string (tokS 30)) ∧ w = w' := by
  go_enter Tryf.func11, Tryf.ntmps11
  go_wp2
  go_ret
  exact ⟨rfl, rfl⟩
theorem tokN (w : World) : ∀ k : Nat, k < 31 → Calls Tryf.prog 11 #[.int .i64 (k : Int)] w fun e w' => e = .returned (.string (tokS k)) ∧ w = w'
  | 0, _ => tokN0 w
  | 1, _ => tokN1 w
  | 2, _ => tokN2 w
  | 3, _ => tokN3 w
  | 4, _ => tokN4 w
  | 5, _ => tokN5 w
  | 6, _ => tokN6 w
  | 7, _ => tokN7 w
  | 8, _ => tokN8 w
  | 9, _ => tokN9 w
  | 10, _ => tokN10 w
  | 11, _ => tokN11 w
  | 12, _ => tokN12 w
  | 13, _ => tokN13 w
  | 14, _ => tokN14 w
  | 15, _ => tokN15 w
  | 16, _ => tokN16 w
  | 17, _ => tokN17 w
  | 18, _ => tokN18 w
  | 19, _ => tokN19 w
  | 20, _ => tokN20 w
  | 21, _ => tokN21 w
  | 22, _ => tokN22 w
  | 23, _ => tokN23 w
  | 24, _ => tokN24 w
  | 25, _ => tokN25 w
  | 26, _ => tokN26 w
  | 27, _ => tokN27 w
  | 28, _ => tokN28 w
  | 29, _ => tokN29 w
  | 30, _ => tokN30 w
  | k + 31, h => absurd h (by omega)
def astNm : ByteArray := ⟨#[65, 83, 84, 69, 109, 112, 116, 121, 65, 83, 84, 67, 111, 109, 112, 97, 114, 97, 116, 111, 114, 65, 83, 84, 67, 117, 114, 114, 101, 110, 116, 78, 111, 100, 101, 65, 83, 84, 69, 120, 112, 82, 101, 102, 65, 83, 84, 70, 117, 110, 99, 116, 105, 111, 110, 69, 120, 112, 114, 101, 115, 115, 105, 111, 110, 65, 83, 84, 70, 105, 101, 108, 100, 65, 83, 84, 70, 105, 108, 116, 101, 114, 80, 114, 111, 106, 101, 99, 116, 105, 111, 110, 65, 83, 84, 70, 108, 97, 116, 116, 101, 110, 65, 83, 84, 73, 100, 101, 110, 116, 105, 116, 121, 65, 83, 84, 73, 110, 100, 101, 120, 65, 83, 84, 73, 110, 100, 101, 120, 69, 120, 112, 114, 101, 115, 115, 105, 111, 110, 65, 83, 84, 75, 101, 121, 86, 97, 108, 80, 97, 105, 114, 65, 83, 84, 76, 105, 116, 101, 114, 97, 108, 65, 83, 84, 77, 117, 108, 116, 105, 83, 101, 108, 101, 99, 116, 72, 97, 115, 104, 65, 83, 84, 77, 117, 108, 116, 105, 83, 101, 108, 101, 99, 116, 76, 105, 115, 116, 65, 83, 84, 79, 114, 69, 120, 112, 114, 101, 115, 115, 105, 111, 110, 65, 83, 84, 65, 110, 100, 69, 120, 112, 114, 101, 115, 115, 105, 111, 110, 65, 83, 84, 78, 111, 116, 69, 120, 112, 114, 101, 115, 115, 105, 111, 110, 65, 83, 84, 80, 105, 112, 101, 65, 83, 84, 80, 114, 111, 106, 101, 99, 116, 105, 111, 110, 65, 83, 84, 83, 117, 98, 101, 120, 112, 114, 101, 115, 115, 105, 111, 110, 65, 83, 84, 83, 108, 105, 99, 101, 65, 83, 84, 86, 97, 108, 117, 101, 80, 114, 111, 106, 101, 99, 116, 105, 111, 110]⟩
def astIx : List Nat := [0, 8, 21, 35, 44, 65, 73, 92, 102, 113, 121, 139, 152, 162, 180, 198, 213, 229, 245, 252, 265, 281, 289, 307]
def astL : List (List UInt8) := [[65, 83, 84, 69, 109, 112, 116, 121], [65, 83, 84, 67, 111, 109, 112, 97, 114, 97, 116, 111, 114], [65, 83, 84, 67, 117, 114, 114, 101, 110, 116, 78, 111, 100, 101], [65, 83, 84, 69, 120, 112, 82, 101, 102], [65, 83, 84, 70, 117, 110, 99, 116, 105, 111, 110, 69, 120, 112, 114, 101, 115, 115, 105, 111, 110], [65, 83, 84, 70, 105, 101, 108, 100], [65, 83, 84, 70, 105, 108, 116, 101, 114, 80, 114, 111, 106, 101, 99, 116, 105, 111, 110], [65, 83, 84, 70, 108, 97, 116, 116, 101, 110], [65, 83, 84, 73, 100, 101, 110, 116, 105, 116, 121], [65, 83, 84, 73, 110, 100, 101, 120], [65, 83, 84, 73, 110, 100, 101, 120, 69, 120, 112, 114, 101, 115, 115, 105, 111, 110], [65, 83, 84, 75, 101, 121, 86, 97, 108, 80, 97, 105, 114], [65, 83, 84, 76, 105, 116, 101, 114, 97, 108], [65, 83, 84, 77, 117, 108, 116, 105, 83, 101, 108, 101, 99, 116, 72, 97, 115, 104], [65, 83, 84, 77, 117, 108, 116, 105, 83, 101, 108, 101, 99, 116, 76, 105, 115, 116], [65, 83, 84, 79, 114, 69, 120, 112, 114, 101, 115, 115, 105, 111, 110], [65, 83, 84, 65, 110, 100, 69, 120, 112, 114, 101, 115, 115, 105, 111, 110], [65, 83, 84, 78, 111, 116, 69, 120, 112, 114, 101, 115, 115, 105, 111, 110], [65, 83, 84, 80, 105, 112, 101], [65, 83, 84, 80, 114, 111, 106, 101, 99, 116, 105, 111, 110], [65, 83, 84, 83, 117, 98, 101, 120, 112, 114, 101, 115, 115, 105, 111, 110], [65, 83, 84, 83, 108, 105, 99, 101], [65, 83, 84, 86, 97, 108, 117, 101, 80, 114, 111, 106, 101, 99, 116, 105, 111, 110]]
def astS (k : Nat) : ByteArray := ⟨(astL.getD k []).toArray⟩
theorem astCut : ∀ k, k < 23 → astNm.extract (astIx.getD k 0) (astIx.getD (k + 1) 0) = astS k := by decide +kernel
theorem astIx_le : ∀ k, k < 23 → astIx.getD k 0 ≤ astIx.getD (k + 1) 0 ∧ astIx.getD (k + 1) 0 ≤ 307 := by decide +kernel
def astCells (w : World) : Prop := ∀ k, k < 24 → w.cell? ⟨0, k, none⟩ = some (.int .u16 (astIx.getD k 0 : Nat))
theorem astStr0 (i a b : Nat) (w : World) (hi : i < 23) (hab : a ≤ b) (hb : b ≤ 307) (hc0 : w.cell? ⟨0, i, none⟩ = some (.int .u16 a)) (hc1 : w.cell? ⟨0, i + 1, none⟩ = some (.int .u16 b)) :
    Calls Tryf.prog 12 #[.int .i64 i] w fun e w' => e = .returned (.string (astNm.extract a b)) ∧ ∃ n, w' = w.drewN n := by
  have h1 : decide ((i : Int) < 0) = false := by simp
  have h2 : decide ((23 : Int) ≤ (i : Int)) = false := by simp; omega
  have h3 : (0 : Int) ≤ (i : Int) := by omega
  have h4 : (i : Int) < 24 := by omega
  have h5 : (i : Int) + 1 < 24 := by omega
  go_enter Tryf.func12, Tryf.ntmps12
  go_wp2
  go_quiet (fail)
  go_wp2
  go_ret
  exact ⟨rfl, nq, rfl⟩
theorem astStr (i : Nat) (w : World) (hi : i < 23) (hc : astCells w) :
    Calls Tryf.prog 12 #[.int .i64 i] w fun e w' => e = .returned (.string (astS i)) ∧ ∃ n, w' = w.drewN n := by
  refine (astStr0 i _ _ w hi (astIx_le i hi).1 (astIx_le i hi).2 (hc i (by omega)) (hc (i + 1) (by omega))).mono ?_
  rintro e w' ⟨rfl, h⟩
  exact ⟨by rw [astCut i hi], h⟩
theorem astZ (i : Nat) (w : World) (hi : i < 23) (hc : Hid (astCells w)) :
    Calls Tryf.prog 7 #[.int .i64 i] w fun e w' => e = .returned (.string (astS i)) ∧ ∃ n, w' = w.drewN n := by
  go_enter Tryf.func7, Tryf.ntmps7
  go_wp2_with fail
  refine (astStr i _ hi hc.out).mono ?_
  rintro e w' ⟨rfl, n, rfl⟩
  go_wp2_with fail
  go_ret
  exact ⟨rfl, n, rfl⟩
theorem astN0 (w : World) : Calls Tryf.prog 8 #[.int .i64 0] w fun e w' => e = .returned (.string (astS 0)) ∧ w = w' := by
  go_enter Tryf.func8, Tryf.ntmps8
  go_wp2
  go_ret
  exact ⟨rfl, rfl⟩
theorem astN1 (w : World) : Calls Tryf.prog 8 #[.int .i64 1] w fun e w' => e = .returned (.string (astS 1)) ∧ w = w' := by
  go_enter Tryf.func8, Tryf.ntmps8
  go_wp2
  go_ret
  exact ⟨rfl, rfl⟩
theorem astN2 (w : World) : Calls Tryf.prog 8 #[.int .i64 2] w fun e w' => e = .returned (.string (astS 2)) ∧ w = w' := by
  go_enter Tryf.func8, Tryf.ntmps8
  go_wp2
  go_ret
  exact ⟨rfl, rfl⟩
theorem astN3 (w : World) : Calls Tryf.prog 8 #[.int .i64 3] w fun e w' => e = .returned (.string (astS 3)) ∧ w = w' := by
  go_enter Tryf.func8, Tryf.ntmps8
  go_wp2
  go_ret
  exact ⟨rfl, rfl⟩
theorem astN4 (w : World) : Calls Tryf.prog 8 #[.int .i64 4] w fun e w' => e = .returned (.string (astS 4)) ∧ w = w' := by
  go_enter Tryf.func8, Tryf.ntmps8
  go_wp2
  go_ret
  exact ⟨rfl, rfl⟩
theorem astN5 (w : World) : Calls Tryf.prog 8 #[.int .i64 5] w fun e w' => e = .returned (.string (astS 5)) ∧ w = w' := by
  go_enter Tryf.func8, Tryf.ntmps8
  go_wp2
  go_ret
  exact ⟨rfl, rfl⟩
theorem astN6 (w : World) : Calls Tryf.prog 8 #[.int .i64 6] w fun e w' => e = .returned (.string (astS 6)) ∧ w = w' := by
  go_enter Tryf.func8, Tryf.ntmps8
  go_wp2
  go_ret
  exact ⟨rfl, rfl⟩
theorem astN7 (w : World) : Calls Tryf.prog 8 #[.int .i64 7] w fun e w' => e = .returned (.string (astS 7)) ∧ w = w' := by
  go_enter Tryf.func8, Tryf.ntmps8
  go_wp2
  go_ret
  exact ⟨rfl, rfl⟩
theorem astN8 (w : World) : Calls Tryf.prog 8 #[.int .i64 8] w fun e w' => e = .returned (.string (astS 8)) ∧ w = w' := by
  go_enter Tryf.func8, Tryf.ntmps8
  go_wp2
  go_ret
  exact ⟨rfl, rfl⟩
theorem astN9 (w : World) : Calls Tryf.prog 8 #[.int .i64 9] w fun e w' => e = .returned (.string (astS 9)) ∧ w = w' := by
  go_enter Tryf.func8, Tryf.ntmps8
  go_wp2
  go_ret
  exact ⟨rfl, rfl⟩
theorem astN10 (w : World) : Calls Tryf.prog 8 #[.int .i64 10] w fun e w' => e = .returned (.string (astS 10)) ∧ w = w' := by
  go_enter Tryf.func8, Tryf.ntmps8
  go_wp2
  go_ret
  exact ⟨rfl, rfl⟩
theorem astN11 (w : World) : Calls Tryf.prog 8 #[.int .i64 11] w fun e w' => e = .returned (.string (astS 11)) ∧ w = w' := by
  go_enter Tryf.func8, Tryf.ntmps8
  go_wp2
  go_ret
  exact ⟨rfl, rfl⟩
theorem astN12 (w : World) : Calls Tryf.prog 8 #[.int .i64 12] w fun e w' => e = .returned (.string (astS 12)) ∧ w = w' := by
  go_enter Tryf.func8, Tryf.ntmps8
  go_wp2
  go_ret
  exact ⟨rfl, rfl⟩
theorem astN13 (w : World) : Calls Tryf.prog 8 #[.int .i64 13] w fun e w' => e = .returned (.string (astS 13)) ∧ w = w' := by
  go_enter Tryf.func8, Tryf.ntmps8
  go_wp2
  go_ret
  exact ⟨rfl, rfl⟩
theorem astN14 (w : World) : Calls Tryf.prog 8 #[.int .i64 14] w fun e w' => e = .returned (.string (astS 14)) ∧ w = w' := by
  go_enter Tryf.func8, Tryf.ntmps8
  go_wp2
  go_ret
  exact ⟨rfl, rfl⟩
theorem astN15 (w : World) : Calls Tryf.prog 8 #[.int .i64 15] w fun e w' => e = .returned (.string (astS 15)) ∧ w = w' := by
  go_enter Tryf.func8, Tryf.ntmps8
  go_wp2
  go_ret
  exact ⟨rfl, rfl⟩
theorem astN16 (w : World) : Calls Tryf.prog 8 #[.int .i64 16] w fun e w' => e = .returned (.string (astS 16)) ∧ w = w' := by
  go_enter Tryf.func8, Tryf.ntmps8
  go_wp2
  go_ret
  exact ⟨rfl, rfl⟩
theorem astN17 (w : World) : Calls Tryf.prog 8 #[.int .i64 17] w fun e w' => e = .returned (.string (astS 17)) ∧ w = w' := by
  go_enter Tryf.func8, Tryf.ntmps8
  go_wp2
  go_ret
  exact ⟨rfl, rfl⟩
theorem astN18 (w : World) : Calls Tryf.prog 8 #[.int .i64 18] w fun e w' => e = .returned (.string (astS 18)) ∧ w = w' := by
  go_enter Tryf.func8, Tryf.ntmps8
  go_wp2
  go_ret
  exact ⟨rfl, rfl⟩
theorem astN19 (w : World) : Calls Tryf.prog 8 #[.int .i64 19] w fun e w' => e = .returned (.string (astS 19)) ∧ w = w' := by
  go_enter Tryf.func8, Tryf.ntmps8
  go_wp2
  go_ret
  exact ⟨rfl, rfl⟩
theorem astN20 (w : World) : Calls Tryf.prog 8 #[.int .i64 20] w fun e w' => e = .returned (.string (astS 20)) ∧ w = w' := by
  go_enter Tryf.func8, Tryf.ntmps8
  go_wp2
  go_ret
  exact ⟨rfl, rfl⟩
theorem astN21 (w : World) : Calls Tryf.prog 8 #[.int .i64 21] w fun e w' => e = .returned (.string (astS 21)) ∧ w = w' := by
  go_enter Tryf.func8, Tryf.ntmps8
  go_wp2
  go_ret
  exact ⟨rfl, rfl⟩
theorem astN22 (w : World) : Calls Tryf.prog 8 #[.int .i64 22] w fun e w' => e = .returned (.string (astS 22)) ∧ w = w' := by
  go_enter Tryf.func8, Tryf.ntmps8
  go_wp2
  go_ret
  exact ⟨rfl, rfl⟩
theorem astN (w : World) : ∀ k : Nat, k < 23 → Calls Tryf.prog 8 #[.int .i64 (k : Int)] w fun e w' => e = .returned (.string (astS k)) ∧ w = w'
  | 0, _ => astN0 w
  | 1, _ => astN1 w
  | 2, _ => astN2 w
  | 3, _ => astN3 w
  | 4, _ => astN4 w
  | 5, _ => astN5 w
  | 6, _ => astN6 w
  | 7, _ => astN7 w
  | 8, _ => astN8 w
  | 9, _ => astN9 w
  | 10, _ => astN10 w
  | 11, _ => astN11 w
  | 12, _ => astN12 w
  | 13, _ => astN13 w
  | 14, _ => astN14 w
  | 15, _ => astN15 w
  | 16, _ => astN16 w
  | 17, _ => astN17 w
  | 18, _ => astN18 w
  | 19, _ => astN19 w
  | 20, _ => astN20 w
  | 21, _ => astN21 w
  | 22, _ => astN22 w
  | k + 23, h => absurd h (by omega)
end Go.Proofs.YtogdcenkgndfaaaFmt
