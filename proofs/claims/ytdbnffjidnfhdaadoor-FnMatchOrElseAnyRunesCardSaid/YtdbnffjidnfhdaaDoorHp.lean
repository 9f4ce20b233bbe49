/-
  FnMatchOrElseAnyRunes' helpers: zzRuneOK and zzHasPrefix.
-/
import Derived.Test.YtdbnffjidnfhdaaDoorEnc
namespace Go.Proofs.YtdbnffjidnfhdaaDoor
open Go.RowKit
set_option maxRecDepth 100000

theorem rokYes (c : Nat) (w : World) (h : okR c) : Calls Tryd.prog 27 #[.int .i32 c] w fun e w' => e = .returned (.bool true) ∧ w = w' := by
  unfold okR at h
  have x0 : decide ((0 : Int) ≤ (c : Int)) = true := by simp
  have x1 : decide ((c : Int) ≤ 1114111) = true := by simp; omega
  by_cases g : c < 55296
  · have x2 : decide ((c : Int) < 55296) = true := by simp; omega
    clear h g
    go_enter Tryd.func27, Tryd.ntmps27
    go_wp2_with fail
    go_ret
    exact ⟨rfl, rfl⟩
  · have x2 : decide ((c : Int) < 55296) = false := by simp; omega
    have x3 : decide ((57343 : Int) < (c : Int)) = true := by simp; omega
    clear h g
    go_enter Tryd.func27, Tryd.ntmps27
    go_wp2_with fail
    go_ret
    exact ⟨rfl, rfl⟩
theorem rokNo (r : Int) (w : World) (h : ¬ ∃ c : Nat, r = c ∧ okR c) : Calls Tryd.prog 27 #[.int .i32 r] w fun e w' => e = .returned (.bool false) ∧ w = w' := by
  by_cases g0 : 0 ≤ r
  · obtain ⟨c, rfl⟩ : ∃ c : Nat, r = c := ⟨r.toNat, by omega⟩
    have hk : ¬ okR c := fun k => h ⟨c, rfl, k⟩
    unfold okR at hk
    have x0 : decide ((0 : Int) ≤ (c : Int)) = true := by simp
    by_cases g1 : c ≤ 1114111
    · have x1 : decide ((c : Int) ≤ 1114111) = true := by simp; omega
      have x2 : decide ((c : Int) < 55296) = false := by simp; omega
      have x3 : decide ((57343 : Int) < (c : Int)) = false := by simp; omega
      clear h hk g0 g1
      go_enter Tryd.func27, Tryd.ntmps27
      go_wp2_with fail
      go_ret
      exact ⟨rfl, rfl⟩
    · have x1 : decide ((c : Int) ≤ 1114111) = false := by simp; omega
      clear h hk g0 g1
      go_enter Tryd.func27, Tryd.ntmps27
      go_wp2_with fail
      go_ret
      exact ⟨rfl, rfl⟩
  · have x0 : decide ((0 : Int) ≤ r) = false := by simp; omega
    clear h g0
    go_enter Tryd.func27, Tryd.ntmps27
    go_wp2_with fail
    go_ret
    exact ⟨rfl, rfl⟩

def HpRel (s e : ByteArray) (w : World) (k : Nat) (v : Value) (wr : World) : Prop :=
  ∃ j : Nat, j ≤ e.size ∧ k = e.size - j ∧ v = .int .i64 j ∧ (∀ i, i < j → s.get! i = e.get! i) ∧ Below w.heap.size w wr
set_option maxHeartbeats 800000 in
theorem hp_any (s e : ByteArray) (b : Bool) (w : World) (hs : s.size ≤ 10000000) (hb : Hid (b = true ↔ At s 0 e)) :
    Calls Tryd.prog 28 #[.string s, .string e] w fun x w' => x = .returned (.bool b) ∧ Below w.heap.size w w' := by
  by_cases hl : e.size ≤ s.size
  case neg =>
    have t0 : decide ((s.size : Int) < (e.size : Int)) = true := by simp; omega
    have hf : b = false := by
      cases b
      · rfl
      · have := (hb.out.1 rfl).1
        omega
    subst hf
    go_enter Tryd.func28, Tryd.ntmps28
    go_wp2_with fail
    go_ret
    exact ⟨rfl, Below.refl _ _⟩
  have t0 : decide ((s.size : Int) < (e.size : Int)) = false := by simp; omega
  go_enter Tryd.func28, Tryd.ntmps28
  go_wp2_with fail
  go_loopg [5] (e.size) (fun k v wr => HpRel s e w k v wr)
  case atStart => exact ⟨0, Nat.zero_le _, rfl, rfl, fun _ h => by omega, Below.refl _ _⟩
  case round =>
    obtain ⟨j, hj, hk, rfl, hA, hB⟩ := hrel
    have HK := Lib.hid hk; have HA := Lib.hid hA; have HB := Lib.hid hB; clear hk hA hB
    by_cases hlt : j < e.size
    · have t1 : decide ((j : Int) < (e.size : Int)) = true := by simp; omega
      have t2 : (0 : Int) ≤ (j : Int) := by omega
      have t3 : (j : Int) < (e.size : Int) := by omega
      have t4 : (j : Int) < (s.size : Int) := by omega
      have t5 : j < s.size := by omega
      by_cases hq : s.get! j = e.get! j
      · have q : (((s[j]'t5).toNat : Int) == ((e[j]'hlt).toNat : Int)) = true := beqT (by rw [get_eq s j t5, get_eq e j hlt, hq])
        have HA2 : Hid (∀ i, i < j + 1 → s.get! i = e.get! i) := fun i hi => by
          rcases Nat.lt_succ_iff_lt_or_eq.1 hi with h | rfl
          · exact HA.out i h
          · exact hq
        clear hq HA
        go_wp2_with fail
        go_quiet (fail)
        go_wp2_with fail
        go_roundg (e.size - (j + 1))
        case measure => have := HK.out; omega
        case rel => exact ⟨j + 1, by omega, rfl, by go_num, HA2.out, below_drewN HB.out _⟩
      · have q : (((s[j]'t5).toNat : Int) == ((e[j]'hlt).toNat : Int)) = false := beqF (by
          rw [get_eq s j t5, get_eq e j hlt]
          intro h
          exact hq (u8_eq (by omega)))
        have hf : b = false := by
          cases b
          · rfl
          · have := (hb.out.1 rfl).2 j hlt
            rw [Nat.zero_add] at this
            exact absurd this hq
        subst hf
        clear hq HA
        go_wp2_with fail
        go_quiet (fail)
        go_wp2_with fail
        go_ret
        exact ⟨rfl, below_drewN HB.out _⟩
    · have t1 : decide ((j : Int) < (e.size : Int)) = false := by simp; omega
      have hf : b = true := hb.out.2 ⟨by omega, fun i hi => by rw [Nat.zero_add]; exact HA.out i (by omega)⟩
      subst hf
      clear HA
      go_wp2_with fail
      go_ret
      exact ⟨rfl, HB.out⟩
end Go.Proofs.YtdbnffjidnfhdaaDoor
