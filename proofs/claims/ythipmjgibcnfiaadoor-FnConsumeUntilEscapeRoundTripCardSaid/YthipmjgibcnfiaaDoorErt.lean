/-
  The law FnConsumeUntilEscapeRoundTrip: its walk.
-/
import Derived.Test.YthipmjgibcnfiaaDoorEsc
import Derived.OwnWalk
import Derived.Laws.OwnMore
import Derived.Maps.AppendAt
namespace Go.Proofs.YthipmjgibcnfiaaDoor
open Go.RowKit
set_option maxRecDepth 100000

theorem infoByte : (Tryd.prog.info? 5).map (fun i => (i.zero, i.size, i.bytes)) = some (some (.int .u8 0), 1, 1) := by kernel_rfl
def vals (l : List Nat) : List Value := l.map fun (n : Nat) => Value.int .u8 (n : Int)
def strN (l : List Nat) : ByteArray := strOfNums (l.map fun (n : Nat) => (n : Int))
theorem strN_size (l : List Nat) : (strN l).size = l.length := by unfold strN; rw [strOfNums_size, List.length_map]
theorem strN_nums (v : ByteArray) : strN (nums v) = v := by
  apply ByteArray.ext
  unfold strN strOfNums nums
  apply Array.toList_inj.1
  simp [List.map_map, Function.comp_def]
theorem strN_at (l : List Nat) (hl : ∀ x ∈ l, x < 256) : Holds (strN l) 0 l := fun j x hj => by
  have h1 : j < l.length := by
    rcases Nat.lt_or_ge j l.length with h | h
    · exact h
    · rw [List.getElem?_eq_none h] at hj; cases hj
  have h2 : j < (strN l).size := by rw [strN_size]; exact h1
  rw [Nat.zero_add, ← get_eq (strN l) j h2]
  have e : (strN l)[j]'h2 = UInt8.ofNat x := by
    have hx : l[j] = x := by rw [List.getElem?_eq_getElem h1] at hj; exact Option.some.inj hj
    show ((l.map fun (n : Nat) => (n : Int)).map fun n => UInt8.ofNat n.toNat).toArray[j]'(by simpa using h1) = _
    simp [hx]
  rw [e, UInt8.toNat_ofNat']
  exact Nat.mod_eq_of_lt (hl x (List.mem_of_getElem? hj))
theorem nums_lt (v : ByteArray) : ∀ x ∈ nums v, x < 256 := by
  intro x hx
  unfold nums at hx
  obtain ⟨b, _, rfl⟩ := List.mem_map.1 hx
  exact byte_lt b
theorem escL_lt (e : Nat) (l : List Nat) (hl : ∀ x ∈ l, x < 256) : ∀ x ∈ escL e l, x < 256 := by
  intro x hx
  unfold escL at hx
  obtain ⟨b, hb, hx⟩ := List.mem_flatMap.1 hx
  have := hl b hb
  unfold esc1 at hx
  split at hx <;> simp at hx <;> omega
theorem conv_own {W : World} {base g n cap : Nat} {l : List Nat} (h : W.ownsRow base 5 1 (.slice (some ⟨g, 0, none⟩) n cap) n (vals l)) :
    (convert 36 9 (.slice (some ⟨g, 0, none⟩) n cap)).run Tryd.prog W = .ok (.string (strN l)) W := by
  have hl : l.length = n := by have := h.1; unfold vals at this; rw [List.length_map] at this; omega
  refine run_convert_bytes_arg W 36 5 Tryd.underlying36 Tryd.underlying5 g 0 n cap (l.map fun (n : Nat) => (n : Int)) (by rw [List.length_map]; exact hl) (fun i hi => ?_) 9 Tryd.underlying9
  rw [Nat.zero_add, h.cellAt i (by omega)]
  unfold vals
  have h1 : i < l.length := by omega
  simp [h1]
theorem reach_ge (e : Nat) (l : List Nat) : ∀ k, k ≤ l.length → k ≤ reach e l k := by
  intro k
  induction k with
  | zero => intro _; exact Nat.zero_le _
  | succ k ih =>
    intro hk
    have h0 := ih (by omega)
    have hb : l[k]? = some l[k] := List.getElem?_eq_getElem (by omega)
    by_cases hsp : l[k] = e ∨ l[k] = 92
    · have := (esc_at e l k _ hb hsp).2.2.1; omega
    · have := (plain_at e l k _ hb hsp).2.1; omega
def Er2 (m : Nat) (L R : List Nat) (cap : Nat) (w : World) (bv iv : Value) (wr : World) : Prop :=
  ∃ k : Nat, k ≤ R.length ∧ iv = .int .i64 k ∧ bv = .slice (some ⟨w.heap.size, 0, none⟩) (m + 1 + k) cap ∧ wr.ownsRow w.heap.size 5 1 bv (m + 1 + k) (vals (L ++ R.take k)) ∧ Below w.heap.size w wr
def Er3 (e g n : Nat) (V : List Nat) (w : World) (bv iv : Value) (wr : World) : Prop :=
  ∃ k : Nat, k ≤ V.length ∧ iv = .int .i64 (reach e V k) ∧ bv = .slice (some ⟨g, 0, none⟩) k n ∧ wr.ownsRow w.heap.size 5 1 bv k (vals (V.take k)) ∧ Below w.heap.size w wr
def Er1 (e : Nat) (V : List Nat) (cap : Nat) (w : World) (bv iv : Value) (wr : World) : Prop :=
  ∃ k : Nat, k ≤ V.length ∧ iv = .int .i64 k ∧ bv = .slice (some ⟨w.heap.size, 0, none⟩) (reach e V k) cap ∧ wr.ownsRow w.heap.size 5 1 bv (reach e V k) (vals (escL e (V.take k))) ∧ Below w.heap.size w wr

set_option maxHeartbeats 1600000 in
theorem ert0 (v r : ByteArray) (c : Nat) (w : World) (hT : Hid (Tabs w)) (lo : 2 ≤ w.heap.size) (hv : v.size ≤ 65536) (hr : r.size ≤ 65536) (hc : c ≤ 127) (hc2 : Hid (c ≠ 92)) :
    Calls Tryd.prog 8 #[.string v, .string r, .int .i32 c] w fun e w' => e = .returned (.bool true) ∧ Below w.heap.size w w' := by
  obtain ⟨i0, hi, hz0, hz1, hz2⟩ := info_parts infoByte
  have t1 : decide ((1048576 : Int) < (v.size : Int)) = false := by simp; omega
  have t2 : decide ((1048576 : Int) < (r.size : Int)) = false := by simp; omega
  have t3 : decide ((1048576 : Int) < (v.size : Int) + (r.size : Int)) = false := by simp; omega
  have t4 : decide ((65536 : Int) < (v.size : Int)) = false := by simp; omega
  have t5 : decide ((65536 : Int) < (r.size : Int)) = false := by simp; omega
  have t6 : decide ((c : Int) < 0) = false := by simp
  have t7 : decide ((127 : Int) < (c : Int)) = false := by simp; omega
  have t8 : ((c : Int) == 92) = false := beqF (by have := hc2.out; omega)
  go_enter Tryd.func8, Tryd.ntmps8
  go_wp2_with (first | (go_at_call 23; go_in) | (at_make; refine wpList_make_own _ rfl _ _ 36 rfl w.heap.size 5 i0 (.int .u8 0) 1 Tryd.underlying36 hi hz0 hz1 _ _ _ (2 * v.size + 1 + r.size) rfl rfl (by omega) (by rw [hz2]; omega) (by unfold maxLen; omega) (Nat.le_refl _) ?_; intro w2 hown2 hgrow2))
  have hb2 : Below w.heap.size w w2 := (Below.refl _ w).grown hgrow2 (Nat.le_refl _) (by simp)
  have HO2 := Lib.hid hown2; have HB2 := Lib.hid hb2; clear hown2 hgrow2 hb2
  have hvl : (nums v).length = v.size := nums_len v
  go_loopw [8, 9] (fun bv iv wr => Er1 c (nums v) (2 * v.size + 1 + r.size) w bv iv wr) (fun _ iv _ => v.size - (intOf iv).toNat)
  case atStart => exact ⟨0, Nat.zero_le _, rfl, rfl, HO2.out, HB2.out⟩
  case round =>
    obtain ⟨k, hk, rfl, rfl, hO, hB⟩ := hrel
    have HO := Lib.hid hO; have HB := Lib.hid hB; clear hO hB HO2 HB2
    have hrc := reach_le c (nums v) k
    generalize hrk : reach c (nums v) k = m at *
    have HRK := Lib.hid hrk; clear hrk
    by_cases hlt : k < v.size
    · have q0 : decide ((k : Int) < (v.size : Int)) = true := by simp; omega
      have q1 : (0 : Int) ≤ (k : Int) := by omega
      have q2 : (k : Int) < (v.size : Int) := by omega
      have hat := nums_at v k hlt
      rw [← get_eq v k hlt] at hat
      have hlo := Lib.hid HB.out.size
      by_cases hsp : (v[k]'hlt).toNat = c ∨ (v[k]'hlt).toNat = 92
      · have hp := Lib.hid (esc_at c (nums v) k _ hat hsp)
        have ht := Lib.hid (escL_take c (nums v) k _ hat)
        have e1 : reach c (nums v) (k + 1) = m + 1 + 1 := by rw [hp.out.2.2.1, HRK.out]
        have e2 : vals (escL c ((nums v).take (k + 1))) = vals (escL c ((nums v).take k)) ++ [.int .u8 92] ++ [.int .u8 ((v[k]'hlt).toNat : Int)] := by
          rw [ht.out, show esc1 c (v[k]'hlt).toNat = [92, (v[k]'hlt).toNat] from if_pos hsp]; simp [vals]
        have E1 := Lib.hid e1; have E2 := Lib.hid e2
        clear hat e1 e2 hp ht
        by_cases hsc : (v[k]'hlt).toNat = c
        · have q3 : (((v[k]'hlt).toNat : Int) == (c : Int)) = true := beqT (by omega)
          clear hsc hsp
          go_wp2_with (first | (at_builtin; refine wpList_append_fits _ rfl _ _ 36 rfl w.heap.size 5 i0 1 Tryd.underlying36 hi hz1 w.heap.size _ _ _ rfl (hown3.alloc _) ⟨_, 0, none⟩ 1 1 [.int .u8 ((v[k]'hlt).toNat : Int)] rfl rfl (cell_one_new _ _ _) (ints_oneCell .u8 [((v[k]'hlt).toNat : Int)]) (by omega) ?_; intro w4 hown4 hgrow4) | (at_builtin; refine wpList_append_fits _ rfl _ _ 36 rfl w.heap.size 5 i0 1 Tryd.underlying36 hi hz1 w.heap.size _ _ _ rfl (HO.out.alloc _) ⟨_, 0, none⟩ 1 1 [.int .u8 92] rfl rfl (cell_one_new _ _ _) (ints_oneCell .u8 [92]) (by omega) ?_; intro w3 hown3 hgrow3))
          go_roundw
          case rel => exact ⟨k + 1, by omega, by go_num, by rw [E1.out], by rw [E1.out, E2.out]; exact hown4, ((((HB.out.alloc hlo.out _).grown hgrow3 (Nat.le_trans hlo.out (by simp)) (fun j hj => by cases hj; exact Nat.le_refl _)).alloc (Nat.le_trans (Nat.le_trans hlo.out (by simp)) hgrow3.size) _).grown hgrow4 (Nat.le_trans (Nat.le_trans (Nat.le_trans hlo.out (by simp)) hgrow3.size) (by simp)) (fun j hj => by cases hj; exact Nat.le_refl _))⟩
          case measure => simp [intOf]; omega
        · have q3 : (((v[k]'hlt).toNat : Int) == (c : Int)) = false := beqF (by omega)
          have q4 : (((v[k]'hlt).toNat : Int) == 92) = true := beqT (by omega)
          clear hsc hsp
          go_wp2_with (first | (at_builtin; refine wpList_append_fits _ rfl _ _ 36 rfl w.heap.size 5 i0 1 Tryd.underlying36 hi hz1 w.heap.size _ _ _ rfl (hown3.alloc _) ⟨_, 0, none⟩ 1 1 [.int .u8 ((v[k]'hlt).toNat : Int)] rfl rfl (cell_one_new _ _ _) (ints_oneCell .u8 [((v[k]'hlt).toNat : Int)]) (by omega) ?_; intro w4 hown4 hgrow4) | (at_builtin; refine wpList_append_fits _ rfl _ _ 36 rfl w.heap.size 5 i0 1 Tryd.underlying36 hi hz1 w.heap.size _ _ _ rfl (HO.out.alloc _) ⟨_, 0, none⟩ 1 1 [.int .u8 92] rfl rfl (cell_one_new _ _ _) (ints_oneCell .u8 [92]) (by omega) ?_; intro w3 hown3 hgrow3))
          go_roundw
          case rel => exact ⟨k + 1, by omega, by go_num, by rw [E1.out], by rw [E1.out, E2.out]; exact hown4, ((((HB.out.alloc hlo.out _).grown hgrow3 (Nat.le_trans hlo.out (by simp)) (fun j hj => by cases hj; exact Nat.le_refl _)).alloc (Nat.le_trans (Nat.le_trans hlo.out (by simp)) hgrow3.size) _).grown hgrow4 (Nat.le_trans (Nat.le_trans (Nat.le_trans hlo.out (by simp)) hgrow3.size) (by simp)) (fun j hj => by cases hj; exact Nat.le_refl _))⟩
          case measure => simp [intOf]; omega
      · have q3 : (((v[k]'hlt).toNat : Int) == (c : Int)) = false := beqF (by omega)
        have q4 : (((v[k]'hlt).toNat : Int) == 92) = false := beqF (by omega)
        have hp := Lib.hid (plain_at c (nums v) k _ hat hsp)
        have ht := Lib.hid (escL_take c (nums v) k _ hat)
        have e1 : reach c (nums v) (k + 1) = m + 1 := by rw [hp.out.2.1, HRK.out]
        have e2 : vals (escL c ((nums v).take (k + 1))) = vals (escL c ((nums v).take k)) ++ [.int .u8 ((v[k]'hlt).toNat : Int)] := by
          rw [ht.out, show esc1 c (v[k]'hlt).toNat = [(v[k]'hlt).toNat] from if_neg hsp]; simp [vals]
        have E1 := Lib.hid e1; have E2 := Lib.hid e2
        clear hat hsp e1 e2 hp ht
        go_wp2_with (at_builtin; refine wpList_append_fits _ rfl _ _ 36 rfl w.heap.size 5 i0 1 Tryd.underlying36 hi hz1 w.heap.size _ _ _ rfl (HO.out.alloc _) ⟨_, 0, none⟩ 1 1 [.int .u8 ((v[k]'hlt).toNat : Int)] rfl rfl (cell_one_new _ _ _) (ints_oneCell .u8 [((v[k]'hlt).toNat : Int)]) (by omega) ?_; intro w3 hown3 hgrow3)
        go_roundw
        case rel => exact ⟨k + 1, by omega, by go_num, by rw [E1.out], by rw [E1.out, E2.out]; exact hown3, ((HB.out.alloc hlo.out _).grown hgrow3 (Nat.le_trans hlo.out (by simp)) (fun j hj => by cases hj; exact Nat.le_refl _))⟩
        case measure => simp [intOf]; omega
    · have q0 : decide ((k : Int) < (v.size : Int)) = false := by simp; omega
      obtain rfl : k = v.size := by omega
      have hLm : (escL c (nums v)).length = m := by rw [← reach_all, hvl]; exact HRK.out
      have hO := HO.out
      rw [List.take_of_length_le (by omega)] at hO
      have HO1 := Lib.hid hO; have HLM := Lib.hid hLm
      have hlo := Lib.hid HB.out.size
      clear hO hLm HO hk
      go_wp2_with (at_builtin; refine wpList_append_fits _ rfl _ _ 36 rfl w.heap.size 5 i0 1 Tryd.underlying36 hi hz1 w.heap.size _ _ _ rfl (HO1.out.alloc _) ⟨_, 0, none⟩ 1 1 [.int .u8 (c : Int)] rfl rfl (cell_one_new _ _ _) (ints_oneCell .u8 [(c : Int)]) (by omega) ?_; intro w3 hown3 hgrow3)
      have hb3 : Below w.heap.size w w3 := ((HB.out.alloc hlo.out _).grown hgrow3 (Nat.le_trans hlo.out (by simp)) (fun j hj => by cases hj; exact Nat.le_refl _))
      have ho3 : w3.ownsRow w.heap.size 5 1 (.slice (some ⟨w.heap.size, 0, none⟩) (m + 1) (2 * v.size + 1 + r.size)) (m + 1) (vals (escL c (nums v) ++ [c])) := by
        have e : vals (escL c (nums v) ++ [c]) = vals (escL c (nums v)) ++ [.int .u8 (c : Int)] := by simp [vals]
        rw [e]; exact hown3
      have HO3 := Lib.hid ho3; have HB3 := Lib.hid hb3
      clear hown3 hgrow3 ho3 hb3 HO1 HB hlo
      have hrl : (nums r).length = r.size := nums_len r
      go_loopw [8, 11] (fun bv iv wr => Er2 m (escL c (nums v) ++ [c]) (nums r) (2 * v.size + 1 + r.size) w bv iv wr) (fun _ iv _ => r.size - (intOf iv).toNat)
      case atStart => exact ⟨0, Nat.zero_le _, rfl, rfl, by rw [List.take_zero, List.append_nil]; exact HO3.out, HB3.out⟩
      case round =>
        obtain ⟨j, hj, rfl, rfl, hO, hB⟩ := hrel
        have HO := Lib.hid hO; have HB := Lib.hid hB; clear hO hB HO3 HB3
        have hlo := Lib.hid HB.out.size
        by_cases hjt : j < r.size
        · have p0 : decide ((j : Int) < (r.size : Int)) = true := by simp; omega
          have p1 : (0 : Int) ≤ (j : Int) := by omega
          have p2 : (j : Int) < (r.size : Int) := by omega
          have hat := nums_at r j hjt
          rw [← get_eq r j hjt] at hat
          have e2 : vals (escL c (nums v) ++ [c] ++ (nums r).take (j + 1)) = vals (escL c (nums v) ++ [c] ++ (nums r).take j) ++ [.int .u8 ((r[j]'hjt).toNat : Int)] := by
            rw [List.take_add_one, hat, Option.toList_some]; simp [vals]
          have E2 := Lib.hid e2
          clear hat e2
          go_wp2_with (at_builtin; refine wpList_append_fits _ rfl _ _ 36 rfl w.heap.size 5 i0 1 Tryd.underlying36 hi hz1 w.heap.size _ _ _ rfl (HO.out.alloc _) ⟨_, 0, none⟩ 1 1 [.int .u8 ((r[j]'hjt).toNat : Int)] rfl rfl (cell_one_new _ _ _) (ints_oneCell .u8 [((r[j]'hjt).toNat : Int)]) (by omega) ?_; intro w4 hown4 hgrow4)
          go_roundw
          case rel => exact ⟨j + 1, by omega, by go_num, by rw [Nat.add_assoc], by rw [E2.out, ← Nat.add_assoc]; exact hown4, ((HB.out.alloc hlo.out _).grown hgrow4 (Nat.le_trans hlo.out (by simp)) (fun j hj => by cases hj; exact Nat.le_refl _))⟩
          case measure => simp [intOf]; omega
        · have p0 : decide ((j : Int) < (r.size : Int)) = false := by simp; omega
          obtain rfl : j = r.size := by omega
          have hO := HO.out
          rw [List.take_of_length_le (by omega), List.append_assoc] at hO
          have hcv := conv_own hO
          clear hO
          obtain ⟨X, hX⟩ : ∃ X, strN (escL c (nums v) ++ ([c] ++ nums r)) = X := ⟨_, rfl⟩
          rw [hX] at hcv
          have hXs : X.size = m + 1 + r.size := by rw [← hX, strN_size, List.length_append, HLM.out, List.length_append, hrl]; simp; omega
          have hXh : Holds X 0 (escL c (nums v) ++ ([c] ++ nums r)) := by
            rw [← hX]
            refine strN_at _ fun x hx => ?_
            rcases List.mem_append.1 hx with h | h
            · exact escL_lt c _ (nums_lt v) x h
            rcases List.mem_append.1 h with h | h
            · simp at h; omega
            · exact nums_lt r x h
          have hXf : First X 0 c m := by
            have := esc_first X c hc2.out (nums v) (nums r) hXh (by rw [HLM.out, hXs]; omega)
            rw [HLM.out] at this; exact this
          have hGs : (X.extract 0 m).size = m := by rw [ByteArray.size_extract]; omega
          have hG : ∀ i b, i < m → (escL c (nums v))[i]? = some b → ((X.extract 0 m).get! i).toNat = b := fun i b hi hb => by
            have := hXh.left i b hb
            rw [← get_eq X (0 + i) (by omega)] at this
            rw [← get_eq (X.extract 0 m) i (by omega), ByteArray.getElem_extract]
            exact this
          have HXS := Lib.hid hXs; have HXF := Lib.hid hXf; have HG := Lib.hid hG; have HGS := Lib.hid hGs
          have loW : 2 ≤ wr.heap.size := Nat.le_trans lo HB.out.size
          have hTW : Hid (Tabs wr) := hT.out.alike fun b _ h2 => HB.out.cell (show b < w.heap.size by omega)
          have x4 : m ≤ X.size := by omega
          clear hX hXh hXf hG hGs hXs
          go_wp2_with fail
          clear hcv
          refine (zzNew X _ hTW loW).mono ?_
          rintro x w5 ⟨rfl, hL, hb⟩
          have hiL := hL.hi
          have HL := Lib.hid hL; have HB5 := Lib.hid hb; clear hL hb
          go_wp2_with fail
          refine (zzCu _ X 0 0 c _ HL (by rw [HXS.out]; omega) (Nat.zero_le _) (by omega) (by omega) (by have := hc2.out; omega)).mono ?_
          rintro x w6 hh
          rcases hh with ⟨⟨q', hF', _, rfl, hL⟩ | ⟨hC, _, _⟩, hg⟩
          · obtain rfl := HXF.out.unique hF'
            have c1 : w6.cell? ⟨wr.heap.size, 1, none⟩ = some (.int .i64 ((m : Int) + 1)) := hL.c1
            have HB6 := Lib.hid (HB.out.trans ((below_step HB5.out hiL hg).mono HB.out.size))
            have lo6 := HB6.out.size
            clear hF' hL hg HB5 HL
            have x5 : (X.extract 0 m).size = m := HGS.out
            go_wp2_with fail
            refine (zzPos _ _ _ c1).mono ?_
            rintro x w' ⟨rfl, rfl⟩
            clear c1
            have hmv : m ≤ 131072 := by omega
            clear hrc x4 HXS HXF HRK
            generalize hGe : X.extract 0 m = G at *
            clear hGe HGS
            subst x5
            go_wp2_with (at_make; refine wpList_make_own _ rfl _ _ 36 rfl w.heap.size 5 i0 (.int .u8 0) 1 Tryd.underlying36 hi hz0 hz1 _ _ _ G.size rfl rfl (by omega) (by rw [hz2]; omega) (by unfold maxLen; omega) lo6 ?_; intro w7 hown7 hgrow7)
            have hb7 : Below w.heap.size w w7 := HB6.out.grown hgrow7 lo6 (by simp)
            have HO7 := Lib.hid hown7; have HB7 := Lib.hid hb7; clear hown7 hgrow7 hb7
            go_loopw [16, 17] (fun bv iv wr => Er3 c w6.heap.size G.size (nums v) w bv iv wr) (fun _ iv _ => G.size - (intOf iv).toNat)
            case atStart => exact ⟨0, Nat.zero_le _, rfl, rfl, HO7.out, HB7.out⟩
            case round =>
              obtain ⟨k, hk, rfl, rfl, hO, hB⟩ := hrel
              have HO8 := Lib.hid hO; have HB8 := Lib.hid hB; clear hO hB HO7 HB7
              have hlo := Lib.hid HB8.out.size
              have hrg := reach_ge c (nums v) k hk
              by_cases hkt : k < v.size
              · have hat := nums_at v k hkt
                rw [← get_eq v k hkt] at hat
                have e2 : vals ((nums v).take (k + 1)) = vals ((nums v).take k) ++ [.int .u8 ((v[k]'hkt).toNat : Int)] := by
                  rw [List.take_add_one, hat, Option.toList_some]; simp [vals]
                have E2 := Lib.hid e2; clear e2
                by_cases hsp : (v[k]'hkt).toNat = c ∨ (v[k]'hkt).toNat = 92
                · obtain ⟨a1, a2, a3, a4⟩ := esc_at c (nums v) k _ hat hsp
                  rw [HLM.out] at a4
                  have A3 := Lib.hid a3
                  generalize reach c (nums v) k = p at *
                  have y1 : p < G.size := by omega
                  have y2 : p + 1 < G.size := by omega
                  have b1 := HG.out p 92 y1 a1
                  have b2 := HG.out (p + 1) _ y2 a2
                  rw [← get_eq G p y1] at b1
                  rw [← get_eq G (p + 1) y2] at b2
                  have p0 : decide ((p : Int) < (G.size : Int)) = true := by simp; omega
                  have p1 : (0 : Int) ≤ (p : Int) := by omega
                  have p2 : (p : Int) < (G.size : Int) := by omega
                  have p3 : decide ((p : Int) + 1 < (G.size : Int)) = true := by simp; omega
                  have p4 : (p : Int) + 1 < (G.size : Int) := by omega
                  have p5 : (((G[p]'y1).toNat : Int) == 92) = true := beqT (by omega)
                  have B2 := Lib.hid b2
                  clear a1 a2 a3 a4 b1 b2 hat hsp
                  go_wp2_with (at_builtin; refine wpList_append_fits _ rfl _ _ 36 rfl w.heap.size 5 i0 1 Tryd.underlying36 hi hz1 w6.heap.size _ _ _ rfl (HO8.out.alloc _) ⟨_, 0, none⟩ 1 1 [.int .u8 ((G[p + 1]'y2).toNat : Int)] rfl rfl (cell_one_new _ _ _) (ints_oneCell .u8 [((G[p + 1]'y2).toNat : Int)]) (by omega) ?_; intro w8 hown8 hgrow8)
                  rw [B2.out] at hown8
                  go_roundw
                  case rel => exact ⟨k + 1, by omega, by rw [A3.out]; go_num, rfl, by rw [E2.out]; exact hown8, ((HB8.out.alloc hlo.out _).grown hgrow8 (Nat.le_trans hlo.out (by simp)) (fun j hj => by cases hj; exact lo6))⟩
                  case measure => simp [intOf]; omega
                · obtain ⟨a1, a3, a4⟩ := plain_at c (nums v) k _ hat hsp
                  rw [HLM.out] at a4
                  have A3 := Lib.hid a3
                  generalize reach c (nums v) k = p at *
                  have y1 : p < G.size := by omega
                  have b1 := HG.out p _ y1 a1
                  rw [← get_eq G p y1] at b1
                  have p0 : decide ((p : Int) < (G.size : Int)) = true := by simp; omega
                  have p1 : (0 : Int) ≤ (p : Int) := by omega
                  have p2 : (p : Int) < (G.size : Int) := by omega
                  have p5 : (((G[p]'y1).toNat : Int) == 92) = false := beqF (by omega)
                  have B1 := Lib.hid b1
                  clear a1 a3 a4 b1 hat hsp
                  go_wp2_with (at_builtin; refine wpList_append_fits _ rfl _ _ 36 rfl w.heap.size 5 i0 1 Tryd.underlying36 hi hz1 w6.heap.size _ _ _ rfl (HO8.out.alloc _) ⟨_, 0, none⟩ 1 1 [.int .u8 ((G[p]'y1).toNat : Int)] rfl rfl (cell_one_new _ _ _) (ints_oneCell .u8 [((G[p]'y1).toNat : Int)]) (by omega) ?_; intro w8 hown8 hgrow8)
                  rw [B1.out] at hown8
                  go_roundw
                  case rel => exact ⟨k + 1, by omega, by rw [A3.out]; go_num, rfl, by rw [E2.out]; exact hown8, ((HB8.out.alloc hlo.out _).grown hgrow8 (Nat.le_trans hlo.out (by simp)) (fun j hj => by cases hj; exact lo6))⟩
                  case measure => simp [intOf]; omega
              · obtain rfl : k = v.size := by omega
                have hra : reach c (nums v) v.size = G.size := by rw [← hvl, reach_all]; exact HLM.out
                have hO := HO8.out
                rw [List.take_of_length_le (by omega)] at hO
                have hcv := conv_own hO
                rw [strN_nums] at hcv
                clear hO
                rw [hra]
                clear hra hrg
                go_wp2_with fail
                go_ret
                exact ⟨rfl, HB8.out⟩
          · exact absurd HXF.out.1 (hC m (by rw [HXS.out]; omega))

set_option maxHeartbeats 3200000 in
theorem ertWalk (v r : ByteArray) (en : Int) (w : World) (hT : Hid (Tabs w)) (lo : 2 ≤ w.heap.size) (hm1 : v.size ≤ maxLen) (hm2 : r.size ≤ maxLen) (_ : (Lit.int .i32 en).wf = true) :
    Calls Tryd.prog 8 #[.string v, .string r, .int .i32 en] w fun e w' => e = .returned (.bool true) ∧ Below w.heap.size w w' := by
  unfold maxLen at hm1 hm2
  by_cases a1 : 1048576 < v.size
  · have a1' : (1048576 : Int) < (v.size : Int) := by omega
    go_enter Tryd.func8, Tryd.ntmps8
    go_wp2_with (go_at_call 23; go_in)
    go_ret
    exact ⟨rfl, Below.refl _ _⟩
  have a1' : decide ((1048576 : Int) < (v.size : Int)) = false := by simp; omega
  by_cases a2 : 1048576 < r.size
  · have a2' : (1048576 : Int) < (r.size : Int) := by omega
    go_enter Tryd.func8, Tryd.ntmps8
    go_wp2_with (go_at_call 23; go_in)
    go_ret
    exact ⟨rfl, Below.refl _ _⟩
  have a2' : decide ((1048576 : Int) < (r.size : Int)) = false := by simp; omega
  by_cases a3 : 1048576 < v.size + r.size
  · have a3' : (1048576 : Int) < (v.size : Int) + (r.size : Int) := by omega
    go_enter Tryd.func8, Tryd.ntmps8
    go_wp2_with (go_at_call 23; go_in)
    go_ret
    exact ⟨rfl, Below.refl _ _⟩
  have a3' : decide ((1048576 : Int) < (v.size : Int) + (r.size : Int)) = false := by simp; omega
  by_cases a4 : 65536 < v.size
  · have a4' : (65536 : Int) < (v.size : Int) := by omega
    go_enter Tryd.func8, Tryd.ntmps8
    go_wp2_with (go_at_call 23; go_in)
    go_ret
    exact ⟨rfl, Below.refl _ _⟩
  have a4' : decide ((65536 : Int) < (v.size : Int)) = false := by simp; omega
  by_cases a5 : 65536 < r.size
  · have a5' : (65536 : Int) < (r.size : Int) := by omega
    go_enter Tryd.func8, Tryd.ntmps8
    go_wp2_with (go_at_call 23; go_in)
    go_ret
    exact ⟨rfl, Below.refl _ _⟩
  have a5' : decide ((65536 : Int) < (r.size : Int)) = false := by simp; omega
  by_cases e1 : en < 0
  · go_enter Tryd.func8, Tryd.ntmps8
    go_wp2_with (go_at_call 23; go_in)
    go_ret
    exact ⟨rfl, Below.refl _ _⟩
  have e1' : decide (en < 0) = false := by simpa using e1
  by_cases e2 : 127 < en
  · go_enter Tryd.func8, Tryd.ntmps8
    go_wp2_with (go_at_call 23; go_in)
    go_ret
    exact ⟨rfl, Below.refl _ _⟩
  have e2' : decide (127 < en) = false := by simpa using e2
  by_cases e3 : (en == 92) = true
  · go_enter Tryd.func8, Tryd.ntmps8
    go_wp2_with (go_at_call 23; go_in)
    go_ret
    exact ⟨rfl, Below.refl _ _⟩
  obtain ⟨c, rfl⟩ : ∃ c : Nat, en = c := ⟨en.toNat, by omega⟩
  exact ert0 v r c w hT lo (by omega) (by omega) (by omega) (fun h => e3 (beqT (by omega)))
end Go.Proofs.YthipmjgibcnfiaaDoor
