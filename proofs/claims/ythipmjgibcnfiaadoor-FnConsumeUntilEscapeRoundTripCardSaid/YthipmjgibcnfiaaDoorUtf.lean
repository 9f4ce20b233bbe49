/-
  The library's decoder of UTF-8 at this seat: 'DecodeRuneInString' by the contract of the kit's shelf, and its two tables out of what the rows list.
-/
import Derived.Test.YthipmjgibcnfiaaDoorRows
import Derived.Shelf.Unicode.DecodeAny
import Derived.Lib.LaidU8
namespace Go.Proofs.YthipmjgibcnfiaaDoor
open Go.Shelf Go.Lib
set_option maxRecDepth 100000
def ren : Ren := ⟨fun | 197 => 29 | 260 => 30 | n => n, fun | 0 => 0 | 3 => 3 | 4 => 4 | 5 => 5 | 9 => 9 | 21 => 21 | 46 => 51 | 105 => 46 | 119 => 50 | 138 => 53 | 139 => 54 | n => n, fun | 3 => 0 | 4 => 1 | n => n⟩
theorem lays197 : Lays.n197 Tryd.prog ren := {
  mixed := by kernel_rfl,
  f197 := by kernel_rfl,
  f260 := by kernel_rfl,
  t0 := by kernel_rfl,
  a0 := fun _ => by kernel_rfl,
  z0 := fun _ => by kernel_rfl,
  v0 := fun _ => by kernel_rfl,
  t3 := by kernel_rfl,
  a3 := fun _ => by kernel_rfl,
  z3 := fun _ => by kernel_rfl,
  v3 := fun _ => by kernel_rfl,
  t4 := by kernel_rfl,
  a4 := fun _ => by kernel_rfl,
  z4 := fun _ => by kernel_rfl,
  v4 := fun _ => by kernel_rfl,
  t5 := by kernel_rfl,
  a5 := fun _ => by kernel_rfl,
  z5 := fun _ => by kernel_rfl,
  v5 := fun _ => by kernel_rfl,
  t9 := by kernel_rfl,
  a9 := fun _ => by kernel_rfl,
  z9 := fun _ => by kernel_rfl,
  v9 := fun _ => by kernel_rfl,
  t21 := by kernel_rfl,
  a21 := fun _ => by kernel_rfl,
  z21 := fun _ => by kernel_rfl,
  v21 := fun _ => by kernel_rfl,
  t46 := by kernel_rfl,
  a46 := fun _ => by kernel_rfl,
  z46 := fun _ => by kernel_rfl,
  v46 := fun _ => by kernel_rfl,
  t105 := by kernel_rfl,
  a105 := fun _ => by kernel_rfl,
  z105 := fun _ => by kernel_rfl,
  v105 := fun _ => by kernel_rfl,
  t119 := by kernel_rfl,
  a119 := fun _ => by kernel_rfl,
  z119 := fun _ => by kernel_rfl,
  t138 := by kernel_rfl,
  a138 := fun _ => by kernel_rfl,
  z138 := fun _ => by kernel_rfl,
  v138 := fun _ => by kernel_rfl,
  t139 := by kernel_rfl,
  a139 := fun _ => by kernel_rfl,
  z139 := fun _ => by kernel_rfl,
  v139 := fun _ => by kernel_rfl,
  g3 := by kernel_rfl,
  g4 := by kernel_rfl }
theorem lays260 : Lays.n260 Tryd.prog ren := { lays197 with }
theorem u8extra : U8Extra Tryd.prog ren := {
  n3 := by kernel_rfl, n4 := by kernel_rfl, y3 := by kernel_rfl, y4 := by kernel_rfl, c5 := by kernel_rfl, c119 := by kernel_rfl, c138 := by kernel_rfl }
/-- The two tables lie as their initialisers lay them. -/
def Tabs (w : World) : Prop := Utf8Tabs 0 1 w
theorem accept_eq : (Rows.laid_unicode_utf8_acceptRanges : DataW Unit) = acceptData := by kernel_rfl
theorem first_eq : Rows.laid_unicode_utf8_first = firstData := by kernel_rfl
theorem tabs_of_laid {W : World} {l : List (String × DataW Unit)} (h : laidMet Tryd.prog l W) (h4 : ("unicode/utf8.acceptRanges", (Rows.laid_unicode_utf8_acceptRanges : DataW Unit)) ∈ l) (h3 : ("unicode/utf8.first", Rows.laid_unicode_utf8_first) ∈ l) : Tabs W := by
  rw [accept_eq] at h4
  rw [first_eq] at h3
  exact utf8Tabs_of_reads lays260 u8extra (laidMet.reads h h3) (laidMet.reads h h4)
theorem Tabs.alike {w w' : World} (h : Tabs w) (hc : ∀ b o, b < 2 → w'.cell? ⟨b, o, none⟩ = w.cell? ⟨b, o, none⟩) : Tabs w' :=
  ⟨fun c hc' => (hc _ _ (by decide)).trans (h.1 c hc'), fun i hi => ⟨(hc _ _ (by decide)).trans (h.2 i hi).1, (hc _ _ (by decide)).trans (h.2 i hi).2⟩⟩
/-- unicode/utf8.DecodeRuneInString, at every string. -/
theorem decode_any (s : ByteArray) (w : World) (hT : Tabs w) :
    Calls Tryd.prog 29 #[.string s] w fun e w' => e = .returned (.tuple #[.int .i32 (Lib.decodeGo s).1, .int .i64 (Lib.decodeGo s).2]) ∧ RowKit.Below w.heap.size w w' :=
  Any.utf8_DecodeRuneInString lays197 s w hT
end Go.Proofs.YthipmjgibcnfiaaDoor
