import Derived.Test.Qxb6617296aDoorProg
import Derived.WalkKit
import Derived.Below
import Derived.Lib.Builder
import Derived.Shelf.Strings.Builder1
import Derived.Shelf.Pu.Clone
namespace Go.Proofs.Qxb6617296aDoor
open Go.Shelf Go.RowKit

/-! ### THE SHELF'S CONTRACTS LAID AT THIS DUMP: the numbers, then each field by the kernel -/
def renB : Ren := ⟨fun | 167 => 18 | 169 => 19 | 240 => 22 | 276 => 29 | n => n, fun | 37 => 29 | 70 => 32 | 72 => 34 | 75 => 37 | 80 => 41 | 127 => 43 | 164 => 49 | n => n, fun n => n⟩
def renC : Ren := ⟨fun | 25 => 30 | n => n, fun | 37 => 29 | 47 => 43 | n => n, fun n => n⟩

theorem lays167 : Lays.n167 Tryd.prog renB := {
  mixed := by kernel_rfl
  f167 := by kernel_rfl
  f240 := by kernel_rfl
  f276 := by kernel_rfl
  t0 := by kernel_rfl
  a0 := fun _ => by kernel_rfl
  z0 := fun _ => by kernel_rfl
  v0 := fun _ => by kernel_rfl
  t4 := by kernel_rfl
  a4 := fun _ => by kernel_rfl
  z4 := fun _ => by kernel_rfl
  v4 := fun _ => by kernel_rfl
  t5 := by kernel_rfl
  a5 := fun _ => by kernel_rfl
  z5 := fun _ => by kernel_rfl
  v5 := fun _ => by kernel_rfl
  t9 := by kernel_rfl
  a9 := fun _ => by kernel_rfl
  z9 := fun _ => by kernel_rfl
  v9 := fun _ => by kernel_rfl
  t20 := by kernel_rfl
  a20 := fun _ => by kernel_rfl
  z20 := fun _ => by kernel_rfl
  v20 := fun _ => by kernel_rfl
  t37 := by kernel_rfl
  a37 := fun _ => by kernel_rfl
  z37 := fun _ => by kernel_rfl
  v37 := fun _ => by kernel_rfl
  t70 := by kernel_rfl
  a70 := fun _ => by kernel_rfl
  z70 := fun _ => by kernel_rfl
  v70 := fun _ => by kernel_rfl
  t72 := by kernel_rfl
  a72 := fun _ => by kernel_rfl
  z72 := fun _ => by kernel_rfl
  v72 := fun _ => by kernel_rfl
  t75 := by kernel_rfl
  a75 := fun _ => by kernel_rfl
  z75 := fun _ => by kernel_rfl
  v75 := fun _ => by kernel_rfl
  t164 := by kernel_rfl
  a164 := fun _ => by kernel_rfl
  z164 := fun _ => by kernel_rfl
  v164 := fun _ => by kernel_rfl }

theorem lays169 : Lays.n169 Tryd.prog renB := {
  mixed := by kernel_rfl
  f169 := by kernel_rfl
  t0 := by kernel_rfl
  a0 := fun _ => by kernel_rfl
  z0 := fun _ => by kernel_rfl
  v0 := fun _ => by kernel_rfl
  t3 := by kernel_rfl
  a3 := fun _ => by kernel_rfl
  z3 := fun _ => by kernel_rfl
  v3 := fun _ => by kernel_rfl
  t9 := by kernel_rfl
  a9 := fun _ => by kernel_rfl
  z9 := fun _ => by kernel_rfl
  v9 := fun _ => by kernel_rfl
  t37 := by kernel_rfl
  a37 := fun _ => by kernel_rfl
  z37 := fun _ => by kernel_rfl
  v37 := fun _ => by kernel_rfl
  t70 := by kernel_rfl
  a70 := fun _ => by kernel_rfl
  z70 := fun _ => by kernel_rfl
  v70 := fun _ => by kernel_rfl
  t72 := by kernel_rfl
  a72 := fun _ => by kernel_rfl
  z72 := fun _ => by kernel_rfl
  v72 := fun _ => by kernel_rfl
  t127 := by kernel_rfl
  a127 := fun _ => by kernel_rfl
  z127 := fun _ => by kernel_rfl
  v127 := fun _ => by kernel_rfl }

theorem lays25 : LaysPu.n25 Tryd.prog renC := {
  mixed := by kernel_rfl
  f25 := by kernel_rfl
  t0 := by kernel_rfl
  a0 := fun _ => by kernel_rfl
  z0 := fun _ => by kernel_rfl
  v0 := fun _ => by kernel_rfl
  i0 := by kernel_rfl
  t3 := by kernel_rfl
  a3 := fun _ => by kernel_rfl
  z3 := fun _ => by kernel_rfl
  v3 := fun _ => by kernel_rfl
  i3 := by kernel_rfl
  t4 := by kernel_rfl
  a4 := fun _ => by kernel_rfl
  z4 := fun _ => by kernel_rfl
  v4 := fun _ => by kernel_rfl
  i4 := by kernel_rfl
  t5 := by kernel_rfl
  a5 := fun _ => by kernel_rfl
  z5 := fun _ => by kernel_rfl
  v5 := fun _ => by kernel_rfl
  i5 := by kernel_rfl
  t9 := by kernel_rfl
  a9 := fun _ => by kernel_rfl
  z9 := fun _ => by kernel_rfl
  v9 := fun _ => by kernel_rfl
  i9 := by kernel_rfl
  t37 := by kernel_rfl
  a37 := fun _ => by kernel_rfl
  z37 := fun _ => by kernel_rfl
  v37 := fun _ => by kernel_rfl
  i37 := by kernel_rfl
  t47 := by kernel_rfl
  a47 := fun _ => by kernel_rfl
  z47 := fun _ => by kernel_rfl
  v47 := fun _ => by kernel_rfl
  i47 := by kernel_rfl }

theorem extraB : Builder.Extra Tryd.prog renB := {
  sizeBuilder := by kernel_rfl
  liesBuilder := by kernel_rfl
  t5 := by kernel_rfl
  a5 := fun _ => by kernel_rfl
  z5 := fun _ => by kernel_rfl
  v5 := fun _ => by kernel_rfl
  infoByte := by kernel_rfl
  cellsByte := by kernel_rfl
  sizeByte := by kernel_rfl
  neB5 := by decide }

/-- (*strings.Builder).WriteByte -/
theorem writeByte (B b : Nat) (bs : List Value) (c : Int) (w : World) (h : Lib.IsBuilder 34 5 B b bs w) (hlen : bs.length + 1 ≤ 140737488355328) (hBw : B ≤ w.heap.size) :
    Calls Tryd.prog 18 #[.pointer (some ⟨b, 0, none⟩), .int .u8 c] w fun e w' => e = .returned .nilIface ∧ (Lib.IsBuilder 34 5 B b (bs ++ [.int .u8 c]) w' ∧ Below B w w') := by
  refine (show Calls Tryd.prog 18 #[.pointer (some ⟨b, 0, none⟩), .int .u8 c] w fun e w' => e = .returned .nilIface ∧ (Lib.BuilderAt 34 5 B b (.pointer (some ⟨b, 0, none⟩)) (bs ++ [.int .u8 c]) w' ∧ Below B w w') from Any.Builder_WriteByte lays167 extraB B b bs c w h hlen hBw).mono ?_
  rintro e w' ⟨rfl, h1, h2⟩
  exact ⟨rfl, Or.inr h1, h2⟩

/-- (*strings.Builder).String -/
theorem string_any (B b : Nat) (l : List UInt8) (w : World) (h : Lib.IsBuilder 34 5 B b (Lib.byteCells l) w) (hBw : B ≤ w.heap.size) :
    Calls Tryd.prog 19 #[.pointer (some ⟨b, 0, none⟩)] w fun e w' => e = .returned (.string ⟨l.toArray⟩) ∧ Below B w w' :=
  Any.Builder_String_any lays169 extraB B b l w h hBw

/-- internal/stringslite.Clone -/
theorem clone30 (s : ByteArray) (w : World) (hlim : s.size ≤ 281474976710656) :
    Calls Tryd.prog 30 #[.string s] w fun e w' => e = .returned (.string s) ∧ Below w.heap.size w w' :=
  AnyPu.stringslite_Clone lays25 s w hlim
end Go.Proofs.Qxb6617296aDoor
