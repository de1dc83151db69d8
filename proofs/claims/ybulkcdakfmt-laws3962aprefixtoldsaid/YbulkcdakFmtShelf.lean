import Derived.Shelf.Strings.Builder1
import Derived.Test.YbulkcdakFmtProg
namespace Go.Proofs
open Go.Shelf
def Ybaf.lays169_ren : Go.Shelf.Ren := ⟨fun | 169 => 11 | n => n, fun | 70 => 28 | 9 => 9 | 0 => 0 | 72 => 30 | 37 => 22 | 127 => 42 | 3 => 3 | 5 => 5 | n => n, fun | n => n⟩
theorem Ybaf.lays169 : Go.Proofs.Lays.n169 Ybaf.prog Ybaf.lays169_ren := {
  mixed := by kernel_rfl
  f169 := Ybaf.func11.trans (congrArg some (by kernel_rfl))
  t0 := Ybaf.underlying0
  a0 := Ybaf.isAgg0
  z0 := Ybaf.sizeOf0
  v0 := Ybaf.zeroValue0
  t3 := Ybaf.underlying3
  a3 := Ybaf.isAgg3
  z3 := Ybaf.sizeOf3
  v3 := Ybaf.zeroValue3
  t9 := Ybaf.underlying9
  a9 := Ybaf.isAgg9
  z9 := Ybaf.sizeOf9
  v9 := Ybaf.zeroValue9
  t37 := Ybaf.underlying22
  a37 := Ybaf.isAgg22
  z37 := Ybaf.sizeOf22
  v37 := Ybaf.zeroValue22
  t70 := Ybaf.underlying28
  a70 := Ybaf.isAgg28
  z70 := Ybaf.sizeOf28
  v70 := Ybaf.zeroValue28
  t72 := Ybaf.underlying30
  a72 := Ybaf.isAgg30
  z72 := Ybaf.sizeOf30
  v72 := Ybaf.zeroValue30
  t127 := Ybaf.underlying42
  a127 := Ybaf.isAgg42
  z127 := Ybaf.sizeOf42
  v127 := Ybaf.zeroValue42 }
theorem Ybaf.Builder_Extra_169 : Builder.Extra Ybaf.prog Ybaf.lays169_ren := {
  sizeBuilder := by kernel_rfl
  liesBuilder := by kernel_rfl
  t5 := Ybaf.underlying5
  a5 := Ybaf.isAgg5
  z5 := Ybaf.sizeOf5
  v5 := Ybaf.zeroValue5
  infoByte := by kernel_rfl
  cellsByte := by kernel_rfl
  sizeByte := by kernel_rfl
  neB5 := by decide }
open Go.RowKit in
theorem Ybaf.Builder_String (B b : Nat) (l : List UInt8) (w : World) (h : Lib.IsBuilder 30 5 B b (Lib.byteCells l) w) (h0 : l ≠ []) :
    Calls Ybaf.prog 11 #[.pointer (some ⟨b, 0, none⟩)] w fun e w' => e = .returned (.string ⟨l.toArray⟩) ∧ Below B w w' := Any.Builder_String Ybaf.lays169 Ybaf.Builder_Extra_169 B b l w h h0
open Go.RowKit in
theorem Ybaf.Builder_String_empty (B b : Nat) (w : World) (h : Lib.IsBuilder 30 5 B b [] w) (hBw : B ≤ w.heap.size) :
    Calls Ybaf.prog 11 #[.pointer (some ⟨b, 0, none⟩)] w fun e w' => e = .returned (.string ⟨#[]⟩) ∧ Below B w w' := Any.Builder_String_empty Ybaf.lays169 Ybaf.Builder_Extra_169 B b w h hBw
open Go.RowKit in
theorem Ybaf.Builder_String_any (B b : Nat) (l : List UInt8) (w : World) (h : Lib.IsBuilder 30 5 B b (Lib.byteCells l) w) (hBw : B ≤ w.heap.size) :
    Calls Ybaf.prog 11 #[.pointer (some ⟨b, 0, none⟩)] w fun e w' => e = .returned (.string ⟨l.toArray⟩) ∧ Below B w w' := Any.Builder_String_any Ybaf.lays169 Ybaf.Builder_Extra_169 B b l w h hBw
end Go.Proofs
