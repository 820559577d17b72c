/-
  The contracts of strings.Builder's WriteString and String (proved once in the library) hold of this program. No condition.
-/
import Derived.Shelf.Strings.Builder1
import Derived.Test.YtilfkdklefloeaaDoorProg
namespace Go.Proofs.YtilfkdklefloeaaDoor
open Go Go.Proofs Go.Shelf

def ren : Go.Shelf.Ren := ⟨fun | 166 => 9 | 169 => 10 | 240 => 11 | 276 => 12 | n => n, fun | 70 => 28 | 9 => 9 | 0 => 0 | 72 => 31 | 37 => 29 | 127 => 37 | 3 => 3 | 4 => 4 | 5 => 5 | 20 => 20 | 75 => 33 | 80 => 36 | 164 => 38 | n => n, fun | n => n⟩

theorem lays169 : Go.Proofs.Lays.n169 Tryd.prog ren := {
  mixed := by kernel_rfl
  f169 := Tryd.func10.trans (congrArg some (by kernel_rfl))
  t0 := Tryd.underlying0
  a0 := Tryd.isAgg0
  z0 := Tryd.sizeOf0
  v0 := Tryd.zeroValue0
  t3 := Tryd.underlying3
  a3 := Tryd.isAgg3
  z3 := Tryd.sizeOf3
  v3 := Tryd.zeroValue3
  t9 := Tryd.underlying9
  a9 := Tryd.isAgg9
  z9 := Tryd.sizeOf9
  v9 := Tryd.zeroValue9
  t37 := Tryd.underlying29
  a37 := Tryd.isAgg29
  z37 := Tryd.sizeOf29
  v37 := Tryd.zeroValue29
  t70 := Tryd.underlying28
  a70 := Tryd.isAgg28
  z70 := Tryd.sizeOf28
  v70 := Tryd.zeroValue28
  t72 := Tryd.underlying31
  a72 := Tryd.isAgg31
  z72 := Tryd.sizeOf31
  v72 := Tryd.zeroValue31
  t127 := Tryd.underlying37
  a127 := Tryd.isAgg37
  z127 := Tryd.sizeOf37
  v127 := Tryd.zeroValue37 }

theorem lays166 : Go.Proofs.Lays.n166 Tryd.prog ren := {
  mixed := by kernel_rfl
  f166 := Tryd.func9.trans (congrArg some (by kernel_rfl))
  f240 := Tryd.func11.trans (congrArg some (by kernel_rfl))
  f276 := Tryd.func12.trans (congrArg some (by kernel_rfl))
  t0 := Tryd.underlying0
  a0 := Tryd.isAgg0
  z0 := Tryd.sizeOf0
  v0 := Tryd.zeroValue0
  t3 := Tryd.underlying3
  a3 := Tryd.isAgg3
  z3 := Tryd.sizeOf3
  v3 := Tryd.zeroValue3
  t4 := Tryd.underlying4
  a4 := Tryd.isAgg4
  z4 := Tryd.sizeOf4
  v4 := Tryd.zeroValue4
  t9 := Tryd.underlying9
  a9 := Tryd.isAgg9
  z9 := Tryd.sizeOf9
  v9 := Tryd.zeroValue9
  t20 := Tryd.underlying20
  a20 := Tryd.isAgg20
  z20 := Tryd.sizeOf20
  v20 := Tryd.zeroValue20
  t37 := Tryd.underlying29
  a37 := Tryd.isAgg29
  z37 := Tryd.sizeOf29
  v37 := Tryd.zeroValue29
  t70 := Tryd.underlying28
  a70 := Tryd.isAgg28
  z70 := Tryd.sizeOf28
  v70 := Tryd.zeroValue28
  t72 := Tryd.underlying31
  a72 := Tryd.isAgg31
  z72 := Tryd.sizeOf31
  v72 := Tryd.zeroValue31
  t75 := Tryd.underlying33
  a75 := Tryd.isAgg33
  z75 := Tryd.sizeOf33
  v75 := Tryd.zeroValue33
  t164 := Tryd.underlying38
  a164 := Tryd.isAgg38
  z164 := Tryd.sizeOf38
  v164 := Tryd.zeroValue38 }

theorem extra : Builder.Extra Tryd.prog ren := {
  sizeBuilder := by kernel_rfl
  liesBuilder := by kernel_rfl
  t5 := Tryd.underlying5
  a5 := Tryd.isAgg5
  z5 := Tryd.sizeOf5
  v5 := Tryd.zeroValue5
  infoByte := by kernel_rfl
  cellsByte := by kernel_rfl
  sizeByte := by kernel_rfl
  neB5 := by decide }

open Go.RowKit in
theorem writeString (B b : Nat) (bs : List Value) (s : ByteArray) (w : World) (h : Lib.IsBuilder 31 5 B b bs w) (hlen : bs.length + s.size ≤ 140737488355328) (hBw : B ≤ w.heap.size) :
    Calls Tryd.prog 9 #[.pointer (some ⟨b, 0, none⟩), .string s] w fun e w' => e = .returned (.tuple #[.int .i64 s.size, .nilIface]) ∧ (Lib.BuilderAt 31 5 B b (.pointer (some ⟨b, 0, none⟩)) (bs ++ Lib.strCells s) w' ∧ Below B w w') := Any.Builder_WriteString lays166 extra B b bs s w h hlen hBw
open Go.RowKit in
theorem stringAny (B b : Nat) (l : List UInt8) (w : World) (h : Lib.IsBuilder 31 5 B b (Lib.byteCells l) w) (hBw : B ≤ w.heap.size) :
    Calls Tryd.prog 10 #[.pointer (some ⟨b, 0, none⟩)] w fun e w' => e = .returned (.string ⟨l.toArray⟩) ∧ Below B w w' := Any.Builder_String_any lays169 extra B b l w h hBw
end Go.Proofs.YtilfkdklefloeaaDoor
