/- The Builder's methods at this program, by the shelf's contracts. -/
import Derived.Test.YtolamblmfejhoaaDoorShelf
namespace Go.Proofs.YtolamblmfejhoaaDoor
open Go.Shelf Go.RowKit
set_option linter.unusedVariables false

/-- Where the Builder's functions and types stand in this program. -/
def bren : Go.Shelf.Ren := ⟨fun | 165 => 49 | 166 => 38 | 169 => 35 | 240 => 55 | 241 => 64 | 276 => 65 | 277 => 73 | n => n, fun | 0 => 0 | 3 => 3 | 4 => 4 | 5 => 5 | 9 => 9 | 20 => 20 | 37 => 37 | 70 => 41 | 72 => 43 | 75 => 49 | 80 => 45 | 164 => 78 | n => n, fun | n => n⟩
theorem lays240 : Lays.n240 Tryd.prog bren := {
  mixed := by kernel_rfl
  f240 := Tryd.func55.trans (congrArg some (by kernel_rfl))
  f276 := Tryd.func65.trans (congrArg some (by kernel_rfl))
  t0 := Tryd.underlying0
  a0 := Tryd.isAgg0
  z0 := Tryd.sizeOf0
  v0 := Tryd.zeroValue0
  t4 := Tryd.underlying4
  a4 := Tryd.isAgg4
  z4 := Tryd.sizeOf4
  v4 := Tryd.zeroValue4
  t9 := Tryd.underlying9
  a9 := Tryd.isAgg9
  z9 := Tryd.sizeOf9
  v9 := Tryd.zeroValue9
  t20 := Tryd.underlying20
  a20 := Tryd.isAgg20
  z20 := Tryd.sizeOf20
  v20 := Tryd.zeroValue20
  t70 := Tryd.underlying41
  a70 := Tryd.isAgg41
  z70 := Tryd.sizeOf41
  v70 := Tryd.zeroValue41
  t72 := Tryd.underlying43
  a72 := Tryd.isAgg43
  z72 := Tryd.sizeOf43
  v72 := Tryd.zeroValue43
  t164 := Tryd.underlying78
  a164 := Tryd.isAgg78
  z164 := Tryd.sizeOf78
  v164 := Tryd.zeroValue78 }
theorem lays166 : Lays.n166 Tryd.prog bren := {
  mixed := by kernel_rfl
  f166 := Tryd.func38.trans (congrArg some (by kernel_rfl))
  f240 := Tryd.func55.trans (congrArg some (by kernel_rfl))
  f276 := Tryd.func65.trans (congrArg some (by kernel_rfl))
  t0 := Tryd.underlying0
  a0 := Tryd.isAgg0
  z0 := Tryd.sizeOf0
  v0 := Tryd.zeroValue0
  t3 := Tryd.underlying3
  a3 := Tryd.isAgg3
  z3 := Tryd.sizeOf3
  v3 := Tryd.zeroValue3
  t4 := Tryd.underlying4
  a4 := Tryd.isAgg4
  z4 := Tryd.sizeOf4
  v4 := Tryd.zeroValue4
  t9 := Tryd.underlying9
  a9 := Tryd.isAgg9
  z9 := Tryd.sizeOf9
  v9 := Tryd.zeroValue9
  t20 := Tryd.underlying20
  a20 := Tryd.isAgg20
  z20 := Tryd.sizeOf20
  v20 := Tryd.zeroValue20
  t37 := Tryd.underlying37
  a37 := Tryd.isAgg37
  z37 := Tryd.sizeOf37
  v37 := Tryd.zeroValue37
  t70 := Tryd.underlying41
  a70 := Tryd.isAgg41
  z70 := Tryd.sizeOf41
  v70 := Tryd.zeroValue41
  t72 := Tryd.underlying43
  a72 := Tryd.isAgg43
  z72 := Tryd.sizeOf43
  v72 := Tryd.zeroValue43
  t75 := Tryd.underlying49
  a75 := Tryd.isAgg49
  z75 := Tryd.sizeOf49
  v75 := Tryd.zeroValue49
  t164 := Tryd.underlying78
  a164 := Tryd.isAgg78
  z164 := Tryd.sizeOf78
  v164 := Tryd.zeroValue78 }
theorem bextra : Builder.Extra Tryd.prog bren := {
  sizeBuilder := by kernel_rfl
  liesBuilder := by kernel_rfl
  t5 := Tryd.underlying5
  a5 := Tryd.isAgg5
  z5 := Tryd.sizeOf5
  v5 := Tryd.zeroValue5
  infoByte := by kernel_rfl
  cellsByte := by kernel_rfl
  sizeByte := by kernel_rfl
  neB5 := by decide }

theorem writeString_k (B b : Nat) (bs : List Value) (s : ByteArray) (w : World) (h : Lib.IsBuilderF 43 5 B b bs w) (hlen : bs.length + s.size ≤ 140737488355328) (hBw : B ≤ w.heap.size) :
    Calls Tryd.prog 38 #[.pointer (some ⟨b, 0, none⟩), .string s] w fun e w' => e = .returned (.tuple #[.int .i64 s.size, .nilIface]) ∧ (Lib.BuilderAtF 43 5 B b (.pointer (some ⟨b, 0, none⟩)) (bs ++ Lib.strCells s) w' ∧ Below B w w' ∧ Lib.OthersKept 5 (some b) w w') :=
  Any.Builder_WriteString_k lays166 bextra B b bs s w h hlen hBw

end Go.Proofs.YtolamblmfejhoaaDoor
