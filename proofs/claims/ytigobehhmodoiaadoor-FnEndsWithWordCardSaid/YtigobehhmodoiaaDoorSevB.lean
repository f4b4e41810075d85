/- The library's contract of bytes.Map at this translation, laid by the kit's own tool (its plain mode). -/
import Derived.Shelf.Spec.BytesMap
import Derived.Ground.Names7Prog
import Derived.Test.YtigobehhmodoiaaDoorProg
namespace Go.Proofs
open Go.Shelf
def Tryd.sev45_ren : Go.Shelf.Ren := ⟨fun | 45 => 117 | 32 => 93 | 57 => 130 | 49 => 115 | 63 => 137 | n => n, fun | 35 => 84 | 30 => 34 | 3 => 3 | 4 => 4 | 33 => 53 | 21 => 21 | 0 => 0 | 5 => 5 | 27 => 81 | 66 => 89 | 25 => 41 | 69 => 92 | 68 => 91 | n => n, fun | 2 => 1 | 3 => 2 | n => n⟩
theorem Tryd.sev45 : Go.Proofs.Lays7.n45 Tryd.prog Tryd.sev45_ren := {
  mixed := by kernel_rfl
  f32 := Tryd.func93.trans (congrArg some (by kernel_rfl))
  f45 := Tryd.func117.trans (congrArg some (by kernel_rfl))
  f49 := Tryd.func115.trans (congrArg some (by kernel_rfl))
  f57 := Tryd.func130.trans (congrArg some (by kernel_rfl))
  f63 := Tryd.func137.trans (congrArg some (by kernel_rfl))
  t0 := Tryd.underlying0
  a0 := Tryd.isAgg0
  z0 := Tryd.sizeOf0
  v0 := Tryd.zeroValue0
  i0 := by kernel_rfl
  t3 := Tryd.underlying3
  a3 := Tryd.isAgg3
  z3 := Tryd.sizeOf3
  v3 := Tryd.zeroValue3
  i3 := by kernel_rfl
  t4 := Tryd.underlying4
  a4 := Tryd.isAgg4
  z4 := Tryd.sizeOf4
  v4 := Tryd.zeroValue4
  i4 := by kernel_rfl
  t5 := Tryd.underlying5
  a5 := Tryd.isAgg5
  z5 := Tryd.sizeOf5
  v5 := Tryd.zeroValue5
  i5 := by kernel_rfl
  t21 := Tryd.underlying21
  a21 := Tryd.isAgg21
  z21 := Tryd.sizeOf21
  v21 := Tryd.zeroValue21
  i21 := by kernel_rfl
  t25 := Tryd.underlying41
  a25 := Tryd.isAgg41
  z25 := Tryd.sizeOf41
  v25 := Tryd.zeroValue41
  i25 := by kernel_rfl
  t27 := Tryd.underlying81
  a27 := Tryd.isAgg81
  z27 := Tryd.sizeOf81
  v27 := Tryd.zeroValue81
  i27 := by kernel_rfl
  t30 := Tryd.underlying34
  a30 := Tryd.isAgg34
  z30 := Tryd.sizeOf34
  v30 := Tryd.zeroValue34
  i30 := by kernel_rfl
  t33 := Tryd.underlying53
  a33 := Tryd.isAgg53
  z33 := Tryd.sizeOf53
  v33 := Tryd.zeroValue53
  i33 := by kernel_rfl
  t35 := Tryd.underlying84
  a35 := Tryd.isAgg84
  z35 := Tryd.sizeOf84
  v35 := Tryd.zeroValue84
  i35 := by kernel_rfl
  t66 := Tryd.underlying89
  a66 := Tryd.isAgg89
  z66 := Tryd.sizeOf89
  t68 := Tryd.underlying91
  a68 := Tryd.isAgg91
  z68 := Tryd.sizeOf91
  v68 := Tryd.zeroValue91
  i68 := by kernel_rfl
  t69 := Tryd.underlying92
  a69 := Tryd.isAgg92
  z69 := Tryd.sizeOf92
  v69 := Tryd.zeroValue92
  i69 := by kernel_rfl
  g2 := by kernel_rfl
  g3 := by kernel_rfl }
end Go.Proofs
