/- A part of the proof of this claim: lemmas of its own; what is proved, and on what conditions, the last text says. -/
import Derived.Test.YtfpckklhljbelaaGreatDoorPre
import Derived.Shelf.Spec.DecodeRune
open Go.Shelf
namespace Go.Proofs
set_option linter.all false
/-- Where the library's own numbers lie in this program. -/
def Tryz.renDec : Shelf.Ren := ⟨fun | 32 => 28 | 49 => 37 | n => n, fun | 30 => 26 | 21 => 21 | 3 => 3 | 0 => 0 | 5 => 5 | 4 => 4 | 33 => 76 | 66 => 95 | 25 => 96 | 69 => 99 | 68 => 98 | n => n, fun | 2 => 0 | 3 => 1 | n => n⟩
set_option maxRecDepth 100000 in
theorem Tryz.layDec : Lays7.n32 Tryz.prog Tryz.renDec where
  mixed := by kernel_rfl
  f32 := Tryz.func28.trans (congrArg some (by kernel_rfl))
  f49 := Tryz.func37.trans (congrArg some (by kernel_rfl))
  t0 := Tryz.underlying0
  a0 := Tryz.isAgg0
  z0 := Tryz.sizeOf0
  v0 := Tryz.zeroValue0
  i0 := by kernel_rfl
  t3 := Tryz.underlying3
  a3 := Tryz.isAgg3
  z3 := Tryz.sizeOf3
  v3 := Tryz.zeroValue3
  i3 := by kernel_rfl
  t4 := Tryz.underlying4
  a4 := Tryz.isAgg4
  z4 := Tryz.sizeOf4
  v4 := Tryz.zeroValue4
  i4 := by kernel_rfl
  t5 := Tryz.underlying5
  a5 := Tryz.isAgg5
  z5 := Tryz.sizeOf5
  v5 := Tryz.zeroValue5
  i5 := by kernel_rfl
  t21 := Tryz.underlying21
  a21 := Tryz.isAgg21
  z21 := Tryz.sizeOf21
  v21 := Tryz.zeroValue21
  i21 := by kernel_rfl
  t25 := Tryz.underlying96
  a25 := Tryz.isAgg96
  z25 := Tryz.sizeOf96
  v25 := Tryz.zeroValue96
  i25 := by kernel_rfl
  t30 := Tryz.underlying26
  a30 := Tryz.isAgg26
  z30 := Tryz.sizeOf26
  v30 := Tryz.zeroValue26
  i30 := by kernel_rfl
  t33 := Tryz.underlying76
  a33 := Tryz.isAgg76
  z33 := Tryz.sizeOf76
  v33 := Tryz.zeroValue76
  i33 := by kernel_rfl
  t66 := Tryz.underlying95
  a66 := Tryz.isAgg95
  z66 := Tryz.sizeOf95
  t68 := Tryz.underlying98
  a68 := Tryz.isAgg98
  z68 := Tryz.sizeOf98
  v68 := Tryz.zeroValue98
  i68 := by kernel_rfl
  t69 := Tryz.underlying99
  a69 := Tryz.isAgg99
  z69 := Tryz.sizeOf99
  v69 := Tryz.zeroValue99
  i69 := by kernel_rfl
  g2 := by kernel_rfl
  g3 := by kernel_rfl
end Go.Proofs
