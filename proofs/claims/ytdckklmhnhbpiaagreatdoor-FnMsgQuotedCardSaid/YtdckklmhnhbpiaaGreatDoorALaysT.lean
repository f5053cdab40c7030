/-
  Contracts of Go's library at the numbers of this seat: written by the shelf's tool in plain words.
-/
import Derived.Shelf.Bytes.SlTrim
import Derived.Test.YtdckklmhnhbpiaaGreatDoorProg
namespace Go.Proofs
open Go.Shelf
def Tryz.laysv8_ren : Go.Shelf.Ren := ⟨fun | 8 => 47 | 9 => 79 | 11 => 80 | 12 => 81 | 14 => 82 | 16 => 116 | 17 => 44 | 18 => 117 | 20 => 76 | n => n, fun | 22 => 24 | 9 => 9 | 3 => 3 | 4 => 4 | 5 => 5 | 28 => 146 | 27 => 145 | 0 => 0 | 31 => 149 | 33 => 92 | 21 => 21 | 36 => 160 | 37 => 139 | 40 => 163 | 39 => 162 | n => n, fun | 0 => 4 | 1 => 5 | n => n⟩
theorem Tryz.laysv8 : Go.Proofs.SlLaysV.n8 Tryz.prog Tryz.laysv8_ren := {
  mixed := by kernel_rfl
  f8 := Tryz.func47.trans (congrArg some (by kernel_rfl))
  f9 := Tryz.func79.trans (congrArg some (by kernel_rfl))
  f11 := Tryz.func80.trans (congrArg some (by kernel_rfl))
  f12 := Tryz.func81.trans (congrArg some (by kernel_rfl))
  f14 := Tryz.func82.trans (congrArg some (by kernel_rfl))
  f16 := Tryz.func116.trans (congrArg some (by kernel_rfl))
  f17 := Tryz.func44.trans (congrArg some (by kernel_rfl))
  f18 := Tryz.func117.trans (congrArg some (by kernel_rfl))
  f20 := Tryz.func76.trans (congrArg some (by kernel_rfl))
  t0 := Tryz.underlying0
  a0 := Tryz.isAgg0
  z0 := Tryz.sizeOf0
  v0 := Tryz.zeroValue0
  t3 := Tryz.underlying3
  a3 := Tryz.isAgg3
  z3 := Tryz.sizeOf3
  v3 := Tryz.zeroValue3
  t4 := Tryz.underlying4
  a4 := Tryz.isAgg4
  z4 := Tryz.sizeOf4
  v4 := Tryz.zeroValue4
  t5 := Tryz.underlying5
  a5 := Tryz.isAgg5
  z5 := Tryz.sizeOf5
  v5 := Tryz.zeroValue5
  t9 := Tryz.underlying9
  a9 := Tryz.isAgg9
  z9 := Tryz.sizeOf9
  v9 := Tryz.zeroValue9
  t21 := Tryz.underlying21
  a21 := Tryz.isAgg21
  z21 := Tryz.sizeOf21
  v21 := Tryz.zeroValue21
  t22 := Tryz.underlying24
  a22 := Tryz.isAgg24
  z22 := Tryz.sizeOf24
  v22 := Tryz.zeroValue24
  t27 := Tryz.underlying145
  a27 := Tryz.isAgg145
  z27 := Tryz.sizeOf145
  t28 := Tryz.underlying146
  a28 := Tryz.isAgg146
  z28 := Tryz.sizeOf146
  v28 := Tryz.zeroValue146
  t31 := Tryz.underlying149
  a31 := Tryz.isAgg149
  z31 := Tryz.sizeOf149
  v31 := Tryz.zeroValue149
  t33 := Tryz.underlying92
  a33 := Tryz.isAgg92
  z33 := Tryz.sizeOf92
  v33 := Tryz.zeroValue92
  t36 := Tryz.underlying160
  a36 := Tryz.isAgg160
  z36 := Tryz.sizeOf160
  t37 := Tryz.underlying139
  a37 := Tryz.isAgg139
  z37 := Tryz.sizeOf139
  v37 := Tryz.zeroValue139
  t39 := Tryz.underlying162
  a39 := Tryz.isAgg162
  z39 := Tryz.sizeOf162
  v39 := Tryz.zeroValue162
  t40 := Tryz.underlying163
  a40 := Tryz.isAgg163
  z40 := Tryz.sizeOf163
  v40 := Tryz.zeroValue163 }
end Go.Proofs
