/- Lays.n196 of the shelf, laid at this seat. PRINTED by wip/laysh.py. -/
import Derived.Test.YtjjhckbidcdkcaaDoorProg
import Derived.Shelf.Unicode.ValidAny
namespace Go.Proofs
open Go.Shelf
def Tryd.vs_ren : Go.Shelf.Ren := ⟨fun | 196 => 92 | 259 => 100 | n => n, fun | 9 => 9 | 4 => 4 | 3 => 3 | 5 => 5 | 12 => 12 | 119 => 165 | 0 => 0 | 46 => 149 | 139 => 168 | 138 => 167 | 53 => 22 | n => n, fun | 3 => 3 | 4 => 4 | n => n⟩
theorem Tryd.vs : Go.Proofs.Lays.n196 Tryd.prog Tryd.vs_ren := {
  mixed := by kernel_rfl
  f196 := Tryd.func92.trans (congrArg some (by kernel_rfl))
  f259 := Tryd.func100.trans (congrArg some (by kernel_rfl))
  t0 := Tryd.underlying0
  a0 := Tryd.isAgg0
  z0 := Tryd.sizeOf0
  v0 := Tryd.zeroValue0
  t3 := Tryd.underlying3
  a3 := Tryd.isAgg3
  z3 := Tryd.sizeOf3
  v3 := Tryd.zeroValue3
  t4 := Tryd.underlying4
  a4 := Tryd.isAgg4
  z4 := Tryd.sizeOf4
  v4 := Tryd.zeroValue4
  t5 := Tryd.underlying5
  a5 := Tryd.isAgg5
  z5 := Tryd.sizeOf5
  v5 := Tryd.zeroValue5
  t9 := Tryd.underlying9
  a9 := Tryd.isAgg9
  z9 := Tryd.sizeOf9
  v9 := Tryd.zeroValue9
  t12 := Tryd.underlying12
  a12 := Tryd.isAgg12
  z12 := Tryd.sizeOf12
  v12 := Tryd.zeroValue12
  t46 := Tryd.underlying149
  a46 := Tryd.isAgg149
  z46 := Tryd.sizeOf149
  v46 := Tryd.zeroValue149
  t53 := Tryd.underlying22
  a53 := Tryd.isAgg22
  z53 := Tryd.sizeOf22
  v53 := Tryd.zeroValue22
  t119 := Tryd.underlying165
  a119 := Tryd.isAgg165
  z119 := Tryd.sizeOf165
  t138 := Tryd.underlying167
  a138 := Tryd.isAgg167
  z138 := Tryd.sizeOf167
  v138 := Tryd.zeroValue167
  t139 := Tryd.underlying168
  a139 := Tryd.isAgg168
  z139 := Tryd.sizeOf168
  v139 := Tryd.zeroValue168
  g3 := by kernel_rfl
  g4 := by kernel_rfl }
end Go.Proofs
