/-
  slices.Sort (64) and what it comes to, laid at this program (made by the kit's tool for this program).
-/
import Derived.Shelf.SortM.Plain
import Derived.Shelf.SortM.SortNone
import Derived.Test.Qxb6601448aRows
namespace Go.Proofs.Qxb6601448a
open Go.Shelf
def Try.sort_ren : Go.Shelf.Ren := ⟨fun | 6 => 64 | 8 => 69 | 9 => 68 | 19 => 79 | 20 => 80 | 21 => 70 | 22 => 71 | 23 => 72 | 24 => 73 | 25 => 74 | 26 => 75 | 27 => 76 | 28 => 77 | 29 => 78 | 36 => 81 | 31 => 82 | 32 => 83 | 37 => 84 | 38 => 85 | 39 => 86 | 41 => 87 | n => n, fun | 27 => 23 | 29 => 9 | 3 => 3 | 32 => 113 | 26 => 23 | 0 => 0 | 44 => 124 | 46 => 22 | 4 => 4 | 36 => 116 | 35 => 115 | 41 => 121 | 5 => 5 | 9 => 9 | 53 => 126 | 57 => 130 | 63 => 132 | 64 => 133 | n => n, fun | n => n⟩
theorem Try.sort : Go.Proofs.SlLaysM.n6 Try.prog Try.sort_ren := {
  mixed := by kernel_rfl
  f6 := ⟨Try.f64.name, by decide, Try.func64.trans (congrArg some (by kernel_rfl))⟩
  f8 := Try.func69.trans (congrArg some (by kernel_rfl))
  f9 := ⟨Try.f68.name, by decide, Try.func68.trans (congrArg some (by kernel_rfl))⟩
  f19 := Try.func79.trans (congrArg some (by kernel_rfl))
  f20 := Try.func80.trans (congrArg some (by kernel_rfl))
  f21 := ⟨Try.f70.name, by decide, Try.func70.trans (congrArg some (by kernel_rfl))⟩
  f22 := ⟨Try.f71.name, by decide, Try.func71.trans (congrArg some (by kernel_rfl))⟩
  f23 := ⟨Try.f72.name, by decide, Try.func72.trans (congrArg some (by kernel_rfl))⟩
  f24 := ⟨Try.f73.name, by decide, Try.func73.trans (congrArg some (by kernel_rfl))⟩
  f25 := ⟨Try.f74.name, by decide, Try.func74.trans (congrArg some (by kernel_rfl))⟩
  f26 := ⟨Try.f75.name, by decide, Try.func75.trans (congrArg some (by kernel_rfl))⟩
  f27 := ⟨Try.f76.name, by decide, Try.func76.trans (congrArg some (by kernel_rfl))⟩
  f28 := ⟨Try.f77.name, by decide, Try.func77.trans (congrArg some (by kernel_rfl))⟩
  f29 := ⟨Try.f78.name, by decide, Try.func78.trans (congrArg some (by kernel_rfl))⟩
  f31 := Try.func82.trans (congrArg some (by kernel_rfl))
  f32 := Try.func83.trans (congrArg some (by kernel_rfl))
  f36 := ⟨Try.f81.name, by decide, Try.func81.trans (congrArg some (by kernel_rfl))⟩
  f37 := ⟨Try.f84.name, by decide, Try.func84.trans (congrArg some (by kernel_rfl))⟩
  f38 := ⟨Try.f85.name, by decide, Try.func85.trans (congrArg some (by kernel_rfl))⟩
  f39 := ⟨Try.f86.name, by decide, Try.func86.trans (congrArg some (by kernel_rfl))⟩
  f41 := ⟨Try.f87.name, by decide, Try.func87.trans (congrArg some (by kernel_rfl))⟩
  t0 := Try.underlying0
  a0 := Try.isAgg0
  z0 := Try.sizeOf0
  v0 := Try.zeroValue0
  t3 := Try.underlying3
  a3 := Try.isAgg3
  z3 := Try.sizeOf3
  v3 := Try.zeroValue3
  t4 := Try.underlying4
  a4 := Try.isAgg4
  z4 := Try.sizeOf4
  v4 := Try.zeroValue4
  t5 := Try.underlying5
  a5 := Try.isAgg5
  z5 := Try.sizeOf5
  v5 := Try.zeroValue5
  t9 := Try.underlying9
  a9 := Try.isAgg9
  z9 := Try.sizeOf9
  v9 := Try.zeroValue9
  t26 := Try.underlying23
  a26 := Try.isAgg23
  z26 := Try.sizeOf23
  v26 := Try.zeroValue23
  t27 := Try.underlying23
  a27 := Try.isAgg23
  z27 := Try.sizeOf23
  v27 := Try.zeroValue23
  t29 := Try.underlying9
  a29 := Try.isAgg9
  z29 := Try.sizeOf9
  v29 := Try.zeroValue9
  t32 := Try.underlying113
  a32 := Try.isAgg113
  z32 := Try.sizeOf113
  v32 := Try.zeroValue113
  t35 := Try.underlying115
  a35 := Try.isAgg115
  z35 := Try.sizeOf115
  v35 := Try.zeroValue115
  t36 := Try.underlying116
  a36 := Try.isAgg116
  z36 := Try.sizeOf116
  v36 := Try.zeroValue116
  t41 := Try.underlying121
  a41 := Try.isAgg121
  z41 := Try.sizeOf121
  v41 := Try.zeroValue121
  t44 := Try.underlying124
  a44 := Try.isAgg124
  z44 := Try.sizeOf124
  v44 := Try.zeroValue124
  t46 := Try.underlying22
  a46 := Try.isAgg22
  z46 := Try.sizeOf22
  v46 := Try.zeroValue22
  t53 := Try.underlying126
  a53 := Try.isAgg126
  z53 := Try.sizeOf126
  v53 := Try.zeroValue126
  t57 := Try.underlying130
  a57 := Try.isAgg130
  z57 := Try.sizeOf130
  v57 := Try.zeroValue130
  t63 := Try.underlying132
  a63 := Try.isAgg132
  z63 := Try.sizeOf132
  v63 := Try.zeroValue132
  t64 := Try.underlying133
  a64 := Try.isAgg133
  z64 := Try.sizeOf133
  v64 := Try.zeroValue133 }
end Go.Proofs.Qxb6601448a
