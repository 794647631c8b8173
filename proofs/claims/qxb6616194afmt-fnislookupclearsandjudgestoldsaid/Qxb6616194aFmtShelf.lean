/- The shelf's contract of utf8.ValidString at this program, as the kit's tool lays it (plain words). -/
import Derived.Test.Qxb6616194aFmtProg
import Derived.Shelf.Unicode.ValidAny
namespace Go.Proofs
open Go.Shelf
def Tryf.lays196_ren : Go.Shelf.Ren := ⟨fun | 196 => 19 | 259 => 21 | n => n, fun | 9 => 9 | 4 => 4 | 3 => 3 | 5 => 5 | 12 => 12 | 119 => 82 | 0 => 0 | 46 => 86 | 139 => 85 | 138 => 84 | 53 => 28 | n => n, fun | 3 => 0 | 4 => 1 | n => n⟩
theorem Tryf.lays196 : Go.Proofs.Lays.n196 Tryf.prog Tryf.lays196_ren := {
  mixed := by kernel_rfl
  f196 := Tryf.func19.trans (congrArg some (by kernel_rfl))
  f259 := Tryf.func21.trans (congrArg some (by kernel_rfl))
  t0 := Tryf.underlying0
  a0 := Tryf.isAgg0
  z0 := Tryf.sizeOf0
  v0 := Tryf.zeroValue0
  t3 := Tryf.underlying3
  a3 := Tryf.isAgg3
  z3 := Tryf.sizeOf3
  v3 := Tryf.zeroValue3
  t4 := Tryf.underlying4
  a4 := Tryf.isAgg4
  z4 := Tryf.sizeOf4
  v4 := Tryf.zeroValue4
  t5 := Tryf.underlying5
  a5 := Tryf.isAgg5
  z5 := Tryf.sizeOf5
  v5 := Tryf.zeroValue5
  t9 := Tryf.underlying9
  a9 := Tryf.isAgg9
  z9 := Tryf.sizeOf9
  v9 := Tryf.zeroValue9
  t12 := Tryf.underlying12
  a12 := Tryf.isAgg12
  z12 := Tryf.sizeOf12
  v12 := Tryf.zeroValue12
  t46 := Tryf.underlying86
  a46 := Tryf.isAgg86
  z46 := Tryf.sizeOf86
  v46 := Tryf.zeroValue86
  t53 := Tryf.underlying28
  a53 := Tryf.isAgg28
  z53 := Tryf.sizeOf28
  v53 := Tryf.zeroValue28
  t119 := Tryf.underlying82
  a119 := Tryf.isAgg82
  z119 := Tryf.sizeOf82
  t138 := Tryf.underlying84
  a138 := Tryf.isAgg84
  z138 := Tryf.sizeOf84
  v138 := Tryf.zeroValue84
  t139 := Tryf.underlying85
  a139 := Tryf.isAgg85
  z139 := Tryf.sizeOf85
  v139 := Tryf.zeroValue85
  g3 := by kernel_rfl
  g4 := by kernel_rfl }
end Go.Proofs
