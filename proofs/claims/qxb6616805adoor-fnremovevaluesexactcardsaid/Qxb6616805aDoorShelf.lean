/- The shelf's contract of strings.Join at this program, as the kit's tool lays it (plain words). -/
import Derived.Shelf.Strings.OnBuilder
import Derived.Test.Qxb6616805aDoorProg
namespace Go.Proofs
open Go.Shelf
def Tryd.lays156_ren : Go.Shelf.Ren := ⟨fun | 156 => 39 | 165 => 45 | 166 => 46 | 169 => 47 | 240 => 52 | 241 => 53 | 276 => 56 | 277 => 57 | n => n, fun | 31 => 45 | 9 => 9 | 3 => 3 | 4 => 4 | 0 => 0 | 20 => 20 | 72 => 70 | 76 => 74 | 70 => 68 | 37 => 23 | 75 => 73 | 127 => 87 | 164 => 97 | 5 => 5 | 80 => 76 | n => n, fun | n => n⟩
theorem Tryd.lays156 : Go.Proofs.Lays.n156 Tryd.prog Tryd.lays156_ren := {
  mixed := by kernel_rfl
  f156 := Tryd.func39.trans (congrArg some (by kernel_rfl))
  f165 := Tryd.func45.trans (congrArg some (by kernel_rfl))
  f166 := Tryd.func46.trans (congrArg some (by kernel_rfl))
  f169 := Tryd.func47.trans (congrArg some (by kernel_rfl))
  f240 := Tryd.func52.trans (congrArg some (by kernel_rfl))
  f241 := Tryd.func53.trans (congrArg some (by kernel_rfl))
  f276 := Tryd.func56.trans (congrArg some (by kernel_rfl))
  f277 := Tryd.func57.trans (congrArg some (by kernel_rfl))
  t0 := Tryd.underlying0
  a0 := Tryd.isAgg0
  z0 := Tryd.sizeOf0
  v0 := Tryd.zeroValue0
  t3 := Tryd.underlying3
  a3 := Tryd.isAgg3
  z3 := Tryd.sizeOf3
  v3 := Tryd.zeroValue3
  t4 := Tryd.underlying4
  a4 := Tryd.isAgg4
  z4 := Tryd.sizeOf4
  v4 := Tryd.zeroValue4
  t9 := Tryd.underlying9
  a9 := Tryd.isAgg9
  z9 := Tryd.sizeOf9
  v9 := Tryd.zeroValue9
  t20 := Tryd.underlying20
  a20 := Tryd.isAgg20
  z20 := Tryd.sizeOf20
  v20 := Tryd.zeroValue20
  t31 := Tryd.underlying45
  a31 := Tryd.isAgg45
  z31 := Tryd.sizeOf45
  v31 := Tryd.zeroValue45
  t37 := Tryd.underlying23
  a37 := Tryd.isAgg23
  z37 := Tryd.sizeOf23
  v37 := Tryd.zeroValue23
  t70 := Tryd.underlying68
  a70 := Tryd.isAgg68
  z70 := Tryd.sizeOf68
  v70 := Tryd.zeroValue68
  t72 := Tryd.underlying70
  a72 := Tryd.isAgg70
  z72 := Tryd.sizeOf70
  v72 := Tryd.zeroValue70
  t75 := Tryd.underlying73
  a75 := Tryd.isAgg73
  z75 := Tryd.sizeOf73
  v75 := Tryd.zeroValue73
  t76 := Tryd.underlying74
  a76 := Tryd.isAgg74
  z76 := Tryd.sizeOf74
  v76 := Tryd.zeroValue74
  t127 := Tryd.underlying87
  a127 := Tryd.isAgg87
  z127 := Tryd.sizeOf87
  v127 := Tryd.zeroValue87
  t164 := Tryd.underlying97
  a164 := Tryd.isAgg97
  z164 := Tryd.sizeOf97
  v164 := Tryd.zeroValue97 }
theorem Tryd.Builder_Extra_156 : Builder.Extra Tryd.prog Tryd.lays156_ren := {
  sizeBuilder := by kernel_rfl
  liesBuilder := by kernel_rfl
  t5 := Tryd.underlying5
  a5 := Tryd.isAgg5
  z5 := Tryd.sizeOf5
  v5 := Tryd.zeroValue5
  infoByte := by kernel_rfl
  cellsByte := by kernel_rfl
  sizeByte := by kernel_rfl
  neB5 := by decide }
open Go.RowKit in
theorem Tryd.strings_Join_none (a : Option Addr) (c : Nat) (sep : ByteArray) (w : World) :
    Calls Tryd.prog 39 #[.slice a 0 c, .string sep] w fun e w' => e = .returned (.string ⟨#[]⟩) ∧ w' = w := Any.strings_Join_none Tryd.lays156 Tryd.Builder_Extra_156 a c sep w
open Go.RowKit in
theorem Tryd.strings_Join (bk o c : Nat) (xs : List ByteArray) (sep : ByteArray) (w : World) (hcells : ∀ (j : Nat) x, xs[j]? = some x → w.cell? ⟨bk, o + j, none⟩ = some (.string x)) (hbk : bk < w.heap.size) (hN : xs.length ≤ 140737488355328) (hcap : xs.length ≤ c) (hlen : (Lib.join (xs.map (·.data.toList)) sep.data.toList).length ≤ 140737488355328) :
    Calls Tryd.prog 39 #[.slice (some ⟨bk, o, none⟩) xs.length c, .string sep] w fun e w' => e = .returned (.string ⟨(Lib.join (xs.map (·.data.toList)) sep.data.toList).toArray⟩) ∧ Below w.heap.size w w' := Any.strings_Join Tryd.lays156 Tryd.Builder_Extra_156 bk o c xs sep w hcells hbk hN hcap hlen
end Go.Proofs
