/- The shelf's contracts at this program, as the kit's tool lays them (plain words), and four layings by hand (the type 20, which no body names). -/
import Derived.Shelf.Strings.Builder1
import Derived.Shelf.Small.Utf8
import Derived.Shelf.Small.Strs
import Derived.Shelf.Strings.BuilderK
import Derived.Shelf.Strings.BuilderRune
import Derived.Shelf.Utf8.AppendRune
import Derived.Shelf.Strconv.IsPrint32
import Derived.Shelf.Strings.Prefix
import Derived.Shelf.Unicode.DecodeAny
import Derived.Test.Qxb6616712aFmtProg
namespace Go.Proofs
open Go.Shelf
def Tryf.lays169_ren : Go.Shelf.Ren := ⟨fun | 169 => 50 | n => n, fun | 70 => 53 | 9 => 9 | 0 => 0 | 72 => 55 | 37 => 35 | 127 => 72 | 3 => 3 | 5 => 5 | n => n, fun | n => n⟩
theorem Tryf.lays169 : Go.Proofs.Lays.n169 Tryf.prog Tryf.lays169_ren := {
  mixed := by kernel_rfl
  f169 := Tryf.func50.trans (congrArg some (by kernel_rfl))
  t0 := Tryf.underlying0
  a0 := Tryf.isAgg0
  z0 := Tryf.sizeOf0
  v0 := Tryf.zeroValue0
  t3 := Tryf.underlying3
  a3 := Tryf.isAgg3
  z3 := Tryf.sizeOf3
  v3 := Tryf.zeroValue3
  t9 := Tryf.underlying9
  a9 := Tryf.isAgg9
  z9 := Tryf.sizeOf9
  v9 := Tryf.zeroValue9
  t37 := Tryf.underlying35
  a37 := Tryf.isAgg35
  z37 := Tryf.sizeOf35
  v37 := Tryf.zeroValue35
  t70 := Tryf.underlying53
  a70 := Tryf.isAgg53
  z70 := Tryf.sizeOf53
  v70 := Tryf.zeroValue53
  t72 := Tryf.underlying55
  a72 := Tryf.isAgg55
  z72 := Tryf.sizeOf55
  v72 := Tryf.zeroValue55
  t127 := Tryf.underlying72
  a127 := Tryf.isAgg72
  z127 := Tryf.sizeOf72
  v127 := Tryf.zeroValue72 }
theorem Tryf.Builder_Extra_169 : Builder.Extra Tryf.prog Tryf.lays169_ren := {
  sizeBuilder := by kernel_rfl
  liesBuilder := by kernel_rfl
  t5 := Tryf.underlying5
  a5 := Tryf.isAgg5
  z5 := Tryf.sizeOf5
  v5 := Tryf.zeroValue5
  infoByte := by kernel_rfl
  cellsByte := by kernel_rfl
  sizeByte := by kernel_rfl
  neB5 := by decide }
def Tryf.lays119_ren : Go.Shelf.Ren := ⟨fun | 119 => 69 | n => n, fun | 21 => 21 | 4 => 4 | n => n, fun | n => n⟩
theorem Tryf.lays119 : Go.Proofs.Lays.n119 Tryf.prog Tryf.lays119_ren := {
  mixed := by kernel_rfl
  f119 := Tryf.func69.trans (congrArg some (by kernel_rfl))
  t4 := Tryf.underlying4
  a4 := Tryf.isAgg4
  z4 := Tryf.sizeOf4
  v4 := Tryf.zeroValue4
  t21 := Tryf.underlying21
  a21 := Tryf.isAgg21
  z21 := Tryf.sizeOf21
  v21 := Tryf.zeroValue21 }
theorem Tryf.utf8_ValidRune (r : Int) (w : World) :
    Calls Tryf.prog 69 #[.int .i32 r] w fun e w' => e = .returned (.bool (Lib.validRune r)) ∧ w' = w := Any.utf8_ValidRune Tryf.lays119 r w
def Tryf.lays137_ren : Go.Shelf.Ren := ⟨fun | 137 => 52 | 217 => 62 | 266 => 67 | n => n, fun | 9 => 9 | 5 => 5 | 3 => 3 | n => n, fun | n => n⟩
theorem Tryf.lays137 : Go.Proofs.Lays.n137 Tryf.prog Tryf.lays137_ren := {
  mixed := by kernel_rfl
  f137 := Tryf.func52.trans (congrArg some (by kernel_rfl))
  f217 := Tryf.func62.trans (congrArg some (by kernel_rfl))
  f266 := Tryf.func67.trans (congrArg some (by kernel_rfl))
  t3 := Tryf.underlying3
  a3 := Tryf.isAgg3
  z3 := Tryf.sizeOf3
  v3 := Tryf.zeroValue3
  t5 := Tryf.underlying5
  a5 := Tryf.isAgg5
  z5 := Tryf.sizeOf5
  v5 := Tryf.zeroValue5
  t9 := Tryf.underlying9
  a9 := Tryf.isAgg9
  z9 := Tryf.sizeOf9
  v9 := Tryf.zeroValue9 }
open Go.RowKit in
theorem Tryf.strings_IndexByte (s : ByteArray) (c : Int) (w : World) :
    Calls Tryf.prog 52 #[.string s, .int .u8 c] w fun e w' => e = .returned (.int .i64 (Lib.indexByte s.data.toList c.toNat.toUInt8)) ∧ w' = w := Any.strings_IndexByte Tryf.lays137 s c w
open Go.RowKit in
theorem Tryf.Builder_String_any_k (B b : Nat) (l : List UInt8) (w : World) (h : Lib.IsBuilderF 55 5 B b (Lib.byteCells l) w) (hBw : B ≤ w.heap.size) :
    Calls Tryf.prog 50 #[.pointer (some ⟨b, 0, none⟩)] w fun e w' => e = .returned (.string ⟨l.toArray⟩) ∧ (Lib.IsBuilderF 55 5 B b (Lib.byteCells l) w' ∧ Below B w w' ∧ Lib.OthersKept 5 (some b) w w') := Any.Builder_String_any_k Tryf.lays169 Tryf.Builder_Extra_169 B b l w h hBw
def Tryf.lays242_ren : Go.Shelf.Ren := ⟨fun | 242 => 64 | 278 => 68 | n => n, fun | 37 => 35 | 21 => 21 | 51 => 82 | 4 => 4 | 5 => 5 | 46 => 73 | n => n, fun | n => n⟩
theorem Tryf.lays242 : Go.Proofs.Lays.n242 Tryf.prog Tryf.lays242_ren := {
  mixed := by kernel_rfl
  f242 := Tryf.func64.trans (congrArg some (by kernel_rfl))
  f278 := Tryf.func68.trans (congrArg some (by kernel_rfl))
  t4 := Tryf.underlying4
  a4 := Tryf.isAgg4
  z4 := Tryf.sizeOf4
  v4 := Tryf.zeroValue4
  t5 := Tryf.underlying5
  a5 := Tryf.isAgg5
  z5 := Tryf.sizeOf5
  v5 := Tryf.zeroValue5
  t21 := Tryf.underlying21
  a21 := Tryf.isAgg21
  z21 := Tryf.sizeOf21
  v21 := Tryf.zeroValue21
  t37 := Tryf.underlying35
  a37 := Tryf.isAgg35
  z37 := Tryf.sizeOf35
  v37 := Tryf.zeroValue35
  t46 := Tryf.underlying73
  a46 := Tryf.isAgg73
  z46 := Tryf.sizeOf73
  v46 := Tryf.zeroValue73
  t51 := Tryf.underlying82
  a51 := Tryf.isAgg82
  z51 := Tryf.sizeOf82
  v51 := Tryf.zeroValue82 }
open Go.RowKit in
theorem Tryf.utf8_AppendRune_row (B : Nat) (v : Value) (n : Nat) (xs : List Value) (r : Int) (hr0 : -2147483648 ≤ r) (hr1 : r ≤ 2147483647) (w : World) (hown : w.ownsRowF B 5 1 v n xs) (hlen : n + 4 ≤ 140737488355328) (hBw : B ≤ w.heap.size) :
    Calls Tryf.prog 64 #[v, .int .i32 r] w fun e w' => ∃ v', e = .returned v' ∧ w'.ownsRowF B 5 1 v' (n + (Lib.runeCells r).length) (xs ++ Lib.runeCells r) ∧ ∃ o, (w.alloc o).grownBy w' v.ownBlock := Any.utf8_AppendRune_row Tryf.lays242 (by kernel_rfl) B v n xs r hr0 hr1 w hown hlen hBw
def Tryf.lays339_ren : Go.Shelf.Ren := ⟨fun | 339 => 71 | 345 => 73 | 346 => 74 | n => n, fun | 21 => 21 | 4 => 4 | 49 => 83 | 234 => 84 | 131 => 25 | 3 => 3 | 0 => 0 | 51 => 82 | 236 => 86 | 46 => 73 | n => n, fun | 20 => 3 | 21 => 4 | 22 => 5 | 23 => 6 | n => n⟩
theorem Tryf.lays339 : Go.Proofs.Lays.n339 Tryf.prog Tryf.lays339_ren := {
  mixed := by kernel_rfl
  f339 := Tryf.func71.trans (congrArg some (by kernel_rfl))
  f345 := Tryf.func73.trans (congrArg some (by kernel_rfl))
  f346 := Tryf.func74.trans (congrArg some (by kernel_rfl))
  t0 := Tryf.underlying0
  a0 := Tryf.isAgg0
  z0 := Tryf.sizeOf0
  v0 := Tryf.zeroValue0
  t3 := Tryf.underlying3
  a3 := Tryf.isAgg3
  z3 := Tryf.sizeOf3
  v3 := Tryf.zeroValue3
  t4 := Tryf.underlying4
  a4 := Tryf.isAgg4
  z4 := Tryf.sizeOf4
  v4 := Tryf.zeroValue4
  t21 := Tryf.underlying21
  a21 := Tryf.isAgg21
  z21 := Tryf.sizeOf21
  v21 := Tryf.zeroValue21
  t46 := Tryf.underlying73
  a46 := Tryf.isAgg73
  z46 := Tryf.sizeOf73
  v46 := Tryf.zeroValue73
  t49 := Tryf.underlying83
  a49 := Tryf.isAgg83
  z49 := Tryf.sizeOf83
  v49 := Tryf.zeroValue83
  t51 := Tryf.underlying82
  a51 := Tryf.isAgg82
  z51 := Tryf.sizeOf82
  v51 := Tryf.zeroValue82
  t131 := Tryf.underlying25
  a131 := Tryf.isAgg25
  z131 := Tryf.sizeOf25
  v131 := Tryf.zeroValue25
  t234 := Tryf.underlying84
  a234 := Tryf.isAgg84
  z234 := Tryf.sizeOf84
  v234 := Tryf.zeroValue84
  t236 := Tryf.underlying86
  a236 := Tryf.isAgg86
  z236 := Tryf.sizeOf86
  v236 := Tryf.zeroValue86
  g20 := by kernel_rfl
  g21 := by kernel_rfl
  g22 := by kernel_rfl
  g23 := by kernel_rfl }
open Go.RowKit in
theorem Tryf.strconv_IsPrint (T : Lib.PrintTabs) (r : Int) (w : World) (hlo : -2147483648 ≤ r) (hhi : r ≤ 2147483647) (hT : Lib.PrintTabsAt 3 4 5 6 T w) :
    Calls Tryf.prog 71 #[.int .i32 r] w fun e w' => e = .returned (.bool (Lib.isPrintR T r)) ∧ ∃ q, w' = w.drewN q := Any.strconv_IsPrint Tryf.lays339 T r w hlo hhi hT
def Tryf.lays99_ren : Go.Shelf.Ren := ⟨fun | 99 => 55 | 206 => 63 | n => n, fun | 9 => 9 | 4 => 4 | 3 => 3 | n => n, fun | n => n⟩
theorem Tryf.lays99 : Go.Proofs.Lays.n99 Tryf.prog Tryf.lays99_ren := {
  mixed := by kernel_rfl
  f99 := Tryf.func55.trans (congrArg some (by kernel_rfl))
  f206 := Tryf.func63.trans (congrArg some (by kernel_rfl))
  t3 := Tryf.underlying3
  a3 := Tryf.isAgg3
  z3 := Tryf.sizeOf3
  v3 := Tryf.zeroValue3
  t4 := Tryf.underlying4
  a4 := Tryf.isAgg4
  z4 := Tryf.sizeOf4
  v4 := Tryf.zeroValue4
  t9 := Tryf.underlying9
  a9 := Tryf.isAgg9
  z9 := Tryf.sizeOf9
  v9 := Tryf.zeroValue9 }
open Go.RowKit Go.Lib in
theorem Tryf.strings_HasPrefix (s p : ByteArray) (w : World) :
    Calls Tryf.prog 55 #[.string s, .string p] w fun e w' => e = .returned (.bool (Lib.hasPrefix s.data.toList p.data.toList)) ∧ w' = w := Any.strings_HasPrefix Tryf.lays99 s p w
def Tryf.lays197_ren : Go.Shelf.Ren := ⟨fun | 197 => 42 | 260 => 58 | n => n, fun | 9 => 9 | 21 => 21 | 3 => 3 | 4 => 4 | 5 => 5 | 105 => 48 | 119 => 75 | 0 => 0 | 46 => 73 | 139 => 78 | 138 => 77 | n => n, fun | 3 => 0 | 4 => 1 | n => n⟩
theorem Tryf.lays197 : Go.Proofs.Lays.n197 Tryf.prog Tryf.lays197_ren := {
  mixed := by kernel_rfl
  f197 := Tryf.func42.trans (congrArg some (by kernel_rfl))
  f260 := Tryf.func58.trans (congrArg some (by kernel_rfl))
  t0 := Tryf.underlying0
  a0 := Tryf.isAgg0
  z0 := Tryf.sizeOf0
  v0 := Tryf.zeroValue0
  t3 := Tryf.underlying3
  a3 := Tryf.isAgg3
  z3 := Tryf.sizeOf3
  v3 := Tryf.zeroValue3
  t4 := Tryf.underlying4
  a4 := Tryf.isAgg4
  z4 := Tryf.sizeOf4
  v4 := Tryf.zeroValue4
  t5 := Tryf.underlying5
  a5 := Tryf.isAgg5
  z5 := Tryf.sizeOf5
  v5 := Tryf.zeroValue5
  t9 := Tryf.underlying9
  a9 := Tryf.isAgg9
  z9 := Tryf.sizeOf9
  v9 := Tryf.zeroValue9
  t21 := Tryf.underlying21
  a21 := Tryf.isAgg21
  z21 := Tryf.sizeOf21
  v21 := Tryf.zeroValue21
  t46 := Tryf.underlying73
  a46 := Tryf.isAgg73
  z46 := Tryf.sizeOf73
  v46 := Tryf.zeroValue73
  t105 := Tryf.underlying48
  a105 := Tryf.isAgg48
  z105 := Tryf.sizeOf48
  v105 := Tryf.zeroValue48
  t119 := Tryf.underlying75
  a119 := Tryf.isAgg75
  z119 := Tryf.sizeOf75
  t138 := Tryf.underlying77
  a138 := Tryf.isAgg77
  z138 := Tryf.sizeOf77
  v138 := Tryf.zeroValue77
  t139 := Tryf.underlying78
  a139 := Tryf.isAgg78
  z139 := Tryf.sizeOf78
  v139 := Tryf.zeroValue78
  g3 := by kernel_rfl
  g4 := by kernel_rfl }
open Go.RowKit Go.Lib in
theorem Tryf.utf8_DecodeRuneInString (s : ByteArray) (w : World) (hT : Lib.Utf8Tabs 0 1 w) :
    Calls Tryf.prog 42 #[.string s] w fun e w' => e = .returned (.tuple #[.int .i32 (Lib.decodeGo s).1, .int .i64 (Lib.decodeGo s).2]) ∧ Below w.heap.size w w' := Any.utf8_DecodeRuneInString Tryf.lays197 s w hT
def Tryf.lays240_ren : Go.Shelf.Ren := ⟨fun | 240 => 61 | 276 => 66 | n => n, fun | 0 => 0 | 4 => 4 | 5 => 5 | 9 => 9 | 20 => 20 | 37 => 35 | 70 => 53 | 72 => 55 | 164 => 80 | n => n, fun | n => n⟩
theorem Tryf.lays240 : Go.Proofs.Lays.n240 Tryf.prog Tryf.lays240_ren := {
  mixed := by kernel_rfl
  f240 := Tryf.func61.trans (congrArg some (by kernel_rfl))
  f276 := Tryf.func66.trans (congrArg some (by kernel_rfl))
  t0 := Tryf.underlying0
  a0 := Tryf.isAgg0
  z0 := Tryf.sizeOf0
  v0 := Tryf.zeroValue0
  t4 := Tryf.underlying4
  a4 := Tryf.isAgg4
  z4 := Tryf.sizeOf4
  v4 := Tryf.zeroValue4
  t9 := Tryf.underlying9
  a9 := Tryf.isAgg9
  z9 := Tryf.sizeOf9
  v9 := Tryf.zeroValue9
  t20 := Tryf.underlying20
  a20 := Tryf.isAgg20
  z20 := Tryf.sizeOf20
  v20 := Tryf.zeroValue20
  t70 := Tryf.underlying53
  a70 := Tryf.isAgg53
  z70 := Tryf.sizeOf53
  v70 := Tryf.zeroValue53
  t72 := Tryf.underlying55
  a72 := Tryf.isAgg55
  z72 := Tryf.sizeOf55
  v72 := Tryf.zeroValue55
  t164 := Tryf.underlying80
  a164 := Tryf.isAgg80
  z164 := Tryf.sizeOf80
  v164 := Tryf.zeroValue80 }
theorem Tryf.Builder_X72_240 : Builder.X72 Tryf.prog Tryf.lays240_ren := {
  sizeBuilder := by kernel_rfl
  liesBuilder := by kernel_rfl }
def Tryf.lays167_ren : Go.Shelf.Ren := ⟨fun | 167 => 51 | 240 => 61 | 276 => 66 | n => n, fun | 0 => 0 | 4 => 4 | 5 => 5 | 9 => 9 | 20 => 20 | 37 => 35 | 70 => 53 | 72 => 55 | 75 => 32 | 80 => 44 | 164 => 80 | n => n, fun | n => n⟩
theorem Tryf.lays167 : Go.Proofs.Lays.n167 Tryf.prog Tryf.lays167_ren := {
  mixed := by kernel_rfl
  f167 := Tryf.func51.trans (congrArg some (by kernel_rfl))
  f240 := Tryf.func61.trans (congrArg some (by kernel_rfl))
  f276 := Tryf.func66.trans (congrArg some (by kernel_rfl))
  t0 := Tryf.underlying0
  a0 := Tryf.isAgg0
  z0 := Tryf.sizeOf0
  v0 := Tryf.zeroValue0
  t4 := Tryf.underlying4
  a4 := Tryf.isAgg4
  z4 := Tryf.sizeOf4
  v4 := Tryf.zeroValue4
  t5 := Tryf.underlying5
  a5 := Tryf.isAgg5
  z5 := Tryf.sizeOf5
  v5 := Tryf.zeroValue5
  t9 := Tryf.underlying9
  a9 := Tryf.isAgg9
  z9 := Tryf.sizeOf9
  v9 := Tryf.zeroValue9
  t20 := Tryf.underlying20
  a20 := Tryf.isAgg20
  z20 := Tryf.sizeOf20
  v20 := Tryf.zeroValue20
  t37 := Tryf.underlying35
  a37 := Tryf.isAgg35
  z37 := Tryf.sizeOf35
  v37 := Tryf.zeroValue35
  t70 := Tryf.underlying53
  a70 := Tryf.isAgg53
  z70 := Tryf.sizeOf53
  v70 := Tryf.zeroValue53
  t72 := Tryf.underlying55
  a72 := Tryf.isAgg55
  z72 := Tryf.sizeOf55
  v72 := Tryf.zeroValue55
  t75 := Tryf.underlying32
  a75 := Tryf.isAgg32
  z75 := Tryf.sizeOf32
  v75 := Tryf.zeroValue32
  t164 := Tryf.underlying80
  a164 := Tryf.isAgg80
  z164 := Tryf.sizeOf80
  v164 := Tryf.zeroValue80 }
theorem Tryf.Builder_Extra_167 : Builder.Extra Tryf.prog Tryf.lays167_ren := {
  sizeBuilder := by kernel_rfl
  liesBuilder := by kernel_rfl
  t5 := Tryf.underlying5
  a5 := Tryf.isAgg5
  z5 := Tryf.sizeOf5
  v5 := Tryf.zeroValue5
  infoByte := by kernel_rfl
  cellsByte := by kernel_rfl
  sizeByte := by kernel_rfl
  neB5 := by decide }
def Tryf.lays166_ren : Go.Shelf.Ren := ⟨fun | 166 => 49 | 240 => 61 | 276 => 66 | n => n, fun | 0 => 0 | 3 => 3 | 4 => 4 | 5 => 5 | 9 => 9 | 20 => 20 | 37 => 35 | 70 => 53 | 72 => 55 | 75 => 32 | 80 => 44 | 164 => 80 | n => n, fun | n => n⟩
theorem Tryf.lays166 : Go.Proofs.Lays.n166 Tryf.prog Tryf.lays166_ren := {
  mixed := by kernel_rfl
  f166 := Tryf.func49.trans (congrArg some (by kernel_rfl))
  f240 := Tryf.func61.trans (congrArg some (by kernel_rfl))
  f276 := Tryf.func66.trans (congrArg some (by kernel_rfl))
  t0 := Tryf.underlying0
  a0 := Tryf.isAgg0
  z0 := Tryf.sizeOf0
  v0 := Tryf.zeroValue0
  t3 := Tryf.underlying3
  a3 := Tryf.isAgg3
  z3 := Tryf.sizeOf3
  v3 := Tryf.zeroValue3
  t4 := Tryf.underlying4
  a4 := Tryf.isAgg4
  z4 := Tryf.sizeOf4
  v4 := Tryf.zeroValue4
  t9 := Tryf.underlying9
  a9 := Tryf.isAgg9
  z9 := Tryf.sizeOf9
  v9 := Tryf.zeroValue9
  t20 := Tryf.underlying20
  a20 := Tryf.isAgg20
  z20 := Tryf.sizeOf20
  v20 := Tryf.zeroValue20
  t37 := Tryf.underlying35
  a37 := Tryf.isAgg35
  z37 := Tryf.sizeOf35
  v37 := Tryf.zeroValue35
  t70 := Tryf.underlying53
  a70 := Tryf.isAgg53
  z70 := Tryf.sizeOf53
  v70 := Tryf.zeroValue53
  t72 := Tryf.underlying55
  a72 := Tryf.isAgg55
  z72 := Tryf.sizeOf55
  v72 := Tryf.zeroValue55
  t75 := Tryf.underlying32
  a75 := Tryf.isAgg32
  z75 := Tryf.sizeOf32
  v75 := Tryf.zeroValue32
  t164 := Tryf.underlying80
  a164 := Tryf.isAgg80
  z164 := Tryf.sizeOf80
  v164 := Tryf.zeroValue80 }
theorem Tryf.Builder_Extra_166 : Builder.Extra Tryf.prog Tryf.lays166_ren := {
  sizeBuilder := by kernel_rfl
  liesBuilder := by kernel_rfl
  t5 := Tryf.underlying5
  a5 := Tryf.isAgg5
  z5 := Tryf.sizeOf5
  v5 := Tryf.zeroValue5
  infoByte := by kernel_rfl
  cellsByte := by kernel_rfl
  sizeByte := by kernel_rfl
  neB5 := by decide }
def Tryf.lays168_ren : Go.Shelf.Ren := ⟨fun | 168 => 57 | 240 => 61 | 242 => 64 | 276 => 66 | 278 => 68 | n => n, fun | 0 => 0 | 3 => 3 | 4 => 4 | 5 => 5 | 9 => 9 | 20 => 20 | 21 => 21 | 37 => 35 | 46 => 73 | 51 => 82 | 70 => 53 | 72 => 55 | 75 => 32 | 80 => 44 | 164 => 80 | n => n, fun | n => n⟩
theorem Tryf.lays168 : Go.Proofs.Lays.n168 Tryf.prog Tryf.lays168_ren := {
  mixed := by kernel_rfl
  f168 := Tryf.func57.trans (congrArg some (by kernel_rfl))
  f240 := Tryf.func61.trans (congrArg some (by kernel_rfl))
  f242 := Tryf.func64.trans (congrArg some (by kernel_rfl))
  f276 := Tryf.func66.trans (congrArg some (by kernel_rfl))
  f278 := Tryf.func68.trans (congrArg some (by kernel_rfl))
  t0 := Tryf.underlying0
  a0 := Tryf.isAgg0
  z0 := Tryf.sizeOf0
  v0 := Tryf.zeroValue0
  t3 := Tryf.underlying3
  a3 := Tryf.isAgg3
  z3 := Tryf.sizeOf3
  v3 := Tryf.zeroValue3
  t4 := Tryf.underlying4
  a4 := Tryf.isAgg4
  z4 := Tryf.sizeOf4
  v4 := Tryf.zeroValue4
  t5 := Tryf.underlying5
  a5 := Tryf.isAgg5
  z5 := Tryf.sizeOf5
  v5 := Tryf.zeroValue5
  t9 := Tryf.underlying9
  a9 := Tryf.isAgg9
  z9 := Tryf.sizeOf9
  v9 := Tryf.zeroValue9
  t20 := Tryf.underlying20
  a20 := Tryf.isAgg20
  z20 := Tryf.sizeOf20
  v20 := Tryf.zeroValue20
  t21 := Tryf.underlying21
  a21 := Tryf.isAgg21
  z21 := Tryf.sizeOf21
  v21 := Tryf.zeroValue21
  t37 := Tryf.underlying35
  a37 := Tryf.isAgg35
  z37 := Tryf.sizeOf35
  v37 := Tryf.zeroValue35
  t46 := Tryf.underlying73
  a46 := Tryf.isAgg73
  z46 := Tryf.sizeOf73
  v46 := Tryf.zeroValue73
  t51 := Tryf.underlying82
  a51 := Tryf.isAgg82
  z51 := Tryf.sizeOf82
  v51 := Tryf.zeroValue82
  t70 := Tryf.underlying53
  a70 := Tryf.isAgg53
  z70 := Tryf.sizeOf53
  v70 := Tryf.zeroValue53
  t72 := Tryf.underlying55
  a72 := Tryf.isAgg55
  z72 := Tryf.sizeOf55
  v72 := Tryf.zeroValue55
  t75 := Tryf.underlying32
  a75 := Tryf.isAgg32
  z75 := Tryf.sizeOf32
  v75 := Tryf.zeroValue32
  t164 := Tryf.underlying80
  a164 := Tryf.isAgg80
  z164 := Tryf.sizeOf80
  v164 := Tryf.zeroValue80 }
theorem Tryf.Builder_Extra_168 : Builder.Extra Tryf.prog Tryf.lays168_ren := {
  sizeBuilder := by kernel_rfl
  liesBuilder := by kernel_rfl
  t5 := Tryf.underlying5
  a5 := Tryf.isAgg5
  z5 := Tryf.sizeOf5
  v5 := Tryf.zeroValue5
  infoByte := by kernel_rfl
  cellsByte := by kernel_rfl
  sizeByte := by kernel_rfl
  neB5 := by decide }
open Go.RowKit in
theorem Tryf.Builder_WriteByte_k (B b : Nat) (bs : List Value) (c : Int) (w : World) (h : Lib.IsBuilderF 55 5 B b bs w) (hlen : bs.length + 1 ≤ 140737488355328) (hBw : B ≤ w.heap.size) :
    Calls Tryf.prog 51 #[.pointer (some ⟨b, 0, none⟩), .int .u8 c] w fun e w' => e = .returned .nilIface ∧ (Lib.BuilderAtF 55 5 B b (.pointer (some ⟨b, 0, none⟩)) (bs ++ [.int .u8 c]) w' ∧ Below B w w' ∧ Lib.OthersKept 5 (some b) w w') := Any.Builder_WriteByte_k Tryf.lays167 Tryf.Builder_Extra_167 B b bs c w h hlen hBw
open Go.RowKit in
theorem Tryf.Builder_WriteString_k (B b : Nat) (bs : List Value) (s : ByteArray) (w : World) (h : Lib.IsBuilderF 55 5 B b bs w) (hlen : bs.length + s.size ≤ 140737488355328) (hBw : B ≤ w.heap.size) :
    Calls Tryf.prog 49 #[.pointer (some ⟨b, 0, none⟩), .string s] w fun e w' => e = .returned (.tuple #[.int .i64 s.size, .nilIface]) ∧ (Lib.BuilderAtF 55 5 B b (.pointer (some ⟨b, 0, none⟩)) (bs ++ Lib.strCells s) w' ∧ Below B w w' ∧ Lib.OthersKept 5 (some b) w w') := Any.Builder_WriteString_k Tryf.lays166 Tryf.Builder_Extra_166 B b bs s w h hlen hBw
open Go.RowKit in
theorem Tryf.Builder_WriteRune_k (B b : Nat) (bs : List Value) (r : Int) (hr0 : -2147483648 ≤ r) (hr1 : r ≤ 2147483647) (w : World) (h : Lib.IsBuilderF 55 5 B b bs w) (hlen : bs.length + 4 ≤ 140737488355328) (hBw : B ≤ w.heap.size) :
    Calls Tryf.prog 57 #[.pointer (some ⟨b, 0, none⟩), .int .i32 r] w fun e w' => e = .returned (.tuple #[.int .i64 (Lib.runeCells r).length, .nilIface]) ∧ (Lib.BuilderAtF 55 5 B b (.pointer (some ⟨b, 0, none⟩)) (bs ++ Lib.runeCells r) w' ∧ Below B w w' ∧ Lib.OthersKept 5 (some b) w w') := Any.Builder_WriteRune_k Tryf.lays168 Tryf.Builder_Extra_168 B b bs r hr0 hr1 w h hlen hBw
end Go.Proofs
