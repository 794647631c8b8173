/- Closed facts for the walks over fmt's two stopped fronts, at this program's formats and operand types. -/
import Derived.Test.Qxb6616712aFmtW5
import Derived.Stop.CallBack
import Derived.Stop.IfaceNil
import GoSem.ClaimData
set_option linter.unusedVariables false
set_option linter.unusedSimpArgs false
set_option linter.unnecessarySimpa false
namespace Go.Proofs.Qxb6616712aFmt
open Go.Extern.Stop Go.Stop Go.Extern

theorem Fx.call59 (args : Array Value) (w : World) : (callFunc 59 args).run Tryf.prog w = ((FmtStop.errorf #[9, 69] #[32] args).run Tryf.prog w).andThen fun v w' => .ok (.value v) w' :=
  run_callFunc_extern Tryf.func59 (by kernel_rfl) (by kernel_rfl) (by kernel_rfl) (by kernel_rfl) args w
theorem Fx.call37 (args : Array Value) (w : World) : (callFunc 37 args).run Tryf.prog w = ((FmtStop.sprintf #[9, 69] #[9] args).run Tryf.prog w).andThen fun v w' => .ok (.value v) w' :=
  run_callFunc_extern Tryf.func37 (by kernel_rfl) (by kernel_rfl) (by kernel_rfl) (by kernel_rfl) args w
theorem Fx.guard (name : String) (w : World) : (FmtStop.guard name).run Tryf.prog w = .ok () w := by kernel_rfl

/-- What the three formats ask of their operands. -/
theorem Fx.fmt0 : FmtStop.printed? ⟨#[39, 44, 39, 32, 111, 114, 32, 39, 37, 99, 39, 32, 109, 117, 115, 116, 32, 102, 111, 108, 108, 111, 119, 32, 37, 115]⟩ 2 = some [(0, 99, false), (1, 115, false)] := by kernel_rfl
theorem Fx.fmt0r (w : World) : (FmtDoors.printed ⟨#[39, 44, 39, 32, 111, 114, 32, 39, 37, 99, 39, 32, 109, 117, 115, 116, 32, 102, 111, 108, 108, 111, 119, 32, 37, 115]⟩ 2).run Tryf.prog w = .ok [(0, 99, false), (1, 115, false)] w := by kernel_rfl
theorem Fx.fmt1 : FmtStop.printed? ⟨#[110, 111, 116, 32, 118, 97, 108, 105, 100, 32, 74, 83, 79, 78, 58, 32, 37, 115, 32, 97, 116, 32, 98, 121, 116, 101, 32, 37, 100, 44, 32, 119, 104, 101, 114, 101, 32, 37, 115]⟩ 3 = some [(0, 115, false), (1, 100, false), (2, 115, false)] := by kernel_rfl
theorem Fx.fmt1r (w : World) : (FmtDoors.printed ⟨#[110, 111, 116, 32, 118, 97, 108, 105, 100, 32, 74, 83, 79, 78, 58, 32, 37, 115, 32, 97, 116, 32, 98, 121, 116, 101, 32, 37, 100, 44, 32, 119, 104, 101, 114, 101, 32, 37, 115]⟩ 3).run Tryf.prog w = .ok [(0, 115, false), (1, 100, false), (2, 115, false)] w := by kernel_rfl

theorem Fx.name9 : Tryf.prog.typeName? 3 9 = some "string" := by kernel_rfl
def Fx.shape9 : List UInt8 := [12, 6, 0, 0, 0, 0, 0, 0, 0, 115, 116, 114, 105, 110, 103]
def Fx.shape3 : List UInt8 := [5, 3, 0, 0, 0, 0, 0, 0, 0, 105, 110, 116]
theorem Fx.op9_115 (name : String) (x : ByteArray) (w : World) : (FmtStop.operand name false 115 false (.iface 9 (.string x))).run Tryf.prog w = .ok (Fx.shape9, FmtStop.pack x.data.toList) w := by kernel_rfl
theorem Fx.op9_115w (name : String) (x : ByteArray) (w : World) : (FmtStop.operand name true 115 false (.iface 9 (.string x))).run Tryf.prog w = .ok (Fx.shape9, FmtStop.pack x.data.toList) w := by kernel_rfl
theorem Fx.op3_100 (name : String) (x : Int) (w : World) : (FmtStop.operand name false 100 false (.iface 3 (.int .i64 x))).run Tryf.prog w = .ok (Fx.shape3, Go.Extern.Stop.digits 8 (x % 2 ^ 64).toNat) w := by kernel_rfl
theorem Fx.op3_100w (name : String) (x : Int) (w : World) : (FmtStop.operand name true 100 false (.iface 3 (.int .i64 x))).run Tryf.prog w = .ok (Fx.shape3, Go.Extern.Stop.digits 8 (x % 2 ^ 64).toNat) w := by kernel_rfl

theorem Fx.fmt2 : FmtStop.printed? ⟨#[110, 111, 116, 32, 118, 97, 108, 105, 100, 32, 74, 83, 79, 78, 58, 32, 97, 114, 114, 97, 121, 115, 32, 97, 110, 100, 32, 111, 98, 106, 101, 99, 116, 115, 32, 110, 101, 115, 116, 32, 109, 111, 114, 101, 32, 116, 104, 97, 110, 32, 37, 100, 32, 100, 101, 101, 112, 32, 97, 116, 32, 98, 121, 116, 101, 32, 37, 100]⟩ 2 = some [(0, 100, false), (1, 100, false)] := by kernel_rfl
theorem Fx.fmt2r (w : World) : (FmtDoors.printed ⟨#[110, 111, 116, 32, 118, 97, 108, 105, 100, 32, 74, 83, 79, 78, 58, 32, 97, 114, 114, 97, 121, 115, 32, 97, 110, 100, 32, 111, 98, 106, 101, 99, 116, 115, 32, 110, 101, 115, 116, 32, 109, 111, 114, 101, 32, 116, 104, 97, 110, 32, 37, 100, 32, 100, 101, 101, 112, 32, 97, 116, 32, 98, 121, 116, 101, 32, 37, 100]⟩ 2).run Tryf.prog w = .ok [(0, 100, false), (1, 100, false)] w := by kernel_rfl
def Fx.shape5 : List UInt8 := [6, 5, 0, 0, 0, 0, 0, 0, 0, 117, 105, 110, 116, 56]
theorem Fx.ptr66 (w : World) : (FmtStop.ptrTo "errors.errorString").run Tryf.prog w = .ok 66 w := by kernel_rfl
theorem Fx.elem66 (w : World) : (elemOf 66).run Tryf.prog w = .ok 68 w := by kernel_rfl
theorem Fx.isError66 (w : World) : (FmtDoors.textMethod 66 "Error").run Tryf.prog w = .ok true w := by kernel_rfl
theorem Fx.op5_99 (name : String) (x : Int) (w : World) : (FmtStop.operand name false 99 false (.iface 5 (.int .u8 x))).run Tryf.prog w = .ok (Fx.shape5, Go.Extern.Stop.digits 8 (x % 2 ^ 64).toNat) w := by kernel_rfl

attribute [local go_sem] Fx.call59 Fx.call37 Fx.guard Fx.fmt0 Fx.fmt0r Fx.fmt1 Fx.fmt1r Fx.fmt2 Fx.fmt2r Fx.op9_115 Fx.op9_115w Fx.op3_100 Fx.op3_100w Fx.op5_99 Fx.ptr66 Fx.elem66 Fx.isError66
open Go.RowKit

set_option maxHeartbeats 400000 in
theorem errorf3_any (F : Interp) (x y : ByteArray) (n : Int) (k : Nat) (w : World) (hF : F.answers w.tape)
    (h0 : w.cell? ⟨k, 0, none⟩ = some (.iface 9 (.string x))) (h1 : w.cell? ⟨k, 1, none⟩ = some (.iface 3 (.int .i64 n))) (h2 : w.cell? ⟨k, 2, none⟩ = some (.iface 9 (.string y))) :
    Calls Tryf.prog 43 #[.string ⟨#[110, 111, 116, 32, 118, 97, 108, 105, 100, 32, 74, 83, 79, 78, 58, 32, 37, 115, 32, 97, 116, 32, 98, 121, 116, 101, 32, 37, 100, 44, 32, 119, 104, 101, 114, 101, 32, 37, 115]⟩, .slice (some ⟨k, 0, none⟩) 3 3] w
      fun e w' => (∃ T v, e = .returned (.iface T v)) ∧ Below w.heap.size w w' := by
  have hF' := answers_open hF
  go_enter Tryf.func43, Tryf.ntmps43
  go_wp2
  go_ret
  exact ⟨⟨_, _, rfl⟩, ((Below.refl _ _).alloc (Nat.le_refl _) _).drew⟩

set_option maxHeartbeats 400000 in
theorem errorf2_any (F : Interp) (m n : Int) (k : Nat) (w : World) (hF : F.answers w.tape)
    (h0 : w.cell? ⟨k, 0, none⟩ = some (.iface 3 (.int .i64 m))) (h1 : w.cell? ⟨k, 1, none⟩ = some (.iface 3 (.int .i64 n))) :
    Calls Tryf.prog 43 #[.string ⟨#[110, 111, 116, 32, 118, 97, 108, 105, 100, 32, 74, 83, 79, 78, 58, 32, 97, 114, 114, 97, 121, 115, 32, 97, 110, 100, 32, 111, 98, 106, 101, 99, 116, 115, 32, 110, 101, 115, 116, 32, 109, 111, 114, 101, 32, 116, 104, 97, 110, 32, 37, 100, 32, 100, 101, 101, 112, 32, 97, 116, 32, 98, 121, 116, 101, 32, 37, 100]⟩, .slice (some ⟨k, 0, none⟩) 2 2] w
      fun e w' => (∃ T v, e = .returned (.iface T v)) ∧ Below w.heap.size w w' := by
  have hF' := answers_open hF
  go_enter Tryf.func43, Tryf.ntmps43
  go_wp2
  go_ret
  exact ⟨⟨_, _, rfl⟩, ((Below.refl _ _).alloc (Nat.le_refl _) _).drew⟩

set_option maxHeartbeats 400000 in
theorem enter_err (F : Interp) (b : Nat) (s : ByteArray) (p : Int) (w : World) (hF : F.answers w.tape) (hr : Rd b s p 10000 w) :
    Calls Tryf.prog 35 #[.pointer (some ⟨b, 0, none⟩)] w fun e w' => (∃ T v, e = .returned (.iface T v)) ∧ Below w.heap.size w w' := by
  have c1 := hr.cell1
  have c2 := hr.cell2
  go_enter Tryf.func35, Tryf.ntmps35
  go_wp2_with fail
  refine (errorf2_any F 10000 (wrap64 (p + 1)) w.heap.size _ (by exact hF) (by go_simp) (by go_simp)).mono ?_
  rintro e w1 ⟨⟨T, v, rfl⟩, hb1⟩
  go_wp2_with fail
  go_ret
  exact ⟨⟨T, v, rfl⟩, ((Below.refl _ _).alloc (Nat.le_refl _) _).trans (hb1.mono (by simp))⟩

theorem errors_New (x : ByteArray) (w : World) :
    Calls Tryf.prog 41 #[.string x] w fun e w' => (∃ T v, e = .returned (.iface T v)) ∧ Below w.heap.size w w' := by
  go_enter Tryf.func41, Tryf.ntmps41
  go_wp2
  go_ret
  exact ⟨⟨_, _, rfl⟩, (Below.refl _ _).alloc (Nat.le_refl _) _⟩

end Go.Proofs.Qxb6616712aFmt
