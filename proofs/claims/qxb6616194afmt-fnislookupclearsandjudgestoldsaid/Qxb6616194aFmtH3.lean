/- Laws for loads of whole arrays; the contract of CheckItem. -/
import Derived.Test.Qxb6616194aFmtH2
import Derived.Deep.WholeRow
import Derived.Deep.DeepCutAuto
set_option linter.unusedVariables false
set_option linter.unusedSimpArgs false
set_option linter.unnecessarySimpa false
namespace Go.Proofs.Qxb6616194aFmt
open Go.RowKit Go.Deep

/-- What CheckItem answers, told by ok. -/
def CI (ok : ByteArray → Nat → Bool) (W0 : World) : Prop :=
  ∀ (w : World) (s : ByteArray) (a : Option Addr) (n c : Nat), Below W0.heap.size W0 w → s.size ≤ 1048576 → n ≤ 1048576 →
    Calls Tryf.prog 14 #[.string s, .slice a n c] w fun e w' => ((ok s n = true ∧ e = .returned .nilIface) ∨ (ok s n = false ∧ ∃ T v, e = .returned (.iface T v))) ∧ Below w.heap.size w w'

theorem load32 (a : Addr) (x : Nat → Int) (w : World) (h : ∀ i, i < 32 → w.cell? (a.add i) = some (.int .u8 (x i))) : (loadCellsFrom a 0 32 #[]).run Tryf.prog w = .ok (A32 x) w := by
  have := run_loadCells (P := Tryf.prog) w a 32 (fun i => .int .u8 (x i)) h
  unfold loadCells at this
  rw [this]
  congr 1
  unfold A32
  apply Array.ext'
  simp

theorem loadAt23 (a : Addr) (x : Nat → Int) (w : World) (h : ∀ i, i < 32 → w.cell? (a.add i) = some (.int .u8 (x i))) : (Instr.loadAt 23 (.pointer (some a))).run Tryf.prog w = .ok (.agg (A32 x)) w := by
  have h1 := load32 a x w h
  simp [Instr.loadAt, Instr.sureAddr, loadVar, Tryf.isAgg23, Tryf.sizeOf23, loadCells, h1]
theorem loadAt48 (a : Addr) (x : Nat → Int) (w : World) (h : ∀ i, i < 32 → w.cell? (a.add i) = some (.int .u8 (x i))) : (Instr.loadAt 48 (.pointer (some a))).run Tryf.prog w = .ok (.agg (A32 x)) w := by
  have h1 := load32 a x w h
  simp [Instr.loadAt, Instr.sureAddr, loadVar, Tryf.isAgg48, Tryf.sizeOf48, loadCells, h1]
theorem add0 (b i : Nat) : (⟨b, 0, none⟩ : Addr).add i = ⟨b, i, none⟩ := by unfold Addr.add; split <;> simp_all
theorem box_cell (w : World) (c : Array Value) (t : TypeId) (i : Nat) (v : Value) (h : c[i]? = some v) : (w.alloc (.cells c t)).cell? ((⟨w.heap.size, 0, none⟩ : Addr).add i) = some v := by
  rw [add0, cell_of_row _ _ i c t (0, 0) (heap_alloc_last w _)]; exact h

/-- One load of a quiet region, by a fact on it. -/
theorem wpQuiet_load {ops : Array Oper} {Q : Act → Prop} {a : Act} {o : Oper} {rest : List Oper} {w : World} (t : TypeId) (p : Operand) (ad : Addr) (v : Value) (ho : o.op = .load t p) (hw : Region.wanted o (yielded ops a.tmps) = true) (hp : a.eval p = .pointer (some ad))
    (hv : ∀ n, (Instr.loadAt t (.pointer (some ad))).run Tryf.prog (w.drewN n) = .ok v (w.drewN n)) (h : wpQuiet Tryf.prog ops (fun w' => ∃ n, w' = w.drewN n) Q rest (a.put o.dst v)) : wpQuiet Tryf.prog ops (fun w' => ∃ n, w' = w.drewN n) Q (o :: rest) a := by
  unfold wpQuiet
  rw [if_pos hw]
  refine ⟨v, ?_, h⟩
  rintro w' ⟨n, rfl⟩
  unfold Oper.quietAt execOp
  simp [ho, hp, hv n, Oper.quietUpon]

end Go.Proofs.Qxb6616194aFmt
