/- Steps of a region that draws and calls, in the worlds that keep what is old. -/
import Derived.Test.Qxb6616194aFmtH8
set_option linter.unusedVariables false
set_option linter.unusedSimpArgs false
set_option linter.unnecessarySimpa false
namespace Go.Proofs.Qxb6616194aFmt
open Go.RowKit Go.Deep

section
variable {ops : Array Oper} {C : World → Prop} {Q : Act → Prop} {a : Act} {o : Oper} {rest : List Oper}
theorem wpQuiet_skipC (hw : Region.wanted o (yielded ops a.tmps) = false) (h : wpQuiet Tryf.prog ops C Q rest (a.put o.dst undef)) : wpQuiet Tryf.prog ops C Q (o :: rest) a := by
  unfold wpQuiet; rw [if_neg (by simp [hw])]; exact h
theorem wpQuiet_valC (v : Value) (hw : Region.wanted o (yielded ops a.tmps) = true) (hv : ∀ w, (execOp a.eval o).run Tryf.prog w = .ok (.value v) w) (h : wpQuiet Tryf.prog ops C Q rest (a.put o.dst v)) : wpQuiet Tryf.prog ops C Q (o :: rest) a := by
  unfold wpQuiet; rw [if_pos hw]
  refine ⟨v, fun w _ => ?_, h⟩
  unfold Oper.quietAt; rw [hv w]; exact ⟨rfl, rfl⟩
theorem wpQuiet_loadC (t : TypeId) (p : Operand) (ad : Addr) (v : Value) (ho : o.op = .load t p) (hw : Region.wanted o (yielded ops a.tmps) = true) (hp : a.eval p = .pointer (some ad))
    (hv : ∀ w, C w → (Instr.loadAt t (.pointer (some ad))).run Tryf.prog w = .ok v w) (h : wpQuiet Tryf.prog ops C Q rest (a.put o.dst v)) : wpQuiet Tryf.prog ops C Q (o :: rest) a := by
  unfold wpQuiet
  rw [if_pos hw]
  refine ⟨v, fun w hC => ?_, h⟩
  unfold Oper.quietAt execOp
  simp [ho, hp, hv w hC, Oper.quietUpon]
end

end Go.Proofs.Qxb6616194aFmt
