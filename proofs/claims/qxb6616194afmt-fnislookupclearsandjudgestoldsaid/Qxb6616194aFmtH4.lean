/- Laws for single operations on whole arrays. -/
import Derived.Test.Qxb6616194aFmtH3
set_option linter.unusedVariables false
set_option linter.unusedSimpArgs false
set_option linter.unnecessarySimpa false
namespace Go.Proofs.Qxb6616194aFmt
open Go.RowKit Go.Deep

section
variable {ops : Array Oper} {rest : List Oper} {o : Oper} {a : Act} {Q : Exit → Act → World → Prop}
theorem wpList_load {w : World} (t : TypeId) (p : Operand) (ho : o.op = .load t p) (hgd : o.guard = none) (ad : Addr) (v : Value) (hp : a.eval p = .pointer (some ad))
    (hv : (Instr.loadAt t (.pointer (some ad))).run Tryf.prog w = .ok v w) (h : wpList Tryf.prog ops Q rest (a.put o.dst v) w) : wpList Tryf.prog ops Q (o :: rest) a w :=
  wpList_plain hgd fun K hK => by
    unfold Oper.wp execOp
    simp only [ho, hp, Sem.run_bind, hv, Result.andThen_ok, Sem.run_pure]
    exact hK _ _ h
end

end Go.Proofs.Qxb6616194aFmt
