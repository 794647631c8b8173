/- lookupCleared. -/
import Derived.Test.Qxb6616194aFmtH4
set_option linter.unusedVariables false
set_option linter.unusedSimpArgs false
set_option linter.unnecessarySimpa false
namespace Go.Proofs.Qxb6616194aFmt
open Go.RowKit Go.Deep
attribute [local go_sem] eql22 eql24 eql25 eql26 eql50 eql53 eql54 eql55 neq22 neq24 neq25 neq27 neq53 neq55

/-- The six cleared fields. -/
def Clr (M : Nat → Value) : Prop := M 39 = .int .i64 0 ∧ M 40 = .bool false ∧ M 41 = .slice none 0 0 ∧ M 44 = .slice none 0 0 ∧ M 46 = .slice none 0 0 ∧ M 47 = .int .i64 0

theorem cleared_any (b : Nat) (M : Nat → Value) (w : World) (hr : w.rowIs b 57 48 M) (hM : Clr M) :
    Calls Tryf.prog 9 #[.pointer (some ⟨b, 0, none⟩)] w fun e w' => e = .returned (.bool true) ∧ w' = w := by
  have c39 := hr.cell (i := 39) (by omega)
  have c40 := hr.cell (i := 40) (by omega)
  have c41 := hr.cell (i := 41) (by omega)
  have c44 := hr.cell (i := 44) (by omega)
  have c46 := hr.cell (i := 46) (by omega)
  have c47 := hr.cell (i := 47) (by omega)
  obtain ⟨h39, h40, h41, h44, h46, h47⟩ := hM
  rw [h39] at c39
  rw [h40] at c40
  rw [h41] at c41
  rw [h44] at c44
  rw [h46] at c46
  rw [h47] at c47
  clear h39 h40 h41 h44 h46 h47
  go_enter Tryf.func9, Tryf.ntmps9
  go_wp2_with fail
  go_ret
  exact ⟨rfl, rfl⟩

end Go.Proofs.Qxb6616194aFmt
