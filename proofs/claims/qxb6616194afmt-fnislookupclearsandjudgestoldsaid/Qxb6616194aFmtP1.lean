/- The tables off 'laid'; the witness; from the walk to the card. -/
import Derived.Test.Qxb6616194aFmtTie
import Derived.Test.Qxb6616194aFmtCards
import Derived.Test.Qxb6616194aFmtShelf
import Derived.Test.Qxb6616194aFmtH25
import Derived.Test.Qxb6616194aFmtH7
import Derived.Test.Qxb6616194aFmtO1
import Derived.ProofKit
import Derived.LaidMore
import Derived.Lay
import Derived.SevenTiedAt
import Derived.Stop.Joined
import Derived.Stop.JoinedTold
import Derived.Stop.JoinedAt
import Derived.PinnedBridge
import Derived.Lib.LaidU8T
import Derived.WalkSmall
import Derived.WideKeyArgs
set_option linter.unusedVariables false
set_option linter.unusedSimpArgs false
set_option linter.unnecessarySimpa false
namespace Go.Proofs.Qxb6616194aFmt
open Go.ChangeShapes Go.WideShapes Go.ChangeAt Go.RowKit Go.Kit Go.Shelf
open Go.ChangeMaps (open_string shut_string)
open Go.Extern.Stop Go.Stop Go.Extern

theorem own : ownKnob Tryf.prog.godebug = none := by kernel_rfl
theorem laidOut : laidOutB Tryf.pinned.checked.prog = true := by kernel_rfl

/-- The two listed variables. -/
def laidAll2 : List (String × DataW Unit) := Rows.fnIsLookupClearsAndJudgesRow.laid

theorem accept_eq : (Rows.laid_unicode_utf8_acceptRanges : DataW Unit) = Lib.acceptData := by kernel_rfl

set_option maxRecDepth 100000 in
theorem tabs_of_laid {W : World} (h : laidMetH Tryf.prog laidAll2 W) : Lib.Utf8Tabs 0 1 W := by
  rw [MakeChecks.laidMetH_plain _ _ _ (by kernel_rfl)] at h
  exact utf8Tabs_of_readsT (ρ := Tryf.lays196_ren) (U8Types.of196 Tryf.lays196) ⟨by kernel_rfl, by kernel_rfl, by kernel_rfl, by kernel_rfl, by kernel_rfl, by kernel_rfl, by kernel_rfl⟩
    (by rw [← Pinned.utf8First_eq]; exact Lib.laidMet.reads h (by simp [laidAll2, Rows.fnIsLookupClearsAndJudgesRow, Rows.laid_unicode_utf8_first]))
    (by rw [← accept_eq]; exact Lib.laidMet.reads h (by simp [laidAll2, Rows.fnIsLookupClearsAndJudgesRow]))

set_option maxRecDepth 1000000 in
theorem laid_met (os : Os) (args : Array Value) : laidMetH Tryf.prog laidAll2 ((World.laidAll Tryf.prog os laidAll2).forCall (fun _ _ => 0) ⟨#[], args, []⟩).memory := by
  rw [MakeChecks.laidMetH_plain _ _ _ (by kernel_rfl)]
  exact laidMet_laidAll _ (by kernel_rfl) (by kernel_rfl)

theorem witness_zip {H : Type} {enc : TypeId × Value → H} {C : Checked} {os : Os} {f : FuncId} {fn : Func} {s : OpenSpec} {conds : List PathCond} {apart : Bool} {laid : List (String × DataW Unit)} (w0 : World) (args : Array Value) (hos : w0.os = os)
    (hsh : (w0.forCall (fun _ _ => 0) ⟨#[], args, []⟩).Shaped C.prog)
    (hok : Input.okWideB C.prog (w0.forCall (fun _ _ => 0) ⟨#[], args, []⟩) f ⟨#[], args, []⟩ = true)
    (hrow : s.preRow enc C.prog fn conds apart laid (w0.forCall (fun _ _ => 0) ⟨#[], args, []⟩).memory args) (F : Stop.Interp) :
    ∃ (w : World) (tape : Tape) (i : Input), w.os = os ∧ (w.forCall tape i).Shaped C.prog ∧ i.vars = [] ∧ Input.okWide C.prog (w.forCall tape i) .any w.heap.size f i ∧
      s.preRow enc C.prog fn conds apart laid (w.forCall tape i).memory i.args ∧ ({} : Assume).holds C.prog (lone (Frame.enter C.prog f i.args .normal) [] (w.forCall tape i)) ∧ F.answers tape :=
  ⟨w0, F.over fun _ _ => 0, ⟨#[], args, []⟩, hos, hsh, (Input.okWide_of_okWideB (base := 0) hok).1, (Input.okWide_of_okWideB hok).2, hrow, by
    simp only [Assume.holds]
    exact ⟨by simp, by simp, fun _ => F.over_modest Modest.zero, by simp, by simp⟩, F.over_answers _⟩

/-- The witness: nothing, empty, zero. -/
def wArgs : Array Value := #[.slice none 0 0, .string ⟨#[]⟩, .int .u8 0, .agg (Array.replicate 32 (.int .u8 0)), .slice none 0 0, .int .i64 0, .bool false, .int .i64 0, .slice none 0 0, .slice none 0 0, .slice none 0 0, .agg #[.int .u8 0, .string ⟨#[]⟩, .int .u64 0, .int .u64 0, .int .i64 0, .int .u64 0]]

set_option maxRecDepth 1000000 in
theorem ok1 (os : Os) : Input.okWideB Tryf.checked.prog ((World.laidAll Tryf.prog os laidAll2).forCall (fun _ _ => 0) ⟨#[], wArgs, []⟩) 3 ⟨#[], wArgs, []⟩ = true := by kernel_rfl

set_option maxRecDepth 1000000 in
theorem shaped1 (os : Os) : ((World.laidAll Tryf.prog os laidAll2).forCall (fun _ _ => 0) ⟨#[], wArgs, []⟩).Shaped Tryf.checked.prog := World.shaped_of_ZipB (by kernel_rfl) (by kernel_rfl)

end Go.Proofs.Qxb6616194aFmt
