/- The tables off 'laid'; the witness; from a walk to the card: shared by the statements. -/
import Derived.Test.Qxb6616712aFmtTie
import Derived.Test.Qxb6616712aFmtCards
import Derived.Test.Qxb6616712aFmtShelf
import Derived.ProofKit
import Derived.LaidMore
import Derived.Lay
import Derived.SevenTiedAt
import Derived.Stop.Joined
import Derived.Stop.JoinedTold
import Derived.Stop.JoinedAt
import Derived.PinnedBridge
import Derived.Lib.LaidPrint
import Derived.Lib.LaidU8
import Derived.WalkSmall
set_option linter.unusedVariables false
set_option linter.unusedSimpArgs false
set_option linter.unnecessarySimpa false
namespace Go.Proofs.Qxb6616712aFmt
open Go.ChangeShapes Go.WideShapes Go.ChangeAt Go.RowKit Go.Kit Go.Shelf
open Go.ChangeMaps (open_string shut_string)
open Go.Extern.Stop Go.Stop Go.Extern

theorem own : ownKnob Tryf.prog.godebug = none := by kernel_rfl

/-- The seven listed variables. -/
def laidAll7 : List (String × DataW Unit) := Rows.fnSkipReadsAValueThatStandsAloneTwiceInAnArrayRow.laid

theorem accept_eq : (Rows.laid_unicode_utf8_acceptRanges : DataW Unit) = Lib.acceptData := by kernel_rfl

set_option maxRecDepth 100000 in
theorem tabs_of_laid {W : World} (h : laidMetH Tryf.prog laidAll7 W) : Lib.Utf8Tabs 0 1 W ∧ Lib.PrintTabsAt 3 4 5 6 Lib.goPrintTabs W := by
  rw [MakeChecks.laidMetH_plain _ _ _ (by kernel_rfl)] at h
  refine ⟨?_, ?_⟩
  · exact utf8Tabs_of_reads (ρ := Tryf.lays197_ren) { Tryf.lays197 with } ⟨by kernel_rfl, by kernel_rfl, by kernel_rfl, by kernel_rfl, by kernel_rfl, by kernel_rfl, by kernel_rfl⟩
      (by rw [← Pinned.utf8First_eq]; exact Lib.laidMet.reads h (by simp [laidAll7, Rows.fnSkipReadsAValueThatStandsAloneTwiceInAnArrayRow, Rows.laid_unicode_utf8_first]))
      (by rw [← accept_eq]; exact Lib.laidMet.reads h (by simp [laidAll7, Rows.fnSkipReadsAValueThatStandsAloneTwiceInAnArrayRow]))
  · exact printTabs_of_reads (ρ := Tryf.lays339_ren) { Tryf.lays339 with } ⟨by kernel_rfl, by kernel_rfl, by kernel_rfl, by kernel_rfl, by kernel_rfl, by kernel_rfl, by kernel_rfl, by kernel_rfl, by kernel_rfl, by kernel_rfl⟩
      (by rw [← Pinned.isPrint16_eq]; exact Lib.laidMet.reads h (by simp [laidAll7, Rows.fnSkipReadsAValueThatStandsAloneTwiceInAnArrayRow, Rows.laid_strconv_isPrint16]))
      (by rw [← Pinned.isNotPrint16_eq]; exact Lib.laidMet.reads h (by simp [laidAll7, Rows.fnSkipReadsAValueThatStandsAloneTwiceInAnArrayRow, Rows.laid_strconv_isNotPrint16]))
      (by rw [← Pinned.isPrint32_eq]; exact Lib.laidMet.reads h (by simp [laidAll7, Rows.fnSkipReadsAValueThatStandsAloneTwiceInAnArrayRow, Rows.laid_strconv_isPrint32]))
      (by rw [← Pinned.isNotPrint32_eq]; exact Lib.laidMet.reads h (by simp [laidAll7, Rows.fnSkipReadsAValueThatStandsAloneTwiceInAnArrayRow, Rows.laid_strconv_isNotPrint32]))

set_option maxRecDepth 1000000 in
theorem laid_met (os : Os) (args : Array Value) : laidMetH Tryf.prog laidAll7 ((World.laidAll Tryf.prog os laidAll7).forCall (fun _ _ => 0) ⟨#[], args, []⟩).memory := by
  rw [MakeChecks.laidMetH_plain _ _ _ (by kernel_rfl)]
  exact laidMet_laidAll _ (by kernel_rfl) (by kernel_rfl)

theorem witness_zip {H : Type} {enc : TypeId × Value → H} {C : Checked} {os : Os} {f : FuncId} {fn : Func} {s : OpenSpec} {conds : List PathCond} {apart : Bool} {laid : List (String × DataW Unit)} (w0 : World) (args : Array Value) (hos : w0.os = os)
    (hsh : (w0.forCall (fun _ _ => 0) ⟨#[], args, []⟩).Shaped C.prog)
    (hok : Input.okWideB C.prog (w0.forCall (fun _ _ => 0) ⟨#[], args, []⟩) f ⟨#[], args, []⟩ = true)
    (hrow : s.preRow enc C.prog fn conds apart laid (w0.forCall (fun _ _ => 0) ⟨#[], args, []⟩).memory args) (F : Stop.Interp) :
    ∃ (w : World) (tape : Tape) (i : Input), w.os = os ∧ (w.forCall tape i).Shaped C.prog ∧ i.vars = [] ∧ Input.okWide C.prog (w.forCall tape i) .any w.heap.size f i ∧
      s.preRow enc C.prog fn conds apart laid (w.forCall tape i).memory i.args ∧ ({} : Assume).holds C.prog (lone (Frame.enter C.prog f i.args .normal) [] (w.forCall tape i)) ∧ F.answers tape :=
  ⟨w0, F.over fun _ _ => 0, ⟨#[], args, []⟩, hos, hsh, (Input.okWide_of_okWideB (base := 0) hok).1, (Input.okWide_of_okWideB hok).2, hrow, by
    simp only [Assume.holds]
    exact ⟨by simp, by simp, fun _ => F.over_modest Modest.zero, by simp, by simp⟩, F.over_answers _⟩

end Go.Proofs.Qxb6616712aFmt
