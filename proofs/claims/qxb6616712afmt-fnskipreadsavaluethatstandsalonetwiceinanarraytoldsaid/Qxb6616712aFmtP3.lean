/- The first statement: the told and tied card. -/
import Derived.Test.Qxb6616712aFmtP2
import Derived.Test.Qxb6616712aFmtW12
set_option linter.unusedVariables false
namespace Go.Proofs.Qxb6616712aFmt
open Go.Extern.Stop Go.Stop Go.Extern

theorem unesc_ok (B : Nat) (E : World → Prop) (h : SErr B E) : UnescOK B E :=
  fun b s st p d w hr hs hst hp hb hE => unescape_any B E h b s st p d w hr hs hst hp hb hE

theorem laidOut : laidOutB Tryf.pinned.checked.prog = true := by kernel_rfl
theorem stopsAre : Tryf.pinned.checked.prog.stops = ["fmt.Sprintf", "fmt.errorf"] := by kernel_rfl
theorem stopKnobs : Tryf.pinned.checked.prog.stopKnobs = [] := by kernel_rfl
theorem quietAll (os : Os) : Stop.quiet Tryf.pinned.checked.prog os := by
  intro k hk
  rw [stopKnobs] at hk
  cases hk

set_option maxRecDepth 1000000 in
theorem fnSkipReadsAValueThatStandsAloneTwiceInAnArray_told : Rows.FnSkipReadsAValueThatStandsAloneTwiceInAnArrayToldSaid :=
  Claim7.holds_of_told_tied_any_at .later 6 Tryf.f6 "fmt.Sprintf" ["fmt.errorf"] [] _ _ _ _ _ (by kernel_rfl) rfl rfl rfl laidOut (by kernel_rfl) rfl ⟨rfl, rfl, rfl, rfl, rfl, rfl, rfl⟩ rfl rfl (by kernel_rfl) (by kernel_rfl) Tryf.func6 (by kernel_rfl)
    (of_decide_eq_true (by kernel_rfl)) (by unfold Func.isWrapper; rw [if_neg (of_decide_eq_false (by kernel_rfl))]; exact ⟨rfl, rfl⟩) stopsAre.symm rfl stopKnobs.symm (by kernel_rfl)
    (by kernel_rfl) (by kernel_rfl) (by kernel_rfl) (by kernel_rfl) (by kernel_rfl) (by kernel_rfl) (by kernel_rfl) (by kernel_rfl) (by kernel_rfl) rfl (by kernel_rfl) rfl rfl
    rfl rfl
    rfl (by kernel_rfl) (by kernel_rfl) (by kernel_rfl) (by decide) (by kernel_rfl) fnSkipReadsAValueThatStandsAloneTwiceInAnArray_row_tie
    (OpenClaim.moreEntering_of (by kernel_rfl) (by kernel_rfl) (by kernel_rfl) (by kernel_rfl) (by kernel_rfl) (by kernel_rfl) (by kernel_rfl) (by kernel_rfl) (by kernel_rfl) (by kernel_rfl))
    ⟨_, WideRow.started_initial, quietAll _⟩
    (fun os started _ H enc _ => lifted1 unesc_ok os started H enc)

end Go.Proofs.Qxb6616712aFmt
