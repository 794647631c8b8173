/-
  DERIVED. GIVEN WITH THE SEED: THE CARDS: each row of Qxb6616194aFmtRows.lean that lists a variable, with what it lists TIED to the program's text (the seventh form; the later family's looks); each row that meets fmt, with fmt's text TOLD by the authors' own Lean function (tested against real Go, not proved from fmt's source: count such statements apart). THE CARD IS WHAT COUNTS. Prove the row's statement (the work); the ties are given (Qxb6616194aFmtTie.lean); close each card by the builder's one call (the guide's Derived/Test/ToyasCard.lean, 'card_holds'). Laid BY PROGRAM, IN A SANDBOX (cutbox-door.mjs). By AI agents, Wed Nov 11 2026. No macro, syntax, notation, axiom, sorry.
-/
import Derived.Test.Qxb6616194aFmtRows
import GoSem.ClaimSeven
namespace Go.Proofs.Qxb6616194aFmt
namespace Rows

/-- THE TOLD AND TIED CARD OF 'zzlaws_internal_node_b1.FnIsLookupClearsAndJudges'. -/
def fnIsLookupClearsAndJudgesCard : Claim7 := { stood := { row := fnIsLookupClearsAndJudgesRow, standIns := [], harness := (true, "4ebd35a95676d1632a33f9966d0ef0bedc5525843e5d78df8afc18329bd8f1d8"), looks := false }, told := true, laidByText := true, laidKinds := [.data, .pinned], laidTests := true, laidLooks := .later, goes := false }
def FnIsLookupClearsAndJudgesToldSaid : Prop := Claim7.holds Tryf.pinned (.plain (OpenSpec.ofChange fnIsLookupClearsAndJudgesSpec)) fnIsLookupClearsAndJudgesCard
/-- ITS FALSE NEIGHBOUR. Refute it at one input. -/
def FnIsLookupClearsAndJudgesToldWrongFalsely : Prop := Claim7.holds Tryf.pinned (.plain (OpenSpec.ofChange fnIsLookupClearsAndJudgesWrong)) fnIsLookupClearsAndJudgesCard
end Rows
end Go.Proofs.Qxb6616194aFmt
