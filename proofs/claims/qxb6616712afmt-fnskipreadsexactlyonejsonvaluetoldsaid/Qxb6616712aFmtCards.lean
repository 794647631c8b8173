/-
  DERIVED. GIVEN WITH THE SEED: THE CARDS: each row of Qxb6616712aFmtRows.lean that lists a variable, with what it lists TIED to the program's text (the seventh form; the later family's looks); each row that meets fmt, with fmt's text TOLD by the authors' own Lean function (tested against real Go, not proved from fmt's source: count such statements apart). THE CARD IS WHAT COUNTS. Prove the row's statement (the work); the ties are given (Qxb6616712aFmtTie.lean); close each card by the builder's one call (the guide's Derived/Test/ToyasCard.lean, 'card_holds'). Laid BY PROGRAM, IN A SANDBOX (cutbox-door.mjs). By AI agents, Wed Nov 11 2026. No macro, syntax, notation, axiom, sorry.
-/
import Derived.Test.Qxb6616712aFmtRows
import GoSem.ClaimSeven
namespace Go.Proofs.Qxb6616712aFmt
namespace Rows

/-- THE TOLD AND TIED CARD OF 'zzlaws_root_b1.FnElementsReadsExactlyOneJSONArray'. -/
def fnElementsReadsExactlyOneJSONArrayCard : Claim7 := { stood := { row := fnElementsReadsExactlyOneJSONArrayRow, standIns := [], harness := (true, "5bed147b80ab4f6d7a7f5e5f3fa007b0a3b89c95bfeee65c2619f94a99ff5510"), looks := false }, told := true, laidByText := true, laidKinds := [.data, .pinned, .pinned, .pinned, .pinned, .pinned, .pinned], laidTests := true, laidLooks := .later, goes := false }
def FnElementsReadsExactlyOneJSONArrayToldSaid : Prop := Claim7.holds Tryf.pinned (.plain (OpenSpec.ofChange fnElementsReadsExactlyOneJSONArraySpec)) fnElementsReadsExactlyOneJSONArrayCard
/-- ITS FALSE NEIGHBOUR. Refute it at one input. -/
def FnElementsReadsExactlyOneJSONArrayToldWrongFalsely : Prop := Claim7.holds Tryf.pinned (.plain (OpenSpec.ofChange fnElementsReadsExactlyOneJSONArrayWrong)) fnElementsReadsExactlyOneJSONArrayCard

/-- THE TOLD AND TIED CARD OF 'zzlaws_root_b1.FnElementsWithElementsThatReadNothingTakesOnlyCommas'. -/
def fnElementsWithElementsThatReadNothingTakesOnlyCommasCard : Claim7 := { stood := { row := fnElementsWithElementsThatReadNothingTakesOnlyCommasRow, standIns := [], harness := (true, "5bed147b80ab4f6d7a7f5e5f3fa007b0a3b89c95bfeee65c2619f94a99ff5510"), looks := false }, told := true, laidByText := true, laidKinds := [.data, .pinned, .pinned, .pinned, .pinned, .pinned, .pinned], laidTests := true, laidLooks := .later, goes := false }
def FnElementsWithElementsThatReadNothingTakesOnlyCommasToldSaid : Prop := Claim7.holds Tryf.pinned (.plain (OpenSpec.ofChange fnElementsWithElementsThatReadNothingTakesOnlyCommasSpec)) fnElementsWithElementsThatReadNothingTakesOnlyCommasCard
/-- ITS FALSE NEIGHBOUR. Refute it at one input. -/
def FnElementsWithElementsThatReadNothingTakesOnlyCommasToldWrongFalsely : Prop := Claim7.holds Tryf.pinned (.plain (OpenSpec.ofChange fnElementsWithElementsThatReadNothingTakesOnlyCommasWrong)) fnElementsWithElementsThatReadNothingTakesOnlyCommasCard

/-- THE TOLD AND TIED CARD OF 'zzlaws_root_b1.FnSkipReadsExactlyOneJSONValue'. -/
def fnSkipReadsExactlyOneJSONValueCard : Claim7 := { stood := { row := fnSkipReadsExactlyOneJSONValueRow, standIns := [], harness := (true, "5bed147b80ab4f6d7a7f5e5f3fa007b0a3b89c95bfeee65c2619f94a99ff5510"), looks := false }, told := true, laidByText := true, laidKinds := [.data, .pinned, .pinned, .pinned, .pinned, .pinned, .pinned], laidTests := true, laidLooks := .later, goes := false }
def FnSkipReadsExactlyOneJSONValueToldSaid : Prop := Claim7.holds Tryf.pinned (.plain (OpenSpec.ofChange fnSkipReadsExactlyOneJSONValueSpec)) fnSkipReadsExactlyOneJSONValueCard
/-- ITS FALSE NEIGHBOUR. Refute it at one input. -/
def FnSkipReadsExactlyOneJSONValueToldWrongFalsely : Prop := Claim7.holds Tryf.pinned (.plain (OpenSpec.ofChange fnSkipReadsExactlyOneJSONValueWrong)) fnSkipReadsExactlyOneJSONValueCard

/-- THE TOLD AND TIED CARD OF 'zzlaws_root_b1.FnSkipReadsAValueThatStandsAloneTwiceInAnArray'. -/
def fnSkipReadsAValueThatStandsAloneTwiceInAnArrayCard : Claim7 := { stood := { row := fnSkipReadsAValueThatStandsAloneTwiceInAnArrayRow, standIns := [], harness := (true, "5bed147b80ab4f6d7a7f5e5f3fa007b0a3b89c95bfeee65c2619f94a99ff5510"), looks := false }, told := true, laidByText := true, laidKinds := [.data, .pinned, .pinned, .pinned, .pinned, .pinned, .pinned], laidTests := true, laidLooks := .later, goes := false }
def FnSkipReadsAValueThatStandsAloneTwiceInAnArrayToldSaid : Prop := Claim7.holds Tryf.pinned (.plain (OpenSpec.ofChange fnSkipReadsAValueThatStandsAloneTwiceInAnArraySpec)) fnSkipReadsAValueThatStandsAloneTwiceInAnArrayCard
/-- ITS FALSE NEIGHBOUR. Refute it at one input. -/
def FnSkipReadsAValueThatStandsAloneTwiceInAnArrayToldWrongFalsely : Prop := Claim7.holds Tryf.pinned (.plain (OpenSpec.ofChange fnSkipReadsAValueThatStandsAloneTwiceInAnArrayWrong)) fnSkipReadsAValueThatStandsAloneTwiceInAnArrayCard
end Rows
end Go.Proofs.Qxb6616712aFmt
