/-
  NARROWER THAN 'FOR EVERY INPUT', by the rows' own cells (each row's printed sentence says how): FnElementsReadsExactlyOneJSONArray: laid · FnElementsWithElementsThatReadNothingTakesOnlyCommas: laid · FnSkipReadsExactlyOneJSONValue: laid · FnSkipReadsAValueThatStandsAloneTwiceInAnArray: laid.
  DERIVED. THE GIVEN ROWS OF THIS SEAT. 4 by the template 'for every input the law returns true; each argument reads behind the call as it read before'; 0 by the template 'total and deterministic' (their statements: Qxb6616712aFmtTotals.lean).
  GIVEN WITH THE SEED: the statements are not yours to turn. If you find one false, say at which input.
  Laid BY PROGRAM, IN A SANDBOX (cutbox-rows.mjs): the forced cells as the released guide's own fill.sh prints them over the translation 1697c103aa426a3c… (all of the seat's roots in one cut). By AI agents, Wed Nov 11 2026. No macro, syntax, notation, axiom, sorry.
-/
import Derived.Test.Qxb6616712aFmtChecked
import GoSem.PinnedTables
import GoSem.Claim
import GoSem.ClaimJoined
import GoSem.ClaimMapViews
import Derived.JoinedTies
import Derived.KernelRfl
namespace Go.Proofs.Qxb6616712aFmt
/- THE CELL 'sum', in the pinned program and in every row, IS THE sha256 OF THE DUMP (.gsa) THAT Qxb6616712aFmtProg.lean LOADS. Nothing in Lean hashes anything: it is a label: what it is worth is what the hold of that sum in a sandbox is worth. -/
noncomputable def Tryf.pinned : Pinned := { name := "qxb6616712afmt", sum := "1697c103aa426a3c3d0733f769807f53b9ac46d494ba9b356a54fe1ed10728bc", checked := Tryf.checked }
namespace Rows
def none {H : Type} : Left H := { results := [], args := [] }

/- WHAT THE LISTED PACKAGE-LEVEL VARIABLES READ AS WHEN THE CALL BEGINS. Each datum BY PROGRAM (the guide's laid-datum.mjs) off the statement by which the dump's own 'gosem.cut.vars' lays the variable. In a bare row this is a premise. The card (Qxb6616712aFmtCards.lean) ties it to the program's text. -/
def laid_unicode_utf8_acceptRanges {H : Type} : DataW H := .agg [.agg [.lit (.int .u8 128), .lit (.int .u8 191)], .agg [.lit (.int .u8 160), .lit (.int .u8 191)], .agg [.lit (.int .u8 128), .lit (.int .u8 159)], .agg [.lit (.int .u8 144), .lit (.int .u8 191)], .agg [.lit (.int .u8 128), .lit (.int .u8 143)], .agg [.lit (.int .u8 0), .lit (.int .u8 0)], .agg [.lit (.int .u8 0), .lit (.int .u8 0)], .agg [.lit (.int .u8 0), .lit (.int .u8 0)], .agg [.lit (.int .u8 0), .lit (.int .u8 0)], .agg [.lit (.int .u8 0), .lit (.int .u8 0)], .agg [.lit (.int .u8 0), .lit (.int .u8 0)], .agg [.lit (.int .u8 0), .lit (.int .u8 0)], .agg [.lit (.int .u8 0), .lit (.int .u8 0)], .agg [.lit (.int .u8 0), .lit (.int .u8 0)], .agg [.lit (.int .u8 0), .lit (.int .u8 0)], .agg [.lit (.int .u8 0), .lit (.int .u8 0)]]
/-- One of Go's own tables, pinned by name: the form's constant. -/
def laid_strconv_isGraphic : DataW Unit := Go.Pinned.isGraphic
/-- One of Go's own tables, pinned by name: the form's constant. -/
def laid_strconv_isNotPrint16 : DataW Unit := Go.Pinned.isNotPrint16
/-- One of Go's own tables, pinned by name: the form's constant. -/
def laid_strconv_isNotPrint32 : DataW Unit := Go.Pinned.isNotPrint32
/-- One of Go's own tables, pinned by name: the form's constant. -/
def laid_strconv_isPrint16 : DataW Unit := Go.Pinned.isPrint16
/-- One of Go's own tables, pinned by name: the form's constant. -/
def laid_strconv_isPrint32 : DataW Unit := Go.Pinned.isPrint32
/-- One of Go's own tables, pinned by name: the form's constant. -/
def laid_unicode_utf8_first : DataW Unit := Go.Pinned.utf8First

/-- 'zzlaws_root_b1.FnElementsReadsExactlyOneJSONArray': WHATEVER THE INPUT: true; the input reads as it did. -/
def fnElementsReadsExactlyOneJSONArraySpec : ChangeSpec := { name := "fnElementsReadsExactlyOneJSONArray", fn := fun _ => fun
  | [d1, d2, d3] => { results := [.lit (.bool true)], args := [d1, d2, d3] }
  | _ => none }
def fnElementsReadsExactlyOneJSONArrayRow : OpenClaim := { program := "qxb6616712afmt", sum := "1697c103aa426a3c3d0733f769807f53b9ac46d494ba9b356a54fe1ed10728bc", func := "example.com/kvitto/kvitto/zzlaws_root_b1.FnElementsReadsExactlyOneJSONArray", spec := "fnElementsReadsExactlyOneJSONArray", stops := ["fmt.Sprintf", "fmt.errorf"], inPlace := ["fmt.errorf", "internal/abi.NoEscape", "internal/bytealg.IndexByteString", "fmt.Sprintf"], unfollowed := true, recurses := true, named := ["unicode/utf8.first", "unicode/utf8.acceptRanges", "strconv.isPrint16", "strconv.isNotPrint16", "strconv.isPrint32", "strconv.isNotPrint32", "strconv.isGraphic"], apart := false, laid := [("unicode/utf8.acceptRanges", laid_unicode_utf8_acceptRanges), ("strconv.isGraphic", laid_strconv_isGraphic), ("strconv.isNotPrint16", laid_strconv_isNotPrint16), ("strconv.isNotPrint32", laid_strconv_isNotPrint32), ("strconv.isPrint16", laid_strconv_isPrint16), ("strconv.isPrint32", laid_strconv_isPrint32), ("unicode/utf8.first", laid_unicode_utf8_first)] }
/-- NO THEOREM (fmt's text is open here; it may be false): for the released tool's asking of the row's closed facts alone. THE STATEMENT IS 'FnElementsReadsExactlyOneJSONArrayToldSaid' (Qxb6616712aFmtCards.lean). -/
def FnElementsReadsExactlyOneJSONArrayFormAsk : Prop := fnElementsReadsExactlyOneJSONArrayRow.holds Tryf.pinned (OpenSpec.ofChange fnElementsReadsExactlyOneJSONArraySpec)

/-- ITS FALSE NEIGHBOUR: 'it returns false'. Refute it at one input. -/
def fnElementsReadsExactlyOneJSONArrayWrong : ChangeSpec := { name := "fnElementsReadsExactlyOneJSONArray", fn := fun _ => fun
  | [d1, d2, d3] => { results := [.lit (.bool false)], args := [d1, d2, d3] }
  | _ => none }
def FnElementsReadsExactlyOneJSONArrayWrongFormAsk : Prop := fnElementsReadsExactlyOneJSONArrayRow.holds Tryf.pinned (OpenSpec.ofChange fnElementsReadsExactlyOneJSONArrayWrong)

/-- 'zzlaws_root_b1.FnElementsWithElementsThatReadNothingTakesOnlyCommas': WHATEVER THE INPUT: true; the input reads as it did. -/
def fnElementsWithElementsThatReadNothingTakesOnlyCommasSpec : ChangeSpec := { name := "fnElementsWithElementsThatReadNothingTakesOnlyCommas", fn := fun _ => fun
  | [d1, d2, d3] => { results := [.lit (.bool true)], args := [d1, d2, d3] }
  | _ => none }
def fnElementsWithElementsThatReadNothingTakesOnlyCommasRow : OpenClaim := { program := "qxb6616712afmt", sum := "1697c103aa426a3c3d0733f769807f53b9ac46d494ba9b356a54fe1ed10728bc", func := "example.com/kvitto/kvitto/zzlaws_root_b1.FnElementsWithElementsThatReadNothingTakesOnlyCommas", spec := "fnElementsWithElementsThatReadNothingTakesOnlyCommas", stops := ["fmt.Sprintf", "fmt.errorf"], inPlace := ["fmt.errorf", "fmt.Sprintf"], unfollowed := true, recurses := true, named := ["unicode/utf8.first", "unicode/utf8.acceptRanges", "strconv.isPrint16", "strconv.isNotPrint16", "strconv.isPrint32", "strconv.isNotPrint32", "strconv.isGraphic"], apart := false, laid := [("unicode/utf8.acceptRanges", laid_unicode_utf8_acceptRanges), ("strconv.isGraphic", laid_strconv_isGraphic), ("strconv.isNotPrint16", laid_strconv_isNotPrint16), ("strconv.isNotPrint32", laid_strconv_isNotPrint32), ("strconv.isPrint16", laid_strconv_isPrint16), ("strconv.isPrint32", laid_strconv_isPrint32), ("unicode/utf8.first", laid_unicode_utf8_first)] }
/-- NO THEOREM (fmt's text is open here; it may be false): for the released tool's asking of the row's closed facts alone. THE STATEMENT IS 'FnElementsWithElementsThatReadNothingTakesOnlyCommasToldSaid' (Qxb6616712aFmtCards.lean). -/
def FnElementsWithElementsThatReadNothingTakesOnlyCommasFormAsk : Prop := fnElementsWithElementsThatReadNothingTakesOnlyCommasRow.holds Tryf.pinned (OpenSpec.ofChange fnElementsWithElementsThatReadNothingTakesOnlyCommasSpec)

/-- ITS FALSE NEIGHBOUR: 'it returns false'. Refute it at one input. -/
def fnElementsWithElementsThatReadNothingTakesOnlyCommasWrong : ChangeSpec := { name := "fnElementsWithElementsThatReadNothingTakesOnlyCommas", fn := fun _ => fun
  | [d1, d2, d3] => { results := [.lit (.bool false)], args := [d1, d2, d3] }
  | _ => none }
def FnElementsWithElementsThatReadNothingTakesOnlyCommasWrongFormAsk : Prop := fnElementsWithElementsThatReadNothingTakesOnlyCommasRow.holds Tryf.pinned (OpenSpec.ofChange fnElementsWithElementsThatReadNothingTakesOnlyCommasWrong)

/-- 'zzlaws_root_b1.FnSkipReadsExactlyOneJSONValue': WHATEVER THE INPUT: true; the input reads as it did. -/
def fnSkipReadsExactlyOneJSONValueSpec : ChangeSpec := { name := "fnSkipReadsExactlyOneJSONValue", fn := fun _ => fun
  | [d1, d2, d3] => { results := [.lit (.bool true)], args := [d1, d2, d3] }
  | _ => none }
def fnSkipReadsExactlyOneJSONValueRow : OpenClaim := { program := "qxb6616712afmt", sum := "1697c103aa426a3c3d0733f769807f53b9ac46d494ba9b356a54fe1ed10728bc", func := "example.com/kvitto/kvitto/zzlaws_root_b1.FnSkipReadsExactlyOneJSONValue", spec := "fnSkipReadsExactlyOneJSONValue", stops := ["fmt.Sprintf", "fmt.errorf"], inPlace := ["fmt.errorf", "internal/abi.NoEscape", "internal/bytealg.IndexByteString", "fmt.Sprintf"], unfollowed := true, recurses := true, named := ["unicode/utf8.first", "unicode/utf8.acceptRanges", "strconv.isPrint16", "strconv.isNotPrint16", "strconv.isPrint32", "strconv.isNotPrint32", "strconv.isGraphic"], apart := false, laid := [("unicode/utf8.acceptRanges", laid_unicode_utf8_acceptRanges), ("strconv.isGraphic", laid_strconv_isGraphic), ("strconv.isNotPrint16", laid_strconv_isNotPrint16), ("strconv.isNotPrint32", laid_strconv_isNotPrint32), ("strconv.isPrint16", laid_strconv_isPrint16), ("strconv.isPrint32", laid_strconv_isPrint32), ("unicode/utf8.first", laid_unicode_utf8_first)] }
/-- NO THEOREM (fmt's text is open here; it may be false): for the released tool's asking of the row's closed facts alone. THE STATEMENT IS 'FnSkipReadsExactlyOneJSONValueToldSaid' (Qxb6616712aFmtCards.lean). -/
def FnSkipReadsExactlyOneJSONValueFormAsk : Prop := fnSkipReadsExactlyOneJSONValueRow.holds Tryf.pinned (OpenSpec.ofChange fnSkipReadsExactlyOneJSONValueSpec)

/-- ITS FALSE NEIGHBOUR: 'it returns false'. Refute it at one input. -/
def fnSkipReadsExactlyOneJSONValueWrong : ChangeSpec := { name := "fnSkipReadsExactlyOneJSONValue", fn := fun _ => fun
  | [d1, d2, d3] => { results := [.lit (.bool false)], args := [d1, d2, d3] }
  | _ => none }
def FnSkipReadsExactlyOneJSONValueWrongFormAsk : Prop := fnSkipReadsExactlyOneJSONValueRow.holds Tryf.pinned (OpenSpec.ofChange fnSkipReadsExactlyOneJSONValueWrong)

/-- 'zzlaws_root_b1.FnSkipReadsAValueThatStandsAloneTwiceInAnArray': WHATEVER THE INPUT: true; the input reads as it did. -/
def fnSkipReadsAValueThatStandsAloneTwiceInAnArraySpec : ChangeSpec := { name := "fnSkipReadsAValueThatStandsAloneTwiceInAnArray", fn := fun _ => fun
  | [d1, d2, d3] => { results := [.lit (.bool true)], args := [d1, d2, d3] }
  | _ => none }
def fnSkipReadsAValueThatStandsAloneTwiceInAnArrayRow : OpenClaim := { program := "qxb6616712afmt", sum := "1697c103aa426a3c3d0733f769807f53b9ac46d494ba9b356a54fe1ed10728bc", func := "example.com/kvitto/kvitto/zzlaws_root_b1.FnSkipReadsAValueThatStandsAloneTwiceInAnArray", spec := "fnSkipReadsAValueThatStandsAloneTwiceInAnArray", stops := ["fmt.Sprintf", "fmt.errorf"], inPlace := ["fmt.errorf", "internal/abi.NoEscape", "internal/bytealg.IndexByteString", "fmt.Sprintf"], unfollowed := true, recurses := true, named := ["unicode/utf8.first", "unicode/utf8.acceptRanges", "strconv.isPrint16", "strconv.isNotPrint16", "strconv.isPrint32", "strconv.isNotPrint32", "strconv.isGraphic"], apart := false, laid := [("unicode/utf8.acceptRanges", laid_unicode_utf8_acceptRanges), ("strconv.isGraphic", laid_strconv_isGraphic), ("strconv.isNotPrint16", laid_strconv_isNotPrint16), ("strconv.isNotPrint32", laid_strconv_isNotPrint32), ("strconv.isPrint16", laid_strconv_isPrint16), ("strconv.isPrint32", laid_strconv_isPrint32), ("unicode/utf8.first", laid_unicode_utf8_first)] }
/-- NO THEOREM (fmt's text is open here; it may be false): for the released tool's asking of the row's closed facts alone. THE STATEMENT IS 'FnSkipReadsAValueThatStandsAloneTwiceInAnArrayToldSaid' (Qxb6616712aFmtCards.lean). -/
def FnSkipReadsAValueThatStandsAloneTwiceInAnArrayFormAsk : Prop := fnSkipReadsAValueThatStandsAloneTwiceInAnArrayRow.holds Tryf.pinned (OpenSpec.ofChange fnSkipReadsAValueThatStandsAloneTwiceInAnArraySpec)

/-- ITS FALSE NEIGHBOUR: 'it returns false'. Refute it at one input. -/
def fnSkipReadsAValueThatStandsAloneTwiceInAnArrayWrong : ChangeSpec := { name := "fnSkipReadsAValueThatStandsAloneTwiceInAnArray", fn := fun _ => fun
  | [d1, d2, d3] => { results := [.lit (.bool false)], args := [d1, d2, d3] }
  | _ => none }
def FnSkipReadsAValueThatStandsAloneTwiceInAnArrayWrongFormAsk : Prop := fnSkipReadsAValueThatStandsAloneTwiceInAnArrayRow.holds Tryf.pinned (OpenSpec.ofChange fnSkipReadsAValueThatStandsAloneTwiceInAnArrayWrong)

end Rows
end Go.Proofs.Qxb6616712aFmt
