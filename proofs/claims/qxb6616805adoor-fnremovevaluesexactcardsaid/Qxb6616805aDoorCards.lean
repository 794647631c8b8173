/-
  DERIVED. GIVEN WITH THE SEED: THE CARDS: each row of Qxb6616805aDoorRows.lean that lists a variable, with what it lists TIED to the program's text (the seventh form; the later family's looks); each row that meets fmt, with fmt's text TOLD by the authors' own Lean function (tested against real Go, not proved from fmt's source: count such statements apart). THE CARD IS WHAT COUNTS. Prove the row's statement (the work); the ties are given (Qxb6616805aDoorTie.lean); close each card by the builder's one call (the guide's Derived/Test/ToyasCard.lean, 'card_holds'). Laid BY PROGRAM, IN A SANDBOX (cutbox-door.mjs). By AI agents, Wed Nov 11 2026. No macro, syntax, notation, axiom, sorry.
-/
import Derived.Test.Qxb6616805aDoorRows
import GoSem.ClaimSeven
namespace Go.Proofs.Qxb6616805aDoor
namespace Rows

/-- THE TIED CARD OF 'zzlaws_internal_sip_b1.FnRemoveAllKeepsExactlyTheOthers'. -/
def fnRemoveAllKeepsExactlyTheOthersCard : Claim7 := { stood := { row := fnRemoveAllKeepsExactlyTheOthersRow, standIns := [], harness := (true, "b616ae8c5bc72cb470255d00d14b74ed6a1358a07aa152b42367dec7885ff135"), looks := false }, kinds := [], alts := [], laidByText := true, laidKinds := [.data, .data, .data, .pinned, .pinned], laidTests := true, laidLooks := .later }
def FnRemoveAllKeepsExactlyTheOthersCardSaid : Prop := Claim7.holds Tryd.pinned (.plain (OpenSpec.ofChange fnRemoveAllKeepsExactlyTheOthersSpec)) fnRemoveAllKeepsExactlyTheOthersCard

/-- THE TIED CARD OF 'zzlaws_internal_sip_b1.FnRemoveAllCommutesAndSettles'. -/
def fnRemoveAllCommutesAndSettlesCard : Claim7 := { stood := { row := fnRemoveAllCommutesAndSettlesRow, standIns := [], harness := (true, "b616ae8c5bc72cb470255d00d14b74ed6a1358a07aa152b42367dec7885ff135"), looks := false }, kinds := [], alts := [], laidByText := true, laidKinds := [.data, .data, .data, .pinned, .pinned], laidTests := true, laidLooks := .later }
def FnRemoveAllCommutesAndSettlesCardSaid : Prop := Claim7.holds Tryd.pinned (.plain (OpenSpec.ofChange fnRemoveAllCommutesAndSettlesSpec)) fnRemoveAllCommutesAndSettlesCard

/-- THE TIED CARD OF 'zzlaws_internal_sip_b1.FnRemoveValuesExact'. -/
def fnRemoveValuesExactCard : Claim7 := { stood := { row := fnRemoveValuesExactRow, standIns := [], harness := (true, "b616ae8c5bc72cb470255d00d14b74ed6a1358a07aa152b42367dec7885ff135"), looks := false }, kinds := [], alts := [], laidByText := true, laidKinds := [.data, .data, .data, .pinned, .pinned], laidTests := true, laidLooks := .later }
def FnRemoveValuesExactCardSaid : Prop := Claim7.holds Tryd.pinned (.plain (OpenSpec.ofChange fnRemoveValuesExactSpec)) fnRemoveValuesExactCard

/-- THE TIED CARD OF 'zzlaws_internal_sip_b1.FnRemoveValuesTwiceIsOnceAndItemsFlow'. -/
def fnRemoveValuesTwiceIsOnceAndItemsFlowCard : Claim7 := { stood := { row := fnRemoveValuesTwiceIsOnceAndItemsFlowRow, standIns := [], harness := (true, "b616ae8c5bc72cb470255d00d14b74ed6a1358a07aa152b42367dec7885ff135"), looks := false }, kinds := [], alts := [], laidByText := true, laidKinds := [.data, .data, .data, .pinned, .pinned], laidTests := true, laidLooks := .later }
def FnRemoveValuesTwiceIsOnceAndItemsFlowCardSaid : Prop := Claim7.holds Tryd.pinned (.plain (OpenSpec.ofChange fnRemoveValuesTwiceIsOnceAndItemsFlowSpec)) fnRemoveValuesTwiceIsOnceAndItemsFlowCard
end Rows
end Go.Proofs.Qxb6616805aDoor
