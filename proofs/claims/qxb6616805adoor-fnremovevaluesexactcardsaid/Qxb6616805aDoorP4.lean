/- The tied card of law 5. -/
import Derived.Test.Qxb6616805aDoorP3
set_option linter.unusedVariables false
namespace Go.Proofs.Qxb6616805aDoor
open Go

set_option maxRecDepth 1000000 in
theorem fnRemoveValuesExact_holds : Rows.FnRemoveValuesExactSaid :=
  OpenClaim.holds_of_wide 5 Tryd.f5 rfl rfl rfl rfl rfl rfl rfl ⟨rfl, rfl, rfl, rfl, rfl⟩ rfl rfl rfl rfl rfl (by kernel_rfl) Tryd.func5 (by kernel_rfl)
    (of_decide_eq_true (by kernel_rfl)) (by unfold Func.isWrapper; rw [if_neg (of_decide_eq_false (by kernel_rfl))]; exact ⟨rfl, rfl⟩)
    (fun os started H enc _ => lifted5 os started H enc)

theorem stand5 : ∀ (j : Nat) t, (#[9, 9, 3, 9, 22, 23, 9, 9] : Array TypeId)[j]? = some t → Tryd.prog.wantsStandIn t = false := by
  intro j t ht
  have h3 : t = 9 ∨ t = 3 ∨ t = 22 ∨ t = 23 := by
    match j, ht with
    | 0, ht => left; simpa using ht.symm
    | 1, ht => left; simpa using ht.symm
    | 2, ht => right; left; simpa using ht.symm
    | 3, ht => left; simpa using ht.symm
    | 4, ht => right; right; left; simpa using ht.symm
    | 5, ht => right; right; right; simpa using ht.symm
    | 6, ht => left; simpa using ht.symm
    | 7, ht => left; simpa using ht.symm
    | j + 8, ht => simp at ht
  rcases h3 with rfl | rfl | rfl | rfl
  · exact (show Tryd.prog.wantsStandIn 9 = false by kernel_rfl)
  · exact (show Tryd.prog.wantsStandIn 3 = false by kernel_rfl)
  · exact (show Tryd.prog.wantsStandIn 22 = false by kernel_rfl)
  · exact (show Tryd.prog.wantsStandIn 23 = false by kernel_rfl)

set_option maxRecDepth 1000000 in
theorem fnRemoveValuesExact_card : Rows.FnRemoveValuesExactCardSaid :=
  Claim7.holds_tied_plain_at .later [] [.data, .data, .data, .pinned, .pinned] true (true, "b616ae8c5bc72cb470255d00d14b74ed6a1358a07aa152b42367dec7885ff135") false
    fnRemoveValuesExact_holds (fun _ h => by cases h) (by kernel_rfl) (fun _ h => by cases h) fnRemoveValuesExact_row_tie rfl ⟨rfl, rfl⟩ (by kernel_rfl) rfl
    (fun f fn hf hfn => by
      obtain rfl : f = 5 := Option.some.inj ((show Tryd.prog.funcNamed "example.com/callsign/callsign/zzlaws_internal_sip_b1.FnRemoveValuesExact" = some 5 by kernel_rfl).symm.trans hf) |>.symm
      obtain rfl : fn = Tryd.f5 := (Option.some.inj (Tryd.func5.symm.trans hfn)).symm
      exact ⟨by kernel_rfl, fun j t ht => by
        rw [Tryd.params5] at ht
        exact stand5 j t ht⟩)
    (by kernel_rfl)
end Go.Proofs.Qxb6616805aDoor
