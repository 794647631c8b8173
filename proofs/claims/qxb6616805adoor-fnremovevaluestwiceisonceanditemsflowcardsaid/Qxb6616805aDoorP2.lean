/- The tied card of law 6. -/
import Derived.Test.Qxb6616805aDoorP1
set_option linter.unusedVariables false
namespace Go.Proofs.Qxb6616805aDoor
open Go

set_option maxRecDepth 1000000 in
theorem fnRemoveValuesTwiceIsOnceAndItemsFlow_holds : Rows.FnRemoveValuesTwiceIsOnceAndItemsFlowSaid :=
  OpenClaim.holds_of_wide 6 Tryd.f6 rfl rfl rfl rfl rfl rfl rfl ⟨rfl, rfl, rfl, rfl, rfl⟩ rfl rfl rfl rfl rfl (by kernel_rfl) Tryd.func6 (by kernel_rfl)
    (of_decide_eq_true (by kernel_rfl)) (by unfold Func.isWrapper; rw [if_neg (of_decide_eq_false (by kernel_rfl))]; exact ⟨rfl, rfl⟩)
    (fun os started H enc _ => lifted6 os started H enc)

set_option maxRecDepth 1000000 in
theorem fnRemoveValuesTwiceIsOnceAndItemsFlow_card : Rows.FnRemoveValuesTwiceIsOnceAndItemsFlowCardSaid :=
  Claim7.holds_tied_plain_at .later [] [.data, .data, .data, .pinned, .pinned] true (true, "b616ae8c5bc72cb470255d00d14b74ed6a1358a07aa152b42367dec7885ff135") false
    fnRemoveValuesTwiceIsOnceAndItemsFlow_holds (fun _ h => by cases h) (by kernel_rfl) (fun _ h => by cases h) fnRemoveValuesTwiceIsOnceAndItemsFlow_row_tie rfl ⟨rfl, rfl⟩ (by kernel_rfl) rfl
    (fun f fn hf hfn => by
      obtain rfl : f = 6 := Option.some.inj ((show Tryd.prog.funcNamed "example.com/callsign/callsign/zzlaws_internal_sip_b1.FnRemoveValuesTwiceIsOnceAndItemsFlow" = some 6 by kernel_rfl).symm.trans hf) |>.symm
      obtain rfl : fn = Tryd.f6 := (Option.some.inj (Tryd.func6.symm.trans hfn)).symm
      exact ⟨by kernel_rfl, fun j t ht => by
        rw [Tryd.params6] at ht
        have h3 : t = 22 ∨ t = 9 := by
          match j, ht with
          | 0, ht => left; simpa using ht.symm
          | 1, ht => right; simpa using ht.symm
          | 2, ht => right; simpa using ht.symm
          | j + 3, ht => simp at ht
        rcases h3 with rfl | rfl
        · exact (show Tryd.prog.wantsStandIn 22 = false by kernel_rfl)
        · exact (show Tryd.prog.wantsStandIn 9 = false by kernel_rfl)⟩)
    (by kernel_rfl)
end Go.Proofs.Qxb6616805aDoor
