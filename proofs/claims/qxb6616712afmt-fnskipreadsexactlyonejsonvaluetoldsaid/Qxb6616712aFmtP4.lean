/- The second statement: the told and tied card. -/
import Derived.Test.Qxb6616712aFmtP1
import Derived.Test.Qxb6616712aFmtX8
import Derived.Test.Qxb6616712aFmtW12
set_option linter.unusedVariables false
set_option linter.unusedSimpArgs false
set_option linter.unnecessarySimpa false
namespace Go.Proofs.Qxb6616712aFmt
open Go.ChangeShapes Go.WideShapes Go.ChangeAt Go.RowKit Go.Kit Go.Shelf
open Go.ChangeMaps (open_string shut_string)
open Go.Extern.Stop Go.Stop Go.Extern

theorem unesc_ok2 (B : Nat) (E : World → Prop) (h : SErr B E) : UnescOK B E :=
  fun b s st p d w hr hs hst hp hb hE => unescape_any B E h b s st p d w hr hs hst hp hb hE

theorem laid_same : Rows.fnSkipReadsExactlyOneJSONValueRow.laid = laidAll7 := rfl

set_option maxRecDepth 1000000 in
theorem ok2 (os : Os) : Input.okWideB Tryf.checked.prog ((World.laidAll Tryf.prog os laidAll7).forCall (fun _ _ => 0) ⟨#[], #[.string ⟨#[]⟩, .int .i64 0, .int .i64 0], []⟩) 5 ⟨#[], #[.string ⟨#[]⟩, .int .i64 0, .int .i64 0], []⟩ = true := by kernel_rfl

set_option maxRecDepth 1000000 in
theorem shaped2 (os : Os) : ((World.laidAll Tryf.prog os laidAll7).forCall (fun _ _ => 0) ⟨#[], #[.string ⟨#[]⟩, .int .i64 0, .int .i64 0], []⟩).Shaped Tryf.checked.prog := World.shaped_of_ZipB (by kernel_rfl) (by kernel_rfl)

set_option maxHeartbeats 1000000 in
set_option maxRecDepth 1000000 in
theorem lifted2 (hUn : ∀ B E, SErr B E → UnescOK B E) (os : Os) (started : os.Started) (H : Type) (enc : TypeId × Value → H) :
    ReturnsInTold none {} Tryf.checked os 5 .any Input.okWide ((OpenSpec.ofChange Rows.fnSkipReadsExactlyOneJSONValueSpec).preRow enc Tryf.prog Tryf.f5 [] false laidAll7)
      (fun F => ((OpenSpec.ofChange Rows.fnSkipReadsExactlyOneJSONValueSpec).at F).post enc Tryf.prog Tryf.f5 false true false false) (aloneAtReturn Tryf.prog) nothingAlways := by
  refine returnsInTold_of_row (C := Tryf.checked) (s := OpenSpec.ofChange Rows.fnSkipReadsExactlyOneJSONValueSpec) (by kernel_rfl) own started (by kernel_rfl) Tryf.func5
    (witness_zip (World.laidAll Tryf.prog os laidAll7) #[.string ⟨#[]⟩, .int .i64 0, .int .i64 0] (World.laidAll_os _ _ _) (shaped2 os) (ok2 os) (OpenSpec.preRow_of_B rfl 8 (by kernel_rfl) (by kernel_rfl) (laid_met os _))) ?_
  intro F W base args ds gs before _ hF hval0 hW hcnd _ hsz hL _
  have hval : ∀ (j : Nat) t v, Tryf.f5.params[j]? = some t → args[j]? = some v → Value.okWide Tryf.prog W .any base t v := hval0
  have hW' := hW
  obtain ⟨p, q, hA0, hV, rfl, _, _⟩ := hW
  have hA : DataW.TrodAll enc Tryf.prog W 0 (fun _ => true) true Tryf.f5.params.toList args.toList ds p := hA0
  rw [Tryf.params5] at hA hval
  obtain ⟨v0, v1, v2, d0, d1, d2, p0, p1, p2, rfl, rfl, rfl, h0, h1, h2⟩ := trodAll_three hA
  obtain ⟨rfl, rfl⟩ := trodVars_none hV
  obtain ⟨s, rfl, rfl, rfl, ws⟩ := open_string Tryf.underlying9 (hval 0 9 v0 rfl rfl) h0
  obtain ⟨x, rfl, rfl, rfl, wx⟩ := open_int Tryf.underlying3 (hval 1 3 v1 rfl rfl) h1
  obtain ⟨y, rfl, rfl, rfl, wy⟩ := open_int Tryf.underlying3 (hval 2 3 v2 rfl rfl) h2
  obtain ⟨hU, hT⟩ := tabs_of_laid hL
  refine (law2 hUn F.told Lib.goPrintTabs s x y W ws hF hT hU).mono fun e W' ⟨he, bel⟩ => ?_
  subst he
  have e1 : ((OpenSpec.ofChange Rows.fnSkipReadsExactlyOneJSONValueSpec).at F.told).fn H ([.lit (.string s.data.toList), .lit (.int .i64 x), .lit (.int .i64 y)] ++ []) = { results := [.lit (.bool true)], args := [.lit (.string s.data.toList), .lit (.int .i64 x), .lit (.int .i64 y)] } := rfl
  refine ⟨_, rfl, _, _, _, [], [], [], hW', ?_, ?_, ?_, bel.frame _, fun h => by cases h⟩
  · rw [e1]; exact trodAll_mk1 (shut_bool Tryf.underlying4 true)
  · rw [e1]; exact trodAll_mk3 (shut_string Tryf.underlying9 ws) (shut_int Tryf.underlying3 wx) (shut_int Tryf.underlying3 wy)
  · rw [e1]; rfl

theorem laidOut2 : laidOutB Tryf.pinned.checked.prog = true := by kernel_rfl
theorem stopsAre2 : Tryf.pinned.checked.prog.stops = ["fmt.Sprintf", "fmt.errorf"] := by kernel_rfl
theorem stopKnobs2 : Tryf.pinned.checked.prog.stopKnobs = [] := by kernel_rfl
theorem quietAll2 (os : Os) : Stop.quiet Tryf.pinned.checked.prog os := by
  intro k hk
  rw [stopKnobs2] at hk
  cases hk

set_option maxRecDepth 1000000 in
theorem fnSkipReadsExactlyOneJSONValue_told : Rows.FnSkipReadsExactlyOneJSONValueToldSaid :=
  Claim7.holds_of_told_tied_any_at .later 5 Tryf.f5 "fmt.Sprintf" ["fmt.errorf"] [] _ _ _ _ _ (by kernel_rfl) rfl rfl rfl laidOut2 (by kernel_rfl) rfl ⟨rfl, rfl, rfl, rfl, rfl, rfl, rfl⟩ rfl rfl (by kernel_rfl) (by kernel_rfl) Tryf.func5 (by kernel_rfl)
    (of_decide_eq_true (by kernel_rfl)) (by unfold Func.isWrapper; rw [if_neg (of_decide_eq_false (by kernel_rfl))]; exact ⟨rfl, rfl⟩) stopsAre2.symm rfl stopKnobs2.symm (by kernel_rfl)
    (by kernel_rfl) (by kernel_rfl) (by kernel_rfl) (by kernel_rfl) (by kernel_rfl) (by kernel_rfl) (by kernel_rfl) (by kernel_rfl) (by kernel_rfl) rfl (by kernel_rfl) rfl rfl
    rfl rfl
    rfl (by kernel_rfl) (by kernel_rfl) (by kernel_rfl) (by decide) (by kernel_rfl) fnSkipReadsExactlyOneJSONValue_row_tie
    (OpenClaim.moreEntering_of (by kernel_rfl) (by kernel_rfl) (by kernel_rfl) (by kernel_rfl) (by kernel_rfl) (by kernel_rfl) (by kernel_rfl) (by kernel_rfl) (by kernel_rfl) (by kernel_rfl))
    ⟨_, WideRow.started_initial, quietAll2 _⟩
    (fun os started _ H enc _ => lifted2 unesc_ok2 os started H enc)

end Go.Proofs.Qxb6616712aFmt
