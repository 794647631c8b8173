/- The listed variables; the witness; the row of law 6. -/
import Derived.Test.Qxb6616805aDoorTie
import Derived.Test.Qxb6616805aDoorCards
import Derived.Test.Qxb6616805aDoorO1
import Derived.Test.Qxb6616805aDoorG16
import Derived.ChangeSame
import Derived.ChangeVars
import Derived.JoinedOf
import Derived.RowKit
import Derived.LaidLaws
import Derived.LaidMore
import Derived.Lay
import Derived.SevenTiedAt
import Derived.WalkSmall
import Derived.WideKeyArgs
set_option linter.unusedVariables false
set_option linter.unusedSimpArgs false
set_option linter.unnecessarySimpa false
namespace Go.Proofs.Qxb6616805aDoor
open Go.ChangeShapes Go.WideShapes Go.ChangeAt Go.RowKit Go.Shelf
open Go.ChangeMaps (open_string shut_string)

theorem own : ownKnob Tryd.prog.godebug = none := by kernel_rfl
theorem laidOut : laidOutB Tryd.pinned.checked.prog = true := by kernel_rfl

/-- The five listed variables. -/
def laid5 : List (String × DataW Unit) := Rows.fnRemoveValuesTwiceIsOnceAndItemsFlowRow.laid
set_option maxRecDepth 1000000 in
theorem laid5_plain (W : World) : laidMetH Tryd.prog laid5 W = laidMet Tryd.prog laid5 W := MakeChecks.laidMetH_plain _ _ _ (by kernel_rfl)
theorem tb_of {W : World} (h : laidMetH Tryd.prog laid5 W) : Tb W := by
  rw [laid5_plain] at h
  exact tb_of_laid h (by simp [laid5, Rows.fnRemoveValuesTwiceIsOnceAndItemsFlowRow]) (by simp [laid5, Rows.fnRemoveValuesTwiceIsOnceAndItemsFlowRow])
set_option maxRecDepth 1000000 in
theorem laid_met (os : Os) (args : Array Value) : laidMetH Tryd.prog laid5 ((World.laidAll Tryd.prog os laid5).forCall (fun _ _ => 0) ⟨#[], args, []⟩).memory := by
  rw [laid5_plain]
  exact laidMet_laidAll _ (by kernel_rfl) (by kernel_rfl)

theorem trodAll_stays {H : Type} {enc : TypeId × Value → H} {W W' : World} {sp' : Nat → Bool} : ∀ {ts : List TypeId} {vs : List Value} {ds : List (DataW H)} {ps : List MemPlace}, (∀ t ∈ ts, Tryd.prog.readableRec t = true ∧ t < Tryd.prog.types.size) →
    DataW.TrodAll enc Tryd.prog W 0 (fun _ => true) true ts vs ds ps → (∀ p ∈ ps, W.sameAt W' p) → (∀ p ∈ ps, sp' p.block = true) → DataW.TrodAll enc Tryd.prog W' 0 sp' true ts vs ds ps
  | [], vs, ds, ps, _, h, _, _ => by
    obtain ⟨rfl, rfl, rfl⟩ := trodAll_nil h
    exact trodAll_mk0
  | t :: ts, vs, ds, ps, hr, h, h1, h2 => by
    obtain ⟨v, vs', d, ds', p, q, rfl, rfl, rfl, hd, hrest⟩ := trodAll_cons h
    exact trodAll_cons_mk (WideElems.Trod_stays laidOut (hr t (by simp)).1 (hr t (by simp)).2 hd (fun x hx => h1 x (by simp [hx])) (fun x hx => h2 x (by simp [hx])))
      (trodAll_stays (fun t' ht' => hr t' (by simp [ht'])) hrest (fun x hx => h1 x (by simp [hx])) (fun x hx => h2 x (by simp [hx])))

def wArgs6 : Array Value := #[.slice none 0 0, .string ⟨#[]⟩, .string ⟨#[]⟩]
def params6 : List TypeId := [22, 9, 9]
theorem params6Rec : (params6.all fun t => Tryd.prog.readableRec t && decide (t < Tryd.prog.types.size)) = true := by kernel_rfl
set_option maxRecDepth 1000000 in
theorem ok6 (os : Os) : Input.okWideB Tryd.checked.prog ((World.laidAll Tryd.prog os laid5).forCall (fun _ _ => 0) ⟨#[], wArgs6, []⟩) 6 ⟨#[], wArgs6, []⟩ = true := by kernel_rfl
set_option maxRecDepth 1000000 in
theorem shaped6 (os : Os) : ((World.laidAll Tryd.prog os laid5).forCall (fun _ _ => 0) ⟨#[], wArgs6, []⟩).Shaped Tryd.checked.prog := World.shaped_of_ZipB (by kernel_rfl) (by kernel_rfl)

set_option maxHeartbeats 1000000 in
set_option maxRecDepth 1000000 in
theorem lifted6 (os : Os) (started : os.Started) (H : Type) (enc : TypeId × Value → H) :
    ReturnsInHanded {} Tryd.checked os 6 .any (fun w args => (Rows.fnRemoveValuesTwiceIsOnceAndItemsFlowSpec.pre enc Tryd.prog Tryd.f6 [] false w args ∧ laidMetH Tryd.prog laid5 w) ∧ sizedMet enc Tryd.prog Tryd.f6 (OpenSpec.ofChange Rows.fnRemoveValuesTwiceIsOnceAndItemsFlowSpec) false w args)
      (Rows.fnRemoveValuesTwiceIsOnceAndItemsFlowSpec.post enc Tryd.prog Tryd.f6 false true false false) := by
  refine returnsInHanded_of_change_and (C := Tryd.checked) (X := fun w _ => laidMetH Tryd.prog laid5 w) (fun _ _ _ hh h => h.of_heap hh) own started (by kernel_rfl) Tryd.func6
    ⟨World.laidAll Tryd.prog os laid5, fun _ _ => 0, ⟨#[], wArgs6, []⟩, World.laidAll_os _ _ _, shaped6 os, (Input.okWide_of_okWideB (base := 0) (ok6 os)).1, (Input.okWide_of_okWideB (ok6 os)).2,
      ⟨⟨ChangeSpec.pre_of_preB (fuel := 8) (by kernel_rfl), laid_met os _⟩, sizedMet_of_sizedB (fuel := 8) (by kernel_rfl)⟩, by
      simp only [Assume.holds]
      exact ⟨by simp, by simp, fun h => (by cases h), by simp, by simp⟩⟩ ?_
  intro W base args ds gs before hval0 hW _ _ hL _
  have hval : ∀ (j : Nat) t v, Tryd.f6.params[j]? = some t → args[j]? = some v → Value.okWide Tryd.prog W .any base t v := hval0
  have hW' := hW
  obtain ⟨p, q, hA0, hV, rfl, _, _⟩ := hW
  have hA : DataW.TrodAll enc Tryd.prog W 0 (fun _ => true) true Tryd.f6.params.toList args.toList ds p := hA0
  have hlt : ∀ x ∈ p, x.block < W.heap.size := fun x hx => hW'.lt x (List.mem_append_left _ hx)
  rw [Tryd.params6] at hA hval
  have hA' : DataW.TrodAll enc Tryd.prog W 0 (fun _ => true) true [22, 9, 9] args.toList ds p := hA
  have again : ∀ W' : World, Below W.heap.size W W' → DataW.TrodAll enc Tryd.prog W' 0 (fun b => decide (b < W.heap.size)) true [22, 9, 9] args.toList ds p := fun W' hb =>
    trodAll_stays (fun t ht => by
      have := List.all_eq_true.1 params6Rec t ht
      simpa using this) hA' (fun x hx => hb.same (hlt x hx)) (fun x hx => by simpa using hlt x hx)
  obtain ⟨v0, vs0, d0, ds0, p0, q0, hargs, rfl, rfl, h0, hA1⟩ := trodAll_cons hA'
  obtain ⟨v1, vs1, d1, ds1, p1, q1, rfl, rfl, rfl, h1, hA2⟩ := trodAll_cons hA1
  obtain ⟨v2, vs2, d2, ds2, p2, q2, rfl, rfl, rfl, h2, hA3⟩ := trodAll_cons hA2
  obtain ⟨rfl, rfl, rfl⟩ := trodAll_nil hA3
  have hargs' : args = #[v0, v1, v2] := by cases args; simp_all
  clear hargs
  subst hargs'
  obtain ⟨rfl, rfl⟩ := trodVars_none hV
  obtain ⟨a0, l0, c0, rfl⟩ := okWide_slice Tryd.underlying22 (hval 0 22 v0 rfl rfl)
  obtain ⟨s1, rfl⟩ := okWide_string Tryd.underlying9 (hval 1 9 v1 rfl rfl)
  obtain ⟨s2, rfl⟩ := okWide_string Tryd.underlying9 (hval 2 9 v2 rfl rfl)
  obtain ⟨k0, e0⟩ := h0
  obtain ⟨ra, n0, rc, fs, hc0, hNV⟩ := open22 e0
  have z0 : Value.slice a0 l0 c0 = .slice ra n0 rc := by simpa [Value.cells] using hc0
  have hlaw := law6_any ra n0 rc fs s1 s2 W hNV (tb_of hL)
  rw [← z0] at hlaw
  refine hlaw.mono fun e W' ⟨he, bel⟩ => ?_
  subst he
  have e1 : Rows.fnRemoveValuesTwiceIsOnceAndItemsFlowSpec.fn H ([d0, d1, d2] ++ []) = { results := [.lit (.bool true)], args := [d0, d1, d2] } := rfl
  refine ⟨_, rfl, _, _, _, [], p0 ++ (p1 ++ (p2 ++ [])), [], hW', ?_, ?_, ?_, bel.frame _, fun h => by cases h⟩
  · rw [e1]; exact trodAll_mk1 (shut_bool Tryd.underlying4 true)
  · rw [e1]; exact again W' bel
  · rw [e1]; rfl
end Go.Proofs.Qxb6616805aDoor
