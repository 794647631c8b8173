/- The row of law 5. -/
import Derived.Test.Qxb6616805aDoorP1
import Derived.Test.Qxb6616805aDoorG20
set_option linter.unusedVariables false
set_option linter.unusedSimpArgs false
set_option linter.unnecessarySimpa false
namespace Go.Proofs.Qxb6616805aDoor
open Go.ChangeShapes Go.WideShapes Go.ChangeAt Go.RowKit Go.Shelf
open Go.ChangeMaps (open_string shut_string)

def wArgs5 : Array Value := #[.string ⟨#[]⟩, .string ⟨#[]⟩, .int .i64 0, .string ⟨#[]⟩, .slice none 0 0, .slice none 0 0, .string ⟨#[]⟩, .string ⟨#[]⟩]
def params5 : List TypeId := [9, 9, 3, 9, 22, 23, 9, 9]
theorem params5Rec : (params5.all fun t => Tryd.prog.readableRec t && decide (t < Tryd.prog.types.size)) = true := by kernel_rfl
set_option maxRecDepth 1000000 in
theorem ok5 (os : Os) : Input.okWideB Tryd.checked.prog ((World.laidAll Tryd.prog os laid5).forCall (fun _ _ => 0) ⟨#[], wArgs5, []⟩) 5 ⟨#[], wArgs5, []⟩ = true := by kernel_rfl
set_option maxRecDepth 1000000 in
theorem shaped5 (os : Os) : ((World.laidAll Tryd.prog os laid5).forCall (fun _ _ => 0) ⟨#[], wArgs5, []⟩).Shaped Tryd.checked.prog := World.shaped_of_ZipB (by kernel_rfl) (by kernel_rfl)

set_option maxHeartbeats 1000000 in
set_option maxRecDepth 1000000 in
theorem lifted5 (os : Os) (started : os.Started) (H : Type) (enc : TypeId × Value → H) :
    ReturnsInHanded {} Tryd.checked os 5 .any (fun w args => (Rows.fnRemoveValuesExactSpec.pre enc Tryd.prog Tryd.f5 [] false w args ∧ laidMetH Tryd.prog laid5 w) ∧ sizedMet enc Tryd.prog Tryd.f5 (OpenSpec.ofChange Rows.fnRemoveValuesExactSpec) false w args)
      (Rows.fnRemoveValuesExactSpec.post enc Tryd.prog Tryd.f5 false true false false) := by
  refine returnsInHanded_of_change_and (C := Tryd.checked) (X := fun w _ => laidMetH Tryd.prog laid5 w) (fun _ _ _ hh h => h.of_heap hh) own started (by kernel_rfl) Tryd.func5
    ⟨World.laidAll Tryd.prog os laid5, fun _ _ => 0, ⟨#[], wArgs5, []⟩, World.laidAll_os _ _ _, shaped5 os, (Input.okWide_of_okWideB (base := 0) (ok5 os)).1, (Input.okWide_of_okWideB (ok5 os)).2,
      ⟨⟨ChangeSpec.pre_of_preB (fuel := 8) (by kernel_rfl), laid_met os _⟩, sizedMet_of_sizedB (fuel := 8) (by kernel_rfl)⟩, by
      simp only [Assume.holds]
      exact ⟨by simp, by simp, fun h => (by cases h), by simp, by simp⟩⟩ ?_
  intro W base args ds gs before hval0 hW _ _ hL _
  have hval : ∀ (j : Nat) t v, Tryd.f5.params[j]? = some t → args[j]? = some v → Value.okWide Tryd.prog W .any base t v := hval0
  have hW' := hW
  obtain ⟨p, q, hA0, hV, rfl, _, _⟩ := hW
  have hA : DataW.TrodAll enc Tryd.prog W 0 (fun _ => true) true Tryd.f5.params.toList args.toList ds p := hA0
  have hlt : ∀ x ∈ p, x.block < W.heap.size := fun x hx => hW'.lt x (List.mem_append_left _ hx)
  rw [Tryd.params5] at hA hval
  have hA' : DataW.TrodAll enc Tryd.prog W 0 (fun _ => true) true [9, 9, 3, 9, 22, 23, 9, 9] args.toList ds p := hA
  have again : ∀ W' : World, Below W.heap.size W W' → DataW.TrodAll enc Tryd.prog W' 0 (fun b => decide (b < W.heap.size)) true [9, 9, 3, 9, 22, 23, 9, 9] args.toList ds p := fun W' hb =>
    trodAll_stays (fun t ht => by
      have := List.all_eq_true.1 params5Rec t ht
      simpa using this) hA' (fun x hx => hb.same (hlt x hx)) (fun x hx => by simpa using hlt x hx)
  obtain ⟨v0, vs0, d0, ds0, p0, q0, hargs, rfl, rfl, h0, hA1⟩ := trodAll_cons hA'
  obtain ⟨v1, vs1, d1, ds1, p1, q1, rfl, rfl, rfl, h1, hA2⟩ := trodAll_cons hA1
  obtain ⟨v2, vs2, d2, ds2, p2, q2, rfl, rfl, rfl, h2, hA3⟩ := trodAll_cons hA2
  obtain ⟨v3, vs3, d3, ds3, p3, q3, rfl, rfl, rfl, h3, hA4⟩ := trodAll_cons hA3
  obtain ⟨v4, vs4, d4, ds4, p4, q4, rfl, rfl, rfl, h4, hA5⟩ := trodAll_cons hA4
  obtain ⟨v5, vs5, d5, ds5, p5, q5, rfl, rfl, rfl, h5, hA6⟩ := trodAll_cons hA5
  obtain ⟨v6, vs6, d6, ds6, p6, q6, rfl, rfl, rfl, h6, hA7⟩ := trodAll_cons hA6
  obtain ⟨v7, vs7, d7, ds7, p7, q7, rfl, rfl, rfl, h7, hA8⟩ := trodAll_cons hA7
  obtain ⟨rfl, rfl, rfl⟩ := trodAll_nil hA8
  have hargs' : args = #[v0, v1, v2, v3, v4, v5, v6, v7] := by cases args; simp_all
  clear hargs
  subst hargs'
  obtain ⟨rfl, rfl⟩ := trodVars_none hV
  obtain ⟨s0, rfl⟩ := okWide_string Tryd.underlying9 (hval 0 9 v0 rfl rfl)
  obtain ⟨s1, rfl⟩ := okWide_string Tryd.underlying9 (hval 1 9 v1 rfl rfl)
  obtain ⟨i2, rfl⟩ := okWide_int Tryd.underlying3 (hval 2 3 v2 rfl rfl)
  obtain ⟨s3, rfl⟩ := okWide_string Tryd.underlying9 (hval 3 9 v3 rfl rfl)
  obtain ⟨a4, l4, c4, rfl⟩ := okWide_slice Tryd.underlying22 (hval 4 22 v4 rfl rfl)
  obtain ⟨a5, l5, c5, rfl⟩ := okWide_slice Tryd.underlying23 (hval 5 23 v5 rfl rfl)
  obtain ⟨s6, rfl⟩ := okWide_string Tryd.underlying9 (hval 6 9 v6 rfl rfl)
  obtain ⟨s7, rfl⟩ := okWide_string Tryd.underlying9 (hval 7 9 v7 rfl rfl)
  obtain ⟨k4, e4⟩ := h4
  obtain ⟨k5, e5⟩ := h5
  obtain ⟨ra, n0, rc, fs, hc0, hNV⟩ := open22 e4
  obtain ⟨ba, bn, bc, bz, hc5, hBY⟩ := open23 e5
  have z4 : Value.slice a4 l4 c4 = .slice ra n0 rc := by simpa [Value.cells] using hc0
  have z5 : Value.slice a5 l5 c5 = .slice ba bn bc := by simpa [Value.cells] using hc5
  have hlaw := law5_any s0 s1 i2 s3 ra n0 rc fs ba bn bc bz s6 s7 W hNV hBY (tb_of hL)
  rw [← z4, ← z5] at hlaw
  refine hlaw.mono fun e W' ⟨he, bel⟩ => ?_
  subst he
  have e1 : Rows.fnRemoveValuesExactSpec.fn H ([d0, d1, d2, d3, d4, d5, d6, d7] ++ []) = { results := [.lit (.bool true)], args := [d0, d1, d2, d3, d4, d5, d6, d7] } := rfl
  refine ⟨_, rfl, _, _, _, [], p0 ++ (p1 ++ (p2 ++ (p3 ++ (p4 ++ (p5 ++ (p6 ++ (p7 ++ ([])))))))), [], hW', ?_, ?_, ?_, bel.frame _, fun h => by cases h⟩
  · rw [e1]; exact trodAll_mk1 (shut_bool Tryd.underlying4 true)
  · rw [e1]; exact again W' bel
  · rw [e1]; rfl
end Go.Proofs.Qxb6616805aDoor
