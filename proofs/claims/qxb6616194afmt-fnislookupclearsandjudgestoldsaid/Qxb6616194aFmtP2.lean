/- The row. -/
import Derived.Test.Qxb6616194aFmtP1
set_option linter.unusedVariables false
set_option linter.unusedSimpArgs false
set_option linter.unnecessarySimpa false
namespace Go.Proofs.Qxb6616194aFmt
open Go.ChangeShapes Go.WideShapes Go.ChangeAt Go.RowKit Go.Kit Go.Shelf
open Go.ChangeMaps (open_string shut_string)
open Go.Extern.Stop Go.Stop Go.Extern

theorem okWide_arr' {P : Program} {w : World} {r : Reach} {base : Nat} {t n e : Nat} {v : Value} (ht : P.underlying t = some (.array n e)) (h : Value.okWide P w r base t v) : ∃ cs, v = .agg cs := by
  unfold Value.okWide at h
  rw [ht] at h
  obtain ⟨cs, h1, _⟩ := h
  exact ⟨cs, h1⟩

theorem trodAll_stays {H : Type} {enc : TypeId × Value → H} {W W' : World} {sp' : Nat → Bool} : ∀ {ts : List TypeId} {vs : List Value} {ds : List (DataW H)} {ps : List MemPlace}, (∀ t ∈ ts, Tryf.prog.readableRec t = true ∧ t < Tryf.prog.types.size) →
    DataW.TrodAll enc Tryf.prog W 0 (fun _ => true) true ts vs ds ps → (∀ p ∈ ps, W.sameAt W' p) → (∀ p ∈ ps, sp' p.block = true) → DataW.TrodAll enc Tryf.prog W' 0 sp' true ts vs ds ps
  | [], vs, ds, ps, _, h, _, _ => by
    obtain ⟨rfl, rfl, rfl⟩ := trodAll_nil h
    exact trodAll_mk0
  | t :: ts, vs, ds, ps, hr, h, h1, h2 => by
    obtain ⟨v, vs', d, ds', p, q, rfl, rfl, rfl, hd, hrest⟩ := trodAll_cons h
    exact trodAll_cons_mk (WideElems.Trod_stays laidOut (hr t (by simp)).1 (hr t (by simp)).2 hd (fun x hx => h1 x (by simp [hx])) (fun x hx => h2 x (by simp [hx])))
      (trodAll_stays (fun t' ht' => hr t' (by simp [ht'])) hrest (fun x hx => h1 x (by simp [hx])) (fun x hx => h2 x (by simp [hx])))

theorem A32_of (cs : Array Value) (y : Nat → Int) (hl : cs.toList.length = 32) (h : ∀ i, i < 32 → cs.toList[i]? = some (.int .u8 (y i))) : cs = A32 y := by
  apply Array.ext_getElem?
  intro i
  by_cases hi : i < 32
  · rw [A32_get y i hi, ← h i hi, Array.getElem?_toList]
  · rw [Array.getElem?_eq_none (by simp at hl; omega), Array.getElem?_eq_none (by rw [A32_size]; omega)]

def paramTypes : List TypeId := [22, 9, 5, 23, 24, 3, 4, 3, 25, 26, 27, 30]
theorem paramsRec : (paramTypes.all fun t => Tryf.prog.readableRec t && decide (t < Tryf.prog.types.size)) = true := by kernel_rfl

set_option maxHeartbeats 1000000 in
set_option maxRecDepth 1000000 in
theorem lifted3 (os : Os) (started : os.Started) (H : Type) (enc : TypeId × Value → H) :
    ReturnsInTold none {} Tryf.checked os 3 .any Input.okWide ((OpenSpec.ofChange Rows.fnIsLookupClearsAndJudgesSpec).preRow enc Tryf.prog Tryf.f3 [] false laidAll2)
      (fun F => ((OpenSpec.ofChange Rows.fnIsLookupClearsAndJudgesSpec).at F).post enc Tryf.prog Tryf.f3 false true false false) (aloneAtReturn Tryf.prog) nothingAlways := by
  refine returnsInTold_of_row (C := Tryf.checked) (s := OpenSpec.ofChange Rows.fnIsLookupClearsAndJudgesSpec) (by kernel_rfl) own started (by kernel_rfl) Tryf.func3
    (witness_zip (World.laidAll Tryf.prog os laidAll2) wArgs (World.laidAll_os _ _ _) (shaped1 os) (ok1 os) (OpenSpec.preRow_of_B rfl 8 (by kernel_rfl) (by kernel_rfl) (laid_met os _))) ?_
  intro F W base args ds gs before _ hF hval0 hW hcnd _ hsz hL _
  have hval : ∀ (j : Nat) t v, Tryf.f3.params[j]? = some t → args[j]? = some v → Value.okWide Tryf.prog W .any base t v := hval0
  have hW' := hW
  obtain ⟨p, q, hA0, hV, rfl, _, _⟩ := hW
  have hA : DataW.TrodAll enc Tryf.prog W 0 (fun _ => true) true Tryf.f3.params.toList args.toList ds p := hA0
  have hlt : ∀ x ∈ p, x.block < W.heap.size := fun x hx => hW'.lt x (List.mem_append_left _ hx)
  rw [Tryf.params3] at hA hval
  have hA' : DataW.TrodAll enc Tryf.prog W 0 (fun _ => true) true [22, 9, 5, 23, 24, 3, 4, 3, 25, 26, 27, 30] args.toList ds p := hA
  have again : ∀ W' : World, Below W.heap.size W W' → DataW.TrodAll enc Tryf.prog W' 0 (fun b => decide (b < W.heap.size)) true [22, 9, 5, 23, 24, 3, 4, 3, 25, 26, 27, 30] args.toList ds p := fun W' hb =>
    trodAll_stays (fun t ht => by
      have := List.all_eq_true.1 paramsRec t ht
      simpa using this) hA' (fun x hx => hb.same (hlt x hx)) (fun x hx => by simpa using hlt x hx)
  obtain ⟨v0, vs0, d0, ds0, p0, q0, hargs, rfl, rfl, h0, hA1⟩ := trodAll_cons hA'
  obtain ⟨v1, vs1, d1, ds1, p1, q1, rfl, rfl, rfl, h1, hA2⟩ := trodAll_cons hA1
  obtain ⟨v2, vs2, d2, ds2, p2, q2, rfl, rfl, rfl, h2, hA3⟩ := trodAll_cons hA2
  obtain ⟨v3, vs3, d3, ds3, p3, q3, rfl, rfl, rfl, h3, hA4⟩ := trodAll_cons hA3
  obtain ⟨v4, vs4, d4, ds4, p4, q4, rfl, rfl, rfl, h4, hA5⟩ := trodAll_cons hA4
  obtain ⟨v5, vs5, d5, ds5, p5, q5, rfl, rfl, rfl, h5, hA6⟩ := trodAll_cons hA5
  obtain ⟨v6, vs6, d6, ds6, p6, q6, rfl, rfl, rfl, h6, hA7⟩ := trodAll_cons hA6
  obtain ⟨v7, vs7, d7, ds7, p7, q7, rfl, rfl, rfl, h7, hA8⟩ := trodAll_cons hA7
  obtain ⟨v8, vs8, d8, ds8, p8, q8, rfl, rfl, rfl, h8, hA9⟩ := trodAll_cons hA8
  obtain ⟨v9, vs9, d9, ds9, p9, q9, rfl, rfl, rfl, h9, hA10⟩ := trodAll_cons hA9
  obtain ⟨v10, vs10, d10, ds10, p10, q10, rfl, rfl, rfl, h10, hA11⟩ := trodAll_cons hA10
  obtain ⟨v11, vs11, d11, ds11, p11, q11, rfl, rfl, rfl, h11, hA12⟩ := trodAll_cons hA11
  obtain ⟨rfl, rfl, rfl⟩ := trodAll_nil hA12
  have hargs' : args = #[v0, v1, v2, v3, v4, v5, v6, v7, v8, v9, v10, v11] := by cases args; simp_all
  clear hargs
  subst hargs'
  obtain ⟨rfl, rfl⟩ := trodVars_none hV
  obtain ⟨a0, l0, c0, rfl⟩ := okWide_slice Tryf.underlying22 (hval 0 22 v0 rfl rfl)
  obtain ⟨s1, rfl⟩ := okWide_string Tryf.underlying9 (hval 1 9 v1 rfl rfl)
  obtain ⟨i2, rfl⟩ := okWide_int Tryf.underlying5 (hval 2 5 v2 rfl rfl)
  obtain ⟨g3, rfl⟩ := okWide_arr' Tryf.underlying23 (hval 3 23 v3 rfl rfl)
  obtain ⟨a4, l4, c4, rfl⟩ := okWide_slice Tryf.underlying24 (hval 4 24 v4 rfl rfl)
  obtain ⟨i5, rfl⟩ := okWide_int Tryf.underlying3 (hval 5 3 v5 rfl rfl)
  obtain ⟨b6, rfl⟩ := okWide_bool Tryf.underlying4 (hval 6 4 v6 rfl rfl)
  obtain ⟨i7, rfl⟩ := okWide_int Tryf.underlying3 (hval 7 3 v7 rfl rfl)
  obtain ⟨a8, l8, c8, rfl⟩ := okWide_slice Tryf.underlying25 (hval 8 25 v8 rfl rfl)
  obtain ⟨a9, l9, c9, rfl⟩ := okWide_slice Tryf.underlying26 (hval 9 26 v9 rfl rfl)
  obtain ⟨a10, l10, c10, rfl⟩ := okWide_slice Tryf.underlying27 (hval 10 27 v10 rfl rfl)
  obtain ⟨g11, rfl, -⟩ := okWide_struct Tryf.underlying30 (hval 11 30 v11 rfl rfl)
  obtain ⟨k0, e0⟩ := h0
  obtain ⟨k3, e3⟩ := h3
  obtain ⟨k4, e4⟩ := h4
  obtain ⟨k8, e8⟩ := h8
  obtain ⟨k9, e9⟩ := h9
  obtain ⟨k10, e10⟩ := h10
  obtain ⟨k11, e11⟩ := h11
  obtain ⟨ra, n0, rc, pr, lv, lk, hc0, hRt⟩ := open22 e0
  obtain ⟨x, hl3, hx3⟩ := open23 e3
  obtain ⟨ca, n4, cc, ps, nm, va, vn, vc, vz, hc4, hCp⟩ := open24 e4
  obtain ⟨va8, n8, cap8, z8, hc8, hBy⟩ := open25 e8
  obtain ⟨pa, n9, cap9, pad, pid, hc9, hPe0, hPe⟩ := open26 e9
  obtain ⟨wa, n10, cap10, wt, wpp, wbb, wxx, pt, hc10, hWa⟩ := open27 e10
  obtain ⟨kd, fr, qy, sq, bt, px, hc11⟩ := open30 e11
  have z0 : Value.slice a0 l0 c0 = .slice ra n0 rc := by simpa [Value.cells] using hc0
  have z3 : g3 = A32 x := A32_of g3 x (by simpa [Value.cells] using hl3) (fun i hi => by simpa [Value.cells] using hx3 i hi)
  have z4 : Value.slice a4 l4 c4 = .slice ca n4 cc := by simpa [Value.cells] using hc4
  have z8' : Value.slice a8 l8 c8 = .slice va8 n8 cap8 := by simpa [Value.cells] using hc8
  have z9 : Value.slice a9 l9 c9 = .slice pa n9 cap9 := by simpa [Value.cells] using hc9
  have z10 : Value.slice a10 l10 c10 = .slice wa n10 cap10 := by simpa [Value.cells] using hc10
  have z11 : g11 = #[.int .u8 kd, .string fr, .int .u64 qy, .int .u64 sq, .int .i64 bt, .int .u64 px] := by
    apply Array.ext'
    simpa [Value.cells] using hc11
  have hU := tabs_of_laid hL
  have hlaw := law3 okItem ra ca va8 pa wa n0 rc n4 cc n8 cap8 n9 cap9 n10 cap10 pr lv lk s1 i2 x i5 i7 b6 kd fr qy sq bt px W z8 pad pid ps nm va vn vc vz wt wpp wbb wxx pt (checkItem_any F.told W hF hU) hRt hBy hPe0 hPe hCp hWa
  rw [← z0, ← z3, ← z4, ← z8', ← z9, ← z10, ← z11] at hlaw
  refine hlaw.mono fun e W' ⟨he, bel⟩ => ?_
  subst he
  have e1 : ((OpenSpec.ofChange Rows.fnIsLookupClearsAndJudgesSpec).at F.told).fn H ([d0, d1, d2, d3, d4, d5, d6, d7, d8, d9, d10, d11] ++ []) = { results := [.lit (.bool true)], args := [d0, d1, d2, d3, d4, d5, d6, d7, d8, d9, d10, d11] } := rfl
  refine ⟨_, rfl, _, _, _, [], p0 ++ (p1 ++ (p2 ++ (p3 ++ (p4 ++ (p5 ++ (p6 ++ (p7 ++ (p8 ++ (p9 ++ (p10 ++ (p11 ++ []))))))))))), [], hW', ?_, ?_, ?_, bel.frame _, fun h => by cases h⟩
  · rw [e1]; exact trodAll_mk1 (shut_bool Tryf.underlying4 true)
  · rw [e1]; exact again W' bel
  · rw [e1]; rfl

end Go.Proofs.Qxb6616194aFmt
