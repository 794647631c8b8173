/- Copies and comparisons of fields; owned slices of fields. -/
import Derived.Test.Qxb6616805aDoorG11
set_option linter.unusedVariables false
set_option linter.unusedSimpArgs false
set_option linter.unnecessarySimpa false
namespace Go.Proofs.Qxb6616805aDoor
open Go.RowKit Go.Deep
attribute [local go_sem] eql22 eql29

/-- The cells of fields. -/
def sfCells (fs : List FB) : List Value := fs.flatMap fun f => [.string f.1, .string f.2, .string ⟨#[]⟩]
theorem sfCells_len (fs : List FB) : (sfCells fs).length = fs.length * 3 := by
  induction fs with
  | nil => rfl
  | cons f fs ih => unfold sfCells at *; rw [List.flatMap_cons, List.length_append, ih, List.length_cons]; simp; omega
theorem sfCells_at : ∀ (fs : List FB) (j : Nat) (h : j < fs.length), (sfCells fs)[j * 3]? = some (.string fs[j].1) ∧ (sfCells fs)[j * 3 + 1]? = some (.string fs[j].2) ∧ (sfCells fs)[j * 3 + 2]? = some (.string ⟨#[]⟩)
  | f :: fs, 0, _ => ⟨rfl, rfl, rfl⟩
  | f :: fs, j + 1, h => by
    have := sfCells_at fs j (by simpa using h)
    unfold sfCells at *
    rw [List.flatMap_cons, List.getElem?_append_right (by simp; omega), List.getElem?_append_right (by simp; omega), List.getElem?_append_right (by simp; omega)]
    simpa [show (j + 1) * 3 - 3 = j * 3 by omega, show (j + 1) * 3 + 1 - 3 = j * 3 + 1 by omega, show (j + 1) * 3 + 2 - 3 = j * 3 + 2 by omega] using this
theorem sfCells_one (fs : List FB) : ∀ v ∈ sfCells fs, v.oneCell' = true := by
  intro v hv
  unfold sfCells at hv
  obtain ⟨f, -, hf⟩ := List.mem_flatMap.1 hv
  simp at hf
  rcases hf with rfl | rfl | rfl <;> rfl
theorem sfCells_fa {fs : List FB} {g : Nat → Value} {N : Nat} (hN : fs.length * 3 ≤ N) (h : ∀ j, j < fs.length * 3 → (sfCells fs)[j]? = some (g j)) : ∀ j (h : j < fs.length), FA g j fs[j] := by
  intro j hj
  obtain ⟨h1, h2, h3⟩ := sfCells_at fs j hj
  rw [h _ (by omega)] at h1 h2 h3
  exact ⟨Option.some.inj h1, Option.some.inj h2, Option.some.inj h3⟩
theorem FRow.cells {w : World} {b c : Nat} {fs : List FB} (h : FRow w b c fs) : ∀ j v, (sfCells fs)[j]? = some v → w.cell? (Addr.add ⟨b, 0, none⟩ j) = some v := by
  intro j v hv
  have hj : j < fs.length * 3 := by rw [← sfCells_len]; exact (List.getElem?_eq_some_iff.1 hv).1
  obtain ⟨g, hg, hf⟩ := h.row
  have hc := sfCells_at fs (j / 3) (by omega)
  obtain ⟨a1, a2, a3⟩ := hf (j / 3) (by omega)
  rw [Addr.add_lit, Nat.zero_add, hg.cell (by have := h.le; omega)]
  have hm : j % 3 = 0 ∨ j % 3 = 1 ∨ j % 3 = 2 := by omega
  rcases hm with hm | hm | hm
  · have e : j = j / 3 * 3 := by omega
    rw [e] at hv ⊢
    rw [hc.1] at hv
    rw [← hv, a1]
  · have e : j = j / 3 * 3 + 1 := by omega
    rw [e] at hv ⊢
    rw [hc.2.1] at hv
    rw [← hv, a2]
  · have e : j = j / 3 * 3 + 2 := by omega
    rw [e] at hv ⊢
    rw [hc.2.2] at hv
    rw [← hv, a3]
theorem FRow.ofCells {w : World} {b : Nat} {fs : List FB} (h : w.heap[b]? = some (.cells (sfCells fs).toArray 34 (0, 0))) : FRow w b fs.length fs := by
  refine ⟨Nat.le_refl _, fun i => (sfCells fs).getD i undef, ⟨_, h, by simp [sfCells_len], fun j hj => ?_⟩, ?_⟩
  · rw [← sfCells_len] at hj
    simp [hj]
  · refine sfCells_fa (Nat.le_refl _) fun j hj => ?_
    rw [← sfCells_len] at hj
    simp [hj]

theorem zzCopySip_nil (w : World) : Calls Tryd.prog 18 #[.slice none 0 0] w fun e w' => e = .returned (.slice none 0 0) ∧ w' = w := by
  go_enter Tryd.func18, Tryd.ntmps18
  go_wp2_with fail
  go_ret
  exact ⟨rfl, rfl⟩
theorem zzCopySip_some (b n c : Nat) (fs : List FB) (w : World) (h : FRow w b c fs) (hl : fs.length = n) (hn : n ≤ 4194304) :
    Calls Tryd.prog 18 #[.slice (some ⟨b, 0, none⟩) n c] w fun e w' => e = .returned (.slice (some ⟨w.heap.size, 0, none⟩) n n) ∧ FRow w' w.heap.size n fs ∧ Below w.heap.size w w' := by
  have HV : Hid (FRow w b c fs ∧ fs.length = n) := ⟨h, hl⟩
  clear h hl
  obtain ⟨Z, hZ, hmk⟩ := make29
  have hmk' := fun w => hmk n w hn
  have HZ : Hid ((Z n).size = n * 3) := hZ n
  clear hmk hZ
  go_enter Tryd.func18, Tryd.ntmps18
  go_upto_region 4 with fail
  apply wp_region_lit
  iterate 2 (refine wpList_plain rfl fun K0 hK0 => ?_; go_simp; refine hK0 _ _ ?_; clear hK0 K0)
  have HB1 : Hid (Below w.heap.size w (w.alloc (.cells (Z n) 34))) := (Below.refl _ w).alloc (Nat.le_refl _) _
  have HG1 : Hid ((w.alloc (.cells (Z n) 34)).heap[w.heap.size]? = some (.cells (Z n) 34 (0, 0))) := heap_alloc_new _ _
  generalize w.alloc (.cells (Z n) 34) = w1 at *
  refine wpList_copy_wide rfl _ _ 29 29 rfl 34 3 Tryd.underlying29 (by kernel_rfl) w.heap.size n n ⟨b, 0, none⟩ c rfl rfl (Z n) 34 HG1.out (sfCells fs) (by rw [sfCells_len, HV.out.2]) (HV.out.1.below HB1.out).cells (by rw [sfCells_len, HZ.out, HV.out.2]) (sfCells_one fs) ?_
  have HB2 : Hid (Below w.heap.size w (w1.setRow w.heap.size (sfCells fs).toArray)) := (fr_setRow w1 w.heap.size _).belowOf HB1.out (Nat.le_refl _) (Nat.le_refl _)
  have HG2 : Hid ((w1.setRow w.heap.size (sfCells fs).toArray).heap[w.heap.size]? = some (.cells (sfCells fs).toArray 34 (0, 0))) := setRow_heap w1 _ _ _ 34 _ HG1.out
  generalize w1.setRow w.heap.size (sfCells fs).toArray = w2 at *
  go_wp2_with fail
  go_ret
  have hF := FRow.ofCells HG2.out
  rw [HV.out.2] at hF
  exact ⟨rfl, hF, HB2.out⟩

theorem FV.slice {w : World} {v : Value} {fs : List FB} (h : FV w v fs) : ∃ q c, v = .slice q fs.length c ∧ (0 < fs.length → ∃ b, q = some ⟨b, 0, none⟩ ∧ FRow w b c fs) := by
  rcases h with ⟨rfl, rfl⟩ | ⟨b, c, rfl, h⟩
  · exact ⟨none, 0, rfl, fun h => absurd h (by simp)⟩
  · exact ⟨_, c, rfl, fun _ => ⟨b, rfl, h⟩⟩

set_option maxHeartbeats 1000000 in
theorem zzSameFields_true (v v' : Value) (fs : List FB) (w : World) (h : FV w v fs) (h' : FV w v' fs) (hn : fs.length ≤ 4194304) :
    Calls Tryd.prog 15 #[v, v'] w fun e w' => e = .returned (.bool true) ∧ Below w.heap.size w w' := by
  obtain ⟨q, c, rfl, hq⟩ := h.slice
  obtain ⟨q', c', rfl, hq'⟩ := h'.slice
  have HV : Hid ((0 < fs.length → ∃ b, q = some ⟨b, 0, none⟩ ∧ FRow w b c fs) ∧ (0 < fs.length → ∃ b, q' = some ⟨b, 0, none⟩ ∧ FRow w b c' fs)) := ⟨hq, hq'⟩
  clear h h' hq hq'
  obtain ⟨n, HN⟩ : ∃ n, Hid (fs.length = n) := ⟨_, rfl⟩
  rw [HN.out] at hn HV ⊢
  go_enter Tryd.func15, Tryd.ntmps15
  go_wp2_with fail
  go_loopg [5] n (fun g v5 wr => Hid (Below w.heap.size w wr) ∧ ∃ i : Nat, g = n - i ∧ i ≤ n ∧ v5 = .int .i64 (i : Int))
  case atStart => exact ⟨Below.refl _ _, 0, by omega, by omega, rfl⟩
  case round =>
    obtain ⟨HB, i, hg, hi, rfl⟩ := hrel
    have HG : Hid (gk = n - i) := hg
    clear hg
    by_cases hlt : i < n
    · have hlt' : (i : Int) < (n : Int) := by omega
      have hfi : i < fs.length := by have := HN.out; omega
      obtain ⟨b, rfl, hb⟩ := HV.out.1 (by omega)
      obtain ⟨b', rfl, hb'⟩ := HV.out.2 (by omega)
      obtain ⟨g1, hg1, hf1⟩ := (hb.below HB.out).row
      obtain ⟨g2, hg2, hf2⟩ := (hb'.below HB.out).row
      obtain ⟨a1, a2, a3⟩ := hf1 i hfi
      obtain ⟨b1, b2, b3⟩ := hf2 i hfi
      have p0 : wr.cell? ⟨b, i * 3, none⟩ = some (.string fs[i].1) := by rw [hg1.cell (by have := hb.le; omega), a1]
      have p1 : wr.cell? ⟨b, i * 3 + 1, none⟩ = some (.string fs[i].2) := by rw [hg1.cell (by have := hb.le; omega), a2]
      have p2 : wr.cell? ⟨b, i * 3 + 2, none⟩ = some (.string ⟨#[]⟩) := by rw [hg1.cell (by have := hb.le; omega), a3]
      have r0 : wr.cell? ⟨b', i * 3, none⟩ = some (.string fs[i].1) := by rw [hg2.cell (by have := hb'.le; omega), b1]
      have r1 : wr.cell? ⟨b', i * 3 + 1, none⟩ = some (.string fs[i].2) := by rw [hg2.cell (by have := hb'.le; omega), b2]
      have r2 : wr.cell? ⟨b', i * 3 + 2, none⟩ = some (.string ⟨#[]⟩) := by rw [hg2.cell (by have := hb'.le; omega), b3]
      clear hb hb' hg1 hg2 hf1 hf2 a1 a2 a3 b1 b2 b3
      generalize fs[i].1 = x at *
      generalize fs[i].2 = y at *
      go_wp2_with fail
      go_quiet (fail)
      go_wp2_with fail
      go_roundg (n - (i + 1))
      case measure => rw [HG.out]; omega
      case rel => exact ⟨bdN HB.out _, i + 1, rfl, by omega, by go_num⟩
    · have hlt' : ¬ (i : Int) < (n : Int) := by omega
      go_wp2_with fail
      go_ret
      exact ⟨rfl, HB.out⟩

/-- A slice of strings, as it reads. -/
def SV (w : World) (v : Value) (xs : List ByteArray) : Prop := ∃ q c, v = .slice q xs.length c ∧ (0 < xs.length → ∃ b, q = some ⟨b, 0, none⟩ ∧ ∀ j (h : j < xs.length), w.cell? ⟨b, j, none⟩ = some (.string xs[j]))
theorem SV.below {w w' : World} {v : Value} {xs : List ByteArray} (h : SV w v xs) (hb : Below w.heap.size w w') : SV w' v xs := by
  obtain ⟨q, c, e, h⟩ := h
  refine ⟨q, c, e, fun h0 => ?_⟩
  obtain ⟨b, eb, hc⟩ := h h0
  exact ⟨b, eb, fun j hj => cell_below hb (hc j hj)⟩
theorem SR.sv {w : World} {B : Nat} {v : Value} {xs : List ByteArray} (h : SR w B v xs) : SV w v xs := by
  have h0 : w.ownsRow B 9 1 v xs.length (xs.map Value.string) := h
  rcases h0.2 with ⟨rfl, hn⟩ | ⟨g, cap, cur, rfl, hb, hg, hcap, hm, hs, ht⟩
  · exact ⟨none, 0, by rw [hn], fun h => absurd h (by omega)⟩
  · refine ⟨_, cap, rfl, fun _ => ⟨g, rfl, fun j hj => ?_⟩⟩
    rw [World.ownsRow.cellAt h0 j (by omega), List.getElem?_map, List.getElem?_eq_getElem hj]
    rfl
set_option maxHeartbeats 1000000 in
theorem zzSameStrings_true (v v' : Value) (xs : List ByteArray) (w : World) (h : SV w v xs) (h' : SV w v' xs) (hn : xs.length ≤ 8388608) :
    Calls Tryd.prog 24 #[v, v'] w fun e w' => e = .returned (.bool true) ∧ Below w.heap.size w w' := by
  obtain ⟨q, c, rfl, hq⟩ := h
  obtain ⟨q', c', rfl, hq'⟩ := h'
  have HV : Hid ((0 < xs.length → ∃ b, q = some ⟨b, 0, none⟩ ∧ ∀ j (h : j < xs.length), w.cell? ⟨b, j, none⟩ = some (.string xs[j])) ∧ (0 < xs.length → ∃ b, q' = some ⟨b, 0, none⟩ ∧ ∀ j (h : j < xs.length), w.cell? ⟨b, j, none⟩ = some (.string xs[j]))) := ⟨hq, hq'⟩
  clear hq hq'
  obtain ⟨n, HN⟩ : ∃ n, Hid (xs.length = n) := ⟨_, rfl⟩
  rw [HN.out] at hn ⊢
  go_enter Tryd.func24, Tryd.ntmps24
  go_wp2_with fail
  go_loopg [5] n (fun g v5 wr => Hid (Below w.heap.size w wr) ∧ ∃ i : Nat, g = n - i ∧ i ≤ n ∧ v5 = .int .i64 (i : Int))
  case atStart => exact ⟨Below.refl _ _, 0, by omega, by omega, rfl⟩
  case round =>
    obtain ⟨HB, i, hg, hi, rfl⟩ := hrel
    have HG : Hid (gk = n - i) := hg
    clear hg
    by_cases hlt : i < n
    · have hlt' : (i : Int) < (n : Int) := by omega
      have hfi : i < xs.length := by have := HN.out; omega
      obtain ⟨b, rfl, hb⟩ := HV.out.1 (by omega)
      obtain ⟨b', rfl, hb'⟩ := HV.out.2 (by omega)
      have p0 : wr.cell? ⟨b, i, none⟩ = some (.string xs[i]) := cell_below HB.out (hb i hfi)
      have r0 : wr.cell? ⟨b', i, none⟩ = some (.string xs[i]) := cell_below HB.out (hb' i hfi)
      clear hb hb'
      generalize xs[i] = x at *
      go_wp2_with fail
      go_quiet (fail)
      go_wp2_with fail
      go_roundg (n - (i + 1))
      case measure => rw [HG.out]; omega
      case rel => exact ⟨bdN HB.out _, i + 1, rfl, by omega, by go_num⟩
    · have hlt' : ¬ (i : Int) < (n : Int) := by omega
      go_wp2_with fail
      go_ret
      exact ⟨rfl, HB.out⟩

/-- A slice of fields that the call made itself. -/
def OF (w : World) (B : Nat) (v : Value) (fs : List FB) : Prop := w.ownsRow B 34 3 v fs.length (sfCells fs)
theorem OF.below {w w' : World} {B : Nat} {v : Value} {fs : List FB} (h : OF w B v fs) (hb : Below w.heap.size w w') : OF w' B v fs := owns_below h hb
theorem OF.nil (w : World) (B : Nat) : OF w B (.slice none 0 0) [] := World.ownsRow_nil _ _ _ _
theorem OF.fv {w : World} {B : Nat} {v : Value} {fs : List FB} (h : OF w B v fs) : FV w v fs := by
  rcases h.2 with ⟨rfl, hn⟩ | ⟨g, cap, cur, rfl, hb, hg, hcap, hm, hs, ht⟩
  · exact Or.inl ⟨rfl, List.eq_nil_of_length_eq_zero hn⟩
  · refine Or.inr ⟨g, cap, rfl, hcap, fun i => cur.getD i undef, ⟨cur, hg, hs, fun j hj => by simp [hs, hj]⟩, ?_⟩
    refine sfCells_fa (Nat.le_refl _) fun j hj => ?_
    rw [← ht, List.getElem?_take, if_pos hj, Array.getElem?_toList]
    have : j < cur.size := by omega
    simp [this]
theorem info34' : ∃ i0, Tryd.prog.info? 34 = some i0 ∧ i0.zero = some (.agg #[.string ⟨#[]⟩, .string ⟨#[]⟩, .string ⟨#[]⟩]) ∧ i0.size = 3 ∧ i0.bytes = 48 := by
  have h : (Tryd.prog.info? 34).map (fun i => (i.zero, i.size, i.bytes)) = some (some (.agg #[.string ⟨#[]⟩, .string ⟨#[]⟩, .string ⟨#[]⟩]), 3, 48) := by kernel_rfl
  cases h9 : Tryd.prog.info? 34 with
  | none => rw [h9] at h; cases h
  | some i =>
    rw [h9] at h
    have hz := Option.some.inj h
    exact ⟨i, rfl, congrArg Prod.fst hz, congrArg (fun p => p.2.1) hz, congrArg (fun p => p.2.2) hz⟩
section
variable {ops : Array Oper} {rest : List Oper} {a : Act} {Q : Exit → Act → World → Prop} {dst : Option Nat} {ty : TypeId} {ps : String} {aft : Array Edge}
/-- append of one field onto an owned slice. -/
theorem of_push (s x : Operand)
    (v : Value) (fs : List FB) (f : FB) (hs : a.eval s = v) (B : Nat) (w0 : World) (hb : OF w0 B v fs) (hB : B ≤ w0.heap.size)
    (hx : a.eval x = .slice (some ⟨w0.heap.size, 0, none⟩) 1 1) (hlen : fs.length ≤ 8388608)
    (h : ∀ g cap w', OF w' B (.slice (some ⟨g, 0, none⟩) (fs.length + 1) cap) (fs ++ [f]) → Below B w0 w' → w0.grownBy w' v.ownBlock → wpList Tryd.prog ops Q rest (a.put dst (.slice (some ⟨g, 0, none⟩) (fs.length + 1) cap)) w') : wpList Tryd.prog ops Q ({ dst := dst, op := .call { callee := .builtin .append, args := #[s, x], argTypes := #[29, 29] }, type := ty, pos := ps, after := aft, guard := none } :: rest) a (w0.alloc (.cells #[.string f.1, .string f.2, .string ⟨#[]⟩] 34)) := by
  obtain ⟨i0, hi, hz0, hz1, hz2⟩ := info34'
  refine wpList_append_own _ rfl s x 29 rfl B 34 i0 _ 3 48 Tryd.underlying29 hi hz0 hz1 hz2 rfl (by decide) v _ _ hs (World.ownsRow.alloc hb _) ⟨w0.heap.size, 0, none⟩ 1 1 [.string f.1, .string f.2, .string ⟨#[]⟩] hx rfl ?_ (by simp [Value.oneCell']) (by unfold maxLen; omega) (by omega) (by simp; omega) ?_
  · intro j u hj
    rw [Addr.add_lit, Nat.zero_add, World.cell?_alloc_new]
    simpa using hj
  · intro v' w' h1 h2 h3
    obtain ⟨g, cap, rfl⟩ := ownsRow_succ h1
    have hS : OF w' B (.slice (some ⟨g, 0, none⟩) (fs.length + 1) cap) (fs ++ [f]) := by
      unfold OF sfCells
      rw [List.flatMap_append, List.length_append]
      exact h1
    have hG := grown_alloc h2
    exact h g cap w' hS (Below.grown (Below.refl B w0) hG hB (fun k hk => (hb.lt k hk).1)) hG
end
/-- Rows of other elements lie elsewhere. -/
theorem owns_ne {w : World} {B B' n n' k k' : Nat} {e e' : TypeId} {v v' : Value} {xs xs' : List Value} (h : w.ownsRow B e k v n xs) (h' : w.ownsRow B' e' k' v' n' xs') (he : e ≠ e') : v.ownBlock = none ∨ v.ownBlock ≠ v'.ownBlock := by
  rcases h.2 with ⟨rfl, -⟩ | ⟨g, cap, cur, rfl, -, hg, -⟩
  · exact Or.inl rfl
  · right
    rcases h'.2 with ⟨rfl, -⟩ | ⟨g', cap', cur', rfl, -, hg', -⟩
    · simp [Value.ownBlock]
    · simp only [Value.ownBlock, ne_eq, Option.some.injEq]
      intro e2
      rw [e2, hg'] at hg
      simp only [Option.some.injEq, Obj.cells.injEq] at hg
      exact he hg.2.1.symm
theorem SR.keptBy {w w' : World} {B B' : Nat} {v v' : Value} {xs : List ByteArray} {fs : List FB} (h : SR w B v xs) (h' : OF w B' v' fs) (hg : w.grownBy w' v'.ownBlock) : SR w' B v xs :=
  World.ownsRow.kept h hg (owns_ne h h' (by decide))
theorem OF.keptBy {w w' : World} {B B' : Nat} {v v' : Value} {xs : List ByteArray} {fs : List FB} (h : OF w B v fs) (h' : SR w B' v' xs) (hg : w.grownBy w' v'.ownBlock) : OF w' B v fs :=
  World.ownsRow.kept h hg (owns_ne h h' (by decide))
end Go.Proofs.Qxb6616805aDoor
