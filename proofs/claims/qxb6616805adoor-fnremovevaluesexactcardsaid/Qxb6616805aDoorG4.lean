/- Rows, frames, appends in place. -/
import Derived.Test.Qxb6616805aDoorG3
import Derived.Deep.OwnRows
import Derived.Deep.DeepAppendRoom
import Derived.Deep.WholeRow
import Derived.Deep.DeepCutAuto
set_option linter.unusedVariables false
set_option linter.unusedSimpArgs false
set_option linter.unnecessarySimpa false
namespace Go.Proofs.Qxb6616805aDoor
open Go.RowKit Go.Shelf Go.Deep

/-- All but blocks b and c is as it was. -/
structure Fr2 (b c : Nat) (w w' : World) : Prop where
  os : w'.os = w.os
  tape : w'.tape = w.tape
  output : w'.output = w.output
  size : w.heap.size ≤ w'.heap.size
  block : ∀ k, k < w.heap.size → k ≠ b → k ≠ c → w'.heap[k]? = w.heap[k]?
theorem Fr2.refl (b c : Nat) (w : World) : Fr2 b c w w := ⟨rfl, rfl, rfl, Nat.le_refl _, fun _ _ _ _ => rfl⟩
theorem Fr2.trans {b c : Nat} {w w1 w2 : World} (h : Fr2 b c w w1) (k : Fr2 b c w1 w2) : Fr2 b c w w2 :=
  ⟨k.os.trans h.os, k.tape.trans h.tape, k.output.trans h.output, Nat.le_trans h.size k.size, fun i hi hb hc => (k.block i (Nat.lt_of_lt_of_le hi h.size) hb hc).trans (h.block i hi hb hc)⟩
theorem Fr2.grown {b c : Nat} {w w1 w2 : World} (h : Fr2 b c w w1) (k : Below w1.heap.size w1 w2) : Fr2 b c w w2 :=
  h.trans ⟨k.os, k.tape, k.output, k.size, fun i hi _ _ => k.block i hi⟩
theorem Fr2.grown' {b c B : Nat} {w w1 w2 : World} (h : Fr2 b c w w1) (k : Below B w1 w2) (hB : w.heap.size ≤ B) : Fr2 b c w w2 :=
  ⟨k.os.trans h.os, k.tape.trans h.tape, k.output.trans h.output, Nat.le_trans h.size k.size, fun i hi hb hc => (k.block i (by omega)).trans (h.block i hi hb hc)⟩
theorem cell_lt {w : World} {a : Addr} {v : Value} (h : w.cell? a = some v) : a.block < w.heap.size := by
  by_cases hb : a.block < w.heap.size
  · exact hb
  · simp [World.cell?, Array.getElem?_eq_none (Nat.le_of_not_lt hb)] at h

theorem setRow_other' (w : World) (g : Nat) (c : Array Value) (k : Nat) (h : k ≠ g) : (w.setRow g c).heap[k]? = w.heap[k]? := by
  unfold World.setRow
  rw [Array.getElem?_modify, if_neg (fun e => h e.symm)]

theorem info34 : (Tryd.prog.info? 34).map (fun i => i.size) = some 3 := by kernel_rfl
/-- append of one field of three strings, in place. -/
theorem append_field (ty g c k : Nat) (f : Nat → Value) (a : Addr) (x y z : Value) (w : World) (hr : w.rowIs g 34 (c * 3) f) (hk : k + 1 ≤ c) (h0 : w.cell? (a.add 0) = some x) (h1 : w.cell? (a.add 1) = some y) (h2 : w.cell? (a.add 2) = some z) (hx : x.oneCell' = true) (hy : y.oneCell' = true) (hz : z.oneCell' = true) :
    ∃ w2, (Builtin.append_ #[29, 29] ty #[.slice (some ⟨g, 0, none⟩) k c, .slice (some a) 1 1]).run Tryd.prog w = .ok (.slice (some ⟨g, 0, none⟩) (k + 1) c) w2 ∧
      w2.rowIs g 34 (c * 3) (fun j => if j = k * 3 then x else if j = k * 3 + 1 then y else if j = k * 3 + 2 then z else f j) ∧ w2.heap.size = w.heap.size ∧ (∀ i, i ≠ g → w2.heap[i]? = w.heap[i]?) ∧ w2.os = w.os ∧ w2.tape = w.tape ∧ w2.output = w.output := by
  obtain ⟨cur, hb, hn, hc⟩ := hr
  obtain ⟨i, hi', hs⟩ := Option.map_eq_some_iff.1 info34
  have hrun := run_append_room (P := Tryd.prog) w 29 ty 34 i Tryd.underlying29 hi' g k c cur hb a 1 1 [x, y, z] (by rw [hs]; rfl) (fun j u hu => by
    match j with
    | 0 => cases hu; exact h0
    | 1 => cases hu; exact h1
    | 2 => cases hu; exact h2
    | j + 3 => cases hu) (fun u hu => by
    simp only [List.mem_cons, List.not_mem_nil, or_false] at hu
    rcases hu with rfl | rfl | rfl
    · exact hx
    · exact hy
    · exact hz) hk (by rw [hs, hn]; simp only [List.length_cons, List.length_nil]; omega)
  rw [hs] at hrun
  refine ⟨_, hrun, ⟨_, setRow_heap w g cur _ 34 _ hb, ?_, fun j hj => ?_⟩, by simp [World.setRow], fun i hi => setRow_other' w g _ i hi, rfl, rfl, rfl⟩
  · simp only [List.size_toArray, List.length_append, List.length_take, List.length_drop, List.length_cons, List.length_nil, Array.length_toList]
    omega
  · simp only [List.getElem?_toArray, List.getElem?_append, List.length_append, List.length_take, List.length_cons, List.length_nil, List.getElem?_take, List.getElem?_drop, Array.length_toList, Array.getElem?_toList, Nat.min_eq_left (show k * 3 ≤ cur.size by omega)]
    by_cases a1 : j < k * 3
    · rw [if_pos (by omega), if_pos a1, if_pos a1, if_neg (by omega), if_neg (by omega), if_neg (by omega)]; exact hc j hj
    · by_cases a2 : j = k * 3
      · subst a2; rw [if_pos (by omega), if_neg (by omega), Nat.sub_self, if_pos rfl]; rfl
      · by_cases a3 : j = k * 3 + 1
        · subst a3; rw [if_pos (by omega), if_neg (by omega), if_neg (by omega), if_pos rfl, show k * 3 + 1 - k * 3 = 1 by omega]; rfl
        · by_cases a4 : j = k * 3 + 2
          · subst a4; rw [if_pos (by omega), if_neg (by omega), if_neg (by omega), if_neg (by omega), if_pos rfl, show k * 3 + 2 - k * 3 = 2 by omega]; rfl
          · rw [if_neg (by omega), if_neg a2, if_neg a3, if_neg a4, show k * 3 + (0 + 1 + 1 + 1) + (j - (k * 3 + (0 + 1 + 1 + 1))) = j by omega]; exact hc j hj

section
variable {ops : Array Oper} {rest : List Oper} {o : Oper} {a : Act} {Q : Exit → Act → World → Prop}
theorem wpList_append_field {w : World} (s x : Operand) (ho : o.op = .call { callee := .builtin .append, args := #[s, x], argTypes := #[29, 29] }) (hgd : o.guard = none) (g c k : Nat) (f : Nat → Value) (ad : Addr) (u v z : Value)
    (hs : a.eval s = .slice (some ⟨g, 0, none⟩) k c) (hx : a.eval x = .slice (some ad) 1 1) (hr : w.rowIs g 34 (c * 3) f) (hk : k + 1 ≤ c) (h0 : w.cell? (ad.add 0) = some u) (h1 : w.cell? (ad.add 1) = some v) (h2 : w.cell? (ad.add 2) = some z)
    (hu : u.oneCell' = true) (hv : v.oneCell' = true) (hz : z.oneCell' = true)
    (h : ∀ w2 : World, w2.rowIs g 34 (c * 3) (fun j => if j = k * 3 then u else if j = k * 3 + 1 then v else if j = k * 3 + 2 then z else f j) → w2.heap.size = w.heap.size → (∀ i, i ≠ g → w2.heap[i]? = w.heap[i]?) → w2.os = w.os → w2.tape = w.tape → w2.output = w.output →
      wpList Tryd.prog ops Q rest (a.put o.dst (.slice (some ⟨g, 0, none⟩) (k + 1) c)) w2) : wpList Tryd.prog ops Q (o :: rest) a w :=
  wpList_plain hgd fun K hK => by
    obtain ⟨w2, hr2, k1, k2, k3, k4, k5, k6⟩ := append_field o.type g c k f ad u v z w hr hk h0 h1 h2 hu hv hz
    unfold Oper.wp execOp
    simp only [ho, resolve, invoke, builtin, Sem.run_bind, Sem.run_pure, Result.andThen_ok, List.map_toArray, List.map_cons, List.map_nil, hs, hx, hr2]
    exact hK _ _ (h w2 k1 k2 k3 k4 k5 k6)
end

/-- The marks that ranges over functions leave behind. -/
def mk (D : Nat) : Deferred := { target := .collected D, args := #[] }
theorem leaves_marks (fn : Func) (tmps : Array Value) (R : Ending → World → Prop) : ∀ (ds : List Nat) (W : World), ds.Nodup → (∀ D ∈ ds, W.heap[D]? = some (.deferred (some []))) →
    (∀ W' : World, W'.os = W.os → W'.tape = W.tape → W'.output = W.output → W'.heap.size = W.heap.size → (∀ k, k ∉ ds → W'.heap[k]? = W.heap[k]?) → LeavesIn Fence.wide 3 Tryd.prog fn tmps R [] .returning W') →
    LeavesInM Fence.wide 3 Tryd.prog fn tmps R (ds.map mk) .returning W
  | [], W, _, _, h => h W rfl rfl rfl rfl (fun _ _ => rfl)
  | D :: ds, W, hn, hd, h => by
    have hn' := List.nodup_cons.1 hn
    refine ⟨by simp, .inl ⟨D, _, rfl, run_takeDeferred (hd D (by simp)), ?_⟩⟩
    refine leaves_marks fn tmps R ds _ hn'.2 (fun E hE => ?_) (fun W' h1 h2 h3 h4 h5 => ?_)
    · have hne : E ≠ D := fun e => hn'.1 (e ▸ hE)
      rw [World.putObj_heap_other hne]
      exact hd E (by simp [hE])
    · exact h W' h1 h2 h3 (h4.trans World.putObj_size) fun k hk => (h5 k fun hk' => hk (by simp [hk'])).trans (World.putObj_heap_other fun e => hk (by simp [e]))

end Go.Proofs.Qxb6616805aDoor
