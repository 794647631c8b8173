/- The plain sides of the laws, over fields of bytes. -/
import Derived.Test.Qxb6616805aDoorG13
import Derived.Maps.AppendAt
set_option linter.unusedVariables false
set_option linter.unusedSimpArgs false
set_option linter.unnecessarySimpa false
namespace Go.Proofs.Qxb6616805aDoor
open Go.RowKit Go.Shelf Go.Deep

def wi1 (name d : ByteArray) (f : FB) : List ByteArray := if nmd name f.1.data.toList = true then rB d (its f.2.data.toList) else []
def gi1 (name : ByteArray) (f : FB) : List ByteArray := if nmd name f.1.data.toList = true then its f.2.data.toList else []
def wo1 (name : ByteArray) (f : FB) : List FB := if nmd name f.1.data.toList = true then [] else [f]
def WI (name d : ByteArray) (fs : List FB) : List ByteArray := fs.flatMap (wi1 name d)
def GI (name : ByteArray) (fs : List FB) : List ByteArray := fs.flatMap (gi1 name)
def WO (name : ByteArray) (fs : List FB) : List FB := fs.flatMap (wo1 name)

theorem rB_bs (d : ByteArray) (l : List UInt8) : rB d (its l) = (I.rest d.data.toList l).map bs := by
  have := congrArg (List.map bs) (rB_map d l)
  rw [List.map_map] at this
  rw [← this]
  symm
  refine (List.map_congr_left fun x _ => ?_).trans (List.map_id _)
  rfl
theorem its_again (d y : ByteArray) : its (bs (I.join ((rB d (its y.data.toList)).map fun x => x.data.toList))).data.toList = rB d (its y.data.toList) := by
  rw [bs_list, rB_map, rB_bs]
  unfold its
  rw [I.items_of_rest]
theorem rB_all {d : ByteArray} {xs : List ByteArray} (h : xs.any (eqd d) = false) : rB d xs = xs := by
  unfold rB
  rw [List.filter_eq_self]
  intro x hx
  rw [List.any_eq_false] at h
  simpa using h x hx
theorem any_rB (d : ByteArray) (xs : List ByteArray) : (rB d xs).any (eqd d) = false := by
  rw [List.any_eq_false]
  intro x hx
  have := (List.mem_filter.1 hx).2
  simpa using this
theorem remOneB_again (name d : ByteArray) (f : FB) : (remOneB (nmd name) d f).flatMap (remOneB (nmd name) d) = remOneB (nmd name) d f := by
  unfold remOneB
  by_cases h1 : nmd name f.1.data.toList = false
  · rw [if_pos h1, List.flatMap_singleton, if_pos h1]
  · rw [if_neg h1]
    by_cases h2 : (its f.2.data.toList).any (eqd d) = false
    · rw [if_pos h2, List.flatMap_singleton, if_neg h1, if_pos h2]
    · rw [if_neg h2]
      by_cases h3 : rB d (its f.2.data.toList) = []
      · rw [if_pos h3]; rfl
      · rw [if_neg h3, List.flatMap_singleton, if_neg h1]
        simp only []
        rw [its_again, if_pos (any_rB _ _)]
theorem remB_again (name d : ByteArray) (fs : List FB) : remB (nmd name) d (remB (nmd name) d fs) = remB (nmd name) d fs := by
  unfold remB
  rw [List.flatMap_assoc]
  congr 1
  funext f
  exact remOneB_again name d f
theorem GI_rem (name d : ByteArray) (fs : List FB) : GI name (remB (nmd name) d fs) = WI name d fs := by
  unfold GI WI remB
  rw [List.flatMap_assoc]
  congr 1
  funext f
  unfold remOneB wi1
  by_cases h1 : nmd name f.1.data.toList = false
  · rw [if_pos h1, List.flatMap_singleton, if_neg (by rw [h1]; simp)]
    unfold gi1
    rw [if_neg (by rw [h1]; simp)]
  · have h1' : nmd name f.1.data.toList = true := by simpa using h1
    rw [if_neg h1, if_pos h1']
    by_cases h2 : (its f.2.data.toList).any (eqd d) = false
    · rw [if_pos h2, List.flatMap_singleton, rB_all h2]
      unfold gi1
      rw [if_pos h1']
    · rw [if_neg h2]
      by_cases h3 : rB d (its f.2.data.toList) = []
      · rw [if_pos h3, h3]; rfl
      · rw [if_neg h3, List.flatMap_singleton]
        unfold gi1
        simp only []
        rw [if_pos h1', its_again]
theorem WO_rem (name d : ByteArray) (fs : List FB) : WO name (remB (nmd name) d fs) = WO name fs := by
  unfold WO remB
  rw [List.flatMap_assoc]
  congr 1
  funext f
  unfold remOneB wo1
  by_cases h1 : nmd name f.1.data.toList = false
  · rw [if_pos h1, List.flatMap_singleton]
  · have h1' : nmd name f.1.data.toList = true := by simpa using h1
    rw [if_neg h1, if_pos h1']
    by_cases h2 : (its f.2.data.toList).any (eqd d) = false
    · rw [if_pos h2, List.flatMap_singleton, if_pos h1']
    · rw [if_neg h2]
      by_cases h3 : rB d (its f.2.data.toList) = []
      · rw [if_pos h3]; rfl
      · rw [if_neg h3, List.flatMap_singleton, if_pos h1']
theorem WI_take (name d : ByteArray) (fs : List FB) (i : Nat) (h : i < fs.length) : WI name d (fs.take (i + 1)) = WI name d (fs.take i) ++ wi1 name d fs[i] := by
  unfold WI
  rw [List.take_succ_eq_append_getElem h, List.flatMap_append, List.flatMap_singleton]
theorem GI_take (name : ByteArray) (fs : List FB) (i : Nat) (h : i < fs.length) : GI name (fs.take (i + 1)) = GI name (fs.take i) ++ gi1 name fs[i] := by
  unfold GI
  rw [List.take_succ_eq_append_getElem h, List.flatMap_append, List.flatMap_singleton]
theorem WO_take (name : ByteArray) (fs : List FB) (i : Nat) (h : i < fs.length) : WO name (fs.take (i + 1)) = WO name (fs.take i) ++ wo1 name fs[i] := by
  unfold WO
  rw [List.take_succ_eq_append_getElem h, List.flatMap_append, List.flatMap_singleton]
theorem WO_len (name : ByteArray) : ∀ fs : List FB, (WO name fs).length ≤ fs.length
  | [] => Nat.le_refl _
  | f :: fs => by
    have ih := WO_len name fs
    unfold WO at ih ⊢
    rw [List.flatMap_cons, List.length_append, List.length_cons]
    have : (wo1 name f).length ≤ 1 := by unfold wo1; split <;> simp
    omega
theorem WI_len (name d : ByteArray) : ∀ fs : List FB, (WI name d fs).length ≤ tot fs
  | [] => Nat.le_refl _
  | f :: fs => by
    have ih := WI_len name d fs
    unfold WI tot at ih ⊢
    rw [List.flatMap_cons, List.length_append, List.map_cons, List.sum_cons]
    have : (wi1 name d f).length ≤ 32 + f.1.size + f.2.size := by
      unfold wi1
      split
      · have h1 := its_len f.2.data.toList
        have h2 : (rB d (its f.2.data.toList)).length ≤ (its f.2.data.toList).length := List.length_filter_le _ _
        rw [← size_list] at h1
        omega
      · simp
    omega
theorem tot_mem {fs : List FB} {f : FB} (h : f ∈ fs) : 32 + f.1.size + f.2.size ≤ tot fs := by
  induction fs with
  | nil => cases h
  | cons g fs ih =>
    unfold tot at *
    rw [List.map_cons, List.sum_cons]
    rcases List.mem_cons.1 h with rfl | h
    · omega
    · have := ih h; omega
theorem tot_len (fs : List FB) : fs.length * 32 ≤ tot fs := by
  induction fs with
  | nil => exact Nat.le_refl _
  | cons g fs ih =>
    unfold tot at *
    rw [List.map_cons, List.sum_cons, List.length_cons]
    omega
theorem flat_take_le {α β : Type} (g : α → List β) (fs : List α) (i : Nat) : ((fs.take i).flatMap g).length ≤ (fs.flatMap g).length := by
  conv => rhs; rw [← List.take_append_drop i fs, List.flatMap_append, List.length_append]
  omega

section
variable {ops : Array Oper} {rest : List Oper} {a : Act} {Q : Exit → Act → World → Prop} {dst : Option Nat} {ty : TypeId} {ps : String} {aft : Array Edge}
/-- append of one string onto an owned slice, and where it lies. -/
theorem sr_push_at (s x : Operand)
    (v : Value) (xs : List ByteArray) (z : ByteArray) (hs : a.eval s = v) (B : Nat) (w0 : World) (hb : SR w0 B v xs) (hB : B ≤ w0.heap.size)
    (hx : a.eval x = .slice (some ⟨w0.heap.size, 0, none⟩) 1 1) (hlen : xs.length ≤ 8388608)
    (h : ∀ g cap w', SR w' B (.slice (some ⟨g, 0, none⟩) (xs.length + 1) cap) (xs ++ [z]) → Below B w0 w' → w0.grownBy w' v.ownBlock → (v.ownBlock = some g ∨ w0.heap.size ≤ g) → wpList Tryd.prog ops Q rest (a.put dst (.slice (some ⟨g, 0, none⟩) (xs.length + 1) cap)) w') : wpList Tryd.prog ops Q ({ dst := dst, op := .call { callee := .builtin .append, args := #[s, x], argTypes := #[45, 45] }, type := ty, pos := ps, after := aft, guard := none } :: rest) a (w0.alloc (.cells #[.string z] 9)) := by
  obtain ⟨i0, hi, hz0, hz1, hz2⟩ := info_9
  refine wpList_append_own_at _ rfl s x 45 rfl B 9 i0 (.string ⟨#[]⟩) 1 16 Tryd.underlying45 hi hz0 hz1 hz2 rfl (by decide) v _ _ hs (World.ownsRow.alloc hb _) ⟨w0.heap.size, 0, none⟩ 1 1 [.string z] hx rfl (cell_one_new _ _ _) (by simp [Value.oneCell']) (by unfold maxLen; omega) (by omega) (by simp; omega) ?_
  intro v' w' h1 h2 h3 h4
  obtain ⟨g, cap, rfl⟩ := ownsRow_succ h1
  have hS : SR w' B (.slice (some ⟨g, 0, none⟩) (xs.length + 1) cap) (xs ++ [z]) := by
    unfold SR
    rw [List.map_append, List.length_append]
    exact h1
  have hG := grown_alloc h2
  refine h g cap w' hS (Below.grown (Below.refl B w0) hG hB (fun k hk => (hb.lt k hk).1)) hG ?_
  rcases h4 with h4 | h4
  · exact Or.inl h4.symm
  · right
    simp only [Value.ownBlock, Option.some.injEq] at h4
    rw [h4]
    simp
end
theorem SR.keptAt {w w' : World} {B : Nat} {v v' : Value} {xs : List ByteArray} (h : SR w B v xs) (hg : w.grownBy w' v'.ownBlock) (hne : v.ownBlock = none ∨ v.ownBlock ≠ v'.ownBlock) : SR w' B v xs := World.ownsRow.kept h hg hne
theorem SR.apart {w : World} {B g n cap : Nat} {v v' : Value} {xs : List ByteArray} (h : SR w B v xs) (hne : v.ownBlock = none ∨ v.ownBlock ≠ v'.ownBlock) (hat : v'.ownBlock = some g ∨ w.heap.size ≤ g) : v.ownBlock = none ∨ v.ownBlock ≠ (Value.slice (some ⟨g, 0, none⟩) n cap).ownBlock := by
  rcases hne with hne | hne
  · exact Or.inl hne
  · right
    rcases hat with hat | hat
    · rw [hat] at hne; exact hne
    · intro e
      have := (World.ownsRow.lt h g (by rw [e]; rfl)).2
      omega
theorem take_rB (d : ByteArray) (xs : List ByteArray) (j : Nat) (h : j < xs.length) : rB d (xs.take (j + 1)) = rB d (xs.take j) ++ (if eqd d xs[j] = true then [] else [xs[j]]) := by
  unfold rB
  rw [List.take_succ_eq_append_getElem h, List.filter_append, List.filter_cons, List.filter_nil]
  cases eqd d xs[j] <;> rfl
end Go.Proofs.Qxb6616805aDoor
