/- What the laws' loops gather. -/
import Derived.Test.Qxb6616805aDoorG14
set_option linter.unusedVariables false
set_option linter.unusedSimpArgs false
set_option linter.unnecessarySimpa false
namespace Go.Proofs.Qxb6616805aDoor
open Go.RowKit Go.Shelf Go.Deep

/-- What a loop has gathered: strings and fields. -/
structure LL (B : Nat) (wb : World) (ys : List ByteArray) (os : List FB) (v7 v8 : Value) (wr : World) : Prop where
  wi : SR wr B v7 ys
  wo : OF wr B v8 os
  be : Below B wb wr
  le : B ≤ wb.heap.size
/-- The same, with a row of items at hand. -/
structure LI (B : Nat) (wb : World) (ys : List ByteArray) (os : List FB) (xs : List ByteArray) (v7 v8 v10 : Value) (wr : World) : Prop where
  ll : LL B wb ys os v7 v8 wr
  it : SR wr B v10 xs
  ne : v10.ownBlock = none ∨ v10.ownBlock ≠ v7.ownBlock

theorem SR.low {w : World} {B B' : Nat} {v : Value} {xs : List ByteArray} (h : SR w B v xs) (hle : B' ≤ B) : SR w B' v xs := by
  have h0 : w.ownsRow B 9 1 v xs.length (xs.map Value.string) := h
  refine ⟨h0.1, ?_⟩
  rcases h0.2 with h | ⟨g, cap, cur, e, hb, r⟩
  · exact Or.inl h
  · exact Or.inr ⟨g, cap, cur, e, Nat.le_trans hle hb, r⟩
theorem SR.slice {w : World} {B : Nat} {v : Value} {xs : List ByteArray} (h : SR w B v xs) : ∃ q c, v = .slice q xs.length c := by
  obtain ⟨q, c, e, -⟩ := h.sv
  exact ⟨q, c, e⟩
theorem SR.at' {w : World} {B n c : Nat} {q : Option Addr} {xs : List ByteArray} (h : SR w B (.slice q n c) xs) (j : Nat) (hj : j < xs.length) : ∃ b, q = some ⟨b, 0, none⟩ ∧ w.cell? ⟨b, j, none⟩ = some (.string xs[j]) := by
  obtain ⟨q', c', e, h2⟩ := h.sv
  obtain ⟨b, eb, hc⟩ := h2 (by omega)
  simp only [Value.slice.injEq] at e
  exact ⟨b, e.1.trans eb, hc j hj⟩
theorem SR.new_ne {w w' : World} {B : Nat} {v v' : Value} {xs ys : List ByteArray} (h : SR w B v ys) (h' : SR w' w.heap.size v' xs) : v'.ownBlock = none ∨ v'.ownBlock ≠ v.ownBlock := by
  by_cases hn : v'.ownBlock = none
  · exact Or.inl hn
  · right
    obtain ⟨g, hg⟩ := Option.ne_none_iff_exists'.1 hn
    intro e
    have h1 := (World.ownsRow.lt h' g hg).1
    have h2 := (World.ownsRow.lt h g (by rw [← e]; exact hg)).2
    omega
theorem LL.below {B : Nat} {wb wr w' : World} {ys : List ByteArray} {os : List FB} {v7 v8 : Value} (h : LL B wb ys os v7 v8 wr) (hb : Below wr.heap.size wr w') : LL B wb ys os v7 v8 w' :=
  ⟨h.wi.below hb, h.wo.below hb, h.be.trans (hb.mono (Nat.le_trans h.le h.be.size)), h.le⟩
theorem LI.below {B : Nat} {wb wr w' : World} {ys xs : List ByteArray} {os : List FB} {v7 v8 v10 : Value} (h : LI B wb ys os xs v7 v8 v10 wr) (hb : Below wr.heap.size wr w') : LI B wb ys os xs v7 v8 v10 w' :=
  ⟨h.ll.below hb, h.it.below hb, h.ne⟩
theorem LI.start {B : Nat} {wb wr w' : World} {ys xs : List ByteArray} {os : List FB} {v7 v8 v : Value} (h : LL B wb ys os v7 v8 wr) (hb : Below wr.heap.size wr w') (hv : SR w' wr.heap.size v xs) : LI B wb ys os xs v7 v8 v w' :=
  ⟨h.below hb, hv.low (Nat.le_trans h.le h.be.size), h.wi.new_ne hv⟩
theorem LI.push {B g n cap : Nat} {wb wr wa : World} {ys xs : List ByteArray} {z : ByteArray} {os : List FB} {v7 v8 v10 : Value} (h : LI B wb ys os xs v7 v8 v10 wr)
    (hS : SR wa B (.slice (some ⟨g, 0, none⟩) n cap) (ys ++ [z])) (hBe : Below B wr wa) (hG : wr.grownBy wa v7.ownBlock) (hAt : v7.ownBlock = some g ∨ wr.heap.size ≤ g) : LI B wb (ys ++ [z]) os xs (.slice (some ⟨g, 0, none⟩) n cap) v8 v10 wa :=
  ⟨⟨hS, h.ll.wo.keptBy h.ll.wi hG, h.ll.be.trans hBe, h.ll.le⟩, h.it.keptAt hG h.ne, h.it.apart h.ne hAt⟩
theorem LL.pushF {B : Nat} {wb wr wa : World} {ys : List ByteArray} {f : FB} {os : List FB} {v7 v8 v8' : Value} (h : LL B wb ys os v7 v8 wr)
    (hS : OF wa B v8' (os ++ [f])) (hBe : Below B wr wa) (hG : wr.grownBy wa v8.ownBlock) : LL B wb ys (os ++ [f]) v7 v8' wa :=
  ⟨h.wi.keptBy h.wo hG, hS, h.be.trans hBe, h.le⟩

theorem zzBuild_any (q : Option Addr) (n c : Nat) (fs : List FB) (w : World) (h : NVV w q n c fs) (hn : n ≤ 4194304) :
    Calls Tryd.prog 13 #[.slice q n c] w fun e w' => (∃ v, e = .returned v ∧ FV w' v fs ∧ ∀ b, v.ownBlock = some b → w.heap.size ≤ b) ∧ Below w.heap.size w w' := by
  cases q with
  | none =>
    obtain ⟨rfl, rfl⟩ := h.nil rfl
    refine (zzBuild_nil w).mono ?_
    rintro e w' ⟨rfl, rfl⟩
    exact ⟨⟨_, rfl, Or.inl ⟨rfl, List.eq_nil_of_length_eq_zero h.len.symm⟩, fun b hb => by cases hb⟩, Below.refl _ _⟩
  | some p =>
    refine (zzBuild_some p n c fs w h hn).mono ?_
    rintro e w' ⟨rfl, hF, hB⟩
    refine ⟨⟨_, rfl, Or.inr ⟨w.heap.size, n, by rw [h.len], hF⟩, fun b hb => ?_⟩, hB⟩
    simp only [Value.ownBlock, Option.some.injEq] at hb
    omega
theorem zzCopySip_any (v : Value) (fs : List FB) (w : World) (h : FV w v fs) (hn : fs.length ≤ 4194304) :
    Calls Tryd.prog 18 #[v] w fun e w' => (∃ v', e = .returned v' ∧ FV w' v' fs ∧ ∀ b, v'.ownBlock = some b → w.heap.size ≤ b) ∧ Below w.heap.size w w' := by
  rcases h with ⟨rfl, rfl⟩ | ⟨b, c, rfl, h⟩
  · refine (zzCopySip_nil w).mono ?_
    rintro e w' ⟨rfl, rfl⟩
    exact ⟨⟨_, rfl, Or.inl ⟨rfl, rfl⟩, fun b hb => by cases hb⟩, Below.refl _ _⟩
  · refine (zzCopySip_some b fs.length c fs w h rfl hn).mono ?_
    rintro e w' ⟨rfl, hF, hB⟩
    refine ⟨⟨_, rfl, Or.inr ⟨w.heap.size, fs.length, rfl, hF⟩, fun b hb => ?_⟩, hB⟩
    simp only [Value.ownBlock, Option.some.injEq] at hb
    omega
theorem FV.same {w w' : World} {v : Value} {fs : List FB} (h : FV w v fs) (hb : ∀ b, v.ownBlock = some b → w'.heap[b]? = w.heap[b]?) : FV w' v fs := by
  rcases h with h | ⟨b, c, rfl, h⟩
  · exact Or.inl h
  · exact Or.inr ⟨b, c, rfl, h.same (hb b rfl)⟩
theorem FV.lt {w : World} {v : Value} {fs : List FB} (h : FV w v fs) (b : Nat) (hb : v.ownBlock = some b) : b < w.heap.size := by
  rcases h with ⟨rfl, -⟩ | ⟨b', c, rfl, h⟩
  · cases hb
  · simp only [Value.ownBlock, Option.some.injEq] at hb
    have := h.lt
    omega
theorem FV.at' {w : World} {q : Option Addr} {n c : Nat} {fs : List FB} (h : FV w (.slice q n c) fs) (i : Nat) (hi : i < fs.length) : ∃ b, q = some ⟨b, 0, none⟩ ∧ w.cell? ⟨b, i * 3, none⟩ = some (.string fs[i].1) ∧ w.cell? ⟨b, i * 3 + 1, none⟩ = some (.string fs[i].2) ∧ w.cell? ⟨b, i * 3 + 2, none⟩ = some (.string ⟨#[]⟩) := by
  rcases h with ⟨e, rfl⟩ | ⟨b, c', e, h⟩
  · exact absurd hi (by simp)
  · simp only [Value.slice.injEq] at e
    obtain ⟨g, hg, hf⟩ := h.row
    obtain ⟨a1, a2, a3⟩ := hf i hi
    have hle := h.le
    exact ⟨b, e.1, by rw [hg.cell (by omega), a1], by rw [hg.cell (by omega), a2], by rw [hg.cell (by omega), a3]⟩
theorem MsgOut.belowOf {B mb : Nat} {MV : Nat → Value} {v : Value} {fs : List FB} {wb w w' : World} (h : MsgOut mb MV v fs w w') (hb : Below B wb w) (hm : B ≤ mb) (hv : ∀ b, v.ownBlock = some b → B ≤ b) (hB : B ≤ wb.heap.size) : Below B wb w' :=
  ⟨h.os.trans hb.os, h.tape.trans hb.tape, h.output.trans hb.output, Nat.le_trans hb.size h.size, fun k hk => (h.block k (by have := hb.size; omega) (by omega) (fun e => by have := hv k e; omega)).trans (hb.block k hk)⟩
theorem row_new (w : World) (A : Array Value) (t : TypeId) (n : Nat) (hn : A.size = n) : (w.alloc (.cells A t)).rowIs w.heap.size t n (fun j => A.getD j undef) := by
  subst hn
  exact World.rowIs_alloc w A t (fun i => A.getD i undef) (fun i hi => by simp [hi])
theorem remB_sizes {fs : List FB} {name d : ByteArray} (h : ∀ f ∈ fs, f.1.size ≤ 1048576 ∧ f.2.size ≤ 1048576) : ∀ g ∈ remB (nmd name) d fs, g.1.size ≤ 4194304 ∧ g.2.size ≤ 4194304 := by
  intro g hg
  unfold remB at hg
  obtain ⟨f, hf, hgf⟩ := List.mem_flatMap.1 hg
  exact remB_size (h f hf) g hgf
theorem tot_sizes {fs : List FB} (h : tot fs ≤ 1048576) : ∀ f ∈ fs, f.1.size ≤ 1048576 ∧ f.2.size ≤ 1048576 := fun f hf => by
  have := tot_mem hf
  omega
end Go.Proofs.Qxb6616805aDoor
