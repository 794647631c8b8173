/- The reader's block and the frame round it: small laws for the walks over a docReader. -/
import Derived.Test.Qxb6616712aFmtRows
import Derived.Test.Qxb6616712aFmtPlain
import Derived.WalkKit
import Derived.WalkSpells
import Derived.WalkLawsBesides
import Derived.Deep.LoopGhost
import Derived.Deep.QuietTactic
import Derived.BigQuiet
set_option linter.unusedVariables false
set_option linter.unusedSimpArgs false
set_option linter.unnecessarySimpa false
namespace Go.Proofs.Qxb6616712aFmt
open Go.RowKit

/-- The reader's block: its text, the place, the depth. -/
def Rd (b : Nat) (s : ByteArray) (p d : Int) (w : World) : Prop := w.heap[b]? = some (.cells #[.string s, .int .i64 p, .int .i64 d] 30)

/-- All that was there is as it was, but for block b. -/
structure Fr (b : Nat) (w w' : World) : Prop where
  os : w'.os = w.os
  tape : w'.tape = w.tape
  output : w'.output = w.output
  size : w.heap.size ≤ w'.heap.size
  block : ∀ k, k < w.heap.size → k ≠ b → w'.heap[k]? = w.heap[k]?

theorem Fr.refl (b : Nat) (w : World) : Fr b w w := ⟨rfl, rfl, rfl, Nat.le_refl _, fun _ _ _ => rfl⟩
theorem Fr.trans {b : Nat} {w w1 w2 : World} (h : Fr b w w1) (k : Fr b w1 w2) : Fr b w w2 :=
  ⟨k.os.trans h.os, k.tape.trans h.tape, k.output.trans h.output, Nat.le_trans h.size k.size, fun i hi hb => (k.block i (Nat.lt_of_lt_of_le hi h.size) hb).trans (h.block i hi hb)⟩
theorem Fr.drew {b : Nat} {w w1 : World} (h : Fr b w w1) : Fr b w w1.drew := ⟨h.os, h.tape, h.output, h.size, h.block⟩
theorem Fr.drewN {b : Nat} {w w1 : World} (h : Fr b w w1) (n : Nat) : Fr b w (w1.drewN n) := ⟨h.os, h.tape, h.output, h.size, h.block⟩
theorem Fr.below {b : Nat} {w w1 : World} (h : Below w.heap.size w w1) : Fr b w w1 := ⟨h.os, h.tape, h.output, h.size, fun k hk _ => h.block k hk⟩
theorem Fr.alloc {b : Nat} {w w1 : World} (h : Fr b w w1) (o : Obj) : Fr b w (w1.alloc o) :=
  h.trans (Fr.below ((Below.refl _ _).alloc (Nat.le_refl _) o))
theorem Fr.setCell {b : Nat} {w w1 : World} (h : Fr b w w1) (o : Nat) (u : Value) : Fr b w (w1.setCell ⟨b, o, none⟩ u) :=
  h.trans ⟨rfl, rfl, rfl, by simp [World.setCell], fun k _ hb => Below.heap_setCell _ _ _ _ hb⟩
theorem Fr.cell {b : Nat} {w w' : World} (h : Fr b w w') {p : Addr} (hp : p.block < w.heap.size) (hb : p.block ≠ b) : w'.cell? p = w.cell? p := World.cell?_of_block (w := w) (h.block p.block hp hb)

theorem Rd.cell0 {b : Nat} {s : ByteArray} {p d : Int} {w : World} (h : Rd b s p d w) : w.cell? ⟨b, 0, none⟩ = some (.string s) := by
  unfold Rd at h; simp [World.cell?, h]
theorem Rd.cell1 {b : Nat} {s : ByteArray} {p d : Int} {w : World} (h : Rd b s p d w) : w.cell? ⟨b, 1, none⟩ = some (.int .i64 p) := by
  unfold Rd at h; simp [World.cell?, h]
theorem Rd.cell2 {b : Nat} {s : ByteArray} {p d : Int} {w : World} (h : Rd b s p d w) : w.cell? ⟨b, 2, none⟩ = some (.int .i64 d) := by
  unfold Rd at h; simp [World.cell?, h]
theorem Rd.free {b : Nat} {s : ByteArray} {p d : Int} {w : World} (h : Rd b s p d w) (o : Nat) : w.frozen? ⟨b, o, none⟩ = false := by
  unfold Rd at h; simp [World.frozen?, h]
theorem Rd.lt {b : Nat} {s : ByteArray} {p d : Int} {w : World} (h : Rd b s p d w) : b < w.heap.size := by
  unfold Rd at h
  exact (Array.getElem?_eq_some_iff.1 h).1
theorem Rd.set1 {b : Nat} {s : ByteArray} {p d : Int} {w : World} (h : Rd b s p d w) (q : Int) : Rd b s q d (w.setCell ⟨b, 1, none⟩ (.int .i64 q)) := by
  unfold Rd at h ⊢; simp [World.setCell, Array.getElem?_modify, h]
theorem Rd.set2 {b : Nat} {s : ByteArray} {p d : Int} {w : World} (h : Rd b s p d w) (q : Int) : Rd b s p q (w.setCell ⟨b, 2, none⟩ (.int .i64 q)) := by
  unfold Rd at h ⊢; simp [World.setCell, Array.getElem?_modify, h]
theorem Rd.drew {b : Nat} {s : ByteArray} {p d : Int} {w : World} (h : Rd b s p d w) : Rd b s p d w.drew := h
theorem Rd.drewN {b : Nat} {s : ByteArray} {p d : Int} {w : World} (h : Rd b s p d w) (n : Nat) : Rd b s p d (w.drewN n) := h
theorem Rd.below {b : Nat} {s : ByteArray} {p d : Int} {w w' : World} (h : Rd b s p d w) (k : Below w.heap.size w w') : Rd b s p d w' := by
  have := h.lt
  unfold Rd at h ⊢; rw [k.block b this]; exact h
theorem Rd.alloc {b : Nat} {s : ByteArray} {p d : Int} {w : World} (h : Rd b s p d w) (o : Obj) : Rd b s p d (w.alloc o) :=
  h.below ((Below.refl _ _).alloc (Nat.le_refl _) o)

end Go.Proofs.Qxb6616712aFmt
