/- isLookup: the clearing. -/
import Derived.Test.Qxb6616194aFmtH5
set_option linter.unusedVariables false
set_option linter.unusedSimpArgs false
set_option linter.unnecessarySimpa false
namespace Go.Proofs.Qxb6616194aFmt
open Go.RowKit Go.Deep
attribute [local go_sem] eql22 eql24 eql25 eql26 eql50 eql53 eql54 eql55 neq22 neq24 neq25 neq27 neq53 neq55

/-- The message, its six fields cleared. -/
def Clear (M : Nat → Value) : Nat → Value := fun j => if j = 39 then .int .i64 0 else if j = 40 then .bool false else if j = 41 then .slice none 0 0 else if j = 44 then .slice none 0 0 else if j = 46 then .slice none 0 0 else if j = 47 then .int .i64 0 else M j
theorem Clear_clr (M : Nat → Value) : Clr (Clear M) := ⟨rfl, rfl, rfl, rfl, rfl, rfl⟩
theorem Clear_keeps (M : Nat → Value) (j : Nat) (h : j < 39 ∨ j = 42 ∨ j = 43 ∨ j = 45) : Clear M j = M j := by
  unfold Clear
  rw [if_neg (by omega), if_neg (by omega), if_neg (by omega), if_neg (by omega), if_neg (by omega), if_neg (by omega)]

/-- All but block b is as it was. -/
structure Fr (b : Nat) (w w' : World) : Prop where
  os : w'.os = w.os
  tape : w'.tape = w.tape
  output : w'.output = w.output
  size : w.heap.size ≤ w'.heap.size
  block : ∀ k, k < w.heap.size → k ≠ b → w'.heap[k]? = w.heap[k]?

theorem Fr.refl (b : Nat) (w : World) : Fr b w w := ⟨rfl, rfl, rfl, Nat.le_refl _, fun _ _ _ => rfl⟩
theorem Fr.setCell {b : Nat} {w w1 : World} (h : Fr b w w1) (o : Nat) (u : Value) : Fr b w (w1.setCell ⟨b, o, none⟩ u) :=
  ⟨h.os, h.tape, h.output, by simpa using h.size, fun k hk hb => (blk_setCell_other _ _ _ _ hb).trans (h.block k hk hb)⟩
theorem clear_three (M : Nat → Value) (h41 : M 41 = .slice none 0 0) (h44 : M 44 = .slice none 0 0) (h46 : M 46 = .slice none 0 0) (j : Nat) :
    (if j = 47 then Value.int .i64 0 else if j = 40 then Value.bool false else if j = 39 then Value.int .i64 0 else M j) = Clear M j := by
  unfold Clear
  by_cases a1 : j = 39
  · subst a1; simp
  · by_cases a2 : j = 40
    · subst a2; simp
    · by_cases a3 : j = 41
      · subst a3; simp [h41]
      · by_cases a4 : j = 44
        · subst a4; simp [h44]
        · by_cases a5 : j = 46
          · subst a5; simp [h46]
          · by_cases a6 : j = 47
            · subst a6; simp
            · simp [a1, a2, a3, a4, a5, a6]
theorem clear_six (M : Nat → Value) (j : Nat) :
    (if j = 46 then Value.slice none 0 0 else if j = 44 then Value.slice none 0 0 else if j = 41 then Value.slice none 0 0 else if j = 47 then Value.int .i64 0 else if j = 40 then Value.bool false else if j = 39 then Value.int .i64 0 else M j) = Clear M j := by
  unfold Clear
  by_cases a1 : j = 39
  · subst a1; simp
  · by_cases a2 : j = 40
    · subst a2; simp
    · by_cases a3 : j = 41
      · subst a3; simp
      · by_cases a4 : j = 44
        · subst a4; simp
        · by_cases a5 : j = 46
          · subst a5; simp
          · by_cases a6 : j = 47
            · subst a6; simp
            · simp [a1, a2, a3, a4, a5, a6]

end Go.Proofs.Qxb6616194aFmt
