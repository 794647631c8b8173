/- Arrays of thirty-two bytes: equality, loading, storing. -/
import Derived.Test.Qxb6616194aFmtH1
import Derived.ChangeKeysEq
import Derived.Laws.StructEq
set_option linter.unusedVariables false
set_option linter.unusedSimpArgs false
set_option linter.unnecessarySimpa false
namespace Go.Proofs.Qxb6616194aFmt
open Go.RowKit Go.Deep

/-- Thirty-two bytes. -/
def A32 (x : Nat → Int) : Array Value := (Array.range 32).map fun i => Value.int .u8 (x i)
def eq32 (x y : Nat → Int) : Bool := (List.range 32).all fun i => x i == y i
theorem A32_size (x : Nat → Int) : (A32 x).size = 32 := by simp [A32]
theorem A32_get (x : Nat → Int) (i : Nat) (h : i < 32) : (A32 x)[i]? = some (.int .u8 (x i)) := by simp [A32, h]
theorem eq32_refl (x : Nat → Int) : eq32 x x = true := by simp [eq32]

theorem run_part5 (x : Nat → Int) (i : Nat) (h : i < 32) (w : World) : (part 5 (A32 x) (i * 1)).run Tryf.prog w = .ok (.int .u8 (x i)) w := by
  unfold part
  simp [Tryf.isAgg5, A32_get x i h]

theorem run_items (d : Nat) (x y : Nat → Int) (w : World) : ∀ is : List Nat, (∀ i ∈ is, i < 32) → (Op.eqItems (d + 1) 5 1 (A32 x) (A32 y) is).run Tryf.prog w = .ok (is.all fun i => x i == y i) w
  | [], _ => by simp [Op.eqItems]
  | i :: is, h => by
    have hi := h i (by simp)
    simp only [Op.eqItems, Sem.run_bind, run_part5 x i hi, run_part5 y i hi, Result.andThen_ok, run_equalIn_int w d 5 .u8 .u8 _ _ Tryf.underlying5]
    cases hb : (x i == y i) with
    | true => simp only [Bool.not_true, Bool.false_eq_true, if_false]; rw [run_items d x y w is fun j hj => h j (by simp [hj])]; simp [hb]
    | false => simp [hb]

theorem cells5 : Tryf.prog.cellsOf 5 = 1 := by kernel_rfl
theorem info5 : ∃ i, Tryf.prog.info? 5 = some i := by
  obtain ⟨i, hi, _⟩ := info_parts infoByte
  exact ⟨i, hi⟩

theorem equal23 (x y : Nat → Int) (w : World) : (Op.equalIn 10000 23 (.agg (A32 x)) (.agg (A32 y))).run Tryf.prog w = .ok (eq32 x y) w := by
  obtain ⟨i, hi⟩ := info5
  rw [show (10000 : Nat) = 9998 + 1 + 1 from rfl, run_equalIn_array w (9998 + 1) _ _ Tryf.underlying23 hi, cells5]
  exact run_items 9998 x y w _ (fun i hi => List.mem_range.1 hi)
theorem equal48 (x y : Nat → Int) (w : World) : (Op.equalIn 10000 48 (.agg (A32 x)) (.agg (A32 y))).run Tryf.prog w = .ok (eq32 x y) w := by
  obtain ⟨i, hi⟩ := info5
  rw [show (10000 : Nat) = 9998 + 1 + 1 from rfl, run_equalIn_array w (9998 + 1) _ _ Tryf.underlying48 hi, cells5]
  exact run_items 9998 x y w _ (fun i hi => List.mem_range.1 hi)
theorem eqGuard23 : Tryf.prog.eqGuardType Tryf.prog.depth 23 = false := by kernel_rfl
theorem eqGuard48 : Tryf.prog.eqGuardType Tryf.prog.depth 48 = false := by kernel_rfl

end Go.Proofs.Qxb6616194aFmt
