/- Byte slices: cloneBytes, sameBytes. -/
import Derived.Test.Qxb6616194aFmtRows
import Derived.WalkKit
import Derived.WalkSpells
import Derived.WalkLawsBesides
import Derived.Deep.LoopGhost
import Derived.Deep.QuietTactic
import Derived.Deep.OwnRows
import Derived.BigQuiet
set_option linter.unusedVariables false
set_option linter.unusedSimpArgs false
set_option linter.unnecessarySimpa false
namespace Go.Proofs.Qxb6616194aFmt
open Go.RowKit Go.Deep

theorem eql22 (a : Option Addr) (l c : Nat) (w : World) : (binOp .eql 22 (.slice a l c) (.slice none 0 0)).run Tryf.prog w = .ok (.bool a.isNone) w := by cases a <;> kernel_rfl
theorem eql24 (a : Option Addr) (l c : Nat) (w : World) : (binOp .eql 24 (.slice a l c) (.slice none 0 0)).run Tryf.prog w = .ok (.bool a.isNone) w := by cases a <;> kernel_rfl
theorem eql25 (a : Option Addr) (l c : Nat) (w : World) : (binOp .eql 25 (.slice a l c) (.slice none 0 0)).run Tryf.prog w = .ok (.bool a.isNone) w := by cases a <;> kernel_rfl
theorem eql26 (a : Option Addr) (l c : Nat) (w : World) : (binOp .eql 26 (.slice a l c) (.slice none 0 0)).run Tryf.prog w = .ok (.bool a.isNone) w := by cases a <;> kernel_rfl
theorem eql50 (a : Option Addr) (l c : Nat) (w : World) : (binOp .eql 50 (.slice a l c) (.slice none 0 0)).run Tryf.prog w = .ok (.bool a.isNone) w := by cases a <;> kernel_rfl
theorem eql53 (a : Option Addr) (l c : Nat) (w : World) : (binOp .eql 53 (.slice a l c) (.slice none 0 0)).run Tryf.prog w = .ok (.bool a.isNone) w := by cases a <;> kernel_rfl
theorem eql54 (a : Option Addr) (l c : Nat) (w : World) : (binOp .eql 54 (.slice a l c) (.slice none 0 0)).run Tryf.prog w = .ok (.bool a.isNone) w := by cases a <;> kernel_rfl
theorem eql55 (a : Option Addr) (l c : Nat) (w : World) : (binOp .eql 55 (.slice a l c) (.slice none 0 0)).run Tryf.prog w = .ok (.bool a.isNone) w := by cases a <;> kernel_rfl
theorem neq22 (a : Option Addr) (l c : Nat) (w : World) : (binOp .neq 22 (.slice a l c) (.slice none 0 0)).run Tryf.prog w = .ok (.bool (!a.isNone)) w := by cases a <;> kernel_rfl
theorem neq24 (a : Option Addr) (l c : Nat) (w : World) : (binOp .neq 24 (.slice a l c) (.slice none 0 0)).run Tryf.prog w = .ok (.bool (!a.isNone)) w := by cases a <;> kernel_rfl
theorem neq25 (a : Option Addr) (l c : Nat) (w : World) : (binOp .neq 25 (.slice a l c) (.slice none 0 0)).run Tryf.prog w = .ok (.bool (!a.isNone)) w := by cases a <;> kernel_rfl
theorem neq27 (a : Option Addr) (l c : Nat) (w : World) : (binOp .neq 27 (.slice a l c) (.slice none 0 0)).run Tryf.prog w = .ok (.bool (!a.isNone)) w := by cases a <;> kernel_rfl
theorem neq53 (a : Option Addr) (l c : Nat) (w : World) : (binOp .neq 53 (.slice a l c) (.slice none 0 0)).run Tryf.prog w = .ok (.bool (!a.isNone)) w := by cases a <;> kernel_rfl
theorem neq55 (a : Option Addr) (l c : Nat) (w : World) : (binOp .neq 55 (.slice a l c) (.slice none 0 0)).run Tryf.prog w = .ok (.bool (!a.isNone)) w := by cases a <;> kernel_rfl

attribute [local go_sem] eql22 eql24 eql25 eql26 eql50 eql53 eql54 eql55 neq22 neq24 neq25 neq27 neq53 neq55

theorem cell_lt {w : World} {a : Addr} {v : Value} (h : w.cell? a = some v) : a.block < w.heap.size := by
  by_cases hb : a.block < w.heap.size
  · exact hb
  · simp [World.cell?, Array.getElem?_eq_none (Nat.le_of_not_lt hb)] at h
theorem add_block (a : Addr) (n : Nat) : (a.add n).block = a.block := by unfold Addr.add; split <;> rfl
/-- What was read below still reads so. -/
theorem below_kept {B : Nat} {w w' : World} (h : Below B w w') {a : Addr} {v : Value} (hB : w.heap.size ≤ B) (hc : w.cell? a = some v) : w'.cell? a = some v := by
  rw [h.cell (p := a) (Nat.lt_of_lt_of_le (cell_lt hc) hB)]; exact hc

theorem infoByte : (Tryf.prog.info? 5).map (fun i => (i.zero, i.size, i.bytes)) = some (some (.int .u8 0), 1, 1) := by kernel_rfl

theorem clone_nil (w : World) : Calls Tryf.prog 11 #[.slice none 0 0] w fun e w' => e = .returned (.slice none 0 0) ∧ w' = w := by
  go_enter Tryf.func11, Tryf.ntmps11
  go_wp2_with fail
  go_ret
  exact ⟨rfl, rfl⟩

set_option maxHeartbeats 400000 in
theorem clone_some (a : Addr) (n cap : Nat) (z : Nat → Int) (w : World) (hn : n ≤ 1048576) (hc : ∀ i, i < n → w.cell? (a.add i) = some (.int .u8 (z i))) :
    Calls Tryf.prog 11 #[.slice (some a) n cap] w fun e w' => e = .returned (.slice (some ⟨w.heap.size, 0, none⟩) n n) ∧ w'.rowIs w.heap.size 5 n (fun i => .int .u8 (z i)) ∧ Below w.heap.size w w' := by
  have hmk := run_make_row' (P := Tryf.prog) 25 5 (.int .u8 0) 1 Tryf.underlying25 infoByte rfl .i64 .i64 n (by omega) (by omega)
  go_enter Tryf.func11, Tryf.ntmps11
  go_wp2_with fail
  go_loopg [4] n (fun g v wr => ∃ k : Nat, g = n - k ∧ k ≤ n ∧ v = .int .i64 (k : Int) ∧ Hid (wr.rowIs w.heap.size 5 n (fun i => if i < k then .int .u8 (z i) else .int .u8 0)) ∧ Hid (Below w.heap.size w wr))
  case atStart => exact ⟨0, rfl, Nat.zero_le _, rfl, by show World.rowIs _ _ _ _ _; simpa using World.rowIs_made w (.int .u8 0) n 5, (Below.refl _ w).alloc (Nat.le_refl _) _⟩
  case round =>
    obtain ⟨k, hg, hk, rfl, HR, HB⟩ := hrel
    have HG : Hid (gk = n - k) := hg
    clear hg
    by_cases hlt : k < n
    · have hlt' : (k : Int) < (n : Int) := by omega
      have hck : wr.cell? (a.add k) = some (.int .u8 (z k)) := below_kept HB.out (Nat.le_refl _) (hc k hlt)
      have hfr := HR.out.frozen k
      have hcl := HR.out.cell hlt
      go_wp2_with fail
      go_roundg (n - (k + 1))
      case measure => rw [HG.out]; omega
      case rel =>
        refine ⟨k + 1, rfl, hlt, by go_num, (HR.out.set k _).congr fun i hi => ?_, HB.out.setCell (Nat.le_refl _) _⟩
        by_cases hik : i = k
        · subst hik; simp
        · by_cases hik2 : i < k
          · rw [if_neg hik, if_pos hik2, if_pos (by omega)]
          · rw [if_neg hik, if_neg hik2, if_neg (by omega)]
    · have hlt' : ¬ (k : Int) < (n : Int) := by omega
      go_wp2_with fail
      go_ret
      exact ⟨rfl, HR.out.congr (fun i hi => if_pos (by omega)), HB.out⟩

/-- Two byte slices that hold the same, neither nil. -/
theorem same_some (a b : Addr) (n cap cap' : Nat) (z : Nat → Int) (w : World) (hn : n ≤ 1048576) (hc : ∀ i, i < n → w.cell? (a.add i) = some (.int .u8 (z i))) (hc' : ∀ i, i < n → w.cell? (b.add i) = some (.int .u8 (z i))) :
    Calls Tryf.prog 15 #[.slice (some a) n cap, .slice (some b) n cap'] w fun e w' => e = .returned (.bool true) ∧ Below w.heap.size w w' ∧ w'.heap.size = w.heap.size := by
  have hne : ((n : Int) != (n : Int)) = false := by simp
  go_enter Tryf.func15, Tryf.ntmps15
  go_wp2_with fail
  go_loopg [5] n (fun g v wr => ∃ k q : Nat, g = n - k ∧ k ≤ n ∧ v = .int .i64 (k : Int) ∧ wr = w.drewN q)
  case atStart => exact ⟨0, 0, rfl, Nat.zero_le _, rfl, rfl⟩
  case round =>
    obtain ⟨k, q, hg, hk, rfl, rfl⟩ := hrel
    have HG : Hid (gk = n - k) := hg
    clear hg
    by_cases hlt : k < n
    · have hlt' : (k : Int) < (n : Int) := by omega
      have h1 : (w.drewN q).cell? (a.add k) = some (.int .u8 (z k)) := hc k hlt
      have h2 : (w.drewN q).cell? (b.add k) = some (.int .u8 (z k)) := hc' k hlt
      have h3 : ((z k) != (z k)) = false := by simp
      go_wp2_with fail
      go_quiet (fail)
      go_wp2_with fail
      go_roundg (n - (k + 1))
      case measure => rw [HG.out]; omega
      case rel => exact ⟨k + 1, q + nq, rfl, hlt, by go_num, by simp [World.drewN_drewN]⟩
    · have hlt' : ¬ (k : Int) < (n : Int) := by omega
      go_wp2_with fail
      go_ret
      exact ⟨rfl, ⟨rfl, rfl, rfl, Nat.le_refl _, fun _ _ => rfl⟩, rfl⟩

theorem same_nil (w : World) : Calls Tryf.prog 15 #[.slice none 0 0, .slice none 0 0] w fun e w' => e = .returned (.bool true) ∧ w' = w := by
  go_enter Tryf.func15, Tryf.ntmps15
  go_wp2_with fail
  go_loopg [5] 0 (fun g v wr => g = 0 ∧ v = .int .i64 0 ∧ wr = w)
  case atStart => exact ⟨rfl, rfl, rfl⟩
  case round =>
    obtain ⟨hg, rfl, rfl⟩ := hrel
    go_wp2_with fail
    go_ret
    exact ⟨rfl, rfl⟩

end Go.Proofs.Qxb6616194aFmt
