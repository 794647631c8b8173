/- Bytes: the clone, the comparison; the join; the bound on all lengths. -/
import Derived.Test.Qxb6616805aDoorG15
import Derived.Test.Qxb6616805aDoorO1
import Derived.Lib.AppendStr
import Derived.Laws.IdiomStrings
import Derived.Laws.BytesArg
set_option linter.unusedVariables false
set_option linter.unusedSimpArgs false
set_option linter.unnecessarySimpa false
namespace Go.Proofs.Qxb6616805aDoor
open Go.RowKit Go.Shelf Go.Deep

theorem eql23 (a : Option Addr) (l c : Nat) (w : World) : (binOp .eql 23 (.slice a l c) (.slice none 0 0)).run Tryd.prog w = .ok (.bool a.isNone) w := by cases a <;> kernel_rfl
attribute [local go_sem] eql23

theorem make23 : ∃ Z : Nat → Array Value, (∀ n, (Z n).size = n * 1) ∧ ∀ (n : Nat) (w : World), n ≤ 4194304 → (Instr.makeSlice 23 (.int .i64 (n : Int)) (.int .i64 (n : Int))).run Tryd.prog w = .ok (.slice (some ⟨w.heap.size, 0, none⟩) n n) (w.alloc (.cells (Z n) 5)) :=
  make_rows 23 5 1 1 Tryd.underlying23 (by kernel_rfl) (by omega)

theorem BY.kept {w w' : World} {q : Option Addr} {n c : Nat} {z : Nat → Int} (h : BY w q n c z) (hk : ∀ a v, w.cell? a = some v → w'.cell? a = some v) : BY w' q n c z :=
  ⟨h.1, fun p hp j hj => hk _ _ (h.2 p hp j hj)⟩
theorem BY.below {w w' : World} {q : Option Addr} {n c : Nat} {z : Nat → Int} (h : BY w q n c z) (hb : Below w.heap.size w w') : BY w' q n c z := h.kept fun a v ha => cell_below hb ha
theorem BY.same {w w' : World} {q : Option Addr} {n c : Nat} {z : Nat → Int} (h : BY w q n c z) (hb : ∀ p, q = some p → w'.heap[p.block]? = w.heap[p.block]?) : BY w' q n c z :=
  ⟨h.1, fun p hp j hj => (World.cell?_of_block (by rw [add_block]; exact hb p hp)).trans (h.2 p hp j hj)⟩
theorem BY.ptr {w : World} {q : Option Addr} {n c : Nat} {z : Nat → Int} (h : BY w q n c z) (hn : 0 < n) : ∃ p, q = some p := by
  cases q with
  | none => have := (h.1 rfl).1; omega
  | some p => exact ⟨p, rfl⟩
def byCells (n : Nat) (z : Nat → Int) : List Value := (List.range n).map fun j => .int .u8 (z j)
theorem byCells_len (n : Nat) (z : Nat → Int) : (byCells n z).length = n := by simp [byCells]

theorem zzCloneBytes_any (q : Option Addr) (n c : Nat) (z : Nat → Int) (w : World) (h : BY w q n c z) (hn : n ≤ 4194304) :
    Calls Tryd.prog 11 #[.slice q n c] w fun e w' => (∃ q' c', e = .returned (.slice q' n c') ∧ BY w' q' n c' z ∧ (q'.isNone = q.isNone) ∧ ∀ p, q' = some p → p.block = w.heap.size ∧ w.heap.size < w'.heap.size) ∧ Below w.heap.size w w' := by
  cases q with
  | none =>
    obtain ⟨rfl, rfl⟩ := h.1 rfl
    have HV : Hid (BY w none 0 0 z) := h
    clear h
    go_enter Tryd.func11, Tryd.ntmps11
    go_wp2_with fail
    go_ret
    exact ⟨⟨none, 0, rfl, HV.out, rfl, fun p hp => by cases hp⟩, Below.refl _ _⟩
  | some p =>
    have HV : Hid (BY w (some p) n c z) := h
    clear h
    obtain ⟨Z, hZ, hmk⟩ := make23
    have hmk' := fun w => hmk n w hn
    have HZ : Hid ((Z n).size = n) := by have := hZ n; rw [Nat.mul_one] at this; exact this
    clear hmk hZ
    go_enter Tryd.func11, Tryd.ntmps11
    go_upto_region 4 with fail
    apply wp_region_lit
    iterate 2 (refine wpList_plain rfl fun K0 hK0 => ?_; go_simp; refine hK0 _ _ ?_; clear hK0 K0)
    have HB1 : Hid (Below w.heap.size w (w.alloc (.cells (Z n) 5))) := (Below.refl _ w).alloc (Nat.le_refl _) _
    have HG1 : Hid ((w.alloc (.cells (Z n) 5)).heap[w.heap.size]? = some (.cells (Z n) 5 (0, 0))) := heap_alloc_new _ _
    generalize w.alloc (.cells (Z n) 5) = w1 at *
    refine wpList_copy_wide rfl _ _ 23 23 rfl 5 1 Tryd.underlying23 (by kernel_rfl) w.heap.size n n p c rfl rfl (Z n) 5 HG1.out (byCells n z) (by rw [byCells_len, Nat.mul_one]) ?_ (by rw [byCells_len, HZ.out]) (fun v hv => by
      obtain ⟨j, -, rfl⟩ := List.mem_map.1 hv
      rfl) ?_
    · intro j v hv
      have hj : j < n := by
        have := (List.getElem?_eq_some_iff.1 hv).1
        rwa [byCells_len] at this
      have := (HV.out.below HB1.out).2 p rfl j hj
      simp only [byCells, List.getElem?_map, List.getElem?_range hj, Option.map_some, Option.some.injEq] at hv
      rw [← hv]
      exact this
    have HB2 : Hid (Below w.heap.size w (w1.setRow w.heap.size (byCells n z).toArray)) := (fr_setRow w1 w.heap.size _).belowOf HB1.out (Nat.le_refl _) (Nat.le_refl _)
    have HG2 : Hid ((w1.setRow w.heap.size (byCells n z).toArray).heap[w.heap.size]? = some (.cells (byCells n z).toArray 5 (0, 0))) := setRow_heap w1 _ _ _ 5 _ HG1.out
    generalize w1.setRow w.heap.size (byCells n z).toArray = w2 at *
    go_wp2_with fail
    go_ret
    refine ⟨⟨_, _, rfl, ⟨fun h => (by cases h), fun p' hp' j hj => ?_⟩, rfl, fun p' hp' => ?_⟩, HB2.out⟩
    · cases hp'
      rw [Addr.add_lit, Nat.zero_add]
      simp only [World.cell?, HG2.out, List.getElem?_toArray]
      simp [byCells, hj]
    · cases hp'
      refine ⟨rfl, ?_⟩
      have := (Array.getElem?_eq_some_iff.1 HG2.out).1
      exact this

set_option maxHeartbeats 1000000 in
theorem zzSameBytes_true (q q' : Option Addr) (n c c' : Nat) (z : Nat → Int) (w : World) (h : BY w q n c z) (h' : BY w q' n c' z) (hq : q.isNone = q'.isNone) (hn : n ≤ 4194304) :
    Calls Tryd.prog 16 #[.slice q n c, .slice q' n c'] w fun e w' => e = .returned (.bool true) ∧ Below w.heap.size w w' := by
  have HV : Hid (BY w q n c z ∧ BY w q' n c' z) := ⟨h, h'⟩
  clear h h'
  go_enter Tryd.func16, Tryd.ntmps16
  go_wp2_with fail
  go_loopg [5] n (fun g v5 wr => Hid (Below w.heap.size w wr) ∧ ∃ i : Nat, g = n - i ∧ i ≤ n ∧ v5 = .int .i64 (i : Int))
  case atStart => exact ⟨Below.refl _ _, 0, by omega, by omega, rfl⟩
  case round =>
    obtain ⟨HB, i, hg, hi, rfl⟩ := hrel
    have HG : Hid (gk = n - i) := hg
    clear hg
    by_cases hlt : i < n
    · have hlt' : (i : Int) < (n : Int) := by omega
      obtain ⟨p, rfl⟩ := HV.out.1.ptr (by omega)
      obtain ⟨p', rfl⟩ := HV.out.2.ptr (by omega)
      have p0 : wr.cell? (p.add i) = some (.int .u8 (z i)) := (HV.out.1.below HB.out).2 p rfl i hlt
      have r0 : wr.cell? (p'.add i) = some (.int .u8 (z i)) := (HV.out.2.below HB.out).2 p' rfl i hlt
      generalize z i = x at *
      go_wp2_with fail
      go_quiet (fail)
      go_wp2_with fail
      go_roundg (n - (i + 1))
      case measure => rw [HG.out]; omega
      case rel => exact ⟨bdN HB.out _, i + 1, rfl, by omega, by go_num⟩
    · have hlt' : ¬ (i : Int) < (n : Int) := by omega
      go_wp2_with fail
      go_ret
      exact ⟨rfl, HB.out⟩
end Go.Proofs.Qxb6616805aDoor
