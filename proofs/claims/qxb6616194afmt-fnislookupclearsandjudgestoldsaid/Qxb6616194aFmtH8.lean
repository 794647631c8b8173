/- isItem. -/
import Derived.Test.Qxb6616194aFmtH4
set_option linter.unusedVariables false
set_option linter.unusedSimpArgs false
set_option linter.unnecessarySimpa false
namespace Go.Proofs.Qxb6616194aFmt
open Go.RowKit Go.Deep

/-- The cells of a copy. -/
def C34 (y : Nat → Int) (nm : ByteArray) (v : Value) : Array Value := A32 y ++ #[.string nm, v]
theorem C34_size (y : Nat → Int) (nm : ByteArray) (v : Value) : (C34 y nm v).size = 34 := by simp [C34, A32_size]
theorem C34_pos (y : Nat → Int) (nm : ByteArray) (v : Value) (i : Nat) (h : i < 32) : (C34 y nm v)[i]? = some (.int .u8 (y i)) := by
  unfold C34; rw [Array.getElem?_append_left (by rw [A32_size]; exact h)]; exact A32_get y i h
theorem C34_name (y : Nat → Int) (nm : ByteArray) (v : Value) : (C34 y nm v)[32]? = some (.string nm) := by
  unfold C34; rw [Array.getElem?_append_right (by rw [A32_size]; omega), A32_size]; rfl
theorem C34_val (y : Nat → Int) (nm : ByteArray) (v : Value) : (C34 y nm v)[33]? = some v := by
  unfold C34; rw [Array.getElem?_append_right (by rw [A32_size]; omega), A32_size]; rfl

set_option maxRecDepth 100000 in
set_option maxHeartbeats 400000 in
theorem isItem_any (ok : ByteArray → Nat → Bool) (W0 : World) (hCI : CI ok W0) (y : Nat → Int) (nm : ByteArray) (va : Option Addr) (vn vc : Nat) (w : World) (hb : Below W0.heap.size W0 w) (hnm : nm.size ≤ 1048576) (hvn : vn ≤ 1048576) :
    Calls Tryf.prog 16 #[.agg (C34 y nm (.slice va vn vc))] w fun e w' => e = .returned (.bool (ok nm vn)) ∧ Below w.heap.size w w' := by
  have hb1 : Below w.heap.size w (w.alloc (.cells (C34 y nm (.slice va vn vc)) 63)) := (Below.refl _ w).alloc (Nat.le_refl _) _
  have k1 : (w.alloc (.cells (C34 y nm (.slice va vn vc)) 63)).cell? ⟨w.heap.size, 32, none⟩ = some (.string nm) := by
    rw [← add0]; exact box_cell w _ 63 32 _ (C34_name _ _ _)
  have k2 : (w.alloc (.cells (C34 y nm (.slice va vn vc)) 63)).cell? ⟨w.heap.size, 33, none⟩ = some (.slice va vn vc) := by
    rw [← add0]; exact box_cell w _ 63 33 _ (C34_val _ _ _)
  have hb2 := hb.trans (hb1.mono hb.size)
  have hC := hCI _ nm va vn vc hb2 hnm hvn
  have HC : Hid (Calls Tryf.prog 14 #[.string nm, .slice va vn vc] (w.alloc (.cells (C34 y nm (.slice va vn vc)) 63)) _) := hC
  clear hC hCI
  go_enter Tryf.func16, Tryf.ntmps16
  go_upto_region 1 with fail
  generalize hw1 : w.alloc (.cells (C34 y nm (.slice va vn vc)) 63) = w1 at *
  clear hw1
  go_wp2_with fail
  refine HC.out.mono ?_
  rintro e w2 ⟨⟨ho, rfl⟩ | ⟨ho, T, v, rfl⟩, hb3⟩
  · have HO : Hid (ok nm vn = true) := ho
    clear ho
    go_wp2_with fail
    go_ret
    exact ⟨by rw [HO.out]; rfl, hb1.trans (hb3.mono hb1.size)⟩
  · have HO : Hid (ok nm vn = false) := ho
    clear ho
    go_wp2_with fail
    go_ret
    exact ⟨by rw [HO.out]; rfl, hb1.trans (hb3.mono hb1.size)⟩

end Go.Proofs.Qxb6616194aFmt
