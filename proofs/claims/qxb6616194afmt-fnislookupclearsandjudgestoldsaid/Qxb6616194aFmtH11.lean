/- lookupWant: a store lookup whose copies do not fit. -/
import Derived.Test.Qxb6616194aFmtH8
set_option linter.unusedVariables false
set_option linter.unusedSimpArgs false
set_option linter.unnecessarySimpa false
namespace Go.Proofs.Qxb6616194aFmt
open Go.RowKit Go.Deep

set_option maxRecDepth 100000 in
set_option maxHeartbeats 1000000 in
theorem want_many (x : Nat → Int) (org p0 : ByteArray) (pu : Int) (a0 : Addr) (n0 c0 : Nat) (a4 : Option Addr) (n4 c4 : Nat) (w : World) (h0 : 0 < n0) (hp0 : w.cell? a0 = some (.string p0)) (hpo : (p0.toList == org.toList) = true) (hpu : (pu != 1) = false) (h4 : n4 ≠ 1) :
    Calls Tryf.prog 8 #[.slice (some a0) n0 c0, .string org, .int .u8 pu, .agg (A32 x), .slice a4 n4 c4] w fun e w' => e = .returned (.bool false) ∧ Below w.heap.size w w' := by
  have hn : ((n0 : Int) == 0) = false := by simp; omega
  have hn4 : ((n4 : Int) != 1) = true := by simp; omega
  have hb : Below w.heap.size w (w.alloc (.cells (A32 x) 23)) := (Below.refl _ w).alloc (Nat.le_refl _) _
  have k0 := below_kept hb (Nat.le_refl _) hp0
  go_enter Tryf.func8, Tryf.ntmps8
  go_upto_region 1 with fail
  generalize w.alloc (.cells (A32 x) 23) = w1 at *
  clear hp0 h4
  go_wp2_with fail
  go_quiet (fail)
  go_wp2_with fail
  go_ret
  exact ⟨rfl, hb.os, hb.tape, hb.output, hb.size, hb.block⟩

set_option maxRecDepth 100000 in
set_option maxHeartbeats 1000000 in
theorem want_pos (x y : Nat → Int) (org p0 : ByteArray) (pu : Int) (a0 a4 : Addr) (n0 c0 c4 : Nat) (w : World)
    (h0 : 0 < n0) (heq : eq32 y x = false) (hp0 : w.cell? a0 = some (.string p0)) (hpu : (pu != 1) = false) (hpo : (p0.toList == org.toList) = true)
    (hc : ∀ i, i < 32 → w.cell? (a4.add i) = some (.int .u8 (y i))) :
    Calls Tryf.prog 8 #[.slice (some a0) n0 c0, .string org, .int .u8 pu, .agg (A32 x), .slice (some a4) 1 c4] w fun e w' => e = .returned (.bool false) ∧ Below w.heap.size w w' := by
  have hn : ((n0 : Int) == 0) = false := by simp; omega
  have e23 := fun w => equal23 y x w
  have g23 := eqGuard23
  have hb : Below w.heap.size w (w.alloc (.cells (A32 x) 23)) := (Below.refl _ w).alloc (Nat.le_refl _) _
  have k0 := below_kept hb (Nat.le_refl _) hp0
  have k5 : ∀ q, (Instr.loadAt 23 (.pointer (some a4))).run Tryf.prog ((w.alloc (.cells (A32 x) 23)).drewN q) = .ok (.agg (A32 y)) ((w.alloc (.cells (A32 x) 23)).drewN q) := fun q => loadAt23 a4 y _ fun i hi => below_kept hb (Nat.le_refl _) (hc i hi)
  have k6 : ∀ q, (Instr.loadAt 23 (.pointer (some ⟨w.heap.size, 0, none⟩))).run Tryf.prog ((w.alloc (.cells (A32 x) 23)).drewN q) = .ok (.agg (A32 x)) ((w.alloc (.cells (A32 x) 23)).drewN q) := fun q => loadAt23 _ x _ fun i hi => box_cell w _ 23 i _ (A32_get x i hi)
  go_enter Tryf.func8, Tryf.ntmps8
  go_upto_region 1 with fail
  generalize w.alloc (.cells (A32 x) 23) = w1 at *
  clear hp0 hc
  go_wp2_with fail
  refine wp_region_quiet_lit (by kernel_rfl) (by kernel_rfl) ?_
  iterate 7 (quiet_step (fail))
  refine wpQuiet_load 23 _ _ _ rfl rfl rfl k5 ?_
  refine wpQuiet_load 23 _ _ _ rfl rfl rfl k6 ?_
  iterate 2 (quiet_step (fail))
  refine wpQuiet_nil ?_
  intro _ hw'
  obtain ⟨nq, hw''⟩ := hw'
  subst hw''
  clear k5 k6
  go_wp2_with fail
  go_ret
  exact ⟨rfl, hb.os, hb.tape, hb.output, hb.size, hb.block⟩

end Go.Proofs.Qxb6616194aFmt
