/- lookupWant: the other arms. -/
import Derived.Test.Qxb6616194aFmtH8
set_option linter.unusedVariables false
set_option linter.unusedSimpArgs false
set_option linter.unnecessarySimpa false
namespace Go.Proofs.Qxb6616194aFmt
open Go.RowKit Go.Deep

set_option maxRecDepth 100000 in
theorem want_empty (x : Nat → Int) (org : ByteArray) (pu : Int) (a0 : Option Addr) (c0 : Nat) (v4 : Value) (w : World) :
    Calls Tryf.prog 8 #[.slice a0 0 c0, .string org, .int .u8 pu, .agg (A32 x), v4] w fun e w' => e = .returned (.bool false) ∧ Below w.heap.size w w' := by
  have hb : Below w.heap.size w (w.alloc (.cells (A32 x) 23)) := (Below.refl _ w).alloc (Nat.le_refl _) _
  go_enter Tryf.func8, Tryf.ntmps8
  go_upto_region 1 with fail
  generalize w.alloc (.cells (A32 x) 23) = w1 at *
  go_wp2_with fail
  go_ret
  exact ⟨rfl, hb⟩

set_option maxRecDepth 100000 in
theorem want_other (x : Nat → Int) (org p0 : ByteArray) (pu : Int) (a0 : Addr) (n0 c0 : Nat) (v4 : Value) (w : World) (h0 : 0 < n0) (hp0 : w.cell? a0 = some (.string p0)) (hpo : (p0.toList == org.toList) = false) :
    Calls Tryf.prog 8 #[.slice (some a0) n0 c0, .string org, .int .u8 pu, .agg (A32 x), v4] w fun e w' => e = .returned (.bool false) ∧ Below w.heap.size w w' := by
  have hn : ((n0 : Int) == 0) = false := by simp; omega
  have hb : Below w.heap.size w (w.alloc (.cells (A32 x) 23)) := (Below.refl _ w).alloc (Nat.le_refl _) _
  have k0 := below_kept hb (Nat.le_refl _) hp0
  go_enter Tryf.func8, Tryf.ntmps8
  go_upto_region 1 with fail
  generalize w.alloc (.cells (A32 x) 23) = w1 at *
  clear hp0
  go_wp2_with fail
  go_ret
  exact ⟨rfl, hb⟩

set_option maxRecDepth 100000 in
theorem want_plain (x : Nat → Int) (org p0 : ByteArray) (pu : Int) (a0 : Addr) (n0 c0 : Nat) (a4 : Option Addr) (n4 c4 : Nat) (w : World) (h0 : 0 < n0) (hp0 : w.cell? a0 = some (.string p0)) (hpo : (p0.toList == org.toList) = true) (hpu : (pu != 1) = true) :
    Calls Tryf.prog 8 #[.slice (some a0) n0 c0, .string org, .int .u8 pu, .agg (A32 x), .slice a4 n4 c4] w fun e w' => e = .returned (.bool ((n4 : Int) == 0)) ∧ Below w.heap.size w w' := by
  have hn : ((n0 : Int) == 0) = false := by simp; omega
  have hb : Below w.heap.size w (w.alloc (.cells (A32 x) 23)) := (Below.refl _ w).alloc (Nat.le_refl _) _
  have k0 := below_kept hb (Nat.le_refl _) hp0
  go_enter Tryf.func8, Tryf.ntmps8
  go_upto_region 1 with fail
  generalize w.alloc (.cells (A32 x) 23) = w1 at *
  clear hp0
  go_wp2_with fail
  go_ret
  exact ⟨rfl, hb⟩

end Go.Proofs.Qxb6616194aFmt
