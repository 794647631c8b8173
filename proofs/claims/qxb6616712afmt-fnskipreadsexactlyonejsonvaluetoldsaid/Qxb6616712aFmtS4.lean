/- The walk of syntaxError. -/
import Derived.Test.Qxb6616712aFmtS3
import Derived.Deep.DeepMust
set_option linter.unusedVariables false
set_option linter.unusedSimpArgs false
set_option linter.unnecessarySimpa false
namespace Go.Proofs.Qxb6616712aFmt
open Go.Extern.Stop Go.Stop Go.Extern
open Go.RowKit

theorem errorf3_at (F : Interp) (x y : ByteArray) (n : Int) (W : World) (hF : F.answers W.tape) :
    Calls Tryf.prog 43 #[.string ⟨#[110, 111, 116, 32, 118, 97, 108, 105, 100, 32, 74, 83, 79, 78, 58, 32, 37, 115, 32, 97, 116, 32, 98, 121, 116, 101, 32, 37, 100, 44, 32, 119, 104, 101, 114, 101, 32, 37, 115]⟩, .slice (some ⟨W.heap.size, 0, none⟩) 3 3]
      (W.alloc (.cells #[.iface 9 (.string x), .iface 3 (.int .i64 n), .iface 9 (.string y)] 20))
      fun e w' => (∃ T v, e = .returned (.iface T v)) ∧ Below W.heap.size W w' :=
  (errorf3_any F x y n W.heap.size _ (by exact hF) (by go_simp) (by go_simp) (by go_simp)).mono fun e w' ⟨h1, h2⟩ => ⟨h1, ((Below.refl _ W).alloc (Nat.le_refl _) _).trans (h2.mono (by simp))⟩

theorem below_undrewN {B n : Nat} {w w' : World} (h : Below B (w.drewN n) w') : Below B w w' := ⟨h.os, h.tape, h.output, h.size, h.block⟩
theorem below_undrew {B : Nat} {w w' : World} (h : Below B w.drew w') : Below B w w' := ⟨h.os, h.tape, h.output, h.size, h.block⟩

set_option maxHeartbeats 1000000 in
theorem syntaxError_any (F : Interp) (T : Lib.PrintTabs) (b : Nat) (s x : ByteArray) (p : Nat) (d : Int) (w : World) (hr : Rd b s p d w) (hs : s.size ≤ 1048576) (hF : F.answers w.tape) (hT : Lib.PrintTabsAt 3 4 5 6 T w) (hU : Lib.Utf8Tabs 0 1 w) :
    Calls Tryf.prog 29 #[.pointer (some ⟨b, 0, none⟩), .string x] w fun e w' => (∃ T v, e = .returned (.iface T v)) ∧ Below w.heap.size w w' := by
  have HT : Hid (Lib.PrintTabsAt 3 4 5 6 T w) := hT
  have HU : Hid (Lib.Utf8Tabs 0 1 w) := hU
  clear hT hU
  have hlt0 := hr.lt
  have c0 := hr.cell0
  have c1 := hr.cell1
  by_cases hp : p < s.size
  · have hp' : decide ((s.size : Int) ≤ (p : Int)) = false := by simp; omega
    have hple : (p : Int) ≤ (s.size : Int) := by omega
    go_enter Tryf.func29, Tryf.ntmps29
    go_wp2_with fail
    go_quiet (fail)
    go_upto_region 3 with fail
    go_cut [5, 6] (fun s5 s6 wx => (∃ r : Int, s5 = .int .i32 r) ∧ Below w.heap.size w wx)
    case first =>
      go_region_with (go_at_call 42; refine (Tryf.utf8_DecodeRuneInString _ _ (by exact HU.out)).mono ?_; rintro e w' ⟨rfl, hb1⟩)
      all_goals
        go_wp2_with fail
        go_meet
        case rel => exact ⟨⟨_, rfl⟩, below_undrewN hb1⟩
    case rest =>
      obtain ⟨⟨r, rfl⟩, hbx⟩ := hcut
      have hrx := hr.below hbx
      have d1 := hrx.cell1
      have hFx : F.answers wc.tape := by rw [hbx.tape]; exact hF
      have HTx : Hid (Lib.PrintTabsAt 3 4 5 6 T wc) := PrintTabsAt_below HT.out hbx
      go_wp2_with fail
      go_region_with (first | (go_at_call 44; refine (QuoteRune_any r _ T (by exact HTx.out)).mono ?_; rintro e w' ⟨⟨x1, rfl⟩, hb1⟩; have hcc := cell_later hb1 (show _ = some (.int .i64 (p : Int)) from d1)) | (go_at_call 43; go_must (refine (errorf3_at F _ _ _ _ (by exact ((show _ = wc.tape from hb1.tape) ▸ hFx))).mono ?_); rintro e w'' ⟨⟨T', v', rfl⟩, hb2⟩))
      all_goals
        go_wp2_with fail
        go_ret
        exact ⟨⟨_, _, rfl⟩, hbx.trans (((below_undrew hb1).mono (by simpa using hbx.size)).trans (hb2.mono (by have := hb1.size; have := hbx.size; simp at *; omega)))⟩
  · have hp' : (s.size : Int) ≤ (p : Int) := by omega
    go_enter Tryf.func29, Tryf.ntmps29
    go_wp2_with fail
    go_quiet (fail)
    go_wp2_with fail
    refine (errors_New _ _).mono ?_
    rintro e w1 ⟨⟨T', v', rfl⟩, hb1⟩
    go_wp2_with fail
    go_ret
    exact ⟨⟨_, _, rfl⟩, below_undrewN hb1⟩

end Go.Proofs.Qxb6616712aFmt
