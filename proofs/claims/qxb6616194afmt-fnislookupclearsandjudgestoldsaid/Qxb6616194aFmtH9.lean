/- lookupWant: the store-purpose arm. -/
import Derived.Test.Qxb6616194aFmtH8
import Derived.Deep.RegionWith
set_option linter.unusedVariables false
set_option linter.unusedSimpArgs false
set_option linter.unnecessarySimpa false
namespace Go.Proofs.Qxb6616194aFmt
open Go.RowKit Go.Deep

set_option maxRecDepth 100000 in
set_option maxHeartbeats 1000000 in
theorem want_item (ok : ByteArray → Nat → Bool) (W0 : World) (hCI : CI ok W0) (x y : Nat → Int) (org p0 nm : ByteArray) (pu : Int) (a0 a4 : Addr) (n0 c0 c4 : Nat) (va : Option Addr) (vn vc : Nat) (w : World)
    (hbW : Below W0.heap.size W0 w) (hnms : nm.size ≤ 1048576) (hvns : vn ≤ 1048576)
    (h0 : 0 < n0) (heq : eq32 y x = true) (hp0 : w.cell? a0 = some (.string p0)) (hpu : (pu != 1) = false) (hpo : (p0.toList == org.toList) = true)
    (hc : ∀ i, i < 32 → w.cell? (a4.add i) = some (.int .u8 (y i))) (hnm : w.cell? (a4.add 32) = some (.string nm)) (hva : w.cell? (a4.add 33) = some (.slice va vn vc)) :
    Calls Tryf.prog 8 #[.slice (some a0) n0 c0, .string org, .int .u8 pu, .agg (A32 x), .slice (some a4) 1 c4] w fun e w' => e = .returned (.bool (ok nm vn)) ∧ Below w.heap.size w w' := by
  have hn : ((n0 : Int) == 0) = false := by simp; omega
  have e23 := fun w => equal23 y x w
  have g23 := eqGuard23
  have hb : Below w.heap.size w (w.alloc (.cells (A32 x) 23)) := (Below.refl _ w).alloc (Nat.le_refl _) _
  have k0 := below_kept hb (Nat.le_refl _) hp0
  have k1 := below_kept hb (Nat.le_refl _) hnm
  have k2 := below_kept hb (Nat.le_refl _) hva
  have k5 : ∀ q, (Instr.loadAt 23 (.pointer (some a4))).run Tryf.prog ((w.alloc (.cells (A32 x) 23)).drewN q) = .ok (.agg (A32 y)) ((w.alloc (.cells (A32 x) 23)).drewN q) := fun q => loadAt23 a4 y _ fun i hi => below_kept hb (Nat.le_refl _) (hc i hi)
  have k6 : ∀ q, (Instr.loadAt 23 (.pointer (some ⟨w.heap.size, 0, none⟩))).run Tryf.prog ((w.alloc (.cells (A32 x) 23)).drewN q) = .ok (.agg (A32 x)) ((w.alloc (.cells (A32 x) 23)).drewN q) := fun q => loadAt23 _ x _ fun i hi => box_cell w _ 23 i _ (A32_get x i hi)
  have hb2 := hbW.trans (hb.mono hbW.size)
  go_enter Tryf.func8, Tryf.ntmps8
  go_upto_region 1 with fail
  generalize w.alloc (.cells (A32 x) 23) = w1 at *
  clear hp0 hnm hva hc
  have HCI : Hid (∀ w2, Below W0.heap.size W0 w2 → Calls Tryf.prog 14 #[.string nm, .slice va vn vc] w2 _) := fun w2 h2 => hCI w2 nm va vn vc h2 hnms hvns
  clear hCI
  go_wp2_with fail
  refine wp_region_quiet_lit (by kernel_rfl) (by kernel_rfl) ?_
  iterate 7 (quiet_step (fail))
  refine wpQuiet_load 23 _ _ _ rfl rfl rfl k5 ?_
  refine wpQuiet_load 23 _ _ _ rfl rfl rfl k6 ?_
  iterate 2 (quiet_step (fail))
  refine wpQuiet_nil ?_
  intro _ hw'
  obtain ⟨nq, hw''⟩ := hw'
  subst hw''
  clear k5 k6
  have k1' : w1.cell? ⟨a4.block, a4.off + 32, none⟩ = some (.string nm) := by simpa [Addr.add] using k1
  have k2' : w1.cell? ⟨a4.block, a4.off + 33, none⟩ = some (.slice va vn vc) := by simpa [Addr.add] using k2
  clear k1 k2
  go_wp2_with fail
  cases hok : ok nm vn with
  | true =>
    have H1 : Hid (∀ w2, Below W0.heap.size W0 w2 → Calls Tryf.prog 14 #[.string nm, .slice va vn vc] w2 fun e w' => e = .returned .nilIface ∧ Below w2.heap.size w2 w') := fun w2 h2 => (HCI.out w2 h2).mono fun e w' ⟨h, hb⟩ => ⟨h.elim (fun h => h.2) (fun h => by rw [hok] at h; cases h.1), hb⟩
    have HO := hok
    have HO' : Hid (ok nm vn = _) := HO
    clear HCI hok HO
    go_region_with (go_at_call 14; refine (H1.out _ (by exact ⟨hb2.os, hb2.tape, hb2.output, hb2.size, hb2.block⟩)).mono ?_; rintro e w2 ⟨rfl, hb3⟩)
    all_goals
      go_wp2_with fail
      go_ret
      exact ⟨by rw [HO'.out]; rfl, hb.trans ⟨hb3.os, hb3.tape, hb3.output, hb3.size, fun k hk => hb3.block k (Nat.lt_of_lt_of_le hk hb.size)⟩⟩
  | false =>
    have H1 : Hid (∀ w2, Below W0.heap.size W0 w2 → Calls Tryf.prog 14 #[.string nm, .slice va vn vc] w2 fun e w' => (∃ T v, e = .returned (.iface T v)) ∧ Below w2.heap.size w2 w') := fun w2 h2 => (HCI.out w2 h2).mono fun e w' ⟨h, hb⟩ => ⟨h.elim (fun h => by rw [hok] at h; cases h.1) (fun h => h.2), hb⟩
    have HO := hok
    have HO' : Hid (ok nm vn = _) := HO
    clear HCI hok HO
    go_region_with (go_at_call 14; refine (H1.out _ (by exact ⟨hb2.os, hb2.tape, hb2.output, hb2.size, hb2.block⟩)).mono ?_; rintro e w2 ⟨⟨T, v, rfl⟩, hb3⟩)
    all_goals
      go_wp2_with fail
      go_ret
      exact ⟨by rw [HO'.out]; rfl, hb.trans ⟨hb3.os, hb3.tape, hb3.output, hb3.size, fun k hk => hb3.block k (Nat.lt_of_lt_of_le hk hb.size)⟩⟩

end Go.Proofs.Qxb6616194aFmt
