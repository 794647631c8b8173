/- isLookup: what it answers, what it clears. -/
import Derived.Test.Qxb6616194aFmtH6
import Derived.Test.Qxb6616194aFmtH12
import Derived.Lib.QuietBelow
set_option linter.unusedVariables false
set_option linter.unusedSimpArgs false
set_option linter.unnecessarySimpa false
namespace Go.Proofs.Qxb6616194aFmt
open Go.RowKit Go.Deep
attribute [local go_sem] eql22 eql24 eql25 eql26 eql50 eql53 eql54 eql55 neq22 neq24 neq25 neq27 neq53 neq55

/-- What a lookup must be: told by the parts of the message. -/
def wantB (ok : ByteArray → Nat → Bool) (n0 : Nat) (p0 org : ByteArray) (pu : Int) (n4 : Nat) (x y : Nat → Int) (nm : ByteArray) (vn : Nat) : Bool :=
  if n0 = 0 then false else if (p0.toList == org.toList) = false then false else if (pu != 1) = true then (n4 : Int) == 0 else if n4 ≠ 1 then false else if eq32 y x = false then false else ok nm vn

theorem Fr.kept {b : Nat} {w w' : World} (h : Fr b w w') {a : Addr} {v : Value} (hb : a.block ≠ b) (hc : w.cell? a = some v) : w'.cell? a = some v := by
  rw [World.cell?_of_block (w := w) (h.block a.block (cell_lt hc) hb)]; exact hc

theorem Fr.below {b : Nat} {W0 w w' : World} (h : Fr b w w') (hW : Below W0.heap.size W0 w) (hb : W0.heap.size ≤ b) : Below W0.heap.size W0 w' :=
  ⟨h.os.trans hW.os, h.tape.trans hW.tape, h.output.trans hW.output, Nat.le_trans hW.size h.size, fun k hk => (h.block k (Nat.lt_of_lt_of_le hk hW.size) (by omega)).trans (hW.block k hk)⟩
theorem Fr.grown {b : Nat} {w w' w'' : World} (h : Fr b w w') (hb : Below w'.heap.size w' w'') : Fr b w w'' :=
  ⟨hb.os.trans h.os, hb.tape.trans h.tape, hb.output.trans h.output, Nat.le_trans h.size hb.size, fun k hk hn => (hb.block k (Nat.lt_of_lt_of_le hk h.size)).trans (h.block k hk hn)⟩
theorem loadAt63 (a : Addr) (y : Nat → Int) (nm : ByteArray) (v : Value) (w : World) (h : ∀ i, i < 32 → w.cell? (a.add i) = some (.int .u8 (y i))) (h1 : w.cell? (a.add 32) = some (.string nm)) (h2 : w.cell? (a.add 33) = some v) :
    (Instr.loadAt 63 (.pointer (some a))).run Tryf.prog w = .ok (.agg (C34 y nm v)) w := by
  have := run_loadCells (P := Tryf.prog) w a 34 (fun i => if i < 32 then .int .u8 (y i) else if i = 32 then .string nm else v) (fun i hi => by
    by_cases c1 : i < 32
    · rw [if_pos c1]; exact h i c1
    · by_cases c2 : i = 32
      · subst c2; exact h1
      · have : i = 33 := by omega
        subst this; exact h2)
  unfold loadCells at this
  have e : ((List.range 34).map (fun i => if i < 32 then Value.int .u8 (y i) else if i = 32 then .string nm else v)).toArray = C34 y nm v := by
    unfold C34 A32
    apply Array.ext'
    simp [List.range_succ]
  simp only [Instr.loadAt, Instr.sureAddr, loadVar, Tryf.isAgg63, Tryf.sizeOf63, loadCells, Sem.run_bind, Sem.run_pure, Result.andThen_ok, if_true]
  rw [← e]
  simp only [this, Result.andThen_ok, Sem.run_pure]

set_option maxRecDepth 100000 in
set_option maxHeartbeats 6000000 in
theorem isLookup_any (ok : ByteArray → Nat → Bool) (W0 : World) (hCI : CI ok W0) (b : Nat) (M : Nat → Value) (w : World) (hW : Below W0.heap.size W0 w) (hWb : W0.heap.size ≤ b)
    (org p0 nm : ByteArray) (pu : Int) (n0 rc n4 cc vn vc' : Nat) (ra ca va' : Option Addr) (x y : Nat → Int)
    (m3 : M 3 = .string org) (mx : ∀ i, i < 32 → M (4 + i) = .int .u8 (x i)) (m36 : M 36 = .int .u8 pu) (m37 : M 37 = .slice ra n0 rc) (m45 : M 45 = .slice ca n4 cc)
    (hroute : 0 < n0 → ∃ a, ra = some a ∧ a.block ≠ b ∧ w.cell? a = some (.string p0))
    (hcopy : n4 = 1 → ∃ a, ca = some a ∧ a.block ≠ b ∧ (∀ i, i < 32 → w.cell? (a.add i) = some (.int .u8 (y i))) ∧ w.cell? (a.add 32) = some (.string nm) ∧ w.cell? (a.add 33) = some (.slice va' vn vc') ∧ nm.size ≤ 1048576 ∧ vn ≤ 1048576)
    (hr : w.rowIs b 57 48 M) (va vb vc : Option Addr) (n1 c1 n2 c2 n3 c3 : Nat) (h41 : M 41 = .slice va n1 c1) (h44 : M 44 = .slice vb n2 c2) (h46 : M 46 = .slice vc n3 c3) (z1 : va = none → n1 = 0 ∧ c1 = 0) (z2 : vb = none → n2 = 0 ∧ c2 = 0) (z3 : vc = none → n3 = 0 ∧ c3 = 0) :
    Calls Tryf.prog 13 #[.pointer (some ⟨b, 0, none⟩)] w fun e w' => e = .returned (.bool (wantB ok n0 p0 org pu n4 x y nm vn)) ∧ w'.rowIs b 57 48 (Clear M) ∧ Fr b w w' := by
  have HM : Hid (M 3 = .string org ∧ (∀ i, i < 32 → M (4 + i) = .int .u8 (x i)) ∧ M 36 = .int .u8 pu ∧ M 37 = .slice ra n0 rc ∧ M 45 = .slice ca n4 cc) := ⟨m3, mx, m36, m37, m45⟩
  have HRo : Hid (0 < n0 → ∃ a, ra = some a ∧ a.block ≠ b ∧ w.cell? a = some (.string p0)) := hroute
  have HCo : Hid (n4 = 1 → ∃ a, ca = some a ∧ a.block ≠ b ∧ (∀ i, i < 32 → w.cell? (a.add i) = some (.int .u8 (y i))) ∧ w.cell? (a.add 32) = some (.string nm) ∧ w.cell? (a.add 33) = some (.slice va' vn vc') ∧ nm.size ≤ 1048576 ∧ vn ≤ 1048576) := hcopy
  have HCI : Hid (CI ok W0) := hCI
  have HW : Hid (Below W0.heap.size W0 w ∧ W0.heap.size ≤ b) := ⟨hW, hWb⟩
  clear m3 mx m36 m37 m45 hroute hcopy hCI hW hWb
  have c39 := hr.cell (i := 39) (by omega)
  have c40 := hr.cell (i := 40) (by omega)
  have c41 := hr.cell (i := 41) (by omega)
  have c44 := hr.cell (i := 44) (by omega)
  have c46 := hr.cell (i := 46) (by omega)
  have c47 := hr.cell (i := 47) (by omega)
  have f39 := hr.frozen 39
  have f40 := hr.frozen 40
  have f41 := hr.frozen 41
  have f44 := hr.frozen 44
  have f46 := hr.frozen 46
  have f47 := hr.frozen 47
  have H4 : Hid (M 41 = .slice va n1 c1 ∧ M 44 = .slice vb n2 c2 ∧ M 46 = .slice vc n3 c3) := ⟨h41, h44, h46⟩
  have HZ : Hid ((va = none → n1 = 0 ∧ c1 = 0) ∧ (vb = none → n2 = 0 ∧ c2 = 0) ∧ (vc = none → n3 = 0 ∧ c3 = 0)) := ⟨z1, z2, z3⟩
  clear h41 h44 h46 z1 z2 z3
  go_enter Tryf.func13, Tryf.ntmps13
  go_upto_region 2 with fail
  have hr1 := ((hr.set 39 (.int .i64 0)).set 40 (.bool false)).set 47 (.int .i64 0)
  have hf1 : Fr b w (((w.setCell ⟨b, 39, none⟩ (.int .i64 0)).setCell ⟨b, 40, none⟩ (.bool false)).setCell ⟨b, 47, none⟩ (.int .i64 0)) := (((Fr.refl b w).setCell _ _).setCell _ _).setCell _ _
  generalize ((w.setCell ⟨b, 39, none⟩ (.int .i64 0)).setCell ⟨b, 40, none⟩ (.bool false)).setCell ⟨b, 47, none⟩ (.int .i64 0) = w1 at *
  clear c39 c40 c41 c44 c46 c47 f39 f40 f41 f44 f46 f47
  have HR : Hid (w1.rowIs b 57 48 _) := hr1
  have c41 := hr1.cell (i := 41) (by omega)
  have c44 := hr1.cell (i := 44) (by omega)
  have c46 := hr1.cell (i := 46) (by omega)
  have f41 := hr1.frozen 41
  have f44 := hr1.frozen 44
  have f46 := hr1.frozen 46
  simp only [(by decide : ¬ (41 : Nat) = 47), (by decide : ¬ (41 : Nat) = 40), (by decide : ¬ (41 : Nat) = 39), if_false] at c41
  simp only [(by decide : ¬ (44 : Nat) = 47), (by decide : ¬ (44 : Nat) = 40), (by decide : ¬ (44 : Nat) = 39), if_false] at c44
  simp only [(by decide : ¬ (46 : Nat) = 47), (by decide : ¬ (46 : Nat) = 40), (by decide : ¬ (46 : Nat) = 39), if_false] at c46
  rw [H4.out.1] at c41
  rw [H4.out.2.1] at c44
  rw [H4.out.2.2] at c46
  clear hr1
  go_cut [30] (fun s30 wx => s30 = .bool (!(va.isNone && vb.isNone && vc.isNone)) ∧ wx = w1)
  case first =>
    cases va with
    | some a1 =>
      go_wp2_with fail
      go_meet
      case rel => exact ⟨rfl, rfl⟩
    | none =>
      cases vb with
      | some a1 =>
        go_wp2_with fail
        go_meet
        case rel => exact ⟨rfl, rfl⟩
      | none =>
        go_wp2_with fail
        go_meet
        case rel => exact ⟨by cases vc <;> rfl, rfl⟩
  case rest =>
    obtain ⟨rfl, hw⟩ := hcut
    have hw' := hw.symm
    subst hw'
    clear hw
    go_upto_if 30 with fail
    go_cut [] (fun wx => Hid (wx.rowIs b 57 48 (Clear M)) ∧ Hid (Fr b w wx))
    case first =>
      cases hnn : (va.isNone && vb.isNone && vc.isNone) with
      | true =>
        have HN : Hid ((va.isNone && vb.isNone && vc.isNone) = true) := hnn
        clear hnn
        go_wp2_with fail
        go_meet
        case rel =>
          have hn := HN.out
          simp only [Bool.and_eq_true, Option.isNone_iff_eq_none] at hn
          obtain ⟨⟨e1, e2⟩, e3⟩ := hn
          have q := H4.out
          rw [e1, e2, e3, (HZ.out.1 e1).1, (HZ.out.1 e1).2, (HZ.out.2.1 e2).1, (HZ.out.2.1 e2).2, (HZ.out.2.2 e3).1, (HZ.out.2.2 e3).2] at q
          exact ⟨HR.out.congr fun i _ => clear_three M q.1 q.2.1 q.2.2 i, hf1⟩
      | false =>
        go_wp2_with fail
        go_meet
        case rel => exact ⟨(((HR.out.set 41 _).set 44 _).set 46 _).congr fun i _ => clear_six M i, ((hf1.setCell _ _).setCell _ _).setCell _ _⟩
    case rest =>
      obtain ⟨HRC, HFC⟩ := hcut
      have d3 : wc.cell? ⟨b, 3, none⟩ = some (.string org) := by rw [HRC.out.cell (i := 3) (by omega), Clear_keeps M 3 (by omega), HM.out.1]
      have d36 : wc.cell? ⟨b, 36, none⟩ = some (.int .u8 pu) := by rw [HRC.out.cell (i := 36) (by omega), Clear_keeps M 36 (by omega), HM.out.2.2.1]
      have d37 : wc.cell? ⟨b, 37, none⟩ = some (.slice ra n0 rc) := by rw [HRC.out.cell (i := 37) (by omega), Clear_keeps M 37 (by omega), HM.out.2.2.2.1]
      have d45 : wc.cell? ⟨b, 45, none⟩ = some (.slice ca n4 cc) := by rw [HRC.out.cell (i := 45) (by omega), Clear_keeps M 45 (by omega), HM.out.2.2.2.2]
      clear c41 c44 c46 f41 f44 f46 hf1 hr
      by_cases h0 : n0 = 0
      · subst h0
        have HB : Hid (wantB ok 0 p0 org pu n4 x y nm vn = false) := rfl
        go_wp2_with fail
        go_quiet (fail)
        go_wp2_with fail
        go_ret
        exact ⟨by rw [HB.out]; rfl, HRC.out, ⟨HFC.out.os, HFC.out.tape, HFC.out.output, HFC.out.size, HFC.out.block⟩⟩
      · obtain ⟨a0, rfl, ha0, hp0⟩ := HRo.out (by omega)
        have d0 := HFC.out.kept ha0 hp0
        have hn : ((n0 : Int) == 0) = false := by simp; omega
        have hn0 : 0 < n0 := by omega
        clear HRo hp0 ha0
        rcases Bool.eq_false_or_eq_true (p0.toList == org.toList) with hpo | hpo
        · rcases Bool.eq_false_or_eq_true (pu != 1) with hpu | hpu
          · have HB : Hid (wantB ok n0 p0 org pu n4 x y nm vn = ((n4 : Int) == 0)) := by
              show _ = _
              unfold wantB
              rw [if_neg h0, hpo, if_neg (by simp), hpu, if_pos rfl]
            clear h0
            go_wp2_with fail
            go_quiet (fail)
            go_wp2_with fail
            go_ret
            exact ⟨by rw [HB.out]; rfl, HRC.out, ⟨HFC.out.os, HFC.out.tape, HFC.out.output, HFC.out.size, HFC.out.block⟩⟩
          · by_cases h4 : n4 = 1
            · subst h4
              obtain ⟨a4, rfl, ha4, hy, hnm, hva, hnms, hvns⟩ := HCo.out rfl
              have HY : Hid (∀ i, i < 32 → wc.cell? (a4.add i) = some (.int .u8 (y i))) := fun i hi => HFC.out.kept (by rw [add_block]; exact ha4) (hy i hi)
              have HX : Hid (∀ i, i < 32 → wc.cell? ((⟨b, 4, none⟩ : Addr).add i) = some (.int .u8 (x i))) := fun i hi => by
                have e : (⟨b, 4, none⟩ : Addr).add i = ⟨b, 4 + i, none⟩ := by unfold Addr.add; split <;> simp_all
                rw [e, HRC.out.cell (i := 4 + i) (by omega), Clear_keeps M (4 + i) (by omega), HM.out.2.1 i hi]
              have HNV : Hid (wc.cell? (a4.add 32) = some (.string nm) ∧ wc.cell? (a4.add 33) = some (.slice va' vn vc')) := ⟨HFC.out.kept (by rw [add_block]; exact ha4) hnm, HFC.out.kept (by rw [add_block]; exact ha4) hva⟩
              clear hy hnm hva ha4
              have g48 := eqGuard48
              rcases Bool.eq_false_or_eq_true (eq32 y x) with heq | heq
              · have HB : Hid (wantB ok n0 p0 org pu 1 x y nm vn = ok nm vn) := by
                  show _ = _
                  unfold wantB
                  rw [if_neg h0, hpo, if_neg (by simp), hpu, if_neg (by simp), if_neg (by simp), heq, if_neg (by simp)]
                have e48 := fun w => equal48 y x w
                clear h0
                go_wp2_with fail
                go_quiet (fail)
                go_wp2_with fail
                have j45 : (wc.drewN nq).cell? ⟨b, 45, none⟩ = some (.slice (some a4) 1 cc) := d45
                have HRD : Hid ((wc.drewN nq).rowIs b 57 48 (Clear M)) := HRC.out
                have HFD : Hid (Fr b w (wc.drewN nq)) := ⟨HFC.out.os, HFC.out.tape, HFC.out.output, HFC.out.size, HFC.out.block⟩
                have HYD : Hid (∀ i, i < 32 → (wc.drewN nq).cell? (a4.add i) = some (.int .u8 (y i))) := HY.out
                have HXD : Hid (∀ i, i < 32 → (wc.drewN nq).cell? ((⟨b, 4, none⟩ : Addr).add i) = some (.int .u8 (x i))) := HX.out
                have HND : Hid ((wc.drewN nq).cell? (a4.add 32) = some (.string nm) ∧ (wc.drewN nq).cell? (a4.add 33) = some (.slice va' vn vc')) := HNV.out
                clear HRC HFC HY HX HNV d3 d36 d37 d45 d0
                generalize wc.drewN nq = wd at *
                have k0 := cell_regrown j45
                have k7 : ∀ w' : World, (∃ p : Regrown, w' = Go.Sort.grow (redrawn wd p.d) p.os) → (Instr.loadAt 48 (.pointer (some a4))).run Tryf.prog w' = .ok (.agg (A32 y)) w' := by
                  rintro w' ⟨p, rfl⟩
                  exact loadAt48 a4 y _ fun i hi => cell_regrown (HYD.out i hi) p.d p.os
                have k8 : ∀ w' : World, (∃ p : Regrown, w' = Go.Sort.grow (redrawn wd p.d) p.os) → (Instr.loadAt 48 (.pointer (some ⟨b, 4, none⟩))).run Tryf.prog w' = .ok (.agg (A32 x)) w' := by
                  rintro w' ⟨p, rfl⟩
                  exact loadAt48 _ x _ fun i hi => cell_regrown (HXD.out i hi) p.d p.os
                have k9 : ∀ w' : World, (∃ p : Regrown, w' = Go.Sort.grow (redrawn wd p.d) p.os) → (Instr.loadAt 63 (.pointer (some a4))).run Tryf.prog w' = .ok (.agg (C34 y nm (.slice va' vn vc'))) w' := by
                  rintro w' ⟨p, rfl⟩
                  exact loadAt63 a4 y nm _ _ (fun i hi => cell_regrown (HYD.out i hi) p.d p.os) (cell_regrown HND.out.1 p.d p.os) (cell_regrown HND.out.2 p.d p.os)
                have HCall : Hid (∀ d os, Calls Tryf.prog 16 #[.agg (C34 y nm (.slice va' vn vc'))] (Go.Sort.grow (redrawn wd d) os) fun e w'' => e = .returned (.bool (ok nm vn)) ∧ ∃ p : Regrown, w'' = Go.Sort.grow (redrawn wd p.d) p.os) := fun d os =>
                  Calls.regrown_of (isItem_any ok W0 HCI.out y nm va' vn vc' _ ((HFD.out.grown (below_regrown wd d os)).below HW.out.1 HW.out.2) hnms hvns)
                refine wp_region_quiet_below (by kernel_rfl) (by kernel_rfl) ?_
                iterate 13 (quiet_step (fail))
                refine wpQuiet_loadC 48 _ _ _ rfl rfl rfl k7 ?_
                iterate 3 (quiet_step (fail))
                refine wpQuiet_loadC 48 _ _ _ rfl rfl rfl k8 ?_
                iterate 8 (quiet_step (fail))
                refine wpQuiet_loadC 63 _ _ _ rfl rfl rfl k9 ?_
                iterate 3 (quiet_step (exact HCall.out _ _))
                refine wpQuiet_nil ?_
                intro _ hw'
                obtain ⟨⟨dq, osq⟩, hw''⟩ := hw'
                subst hw''
                clear k7 k8 k9 k0
                go_wp2_with fail
                go_ret
                exact ⟨by rw [HB.out]; rfl, HRD.out.of_block ((below_regrown wd dq osq).block _ HRD.out.lt), HFD.out.grown (below_regrown wd dq osq)⟩
              · have HB : Hid (wantB ok n0 p0 org pu 1 x y nm vn = false) := by
                  show _ = _
                  unfold wantB
                  rw [if_neg h0, hpo, if_neg (by simp), hpu, if_neg (by simp), if_neg (by simp), heq, if_pos rfl]
                have e48 := fun w => equal48 y x w
                clear h0
                go_wp2_with fail
                go_quiet (fail)
                go_wp2_with fail
                have k7 : ∀ n, (Instr.loadAt 48 (.pointer (some a4))).run Tryf.prog ((wc.drewN nq).drewN n) = .ok (.agg (A32 y)) ((wc.drewN nq).drewN n) := fun n => loadAt48 a4 y _ fun i hi => HY.out i hi
                have k8 : ∀ n, (Instr.loadAt 48 (.pointer (some ⟨b, 4, none⟩))).run Tryf.prog ((wc.drewN nq).drewN n) = .ok (.agg (A32 x)) ((wc.drewN nq).drewN n) := fun n => loadAt48 _ x _ fun i hi => HX.out i hi
                refine wp_region_quiet_lit (by kernel_rfl) (by kernel_rfl) ?_
                iterate 13 (quiet_step (fail))
                refine wpQuiet_load 48 _ _ _ rfl rfl rfl k7 ?_
                iterate 3 (quiet_step (fail))
                refine wpQuiet_load 48 _ _ _ rfl rfl rfl k8 ?_
                iterate 12 (quiet_step (fail))
                refine wpQuiet_nil ?_
                intro _ hw'
                obtain ⟨nq2, hw''⟩ := hw'
                subst hw''
                clear k7 k8
                go_wp2_with fail
                go_ret
                exact ⟨by rw [HB.out]; rfl, HRC.out, ⟨HFC.out.os, HFC.out.tape, HFC.out.output, HFC.out.size, HFC.out.block⟩⟩
            · have HB : Hid (wantB ok n0 p0 org pu n4 x y nm vn = false) := by
                show _ = _
                unfold wantB
                rw [if_neg h0, hpo, if_neg (by simp), hpu, if_neg (by simp), if_pos h4]
              have hn4 : ((n4 : Int) == 1) = false := by simp; omega
              clear h0 h4
              go_wp2_with fail
              go_quiet (fail)
              go_wp2_with fail
              go_quiet (fail)
              go_wp2_with fail
              go_ret
              exact ⟨by rw [HB.out]; rfl, HRC.out, ⟨HFC.out.os, HFC.out.tape, HFC.out.output, HFC.out.size, HFC.out.block⟩⟩
        · have HB : Hid (wantB ok n0 p0 org pu n4 x y nm vn = false) := by
            show _ = _
            unfold wantB
            rw [if_neg h0, hpo, if_pos rfl]
          clear h0
          go_wp2_with fail
          go_quiet (fail)
          go_wp2_with fail
          go_ret
          exact ⟨by rw [HB.out]; rfl, HRC.out, ⟨HFC.out.os, HFC.out.tape, HFC.out.output, HFC.out.size, HFC.out.block⟩⟩

end Go.Proofs.Qxb6616194aFmt
