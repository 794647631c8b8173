/- The law. -/
import Derived.Test.Qxb6616194aFmtH18
import Derived.Test.Qxb6616194aFmtH23
import Derived.Test.Qxb6616194aFmtH24
set_option linter.unusedVariables false
set_option linter.unusedSimpArgs false
set_option linter.unnecessarySimpa false
namespace Go.Proofs.Qxb6616194aFmt
open Go.RowKit Go.Deep
attribute [local go_sem] eql22 eql24 eql25 eql26 eql50 eql53 eql54 eql55 neq22 neq24 neq25 neq27 neq53 neq55

section
variable {ops : Array Oper} {rest : List Oper} {o : Oper} {a : Act} {Q : Exit → Act → World → Prop}
theorem wpList_loadG {w : World} (t : TypeId) (p : Operand) (ho : o.op = .load t p) (hw : Region.wanted o (yielded ops a.tmps) = true) (ad : Addr) (v : Value) (hp : a.eval p = .pointer (some ad))
    (hv : (Instr.loadAt t (.pointer (some ad))).run Tryf.prog w = .ok v w) (h : wpList Tryf.prog ops Q rest (a.put o.dst v) w) : wpList Tryf.prog ops Q (o :: rest) a w := by
  unfold wpList
  rw [if_pos hw]
  left
  unfold Oper.wp execOp
  simp only [ho, hp, Sem.run_bind, hv, Result.andThen_ok, Sem.run_pure]
  exact h
end

theorem loadAt30 (b : Nat) (kd : Int) (fr : ByteArray) (qy sq bt px : Int) (w : World) (h : w.heap[b]? = some (.cells #[.int .u8 kd, .string fr, .int .u64 qy, .int .u64 sq, .int .i64 bt, .int .u64 px] 30)) :
    (Instr.loadAt 30 (.pointer (some ⟨b, 0, none⟩))).run Tryf.prog w = .ok (.agg #[.int .u8 kd, .string fr, .int .u64 qy, .int .u64 sq, .int .i64 bt, .int .u64 px]) w := by
  have r0 : w.cell? ⟨b, 0, none⟩ = some (.int .u8 kd) := by rw [cell_of_row _ _ 0 _ 30 (0, 0) h]; rfl
  have r1 : w.cell? ⟨b, 1, none⟩ = some (.string fr) := by rw [cell_of_row _ _ 1 _ 30 (0, 0) h]; rfl
  have r2 : w.cell? ⟨b, 2, none⟩ = some (.int .u64 qy) := by rw [cell_of_row _ _ 2 _ 30 (0, 0) h]; rfl
  have r3 : w.cell? ⟨b, 3, none⟩ = some (.int .u64 sq) := by rw [cell_of_row _ _ 3 _ 30 (0, 0) h]; rfl
  have r4 : w.cell? ⟨b, 4, none⟩ = some (.int .i64 bt) := by rw [cell_of_row _ _ 4 _ 30 (0, 0) h]; rfl
  have r5 : w.cell? ⟨b, 5, none⟩ = some (.int .u64 px) := by rw [cell_of_row _ _ 5 _ 30 (0, 0) h]; rfl
  go_simp

set_option maxRecDepth 100000 in
set_option maxHeartbeats 4000000 in
theorem law3 (ok : ByteArray → Nat → Bool) (ra ca va8 pa wa : Option Addr) (n0 rc n4 cc n8 c8 n9 c9 n10 c10 : Nat) (pr : Nat → ByteArray) (lv lk : Nat → Int) (org : ByteArray) (pu : Int) (x : Nat → Int) (hp pts : Int) (fd : Bool) (kd : Int) (fr : ByteArray) (qy sq bt px : Int) (w : World)
    (z8 : Nat → Int) (pad : Nat → ByteArray) (pid : Nat → Nat → Int) (ps : Nat → Nat → Int) (nm : Nat → ByteArray) (va : Nat → Option Addr) (vn vc : Nat → Nat) (vz : Nat → Nat → Int) (wt : Nat → ByteArray) (wpp wbb wxx : Nat → Int) (pt : Nat → Nat → Int)
    (hCI : CI ok w) (hRt : RtAt w ra n0 rc pr lv lk) (hBy : ByAt w va8 n8 c8 z8) (hPe0 : pa = none → n9 = 0 ∧ c9 = 0) (hPe : ∀ p, pa = some p → PeAt w p n9 pad pid)
    (hCp : CpAt w ca n4 cc ps nm va vn vc vz) (hWa : WaAt w wa n10 c10 wt wpp wbb wxx pt) :
    Calls Tryf.prog 3 #[.slice ra n0 rc, .string org, .int .u8 pu, .agg (A32 x), .slice ca n4 cc, .int .i64 hp, .bool fd, .int .i64 pts, .slice va8 n8 c8, .slice pa n9 c9, .slice wa n10 c10, .agg #[.int .u8 kd, .string fr, .int .u64 qy, .int .u64 sq, .int .i64 bt, .int .u64 px]] w
      fun e w' => e = .returned (.bool true) ∧ Below w.heap.size w w' := by
  go_enter Tryf.func3, Tryf.ntmps3
  go_upto_region 1 with fail
  refine wp_boxes2 w _ _ ?_
  intro w2 hb hA hR
  have HB2 : Hid (Below w.heap.size w w2) := hb
  have HL23 : Hid (∀ u : World, Below w2.heap.size w2 u → (Instr.loadAt 23 (.pointer (some ⟨w.heap.size, 0, none⟩))).run Tryf.prog u = .ok (.agg (A32 x)) u) := fun u hu => loadAt23 _ x _ fun i hi => by
    refine below_kept hu (Nat.le_refl _) ?_
    rw [add0, cell_of_row _ _ i _ 23 (0, 0) hA]; exact A32_get x i hi
  have HL30 : Hid (∀ u : World, Below w2.heap.size w2 u → (Instr.loadAt 30 (.pointer (some ⟨w.heap.size + 1, 0, none⟩))).run Tryf.prog u = .ok (.agg #[.int .u8 kd, .string fr, .int .u64 qy, .int .u64 sq, .int .i64 bt, .int .u64 px]) u) := fun u hu => by
    refine loadAt30 _ kd fr qy sq bt px u ?_
    rw [hu.block _ (Array.getElem?_eq_some_iff.1 hR).1]; exact hR
  have HCI : Hid (CI ok w) := hCI
  have HRt : Hid (∀ u : World, Below w.heap.size w u → RtAt u ra n0 rc pr lv lk) := fun u hu => hRt.below hu
  have HBy : Hid (∀ u : World, Below w.heap.size w u → ByAt u va8 n8 c8 z8) := fun u hu => hBy.kept fun q v _ h => below_kept hu (Nat.le_refl _) h
  have HP0 : Hid (pa = none → n9 = 0 ∧ c9 = 0) := hPe0
  have HPe : Hid (∀ u : World, Below w.heap.size w u → ∀ p, pa = some p → PeAt u p n9 pad pid) := fun u hu p hp => (hPe p hp).kept fun q v h => below_kept hu (Nat.le_refl _) h
  have HCp : Hid (∀ u : World, Below w.heap.size w u → CpAt u ca n4 cc ps nm va vn vc vz) := fun u hu => hCp.below hu
  have HWa : Hid (∀ u : World, Below w.heap.size w u → WaAt u wa n10 c10 wt wpp wbb wxx pt) := fun u hu => hWa.kept fun q v h => below_kept hu (Nat.le_refl _) h
  clear hb hA hR hCI hRt hBy hPe0 hPe hCp hWa
  apply wp_region_lit
  iterate 3 (refine wpList_step (fun K hK => ?_); go_simp; refine hK _ _ ?_; clear hK K)
  refine wpList_loadG 23 _ rfl rfl _ _ rfl (HL23.out _ (Below.refl _ _)) ?_
  iterate 7 (refine wpList_step (fun K hK => ?_); go_simp; refine hK _ _ ?_; clear hK K)
  refine wpList_loadG 30 _ rfl rfl _ _ rfl (HL30.out _ (Below.refl _ _)) ?_
  go_wp2_with fail
  refine (bytes_any ra ca va8 pa wa n0 rc n4 cc n8 c8 n9 c9 n10 c10 pr lv lk org pu x hp pts fd kd fr qy sq bt px w2 pad pid ps nm va vn vc vz wt wpp wbb wxx pt (HRt.out _ HB2.out) (HPe.out _ HB2.out) (HCp.out _ HB2.out) (HWa.out _ HB2.out) (fun h => (HP0.out h).1)).mono ?_
  rintro e w3 ⟨r, rfl, hb3, hB3⟩
  cases r with
  | false =>
    have HB3 : Hid (Below w.heap.size w w3) := HB2.out.trans (hb3.mono HB2.out.size)
    clear hb3 hB3
    go_wp2_with fail
    go_ret
    exact ⟨rfl, HB3.out⟩
  | true =>
    have HQ := hB3 rfl
    have HQ1 : Hid (org.size ≤ 1048576 ∧ n8 ≤ 1048576 ∧ fr.size ≤ 1048576 ∧ ∀ i, i < n4 → (nm i).size ≤ 1048576 ∧ vn i ≤ 1048576) := HQ
    have HB3 : Hid (Below w.heap.size w w3) := HB2.out.trans (hb3.mono HB2.out.size)
    have HC3 : Hid (Below w2.heap.size w2 w3) := hb3
    clear hb3 hB3 HQ
    go_upto_region 3 with fail
    apply wp_region_lit
    iterate 6 (refine wpList_step (fun K hK => ?_); go_simp; refine hK _ _ ?_; clear hK K)
    refine wpList_loadG 30 _ rfl rfl _ _ rfl (HL30.out _ HC3.out) ?_
    go_wp2_with fail
    refine (tooBig_any ra ca va8 pa wa n0 rc n4 cc n8 c8 n9 c9 n10 c10 pr lv lk org kd fr qy sq bt px w3 pad pid ps nm va vn vc vz wt wpp wbb wxx pt (HRt.out _ HB3.out) (HPe.out _ HB3.out) (HCp.out _ HB3.out) (HWa.out _ HB3.out) (fun h => (HP0.out h).1) HQ1.out.1 HQ1.out.2.1 HQ1.out.2.2.1).mono ?_
    rintro e w4 ⟨r4, rfl, hb4, hB4⟩
    have HB4 : Hid (Below w.heap.size w w4) := HB3.out.trans (hb4.mono HB3.out.size)
    have HC4 : Hid (Below w2.heap.size w2 w4) := HC3.out.trans (hb4.mono HC3.out.size)
    clear HB3 HC3 hb4
    cases r4 with
    | true =>
      clear hB4
      go_wp2_with fail
      go_ret
      exact ⟨rfl, HB4.out⟩
    | false =>
      have HQ2 : Hid (n0 ≤ 4096 ∧ n4 ≤ 4096 ∧ n9 ≤ 4096 ∧ n10 ≤ 4096) := hB4 rfl
      clear hB4
      go_upto_region 5 with fail
      apply wp_region_lit
      iterate 3 (refine wpList_step (fun K hK => ?_); go_simp; refine hK _ _ ?_; clear hK K)
      refine wpList_loadG 23 _ rfl rfl _ _ rfl (HL23.out _ HC4.out) ?_
      iterate 7 (refine wpList_step (fun K hK => ?_); go_simp; refine hK _ _ ?_; clear hK K)
      refine wpList_loadG 30 _ rfl rfl _ _ rfl (HL30.out _ HC4.out) ?_
      go_wp2_with fail
      refine (message_any ra ca va8 pa wa n0 rc n4 cc n8 c8 n9 c9 n10 c10 pr lv lk org pu x hp pts fd kd fr qy sq bt px w4 z8 pad pid ps nm va vn vc vz wt wpp wbb wxx pt (HRt.out _ HB4.out) HQ2.out.1 (HBy.out _ HB4.out) HQ1.out.2.1 HP0.out (HPe.out _ HB4.out) HQ2.out.2.2.1 (HCp.out _ HB4.out) HQ2.out.2.1 (fun i hi => (HQ1.out.2.2.2 i hi).2) (HWa.out _ HB4.out) HQ2.out.2.2.2).mono ?_
      rintro e w5 ⟨b, M, rfl, hbs, hb5, hmsg⟩
      have HB5 : Hid (Below w.heap.size w w5) := HB4.out.trans (hb5.mono HB4.out.size)
      have HC5 : Hid (Below w2.heap.size w2 w5) := HC4.out.trans (hb5.mono HC4.out.size)
      have HS : Hid (w.heap.size ≤ b ∧ w2.heap.size ≤ b) := ⟨Nat.le_trans HB4.out.size hbs, Nat.le_trans HC4.out.size hbs⟩
      have HM5 : Hid (Msg w5 b M kd fr qy sq bt px org x pu ra ca n0 n4 pr lv lk ps nm va vn vz) := hmsg
      clear hbs hb5 hmsg HB4 HC4
      go_wp2_with fail
      refine (zz_msg ok w HCI.out HB5.out HS.out.1 HM5.out HQ1.out.2.2.2).mono ?_
      rintro e w6 ⟨rfl, hm6, hf6⟩
      have HB6 : Hid (Below w.heap.size w w6) := hf6.belowOf HB5.out HS.out.1
      have HC6 : Hid (Below w2.heap.size w2 w6) := hf6.belowOf HC5.out HS.out.2
      have HM6 : Hid (Msg w6 b (Clear M) kd fr qy sq bt px org x pu ra ca n0 n4 pr lv lk ps nm va vn vz) := hm6
      clear hm6 hf6 HB5 HC5 HM5
      have HWant : Hid (∀ u : World, Below w.heap.size w u → Calls Tryf.prog 8 #[.slice ra n0 rc, .string org, .int .u8 pu, .agg (A32 x), .slice ca n4 cc] u fun e w' => e = .returned (.bool (wantB ok n0 (pr 0) org pu n4 x (ps 0) (nm 0) (vn 0))) ∧ Below u.heap.size u w') := fun u hu =>
        want_any ok w HCI.out u hu ra ca n0 rc n4 cc pr lv lk org pu x ps nm va vn vc vz (HRt.out _ hu) (HCp.out _ hu) HQ1.out.2.2.2
      have HZz : Hid (∀ (u : World) (N : Nat → Value), Below w.heap.size w u → Msg u b N kd fr qy sq bt px org x pu ra ca n0 n4 pr lv lk ps nm va vn vz → Calls Tryf.prog 7 #[.pointer (some ⟨b, 0, none⟩)] u fun e w' => e = .returned (.bool (wantB ok n0 (pr 0) org pu n4 x (ps 0) (nm 0) (vn 0))) ∧ Msg w' b (Clear N) kd fr qy sq bt px org x pu ra ca n0 n4 pr lv lk ps nm va vn vz ∧ Fr b u w') := fun u N hu hm =>
        zz_msg ok w HCI.out hu HS.out.1 hm HQ1.out.2.2.2
      have HKe : Hid (∀ (u : World) (N : Nat → Value), Below w.heap.size w u → Msg u b N kd fr qy sq bt px org x pu ra ca n0 n4 pr lv lk ps nm va vn vz → Calls Tryf.prog 10 #[.pointer (some ⟨b, 0, none⟩), .slice ra n0 rc, .string org, .int .u8 pu, .agg (A32 x), .slice ca n4 cc, .agg #[.int .u8 kd, .string fr, .int .u64 qy, .int .u64 sq, .int .i64 bt, .int .u64 px]] u fun e w' => e = .returned (.bool true) ∧ Below u.heap.size u w') := fun u N hu hm =>
        keeps_any u b N kd fr qy sq bt px org x pu ra ca n0 rc n4 cc pr lv lk ps nm va vn vc vz hm (HRt.out _ hu) (HCp.out _ hu) HQ2.out.1 HQ2.out.2.1 (fun i hi => (HQ1.out.2.2.2 i hi).2)
      clear HCI HRt HBy HP0 HPe HCp HWa HQ1 HQ2 HB2
      generalize wantB ok n0 (pr 0) org pu n4 x (ps 0) (nm 0) (vn 0) = r at *
      go_upto_region 7 with fail
      go_wp2_with (first | (refine wpList_loadG 23 _ rfl rfl _ _ rfl (HL23.out _ HC6.out) ?_) | (refine wpList_loadG 30 _ rfl rfl _ _ rfl (HL30.out _ HC6.out) ?_))
      refine (HWant.out _ HB6.out).mono ?_
      rintro e w7 ⟨rfl, hb7⟩
      have HB7 : Hid (Below w.heap.size w w7) := HB6.out.trans (hb7.mono HB6.out.size)
      have HC7 : Hid (Below w2.heap.size w2 w7) := HC6.out.trans (hb7.mono HC6.out.size)
      have HM7 : Hid (Msg w7 b (Clear M) kd fr qy sq bt px org x pu ra ca n0 n4 pr lv lk ps nm va vn vz) := HM6.out.below hb7
      clear hb7 HB6 HC6 HM6 HWant
      go_wp2_with (first | (refine wpList_loadG 23 _ rfl rfl _ _ rfl (HL23.out _ HC7.out) ?_) | (refine wpList_loadG 30 _ rfl rfl _ _ rfl (HL30.out _ HC7.out) ?_))
      refine (cleared_any b (Clear M) w7 HM7.out.row (Clear_clr M)).mono ?_
      rintro e w8 ⟨rfl, hw8⟩
      have hw8' := hw8.symm
      subst hw8'
      clear hw8
      go_wp2_with (first | (refine wpList_loadG 23 _ rfl rfl _ _ rfl (HL23.out _ HC7.out) ?_) | (refine wpList_loadG 30 _ rfl rfl _ _ rfl (HL30.out _ HC7.out) ?_))
      refine (HKe.out _ _ HB7.out HM7.out).mono ?_
      rintro e w8 ⟨rfl, hb8⟩
      have HB8 : Hid (Below w.heap.size w w8) := HB7.out.trans (hb8.mono HB7.out.size)
      have HC8 : Hid (Below w2.heap.size w2 w8) := HC7.out.trans (hb8.mono HC7.out.size)
      have HM8 : Hid (Msg w8 b (Clear M) kd fr qy sq bt px org x pu ra ca n0 n4 pr lv lk ps nm va vn vz) := HM7.out.below hb8
      clear hb8 HB7 HC7 HM7
      go_wp2_with fail
      refine (HZz.out _ _ HB8.out HM8.out).mono ?_
      rintro e w9 ⟨rfl, hm9, hf9⟩
      have HB9 : Hid (Below w.heap.size w w9) := hf9.belowOf HB8.out HS.out.1
      have HC9 : Hid (Below w2.heap.size w2 w9) := hf9.belowOf HC8.out HS.out.2
      have HM9 : Hid (Msg w9 b (Clear (Clear M)) kd fr qy sq bt px org x pu ra ca n0 n4 pr lv lk ps nm va vn vz) := hm9
      clear hm9 hf9 HB8 HC8 HM8 HZz
      go_wp2_with fail
      refine (cleared_any b (Clear (Clear M)) w9 HM9.out.row (Clear_clr _)).mono ?_
      rintro e w10 ⟨rfl, hw10⟩
      have hw10' := hw10.symm
      subst hw10'
      clear hw10
      go_wp2_with (first | (refine wpList_loadG 23 _ rfl rfl _ _ rfl (HL23.out _ HC9.out) ?_) | (refine wpList_loadG 30 _ rfl rfl _ _ rfl (HL30.out _ HC9.out) ?_))
      refine (HKe.out _ _ HB9.out HM9.out).mono ?_
      rintro e w10 ⟨rfl, hb10⟩
      have HB10 : Hid (Below w.heap.size w w10) := HB9.out.trans (hb10.mono HB9.out.size)
      clear hb10 HB9 HC9 HM9
      go_wp2_with fail
      go_ret
      exact ⟨rfl, HB10.out⟩

end Go.Proofs.Qxb6616194aFmt
