/- lookupMessage. -/
import Derived.Test.Qxb6616194aFmtH21
set_option linter.unusedVariables false
set_option linter.unusedSimpArgs false
set_option linter.unnecessarySimpa false
namespace Go.Proofs.Qxb6616194aFmt
open Go.RowKit Go.Deep
attribute [local go_sem] eql22 eql24 eql25 eql26 eql50 eql53 eql54 eql55 neq22 neq24 neq25 neq27 neq53 neq55

theorem wp_boxes {c : Code} {Q : Exit → Act → World → Prop} {a : Act} (w : World) (A R L : Array Value) (hL : L.size = 48) (h37 : L[37]? = some (.slice none 0 0)) (h45 : L[45]? = some (.slice none 0 0)) (h46 : L[46]? = some (.slice none 0 0))
    (h : ∀ (w3 : World) (Z : Nat → Value), Below w.heap.size w w3 → w3.heap[w.heap.size]? = some (.cells A 23) → w3.heap[w.heap.size + 1]? = some (.cells R 30) → w3.rowIs (w.heap.size + 1 + 1) 57 48 Z → Z 37 = .slice none 0 0 → Z 45 = .slice none 0 0 → Z 46 = .slice none 0 0 → c.wp Tryf.prog Q a w3) :
    c.wp Tryf.prog Q a (((w.alloc (.cells A 23)).alloc (.cells R 30)).alloc (.cells L 57)) := by
  have s1 : (w.alloc (.cells A 23)).heap.size = w.heap.size + 1 := nblk_alloc _ _
  have s2 : ((w.alloc (.cells A 23)).alloc (.cells R 30)).heap.size = w.heap.size + 1 + 1 := by rw [nblk_alloc, s1]
  refine h _ (fun i => L.getD i undef) ?_ ?_ ?_ ?_ ?_ ?_ ?_
  · exact (((Below.refl _ w).alloc (Nat.le_refl _) _).alloc (by omega) _).alloc (by omega) _
  · rw [blk_alloc_lt _ _ _ (by omega), blk_alloc_lt _ _ _ (by omega)]; exact blk_alloc_new _ _
  · rw [blk_alloc_lt _ _ _ (by omega)]
    have := blk_alloc_new (w.alloc (.cells A 23)) (.cells R 30)
    rwa [s1] at this
  · have := World.rowIs_alloc ((w.alloc (.cells A 23)).alloc (.cells R 30)) L 57 (fun i => L.getD i undef) (fun i hi => by simp [hi])
    rwa [s2, hL] at this
  · simp only [Array.getD_eq_getD_getElem?, h37]; rfl
  · simp only [Array.getD_eq_getD_getElem?, h45]; rfl
  · simp only [Array.getD_eq_getD_getElem?, h46]; rfl

theorem Fr.trans {b : Nat} {w w1 w2 : World} (h : Fr b w w1) (k : Fr b w1 w2) : Fr b w w2 :=
  ⟨k.os.trans h.os, k.tape.trans h.tape, k.output.trans h.output, Nat.le_trans h.size k.size, fun i hi hb => (k.block i (Nat.lt_of_lt_of_le hi h.size) hb).trans (h.block i hi hb)⟩

theorem Fr.other {b c : Nat} {w w1 w2 : World} (h : Fr b w w1) (k : Fr c w1 w2) (hc : w.heap.size ≤ c) : Fr b w w2 :=
  ⟨k.os.trans h.os, k.tape.trans h.tape, k.output.trans h.output, Nat.le_trans h.size k.size, fun i hi hb => (k.block i (Nat.lt_of_lt_of_le hi h.size) (by omega)).trans (h.block i hi hb)⟩
theorem Fr.drawn {b : Nat} {w w1 : World} (h : Fr b w w1) (d : Nat) : Fr b w { w1 with drawn := d } := ⟨h.os, h.tape, h.output, h.size, h.block⟩
theorem Fr.row {c b t n : Nat} {f : Nat → Value} {w w1 : World} (k : Fr c w w1) (hr : w.rowIs b t n f) (hn : b ≠ c) : w1.rowIs b t n f := hr.of_block (k.block b hr.lt hn)

set_option maxRecDepth 100000 in
set_option maxHeartbeats 4000000 in
theorem message_any (ra ca va8 pa wa : Option Addr) (n0 rc n4 cc n8 c8 n9 c9 n10 c10 : Nat) (pr : Nat → ByteArray) (lv lk : Nat → Int) (org : ByteArray) (pu : Int) (x : Nat → Int) (hp pts : Int) (fd : Bool) (kd : Int) (fr : ByteArray) (qy sq bt px : Int) (w : World)
    (z8 : Nat → Int) (pad : Nat → ByteArray) (pid : Nat → Nat → Int) (ps : Nat → Nat → Int) (nm : Nat → ByteArray) (va : Nat → Option Addr) (vn vc : Nat → Nat) (vz : Nat → Nat → Int) (wt : Nat → ByteArray) (wpp wbb wxx : Nat → Int) (pt : Nat → Nat → Int)
    (hRt : RtAt w ra n0 rc pr lv lk) (hn0 : n0 ≤ 4096) (hBy : ByAt w va8 n8 c8 z8) (hn8 : n8 ≤ 1048576) (hPe0 : pa = none → n9 = 0 ∧ c9 = 0) (hPe : ∀ p, pa = some p → PeAt w p n9 pad pid) (hn9 : n9 ≤ 4096)
    (hCp : CpAt w ca n4 cc ps nm va vn vc vz) (hn4 : n4 ≤ 4096) (hvn : ∀ i, i < n4 → vn i ≤ 1048576) (hWa : WaAt w wa n10 c10 wt wpp wbb wxx pt) (hn10 : n10 ≤ 4096) :
    Calls Tryf.prog 6 #[.slice ra n0 rc, .string org, .int .u8 pu, .agg (A32 x), .slice ca n4 cc, .int .i64 hp, .bool fd, .int .i64 pts, .slice va8 n8 c8, .slice pa n9 c9, .slice wa n10 c10, .agg #[.int .u8 kd, .string fr, .int .u64 qy, .int .u64 sq, .int .i64 bt, .int .u64 px]] w
      fun e w' => ∃ b M, e = .returned (.pointer (some ⟨b, 0, none⟩)) ∧ w.heap.size ≤ b ∧ Below w.heap.size w w' ∧ Msg w' b M kd fr qy sq bt px org x pu ra ca n0 n4 pr lv lk ps nm va vn vz := by
  have HBy : Hid (ByAt w va8 n8 c8 z8 ∧ n8 ≤ 1048576) := ⟨hBy, hn8⟩
  have HPe : Hid ((pa = none → n9 = 0 ∧ c9 = 0) ∧ (∀ p, pa = some p → PeAt w p n9 pad pid) ∧ n9 ≤ 4096) := ⟨hPe0, hPe, hn9⟩
  have HCp : Hid (CpAt w ca n4 cc ps nm va vn vc vz ∧ ∀ i, i < n4 → vn i ≤ 1048576) := ⟨hCp, hvn⟩
  have HWa : Hid (WaAt w wa n10 c10 wt wpp wbb wxx pt) := hWa
  clear hBy hn8 hPe0 hPe hn9 hCp hvn hWa
  have HRt : Hid (RtAt w ra n0 rc pr lv lk) := hRt
  clear hRt
  go_enter Tryf.func6, Tryf.ntmps6
  go_upto_region 2 with fail
  refine wp_boxes w _ _ _ rfl rfl rfl rfl ?_
  intro w3 Z hb hA hR hrow z37 z45 z46
  have HB : Hid (Below w.heap.size w w3) := hb
  have HZ : Hid (Z 37 = .slice none 0 0 ∧ Z 45 = .slice none 0 0 ∧ Z 46 = .slice none 0 0) := ⟨z37, z45, z46⟩
  have HA : Hid (∀ i, i < 32 → w3.cell? ((⟨w.heap.size, 0, none⟩ : Addr).add i) = some (.int .u8 (x i))) := fun i hi => by
    rw [add0, cell_of_row _ _ i _ 23 (0, 0) hA]; exact A32_get x i hi
  have r0 : w3.cell? ⟨w.heap.size + 1, 0, none⟩ = some (.int .u8 kd) := by rw [cell_of_row _ _ 0 _ 30 (0, 0) hR]; rfl
  have r1 : w3.cell? ⟨w.heap.size + 1, 1, none⟩ = some (.string fr) := by rw [cell_of_row _ _ 1 _ 30 (0, 0) hR]; rfl
  have r2 : w3.cell? ⟨w.heap.size + 1, 2, none⟩ = some (.int .u64 qy) := by rw [cell_of_row _ _ 2 _ 30 (0, 0) hR]; rfl
  have HR4 : Hid (w3.cell? ⟨w.heap.size + 1, 3, none⟩ = some (.int .u64 sq) ∧ w3.cell? ⟨w.heap.size + 1, 4, none⟩ = some (.int .i64 bt) ∧ w3.cell? ⟨w.heap.size + 1, 5, none⟩ = some (.int .u64 px)) :=
    ⟨by rw [cell_of_row _ _ 3 _ 30 (0, 0) hR]; rfl, by rw [cell_of_row _ _ 4 _ 30 (0, 0) hR]; rfl, by rw [cell_of_row _ _ 5 _ 30 (0, 0) hR]; rfl⟩
  clear hb z37 z45 z46 hA hR
  have nb : w.heap.size + 1 ≠ w.heap.size + 1 + 1 := by omega
  have HN : Hid (w.heap.size ≠ w.heap.size + 1 + 1 ∧ w.heap.size + 1 ≠ w.heap.size + 1 + 1 ∧ w.heap.size ≤ w.heap.size + 1 + 1) := ⟨by omega, by omega, by omega⟩
  generalize w.heap.size + 1 + 1 = b at *
  generalize w.heap.size + 1 = b1 at *
  have d0 := hrow.cell (i := 0) (by omega)
  have d1 := hrow.cell (i := 1) (by omega)
  have d2 := hrow.cell (i := 2) (by omega)
  have d3 := hrow.cell (i := 3) (by omega)
  have f0 := hrow.frozen 0
  have f1 := hrow.frozen 1
  have f2 := hrow.frozen 2
  have f3 := hrow.frozen 3
  go_upto_region 6 with fail
  have HR1 := (((hrow.set 0 (.int .u8 kd)).set 1 (.string fr)).set 2 (.int .u64 qy)).set 3 (.string org)
  have HF1 : Hid (Fr b w3 ((((w3.setCell ⟨b, 0, none⟩ (.int .u8 kd)).setCell ⟨b, 1, none⟩ (.string fr)).setCell ⟨b, 2, none⟩ (.int .u64 qy)).setCell ⟨b, 3, none⟩ (.string org))) := ((((Fr.refl b w3).setCell _ _).setCell _ _).setCell _ _).setCell _ _
  generalize (((w3.setCell ⟨b, 0, none⟩ (.int .u8 kd)).setCell ⟨b, 1, none⟩ (.string fr)).setCell ⟨b, 2, none⟩ (.int .u64 qy)).setCell ⟨b, 3, none⟩ (.string org) = w4 at *
  have q5 : (Instr.loadAt 23 (.pointer (some ⟨w.heap.size, 0, none⟩))).run Tryf.prog w4 = .ok (.agg (A32 x)) w4 := loadAt23 _ x _ fun i hi => HF1.out.kept (by rw [add_block]; exact HN.out.1) (HA.out i hi)
  clear d0 d1 d2 d3 f0 f1 f2 f3 hrow r0 r1 r2
  apply wp_region_lit
  iterate 1 (refine wpList_plain rfl fun K hK => ?_; go_simp; refine hK _ _ ?_; clear hK K)
  refine wpList_load 23 _ rfl rfl _ _ rfl q5 ?_
  iterate 2 (refine wpList_plain rfl fun K hK => ?_; go_simp; refine hK _ _ ?_; clear hK K)
  refine wpList_storeRow 48 57 _ _ 48 32 _ (fun j => .int .u8 (x j)) _ _ _ rfl rfl rfl rfl HR1 (A32_size x) (by kernel_rfl) (by omega) (fun j hj => A32_get x j hj) (fun j hj => rfl) ?_
  intro w5 r1 r2 r3
  have HF5 : Hid (Fr b w3 w5) := HF1.out.trans r2
  clear HR1 HF1 q5 r2 r3
  have d36 := r1.cell (i := 36) (by omega)
  have f36 := r1.frozen 36
  go_upto_region 8 with fail
  have HR2 := r1.set 36 (.int .u8 pu)
  have HF6 : Hid (Fr b w3 (w5.setCell ⟨b, 36, none⟩ (.int .u8 pu))) := HF5.out.setCell _ _
  generalize w5.setCell ⟨b, 36, none⟩ (.int .u8 pu) = w6 at *
  clear r1 d36 f36 HF5
  obtain ⟨M, hM, hFix, hM37, hM45, hM46⟩ : ∃ M : Nat → Value, w6.rowIs b 57 48 M ∧ Fix M kd fr qy org x pu ∧ M 37 = .slice none 0 0 ∧ M 45 = .slice none 0 0 ∧ M 46 = .slice none 0 0 := by
    refine ⟨_, HR2, ⟨rfl, rfl, rfl, rfl, fun i hi => ?_, rfl⟩, ?_, ?_, ?_⟩
    · show (if 4 + i = 36 then _ else if 4 ≤ 4 + i ∧ 4 + i < 4 + 32 then _ else _) = _
      rw [if_neg (by omega), if_pos (by omega), Nat.add_sub_cancel_left]
    · exact HZ.out.1
    · exact HZ.out.2.1
    · exact HZ.out.2.2
  clear HR2
  have HM : Hid (w6.rowIs b 57 48 M) := hM
  have HX : Hid (Fix M kd fr qy org x pu ∧ M 37 = .slice none 0 0 ∧ M 45 = .slice none 0 0 ∧ M 46 = .slice none 0 0) := ⟨hFix, hM37, hM45, hM46⟩
  have d37 : w6.cell? ⟨b, 37, none⟩ = some (.slice none 0 0) := by rw [hM.cell (i := 37) (by omega), hM37]
  have f37 := hM.frozen 37
  clear hM hFix hM37 hM45 hM46 HZ
  go_upto_if 60 with fail
  go_cut [] (fun wx => Hid (∃ (M : Nat → Value) (ra' : Option Addr) (rc' : Nat), wx.rowIs b 57 48 M ∧ Fix M kd fr qy org x pu ∧ M 37 = .slice ra' n0 rc' ∧ M 45 = .slice none 0 0 ∧ M 46 = .slice none 0 0 ∧ RtAt wx ra' n0 rc' pr lv lk ∧ ra'.isNone = ra.isNone ∧ ∀ p, ra' = some p → p.block ≠ b) ∧ Hid (Fr b w3 wx))
  case first =>
    cases ra with
    | none =>
      have h00 := HRt.out.1 rfl
      go_wp2_with fail
      go_meet
      case rel => exact ⟨⟨M, none, 0, HM.out, HX.out.1, by rw [HX.out.2.1, h00.1], HX.out.2.2.1, HX.out.2.2.2, ⟨fun _ => ⟨h00.1, rfl⟩, fun p hp => by cases hp⟩, rfl, fun p hp => by cases hp⟩, HF6.out⟩
    | some a =>
      obtain ⟨Z50, hZ50, hmk⟩ := make50
      have hmk' := fun w => hmk n0 w hn0
      have HZ50 : Hid ((Z50 n0).size = n0 * 3) := hZ50 n0
      clear hmk hZ50
      have hlt6 := HM.out.lt
      have e37 : (w6.alloc (.cells (Z50 n0) 59)).cell? ⟨b, 37, none⟩ = some (.slice none 0 0) := by
        rw [← d37]; exact World.cell?_of_block (w := w6) (blk_alloc_lt _ _ _ hlt6)
      have g37 : (w6.alloc (.cells (Z50 n0) 59)).frozen? ⟨b, 37, none⟩ = false := by
        rw [← f37]; exact World.frozen?_of_block (w := w6) (blk_alloc_lt _ _ _ hlt6)
      go_upto_region 10 with fail
      have HS : Hid (w6.heap.size ≠ b ∧ w3.heap.size ≤ w6.heap.size ∧ w.heap.size ≤ w3.heap.size) := ⟨by omega, HF6.out.size, HB.out.size⟩
      have HM7 : Hid (World.rowIs ((w6.setCell ⟨b, 37, none⟩ (.slice (some ⟨w6.heap.size, 0, none⟩) n0 n0)).alloc (.cells (Z50 n0) 59)) b 57 48 _) := (HM.out.set 37 (.slice (some ⟨w6.heap.size, 0, none⟩) n0 n0)).alloc _
      have HF7 : Hid (Fr b w3 ((w6.setCell ⟨b, 37, none⟩ (.slice (some ⟨w6.heap.size, 0, none⟩) n0 n0)).alloc (.cells (Z50 n0) 59))) := (HF6.out.setCell 37 _).grown ((Below.refl _ _).alloc (Nat.le_refl _) _)
      have HQ7 : Hid (∃ f, World.rowIs ((w6.setCell ⟨b, 37, none⟩ (.slice (some ⟨w6.heap.size, 0, none⟩) n0 n0)).alloc (.cells (Z50 n0) 59)) w6.heap.size 59 (n0 * 3) f) := by
        refine ⟨fun i => (Z50 n0).getD i undef, ?_⟩
        have := World.rowIs_alloc (w6.setCell ⟨b, 37, none⟩ (.slice (some ⟨w6.heap.size, 0, none⟩) n0 n0)) (Z50 n0) 59 (fun i => (Z50 n0).getD i undef) (fun i hi => by simp [hi])
        rwa [HZ50.out, nblk_setCell] at this
      generalize (w6.setCell ⟨b, 37, none⟩ (.slice (some ⟨w6.heap.size, 0, none⟩) n0 n0)).alloc (.cells (Z50 n0) 59) = w7 at *
      have HX7 : Hid (Fix (fun j => if j = 37 then .slice (some ⟨w6.heap.size, 0, none⟩) n0 n0 else M j) kd fr qy org x pu ∧ M 45 = .slice none 0 0 ∧ M 46 = .slice none 0 0) := ⟨HX.out.1.set 37 _ (by omega), HX.out.2.2⟩
      generalize w6.heap.size = B1 at *
      clear HM HF6 HX d37 f37 e37 g37 hlt6 hmk' HZ50
      go_wp2_with fail
      go_loopg [26] n0 (fun g v wr => ∃ k : Nat, g = n0 - k ∧ k ≤ n0 ∧ v = .int .i64 (k : Int) ∧ Hid (wr.rowIs b 57 48 (fun j => if j = 37 then .slice (some ⟨B1, 0, none⟩) n0 n0 else M j)) ∧ Hid (∃ f, wr.rowIs B1 59 (n0 * 3) f ∧ ∀ i, i < k → f (i * 3) = .string (pr i) ∧ f (i * 3 + 1) = .int .i64 (lv i) ∧ f (i * 3 + 2) = .int .i64 (lk i)) ∧ Hid (Fr b w3 wr))
      case atStart =>
        obtain ⟨f, hf⟩ := HQ7.out
        exact ⟨0, rfl, Nat.zero_le _, rfl, HM7, ⟨f, hf, fun i hi => absurd hi (by omega)⟩, HF7⟩
      case round =>
        obtain ⟨k, hg, hk, rfl, HRr, HQr, HFr⟩ := hrel
        have HG : Hid (gk = n0 - k) := hg
        clear hg HM7 HF7 HQ7
        by_cases hlt : k < n0
        · have hlt' : (k : Int) < (n0 : Int) := by omega
          go_wp2_with fail
          refine wp_region_still_tail 21 (by kernel_rfl) (by kernel_rfl) ?_
          simp only [List.take_succ_cons, List.take_zero, List.drop_succ_cons, List.drop_zero]
          have HRd : Hid (World.rowIs { wr with drawn := wr.drawn + 1 } b 57 48 (fun j => if j = 37 then .slice (some ⟨B1, 0, none⟩) n0 n0 else M j)) := HRr.out
          have HQd : Hid (∃ f, World.rowIs { wr with drawn := wr.drawn + 1 } B1 59 (n0 * 3) f ∧ ∀ i, i < k → f (i * 3) = .string (pr i) ∧ f (i * 3 + 1) = .int .i64 (lv i) ∧ f (i * 3 + 2) = .int .i64 (lk i)) := HQr.out
          have HFd : Hid (Fr b w3 { wr with drawn := wr.drawn + 1 }) := HFr.out.drawn _
          clear HRr HQr HFr
          generalize ({ heap := wr.heap, tape := wr.tape, drawn := wr.drawn + 1, os := wr.os, output := wr.output } : World) = wd at *
          have hcl := (HRt.out.2 a rfl).2 k hlt
          have hsp := (HRt.out.2 a rfl).1 (by omega)
          have hab : a.block ≠ b := by have h0 := cell_lt hcl.1; have h1 : a.block < w.heap.size := h0; have := HN.out.2.2; omega
          have kp : ∀ (o : Nat) (v : Value), w.cell? ⟨a.block, o, none⟩ = some v → wd.cell? ⟨a.block, o, none⟩ = some v := fun o v h => HFd.out.kept hab (below_kept HB.out (Nat.le_refl _) h)
          have q0 : wd.cell? ⟨b, 37, none⟩ = some (.slice (some ⟨B1, 0, none⟩) n0 n0) := by rw [HRd.out.cell (i := 37) (by omega)]; rfl
          have q1 : wd.cell? (a.add (k * 3)) = some (.string (pr k)) := by rw [cell_add _ _ _ hsp]; exact kp _ _ hcl.1
          have q2 : wd.cell? ⟨(a.add (k * 3)).block, (a.add (k * 3)).off + 1, none⟩ = some (.int .i64 (lv k)) := by rw [add_block, add_off, Nat.add_assoc]; exact kp _ _ hcl.2.1
          have q3 : wd.cell? ⟨(a.add (k * 3)).block, (a.add (k * 3)).off + 2, none⟩ = some (.int .i64 (lk k)) := by rw [add_block, add_off, Nat.add_assoc]; exact kp _ _ hcl.2.2
          clear kp hab hsp hcl
          iterate 21 still_step
          refine wpStill_nil ?_
          refine wpList_plain rfl fun K hK => ?_
          go_simp
          refine hK _ _ ?_
          clear hK K
          obtain ⟨f, hf, hfs⟩ := HQd.out
          refine wpList_storeRow 59 59 _ _ (n0 * 3) 3 f (fun j => if j = 0 then .string (pr k) else if j = 1 then .int .i64 (lv k) else .int .i64 (lk k)) _ _ _ rfl rfl rfl rfl hf rfl (by kernel_rfl) (by omega) (fun j hj => ?_) (fun j hj => by split <;> (first | rfl | (split <;> rfl))) ?_
          · match j, hj with
            | 0, _ => rfl
            | 1, _ => rfl
            | 2, _ => rfl
          · intro w2 r1 r2 r3
            have HR2 : Hid (w2.rowIs b 57 48 (fun j => if j = 37 then .slice (some ⟨B1, 0, none⟩) n0 n0 else M j)) := r2.row HRd.out (Ne.symm HS.out.1)
            have HF2 : Hid (Fr b w3 w2) := HFd.out.other r2 HS.out.2.1
            have HQ2 : Hid (∃ f, w2.rowIs B1 59 (n0 * 3) f ∧ ∀ i, i < k + 1 → f (i * 3) = .string (pr i) ∧ f (i * 3 + 1) = .int .i64 (lv i) ∧ f (i * 3 + 2) = .int .i64 (lk i)) := by
              refine ⟨_, r1, fun i hi => ?_⟩
              by_cases hik : i = k
              · subst hik
                refine ⟨?_, ?_, ?_⟩
                · rw [if_pos (by omega), if_pos (by omega)]
                · rw [if_pos (by omega), if_neg (by omega), if_pos (by omega)]
                · rw [if_pos (by omega), if_neg (by omega), if_neg (by omega)]
              · rw [if_neg (by omega), if_neg (by omega), if_neg (by omega)]
                exact hfs i (by omega)
            clear r1 r2 r3 hf hfs q0 q1 q2 q3 HRd HQd HFd
            go_wp2_with fail
            go_roundg (n0 - (k + 1))
            case measure => rw [HG.out]; omega
            case rel => exact ⟨k + 1, rfl, hlt, by go_num, HR2, HQ2, HF2⟩
        · have hlt' : ¬ (k : Int) < (n0 : Int) := by omega
          have hkn : k = n0 := by omega
          go_wp2_with fail
          go_meet
          case rel =>
            obtain ⟨f, hf, hfs⟩ := HQr.out
            refine ⟨⟨_, some ⟨B1, 0, none⟩, n0, HRr.out, HX7.out.1, rfl, HX7.out.2.1, HX7.out.2.2, ⟨fun h => (by cases h), fun p hp => ?_⟩, rfl, fun p hp => ?_⟩, HFr.out⟩
            · cases hp
              refine ⟨fun _ => rfl, fun i hi => ?_⟩
              have hh := hfs i (by omega)
              simp only [Nat.zero_add]
              rw [hf.cell (i := i * 3) (by omega), hf.cell (i := i * 3 + 1) (by omega), hf.cell (i := i * 3 + 2) (by omega), hh.1, hh.2.1, hh.2.2]
              exact ⟨rfl, rfl, rfl⟩
            · cases hp
              exact HS.out.1
  case rest =>
    obtain ⟨HMc, HFc⟩ := hcut
    clear HF6 HM HX d37 f37 HRt
    obtain ⟨M1, ra1, rc1, hM, hFix, hM37, hM45, hM46, hRt1, hNone, hblk⟩ := HMc.out
    have HX1 : Hid (Fix M1 kd fr qy org x pu ∧ M1 37 = .slice ra1 n0 rc1 ∧ M1 45 = .slice none 0 0 ∧ M1 46 = .slice none 0 0 ∧ RtAt wc ra1 n0 rc1 pr lv lk ∧ ra1.isNone = ra.isNone ∧ ∀ p, ra1 = some p → p.block ≠ b) := ⟨hFix, hM37, hM45, hM46, hRt1, hNone, hblk⟩
    have HM1 : Hid (wc.rowIs b 57 48 M1) := hM
    have r3 : wc.cell? ⟨b1, 3, none⟩ = some (.int .u64 sq) := HFc.out.kept HN.out.2.1 HR4.out.1
    have d38 := hM.cell (i := 38) (by omega)
    have d39 := hM.cell (i := 39) (by omega)
    have d40 := hM.cell (i := 40) (by omega)
    have f38 := hM.frozen 38
    have f39 := hM.frozen 39
    have f40 := hM.frozen 40
    clear hM hFix hM37 hM45 hM46 hRt1 hNone hblk HMc
    go_upto_region 17 with fail
    have HM2 : Hid (World.rowIs (((wc.setCell ⟨b, 38, none⟩ (.int .u64 sq)).setCell ⟨b, 39, none⟩ (.int .i64 hp)).setCell ⟨b, 40, none⟩ (.bool fd)) b 57 48 _) := ((HM1.out.set 38 (.int .u64 sq)).set 39 (.int .i64 hp)).set 40 (.bool fd)
    have HF2 : Hid (Fr b w3 (((wc.setCell ⟨b, 38, none⟩ (.int .u64 sq)).setCell ⟨b, 39, none⟩ (.int .i64 hp)).setCell ⟨b, 40, none⟩ (.bool fd))) := ((HFc.out.setCell _ _).setCell _ _).setCell _ _
    have HF2' : Hid (Fr b wc (((wc.setCell ⟨b, 38, none⟩ (.int .u64 sq)).setCell ⟨b, 39, none⟩ (.int .i64 hp)).setCell ⟨b, 40, none⟩ (.bool fd))) := (((Fr.refl b wc).setCell _ _).setCell _ _).setCell _ _
    generalize ((wc.setCell ⟨b, 38, none⟩ (.int .u64 sq)).setCell ⟨b, 39, none⟩ (.int .i64 hp)).setCell ⟨b, 40, none⟩ (.bool fd) = w7 at *
    clear r3 d38 d39 d40 f38 f39 f40 HM1
    go_wp2_with fail
    refine (clone_any va8 n8 c8 z8 w7 HBy.out.2 (HBy.out.1.kept fun q v _ h => arg_kept HB.out HF2.out HN.out.2.2 q v h)).mono ?_
    rintro e w8 ⟨rfl, -, hb8⟩
    have HM3 : Hid (w8.rowIs b 57 48 _) := HM2.out.of_block (hb8.block _ HM2.out.lt)
    have HF3 : Hid (Fr b w3 w8) := HF2.out.grown hb8
    have HF3' : Hid (Fr b wc w8) := HF2'.out.grown hb8
    have HV8 : Hid ((va8.map fun _ => (⟨w7.heap.size, 0, none⟩ : Addr)) = none → n8 = 0 ∧ n8 = 0) := fun h => by
      have h0 := (HBy.out.1.1 (by cases va8 with | none => rfl | some a => cases h)).1
      exact ⟨h0, h0⟩
    generalize (va8.map fun _ => (⟨w7.heap.size, 0, none⟩ : Addr)) = v8 at *
    have r4 : w8.cell? ⟨b1, 4, none⟩ = some (.int .i64 bt) := HF3.out.kept HN.out.2.1 HR4.out.2.1
    have r5 : w8.cell? ⟨b1, 5, none⟩ = some (.int .u64 px) := HF3.out.kept HN.out.2.1 HR4.out.2.2
    have d41 := HM3.out.cell (i := 41) (by omega)
    have d42 := HM3.out.cell (i := 42) (by omega)
    have d43 := HM3.out.cell (i := 43) (by omega)
    have f41 := HM3.out.frozen 41
    have f42 := HM3.out.frozen 42
    have f43 := HM3.out.frozen 43
    clear hb8 HM2 HF2 HF2'
    go_upto_region 19 with fail
    have HM4 : Hid (World.rowIs (((w8.setCell ⟨b, 41, none⟩ (.slice v8 n8 n8)).setCell ⟨b, 42, none⟩ (.int .i64 bt)).setCell ⟨b, 43, none⟩ (.int .u64 px)) b 57 48 _) := ((HM3.out.set 41 (.slice v8 n8 n8)).set 42 (.int .i64 bt)).set 43 (.int .u64 px)
    have HF4 : Hid (Fr b w3 (((w8.setCell ⟨b, 41, none⟩ (.slice v8 n8 n8)).setCell ⟨b, 42, none⟩ (.int .i64 bt)).setCell ⟨b, 43, none⟩ (.int .u64 px))) := ((HF3.out.setCell _ _).setCell _ _).setCell _ _
    have HF4' : Hid (Fr b wc (((w8.setCell ⟨b, 41, none⟩ (.slice v8 n8 n8)).setCell ⟨b, 42, none⟩ (.int .i64 bt)).setCell ⟨b, 43, none⟩ (.int .u64 px))) := ((HF3'.out.setCell _ _).setCell _ _).setCell _ _
    generalize ((w8.setCell ⟨b, 41, none⟩ (.slice v8 n8 n8)).setCell ⟨b, 42, none⟩ (.int .i64 bt)).setCell ⟨b, 43, none⟩ (.int .u64 px) = w9 at *
    clear r4 r5 d41 d42 d43 f41 f42 f43 HM3 HF3 HF3'
    go_wp2_with fail
    refine (peers_any pa n9 c9 pad pid w9 HPe.out.2.2 HPe.out.1 (fun p hp => (HPe.out.2.1 p hp).kept fun q v h => arg_kept HB.out HF4.out HN.out.2.2 q v h)).mono ?_
    rintro e w10 ⟨rfl, hb10⟩
    have HM5 : Hid (w10.rowIs b 57 48 _) := HM4.out.of_block (hb10.block _ HM4.out.lt)
    have HF5 : Hid (Fr b w3 w10) := HF4.out.grown hb10
    have HF5' : Hid (Fr b wc w10) := HF4'.out.grown hb10
    have HV9 : Hid ((pa.map fun _ => (⟨w9.heap.size, 0, none⟩ : Addr)) = none → n9 = 0 ∧ n9 = 0) := fun h => by
      have h0 := (HPe.out.1 (by cases pa with | none => rfl | some a => cases h)).1
      exact ⟨h0, h0⟩
    generalize (pa.map fun _ => (⟨w9.heap.size, 0, none⟩ : Addr)) = v9 at *
    have d44 := HM5.out.cell (i := 44) (by omega)
    have f44 := HM5.out.frozen 44
    clear hb10 HM4 HF4 HF4'
    go_upto_region 20 with fail
    have HM6 := HM5.out.set 44 (.slice v9 n9 n9)
    have HF6 : Hid (Fr b w3 (w10.setCell ⟨b, 44, none⟩ (.slice v9 n9 n9))) := HF5.out.setCell _ _
    have HF6' : Hid (Fr b wc (w10.setCell ⟨b, 44, none⟩ (.slice v9 n9 n9))) := HF5'.out.setCell _ _
    generalize w10.setCell ⟨b, 44, none⟩ (.slice v9 n9 n9) = w11 at *
    obtain ⟨M2, hM2, hFix2, g38, g42, g43, g37, g45, g46, g41, g44⟩ : ∃ M2 : Nat → Value, w11.rowIs b 57 48 M2 ∧ Fix M2 kd fr qy org x pu ∧ M2 38 = .int .u64 sq ∧ M2 42 = .int .i64 bt ∧ M2 43 = .int .u64 px ∧ M2 37 = .slice ra1 n0 rc1 ∧ M2 45 = .slice none 0 0 ∧ M2 46 = .slice none 0 0 ∧ M2 41 = .slice v8 n8 n8 ∧ M2 44 = .slice v9 n9 n9 :=
      ⟨_, HM6, ((((((HX1.out.1.set 38 _ (by omega)).set 39 _ (by omega)).set 40 _ (by omega)).set 41 _ (by omega)).set 42 _ (by omega)).set 43 _ (by omega)).set 44 _ (by omega), rfl, rfl, rfl, HX1.out.2.1, HX1.out.2.2.1, HX1.out.2.2.2.1, rfl, rfl⟩
    have HMs : Hid (w11.rowIs b 57 48 M2) := hM2
    have HX2 : Hid (Fix M2 kd fr qy org x pu ∧ M2 38 = .int .u64 sq ∧ M2 42 = .int .i64 bt ∧ M2 43 = .int .u64 px ∧ M2 37 = .slice ra1 n0 rc1 ∧ M2 45 = .slice none 0 0 ∧ M2 46 = .slice none 0 0 ∧ M2 41 = .slice v8 n8 n8 ∧ M2 44 = .slice v9 n9 n9) := ⟨hFix2, g38, g42, g43, g37, g45, g46, g41, g44⟩
    have HRo : Hid (RtAt w11 ra1 n0 rc1 pr lv lk) := HX1.out.2.2.2.2.1.kept fun q v hq h => HF6'.out.kept (by
      cases ra1 with
      | none => cases hq
      | some p => have := HX1.out.2.2.2.2.2.2 p rfl; have e : p.block = q.block := Option.some.inj hq; omega) h
    have d45 : w11.cell? ⟨b, 45, none⟩ = some (.slice none 0 0) := by rw [hM2.cell (i := 45) (by omega), g45]
    have f45 := hM2.frozen 45
    clear d44 f44 HM5 HF5 HF5' HM6 hM2 hFix2 g38 g42 g43 g37 g45 g46 g41 g44 HF6'
    go_upto_if 127 with fail
    go_cut [] (fun wx => Hid (∃ (M : Nat → Value) (ca' : Option Addr) (cc' : Nat) (va' : Nat → Option Addr), wx.rowIs b 57 48 M ∧ (∀ j, j ≠ 45 → M j = M2 j) ∧ M 45 = .slice ca' n4 cc' ∧ CpAt wx ca' n4 cc' ps nm va' vn vn vz ∧ ca'.isNone = ca.isNone ∧ (∀ i, i < n4 → (va' i).isNone = (va i).isNone ∧ ∀ p, va' i = some p → p.block ≠ b) ∧ ∀ p, ca' = some p → p.block ≠ b) ∧ Hid (Fr b w3 wx) ∧ Hid (Fr b w11 wx))
    case first =>
      cases ca with
      | none =>
        have h00 := HCp.out.1.1 rfl
        go_wp2_with fail
        go_meet
        case rel => exact ⟨⟨M2, none, 0, va, HMs.out, fun _ _ => rfl, by rw [HX2.out.2.2.2.2.2.1, h00.1], ⟨fun _ => ⟨h00.1, rfl⟩, fun p hp => (by cases hp)⟩, rfl, fun i hi => absurd hi (by omega), fun p hp => (by cases hp)⟩, HF6.out, Fr.refl _ _⟩
      | some a =>
        obtain ⟨Z54, hZ54, hmk⟩ := make54
        have hmk' := fun w => hmk n4 w hn4
        have HZ54 : Hid ((Z54 n4).size = n4 * 34) := hZ54 n4
        clear hmk hZ54
        have hlt6 := HMs.out.lt
        have e45 : (w11.alloc (.cells (Z54 n4) 63)).cell? ⟨b, 45, none⟩ = some (.slice none 0 0) := by
          rw [← d45]; exact World.cell?_of_block (w := w11) (blk_alloc_lt _ _ _ hlt6)
        have g45 : (w11.alloc (.cells (Z54 n4) 63)).frozen? ⟨b, 45, none⟩ = false := by
          rw [← f45]; exact World.frozen?_of_block (w := w11) (blk_alloc_lt _ _ _ hlt6)
        go_upto_region 22 with fail
        have HS : Hid (w11.heap.size ≠ b ∧ w3.heap.size ≤ w11.heap.size ∧ w.heap.size ≤ w3.heap.size ∧ w11.heap.size ≤ w11.heap.size) := ⟨by omega, HF6.out.size, HB.out.size, Nat.le_refl _⟩
        have HM7 : Hid (World.rowIs ((w11.setCell ⟨b, 45, none⟩ (.slice (some ⟨w11.heap.size, 0, none⟩) n4 n4)).alloc (.cells (Z54 n4) 63)) b 57 48 _) := (HMs.out.set 45 (.slice (some ⟨w11.heap.size, 0, none⟩) n4 n4)).alloc _
        have HF7 : Hid (Fr b w3 ((w11.setCell ⟨b, 45, none⟩ (.slice (some ⟨w11.heap.size, 0, none⟩) n4 n4)).alloc (.cells (Z54 n4) 63))) := (HF6.out.setCell 45 _).grown ((Below.refl _ _).alloc (Nat.le_refl _) _)
        have HF7' : Hid (Fr b w11 ((w11.setCell ⟨b, 45, none⟩ (.slice (some ⟨w11.heap.size, 0, none⟩) n4 n4)).alloc (.cells (Z54 n4) 63))) := ((Fr.refl b w11).setCell 45 _).grown ((Below.refl _ _).alloc (Nat.le_refl _) _)
        have HQ7 : Hid (∃ f, World.rowIs ((w11.setCell ⟨b, 45, none⟩ (.slice (some ⟨w11.heap.size, 0, none⟩) n4 n4)).alloc (.cells (Z54 n4) 63)) w11.heap.size 63 (n4 * 34) f) := by
          refine ⟨fun i => (Z54 n4).getD i undef, ?_⟩
          have := World.rowIs_alloc (w11.setCell ⟨b, 45, none⟩ (.slice (some ⟨w11.heap.size, 0, none⟩) n4 n4)) (Z54 n4) 63 (fun i => (Z54 n4).getD i undef) (fun i hi => by simp [hi])
          rwa [HZ54.out, nblk_setCell] at this
        generalize (w11.setCell ⟨b, 45, none⟩ (.slice (some ⟨w11.heap.size, 0, none⟩) n4 n4)).alloc (.cells (Z54 n4) 63) = w12 at *
        generalize hB4 : w11.heap.size = B4 at *
        have HS2 : Hid (w11.heap.size ≤ B4) := by show w11.heap.size ≤ B4; omega
        clear hB4
        clear HMs HF6 d45 f45 e45 g45 hlt6 hmk' HZ54
        go_wp2_with fail
        go_loopg [27] n4 (fun g v wr => ∃ k : Nat, g = n4 - k ∧ k ≤ n4 ∧ v = .int .i64 (k : Int) ∧ Hid (wr.rowIs b 57 48 (fun j => if j = 45 then .slice (some ⟨B4, 0, none⟩) n4 n4 else M2 j)) ∧
          Hid (∃ (f : Nat → Value) (va' : Nat → Option Addr), wr.rowIs B4 63 (n4 * 34) f ∧ ∀ i, i < k → (∀ j, j < 32 → f (i * 34 + j) = .int .u8 (ps i j)) ∧ f (i * 34 + 32) = .string (nm i) ∧ f (i * 34 + 33) = .slice (va' i) (vn i) (vn i) ∧ ByAt wr (va' i) (vn i) (vn i) (vz i) ∧ (va' i).isNone = (va i).isNone ∧ ∀ p, va' i = some p → p.block ≠ b ∧ p.block ≠ B4) ∧ Hid (Fr b w3 wr ∧ Fr b w11 wr))
        case atStart =>
          obtain ⟨f, hf⟩ := HQ7.out
          exact ⟨0, rfl, Nat.zero_le _, rfl, HM7, ⟨f, va, hf, fun i hi => absurd hi (by omega)⟩, ⟨HF7.out, HF7'.out⟩⟩
        case round =>
          obtain ⟨k, hg, hk, rfl, HRr, HQr, HFr⟩ := hrel
          have HG : Hid (gk = n4 - k) := hg
          clear hg HM7 HF7 HQ7 HF7'
          by_cases hlt : k < n4
          · have hlt' : (k : Int) < (n4 : Int) := by omega
            go_wp2_with fail
            have HRd : Hid (World.rowIs { wr with drawn := wr.drawn + 1 } b 57 48 (fun j => if j = 45 then .slice (some ⟨B4, 0, none⟩) n4 n4 else M2 j)) := HRr.out
            have HQd : Hid (∃ (f : Nat → Value) (va' : Nat → Option Addr), World.rowIs { wr with drawn := wr.drawn + 1 } B4 63 (n4 * 34) f ∧ ∀ i, i < k → (∀ j, j < 32 → f (i * 34 + j) = .int .u8 (ps i j)) ∧ f (i * 34 + 32) = .string (nm i) ∧ f (i * 34 + 33) = .slice (va' i) (vn i) (vn i) ∧ ByAt { wr with drawn := wr.drawn + 1 } (va' i) (vn i) (vn i) (vz i) ∧ (va' i).isNone = (va i).isNone ∧ ∀ p, va' i = some p → p.block ≠ b ∧ p.block ≠ B4) := HQr.out
            have HFd : Hid (Fr b w3 { wr with drawn := wr.drawn + 1 } ∧ Fr b w11 { wr with drawn := wr.drawn + 1 }) := ⟨HFr.out.1.drawn _, HFr.out.2.drawn _⟩
            clear HRr HQr HFr
            generalize hwd : ({ wr with drawn := wr.drawn + 1 } : World) = wd at *
            have hcl := (HCp.out.1.2 a rfl).2 k hlt
            have hsp := (HCp.out.1.2 a rfl).1 (by omega)
            refine wp_region_mover 22 20 (fun w' => w' = wd) (fun w' => Below wd.heap.size wd w' ∧ ByAt w' ((va k).map fun _ => ⟨wd.heap.size, 0, none⟩) (vn k) (vn k) (vz k)) (by kernel_rfl) (by kernel_rfl) hwd ?_
            simp only [List.take_succ_cons, List.take_zero, List.drop_succ_cons, List.drop_zero]
            have kq : ∀ w', (w' = wd ∨ (Below wd.heap.size wd w' ∧ ByAt w' ((va k).map fun _ => ⟨wd.heap.size, 0, none⟩) (vn k) (vn k) (vz k))) → ∀ q v, wd.cell? q = some v → w'.cell? q = some v := fun w' hw' q v h => by
              rcases hw' with rfl | ⟨hb', -⟩
              · exact h
              · exact below_kept hb' (Nat.le_refl _) h
            have ka : ∀ q v, w.cell? q = some v → wd.cell? q = some v := fun q v h => arg_kept HB.out HFd.out.1 HN.out.2.2 q v h
            have q0 : wd.cell? ⟨b, 45, none⟩ = some (.slice (some ⟨B4, 0, none⟩) n4 n4) := by rw [HRd.out.cell (i := 45) (by omega)]; rfl
            have q9 : ∀ i, i < 32 → wd.cell? ((a.add (k * 34)).add i) = some (.int .u8 (ps k i)) := fun i hi => by
              rw [cell_add _ _ _ (add_spot a _ hsp), add_block, add_off, Nat.add_assoc]; exact ka _ _ (hcl.1 i hi)
            have q14 : wd.cell? ⟨(a.add (k * 34)).block, (a.add (k * 34)).off + 32, none⟩ = some (.string (nm k)) := by rw [add_block, add_off, Nat.add_assoc]; exact ka _ _ hcl.2.1
            have q19 : wd.cell? ⟨(a.add (k * 34)).block, (a.add (k * 34)).off + 33, none⟩ = some (.slice (va k) (vn k) (vc k)) := by rw [add_block, add_off, Nat.add_assoc]; exact ka _ _ hcl.2.2.1
            have HBk : Hid (ByAt wd (va k) (vn k) (vc k) (vz k) ∧ vn k ≤ 1048576) := ⟨hcl.2.2.2.kept fun q v _ h => ka q v h, HCp.out.2 k hlt⟩
            have HKq : Hid (_ ∧ _ ∧ _ ∧ _ ∧ _) := ⟨kq, q0, q9, q14, q19⟩
            clear ka hcl hsp kq q0 q9 q14 q19
            refine wpMove_stepv (.pointer (some ⟨b, 0, none⟩)) (by omega) (by intro w' hw'; go_simp) (fun K hK => ?_)
            go_simp
            refine hK _ ?_
            clear hK K
            refine wpMove_stepv (.pointer (some ⟨b, 0, none⟩)) (by omega) (by intro w' hw'; go_simp) (fun K hK => ?_)
            go_simp
            refine hK _ ?_
            clear hK K
            refine wpMove_stepv (.pointer (some ⟨b, 45, none⟩)) (by omega) (by intro w' hw'; go_simp) (fun K hK => ?_)
            go_simp
            refine hK _ ?_
            clear hK K
            refine wpMove_stepv (.slice (some ⟨B4, 0, none⟩) n4 n4) (by omega) (by intro w' hw'; have h1 := HKq.out.1 w' hw' _ _ HKq.out.2.1; go_simp) (fun K hK => ?_)
            go_simp
            refine hK _ ?_
            clear hK K
            refine wpMove_stepv (.int .i64 (k : Int)) (by omega) (by intro w' hw'; go_simp) (fun K hK => ?_)
            go_simp
            refine hK _ ?_
            clear hK K
            refine wpMove_stepv (.slice (some a) n4 cc) (by omega) (by intro w' hw'; go_simp) (fun K hK => ?_)
            go_simp
            refine hK _ ?_
            clear hK K
            refine wpMove_stepv (.int .i64 (k : Int)) (by omega) (by intro w' hw'; go_simp) (fun K hK => ?_)
            go_simp
            refine hK _ ?_
            clear hK K
            refine wpMove_stepv (.pointer (some (a.add (k * 34)))) (by omega) (by intro w' hw'; go_simp) (fun K hK => ?_)
            go_simp
            refine hK _ ?_
            clear hK K
            refine wpMove_stepv (.pointer (some (a.add (k * 34)))) (by omega) (by intro w' hw'; go_simp) (fun K hK => ?_)
            go_simp
            refine hK _ ?_
            clear hK K
            refine wpMove_stepv (.agg (A32 (ps k))) (by omega) (fun w' hw' => exec_load 23 _ rfl _ _ rfl (loadAt23 _ _ _ fun i hi => HKq.out.1 w' hw' _ _ (HKq.out.2.2.1 i hi))) (fun K hK => ?_)
            go_simp
            refine hK _ ?_
            clear hK K
            refine wpMove_stepv (.slice (some a) n4 cc) (by omega) (by intro w' hw'; go_simp) (fun K hK => ?_)
            go_simp
            refine hK _ ?_
            clear hK K
            refine wpMove_stepv (.int .i64 (k : Int)) (by omega) (by intro w' hw'; go_simp) (fun K hK => ?_)
            go_simp
            refine hK _ ?_
            clear hK K
            refine wpMove_stepv (.pointer (some (a.add (k * 34)))) (by omega) (by intro w' hw'; go_simp) (fun K hK => ?_)
            go_simp
            refine hK _ ?_
            clear hK K
            refine wpMove_stepv (.pointer (some ⟨(a.add (k * 34)).block, (a.add (k * 34)).off + 32, none⟩)) (by omega) (by intro w' hw'; go_simp) (fun K hK => ?_)
            go_simp
            refine hK _ ?_
            clear hK K
            refine wpMove_stepv (.string (nm k)) (by omega) (by intro w' hw'; have h1 := HKq.out.1 w' hw' _ _ HKq.out.2.2.2.1; go_simp) (fun K hK => ?_)
            go_simp
            refine hK _ ?_
            clear hK K
            refine wpMove_stepv (.slice (some a) n4 cc) (by omega) (by intro w' hw'; go_simp) (fun K hK => ?_)
            go_simp
            refine hK _ ?_
            clear hK K
            refine wpMove_stepv (.int .i64 (k : Int)) (by omega) (by intro w' hw'; go_simp) (fun K hK => ?_)
            go_simp
            refine hK _ ?_
            clear hK K
            refine wpMove_stepv (.pointer (some (a.add (k * 34)))) (by omega) (by intro w' hw'; go_simp) (fun K hK => ?_)
            go_simp
            refine hK _ ?_
            clear hK K
            refine wpMove_stepv (.pointer (some ⟨(a.add (k * 34)).block, (a.add (k * 34)).off + 33, none⟩)) (by omega) (by intro w' hw'; go_simp) (fun K hK => ?_)
            go_simp
            refine hK _ ?_
            clear hK K
            refine wpMove_stepv (.slice (va k) (vn k) (vc k)) (by omega) (by intro w' hw'; have h1 := HKq.out.1 w' hw' _ _ HKq.out.2.2.2.2; go_simp) (fun K hK => ?_)
            go_simp
            refine hK _ ?_
            clear hK K
            refine wpMove_stepc (.slice ((va k).map fun _ => ⟨wd.heap.size, 0, none⟩) (vn k) (vn k)) rfl 11 #[.slice (va k) (vn k) (vc k)] (by intro w'; go_simp) (fun w' hw' => ?_) (fun K hK => ?_)
            · subst hw'
              exact (clone_any (va k) (vn k) (vc k) (vz k) _ HBk.out.2 HBk.out.1).mono fun e w2 ⟨h1, h2, h3⟩ => ⟨h1, h3, h2⟩
            go_simp
            refine hK _ ?_
            clear hK K
            refine wpMove_stepv (.agg (C34 (ps k) (nm k) (.slice ((va k).map fun _ => ⟨wd.heap.size, 0, none⟩) (vn k) (vn k)))) (by omega) (fun w' hw' => exec_build 63 _ rfl #[(0, .agg (A32 (ps k))), (1, .string (nm k)), (2, .slice ((va k).map fun _ => ⟨wd.heap.size, 0, none⟩) (vn k) (vn k))] _ (by simp only [List.map_toArray, List.map_cons, List.map_nil]; rfl) (build63 _ _ _ _ _ w')) (fun K hK => ?_)
            go_simp
            refine hK _ ?_
            clear hK K
            refine wpMove_nil ?_
            intro w13 hw13
            refine wpList_plain rfl fun K hK => ?_
            go_simp
            refine hK _ _ ?_
            clear hK K
            obtain ⟨hb13, hby13⟩ := hw13
            obtain ⟨f, va', hf, hfs⟩ := HQd.out
            have hB4 : B4 < wd.heap.size := hf.lt
            have hbl : b < wd.heap.size := HRd.out.lt
            have hf13 : w13.rowIs B4 63 (n4 * 34) f := hf.of_block (hb13.block _ hB4)
            refine wpList_storeRow 63 63 _ _ (n4 * 34) 34 f (fun j => if j < 32 then .int .u8 (ps k j) else if j = 32 then .string (nm k) else .slice ((va k).map fun _ => ⟨wd.heap.size, 0, none⟩) (vn k) (vn k)) _ _ _ rfl rfl rfl rfl hf13 (C34_size _ _ _) (by kernel_rfl) (by omega) (fun j hj => ?_) (fun j hj => by split <;> (first | rfl | (split <;> rfl))) ?_
            · by_cases c1 : j < 32
              · rw [if_pos c1, C34_pos _ _ _ j c1]
              · by_cases c2 : j = 32
                · subst c2; rw [if_neg c1, if_pos rfl, C34_name]
                · have c3 : j = 33 := by omega
                  subst c3; rw [if_neg c1, if_neg c2, C34_val]
            · intro w2 r1 r2 r3
              have HR2 : Hid (w2.rowIs b 57 48 (fun j => if j = 45 then .slice (some ⟨B4, 0, none⟩) n4 n4 else M2 j)) := r2.row (HRd.out.of_block (hb13.block _ hbl)) (Ne.symm HS.out.1)
              have HF2 : Hid (Fr b w3 w2 ∧ Fr b w11 w2) := ⟨(HFd.out.1.grown hb13).other r2 HS.out.2.1, (HFd.out.2.grown hb13).other r2 HS2.out⟩
              have HQ2 : Hid (∃ (f : Nat → Value) (va' : Nat → Option Addr), w2.rowIs B4 63 (n4 * 34) f ∧ ∀ i, i < k + 1 → (∀ j, j < 32 → f (i * 34 + j) = .int .u8 (ps i j)) ∧ f (i * 34 + 32) = .string (nm i) ∧ f (i * 34 + 33) = .slice (va' i) (vn i) (vn i) ∧ ByAt w2 (va' i) (vn i) (vn i) (vz i) ∧ (va' i).isNone = (va i).isNone ∧ ∀ p, va' i = some p → p.block ≠ b ∧ p.block ≠ B4) := by
                refine ⟨_, fun i => if i = k then (va k).map fun _ => ⟨wd.heap.size, 0, none⟩ else va' i, r1, fun i hi => ?_⟩
                by_cases hik : i = k
                · subst hik
                  simp only [if_true]
                  refine ⟨fun j hj => ?_, ?_, ?_, hby13.kept fun q v hq h => r2.kept ?_ h, ?_, fun p hp => ?_⟩
                  · rw [if_pos (by omega), Nat.add_sub_cancel_left, if_pos hj]
                  · rw [if_pos (by omega), Nat.add_sub_cancel_left, if_neg (by omega), if_pos rfl]
                  · rw [if_pos (by omega), Nat.add_sub_cancel_left, if_neg (by omega), if_neg (by omega)]
                  · cases hva : va i with
                    | none => rw [hva] at hq; cases hq
                    | some p => rw [hva] at hq; have e : wd.heap.size = q.block := Option.some.inj hq; omega
                  · cases va i <;> rfl
                  · cases hva : va i with
                    | none => rw [hva] at hp; cases hp
                    | some q =>
                      rw [hva] at hp
                      have e : (⟨wd.heap.size, 0, none⟩ : Addr) = p := Option.some.inj hp
                      subst e
                      exact ⟨by show wd.heap.size ≠ b; omega, by show wd.heap.size ≠ B4; omega⟩
                · simp only [if_neg hik]
                  obtain ⟨k1, k2, k3, k4, k5, k6⟩ := hfs i (by omega)
                  refine ⟨fun j hj => ?_, ?_, ?_, k4.kept fun q v hq h => r2.kept ?_ (below_kept hb13 (Nat.le_refl _) h), k5, k6⟩
                  · rw [if_neg (by omega)]; exact k1 j hj
                  · rw [if_neg (by omega)]; exact k2
                  · rw [if_neg (by omega)]; exact k3
                  · cases hva : va' i with
                    | none => rw [hva] at hq; cases hq
                    | some p => rw [hva] at hq; have e : p.block = q.block := Option.some.inj hq; have := (k6 p hva).2; omega
              clear r1 r2 r3 hf hfs hf13 hby13 hb13 hB4 hbl HKq HBk HRd HQd HFd
              go_wp2_with fail
              go_roundg (n4 - (k + 1))
              case measure => rw [HG.out]; omega
              case rel => exact ⟨k + 1, rfl, hlt, by go_num, HR2, HQ2, HF2⟩
          · have hlt' : ¬ (k : Int) < (n4 : Int) := by omega
            have hkn : k = n4 := by omega
            go_wp2_with fail
            go_meet
            case rel =>
              obtain ⟨f, va', hf, hfs⟩ := HQr.out
              refine ⟨⟨_, some ⟨B4, 0, none⟩, n4, va', HRr.out, fun j hj => if_neg hj, rfl, ⟨fun h => (by cases h), fun p hp => ?_⟩, rfl, fun i hi => ⟨(hfs i (by omega)).2.2.2.2.1, fun p hp => ((hfs i (by omega)).2.2.2.2.2 p hp).1⟩, fun p hp => ?_⟩, HFr.out.1, HFr.out.2⟩
              · cases hp
                refine ⟨fun _ => rfl, fun i hi => ?_⟩
                have hh := hfs i (by omega)
                simp only [Nat.zero_add]
                refine ⟨fun j hj => ?_, ?_, ?_, hh.2.2.2.1⟩
                · rw [hf.cell (i := i * 34 + j) (by omega), hh.1 j hj]
                · rw [hf.cell (i := i * 34 + 32) (by omega), hh.2.1]
                · rw [hf.cell (i := i * 34 + 33) (by omega), hh.2.2.1]
              · cases hp
                exact HS.out.1
    case rest =>
      obtain ⟨HMd, HFd, HFd'⟩ := hcut
      obtain ⟨M3, ca3, cc3, va3, hM3, hM3s, hM345, hCp3, hN3, hV3, hB3⟩ := HMd.out
      have HX1' : Hid (ra1.isNone = ra.isNone ∧ ∀ p, ra1 = some p → p.block ≠ b) := HX1.out.2.2.2.2.2
      have HRo3 : Hid (RtAt wc ra1 n0 rc1 pr lv lk) := HRo.out.kept fun q v hq h => HFd'.out.kept (by
        cases ra1 with
        | none => cases hq
        | some p => have := HX1'.out.2 p rfl; have e : p.block = q.block := Option.some.inj hq; omega) h
      have HX3 : Hid ((∀ j, j ≠ 45 → M3 j = M2 j) ∧ M3 45 = .slice ca3 n4 cc3 ∧ CpAt wc ca3 n4 cc3 ps nm va3 vn vn vz ∧ ca3.isNone = ca.isNone ∧ (∀ i, i < n4 → (va3 i).isNone = (va i).isNone ∧ ∀ p, va3 i = some p → p.block ≠ b) ∧ ∀ p, ca3 = some p → p.block ≠ b) := ⟨hM3s, hM345, hCp3, hN3, hV3, hB3⟩
      have HMw : Hid (wc.rowIs b 57 48 M3) := hM3
      have e46 : M3 46 = .slice none 0 0 := by rw [hM3s 46 (by omega), HX2.out.2.2.2.2.2.2.1]
      have d46 : wc.cell? ⟨b, 46, none⟩ = some (.slice none 0 0) := by rw [hM3.cell (i := 46) (by omega), e46]
      have f46 := hM3.frozen 46
      have HE46 : Hid (M3 46 = .slice none 0 0) := e46
      clear HX1 HRo HMs HF6 d45 f45 hM3 hM3s hM345 hCp3 hN3 hV3 hB3 HMd HFd' e46
      go_upto_if 164 with fail
      go_cut [] (fun wx => Hid (∃ (M : Nat → Value) (v10 : Option Addr) (m10 k10 : Nat), wx.rowIs b 57 48 M ∧ (∀ j, j ≠ 46 → M j = M3 j) ∧ M 46 = .slice v10 m10 k10 ∧ (v10 = none → m10 = 0 ∧ k10 = 0)) ∧ Hid (Fr b w3 wx) ∧ Hid (Fr b wc wx))
      case first =>
        cases wa with
        | none =>
          go_wp2_with fail
          go_meet
          case rel => exact ⟨⟨M3, none, 0, 0, HMw.out, fun _ _ => rfl, HE46.out, fun _ => ⟨rfl, rfl⟩⟩, HFd.out, Fr.refl _ _⟩
        | some a =>
          obtain ⟨Z55, hZ55, hmk⟩ := make55
          have hmk' := fun w => hmk n10 w hn10
          have HZ55 : Hid ((Z55 n10).size = n10 * 36) := hZ55 n10
          clear hmk hZ55
          have hlt6 := HMw.out.lt
          have e46 : (wc.alloc (.cells (Z55 n10) 65)).cell? ⟨b, 46, none⟩ = some (.slice none 0 0) := by
            rw [← d46]; exact World.cell?_of_block (w := wc) (blk_alloc_lt _ _ _ hlt6)
          have g46 : (wc.alloc (.cells (Z55 n10) 65)).frozen? ⟨b, 46, none⟩ = false := by
            rw [← f46]; exact World.frozen?_of_block (w := wc) (blk_alloc_lt _ _ _ hlt6)
          go_upto_region 28 with fail
          have HS : Hid (wc.heap.size ≠ b ∧ w3.heap.size ≤ wc.heap.size ∧ w.heap.size ≤ w3.heap.size) := ⟨by omega, HFd.out.size, HB.out.size⟩
          have HM7 : Hid (World.rowIs ((wc.setCell ⟨b, 46, none⟩ (.slice (some ⟨wc.heap.size, 0, none⟩) n10 n10)).alloc (.cells (Z55 n10) 65)) b 57 48 _) := (HMw.out.set 46 (.slice (some ⟨wc.heap.size, 0, none⟩) n10 n10)).alloc _
          have HF7 : Hid (Fr b w3 ((wc.setCell ⟨b, 46, none⟩ (.slice (some ⟨wc.heap.size, 0, none⟩) n10 n10)).alloc (.cells (Z55 n10) 65))) := (HFd.out.setCell 46 _).grown ((Below.refl _ _).alloc (Nat.le_refl _) _)
          have HF7' : Hid (Fr b wc ((wc.setCell ⟨b, 46, none⟩ (.slice (some ⟨wc.heap.size, 0, none⟩) n10 n10)).alloc (.cells (Z55 n10) 65))) := ((Fr.refl b wc).setCell 46 _).grown ((Below.refl _ _).alloc (Nat.le_refl _) _)
          have HQ7 : Hid (∃ f, World.rowIs ((wc.setCell ⟨b, 46, none⟩ (.slice (some ⟨wc.heap.size, 0, none⟩) n10 n10)).alloc (.cells (Z55 n10) 65)) wc.heap.size 65 (n10 * 36) f) := by
            refine ⟨fun i => (Z55 n10).getD i undef, ?_⟩
            have := World.rowIs_alloc (wc.setCell ⟨b, 46, none⟩ (.slice (some ⟨wc.heap.size, 0, none⟩) n10 n10)) (Z55 n10) 65 (fun i => (Z55 n10).getD i undef) (fun i hi => by simp [hi])
            rwa [HZ55.out, nblk_setCell] at this
          generalize (wc.setCell ⟨b, 46, none⟩ (.slice (some ⟨wc.heap.size, 0, none⟩) n10 n10)).alloc (.cells (Z55 n10) 65) = w12 at *
          generalize hB5 : wc.heap.size = B5 at *
          have HS2 : Hid (wc.heap.size ≤ B5) := by show wc.heap.size ≤ B5; omega
          clear hB5
          clear HMw d46 f46 e46 g46 hlt6 hmk' HZ55
          go_wp2_with fail
          go_loopg [28] n10 (fun g v wr => ∃ k : Nat, g = n10 - k ∧ k ≤ n10 ∧ v = .int .i64 (k : Int) ∧ Hid (wr.rowIs b 57 48 (fun j => if j = 46 then .slice (some ⟨B5, 0, none⟩) n10 n10 else M3 j)) ∧ Hid (∃ f, wr.rowIs B5 65 (n10 * 36) f) ∧ Hid (Fr b w3 wr ∧ Fr b wc wr))
          case atStart => exact ⟨0, rfl, Nat.zero_le _, rfl, HM7, HQ7, ⟨HF7.out, HF7'.out⟩⟩
          case round =>
            obtain ⟨k, hg, hk, rfl, HRr, HQr, HFr⟩ := hrel
            have HG : Hid (gk = n10 - k) := hg
            clear hg HM7 HF7 HQ7 HF7'
            by_cases hlt : k < n10
            · have hlt' : (k : Int) < (n10 : Int) := by omega
              have hcl := (HWa.out.2 a rfl).2 k hlt
              have hsp := (HWa.out.2 a rfl).1 (by omega)
              have ka : ∀ q v, w.cell? q = some v → wr.cell? q = some v := fun q v h => arg_kept HB.out HFr.out.1 HN.out.2.2 q v h
              have HL : Hid ((Instr.loadAt 45 (.pointer (some (a.add (k * 36))))).run Tryf.prog wr = .ok (.agg (W36 (wt k) (wpp k) (wbb k) (wxx k) (pt k))) wr) := loadAt45 _ _ _ _ _ _ _ fun j hj => by
                rw [cell_add _ _ _ (add_spot a _ hsp), add_block, add_off, Nat.add_assoc]
                unfold w36
                by_cases c0 : j = 0
                · subst c0; exact ka _ _ hcl.1
                · by_cases c1 : j = 1
                  · subst c1; exact ka _ _ hcl.2.1
                  · by_cases c2 : j = 2
                    · subst c2; exact ka _ _ hcl.2.2.1
                    · by_cases c3 : j = 3
                      · subst c3; exact ka _ _ hcl.2.2.2.1
                      · rw [if_neg c0, if_neg c1, if_neg c2, if_neg c3, show k * 36 + j = k * 36 + (4 + (j - 4)) by omega]
                        exact ka _ _ (hcl.2.2.2.2 (j - 4) (by omega))
              clear ka hcl hsp
              go_upto_region 31 with fail
              apply wp_region_lit
              iterate 3 (refine wpList_plain rfl fun K hK => ?_; go_simp; refine hK _ _ ?_; clear hK K)
              refine wpList_load 45 _ rfl rfl _ _ rfl HL.out ?_
              iterate 1 (refine wpList_plain rfl fun K hK => ?_; go_simp; refine hK _ _ ?_; clear hK K)
              refine wpList_storeRow 45 45 _ _ 36 36 _ (w36 (wt k) (wpp k) (wbb k) (wxx k) (pt k)) _ _ _ rfl rfl rfl rfl (rowOfAlloc wr _ 45 36 rfl) (W36_size _ _ _ _ _) (by kernel_rfl) (by omega) (fun j hj => W36_get _ _ _ _ _ j hj) (fun j hj => w36_one _ _ _ _ _ j) ?_
              intro w2 r1 r2 r3
              have hbr := HRr.out.lt
              have hB5 : B5 < wr.heap.size := by obtain ⟨f, hf⟩ := HQr.out; exact hf.lt
              have HR2 : Hid (w2.rowIs b 57 48 (fun j => if j = 46 then .slice (some ⟨B5, 0, none⟩) n10 n10 else M3 j)) := r2.row (HRr.out.alloc _) (by omega)
              have HQ2 : Hid (∃ f, w2.rowIs B5 65 (n10 * 36) f) := by obtain ⟨f, hf⟩ := HQr.out; exact ⟨f, r2.row (hf.alloc _) (by omega)⟩
              have hs3 : w3.heap.size ≤ wr.heap.size := HFr.out.1.size
              have hsc : wc.heap.size ≤ wr.heap.size := HFr.out.2.size
              have HF2 : Hid (Fr b w3 w2 ∧ Fr b wc w2) := ⟨(HFr.out.1.grown ((Below.refl _ _).alloc (Nat.le_refl _) _)).other r2 hs3, (HFr.out.2.grown ((Below.refl _ _).alloc (Nat.le_refl _) _)).other r2 hsc⟩
              have hnb : wr.heap.size ≠ b := by omega
              have HC : Hid (∀ j, j < 36 → w2.cell? ⟨wr.heap.size, j, none⟩ = some (w36 (wt k) (wpp k) (wbb k) (wxx k) (pt k) j)) := fun j hj => by
                rw [r1.cell hj, if_pos (by omega)]; rfl
              clear r1 r2 r3 hbr hB5 hs3 hsc HRr HQr HFr HL
              generalize wr.heap.size = nb at *
              go_wp2_with fail
              have HRd : Hid (World.rowIs { w2 with drawn := w2.drawn + 1 } b 57 48 (fun j => if j = 46 then .slice (some ⟨B5, 0, none⟩) n10 n10 else M3 j)) := HR2.out
              have HQd : Hid (∃ f, World.rowIs { w2 with drawn := w2.drawn + 1 } B5 65 (n10 * 36) f) := HQ2.out
              have HFd2 : Hid (Fr b w3 { w2 with drawn := w2.drawn + 1 } ∧ Fr b wc { w2 with drawn := w2.drawn + 1 }) := ⟨HF2.out.1.drawn _, HF2.out.2.drawn _⟩
              have HCd : Hid (∀ j, j < 36 → World.cell? { w2 with drawn := w2.drawn + 1 } ⟨nb, j, none⟩ = some (w36 (wt k) (wpp k) (wbb k) (wxx k) (pt k) j)) := HC.out
              clear HR2 HQ2 HF2 HC
              refine wp_region_still_tail 17 (by kernel_rfl) (by kernel_rfl) ?_
              simp only [List.take_succ_cons, List.take_zero, List.drop_succ_cons, List.drop_zero]
              generalize ({ heap := w2.heap, tape := w2.tape, drawn := w2.drawn + 1, os := w2.os, output := w2.output } : World) = wd at *
              have h32 := A32_size (pt k)
              have q0 : wd.cell? ⟨b, 46, none⟩ = some (.slice (some ⟨B5, 0, none⟩) n10 n10) := by rw [HRd.out.cell (i := 46) (by omega)]; rfl
              have q1 : wd.cell? ⟨nb, 0, none⟩ = some (.string (wt k)) := HCd.out 0 (by omega)
              have q2 : wd.cell? ⟨nb, 1, none⟩ = some (.int .u8 (wpp k)) := HCd.out 1 (by omega)
              have q3 : wd.cell? ⟨nb, 2, none⟩ = some (.int .i64 (wbb k)) := HCd.out 2 (by omega)
              have q4 : wd.cell? ⟨nb, 3, none⟩ = some (.int .u64 (wxx k)) := HCd.out 3 (by omega)
              have HL23 : Hid ((Instr.loadAt 23 (.pointer (some ⟨nb, 4, none⟩))).run Tryf.prog wd = .ok (.agg (A32 (pt k))) wd) := loadAt23 _ _ _ fun j hj => by
                rw [cell_add', HCd.out (4 + j) (by omega)]
                unfold w36
                rw [if_neg (by omega), if_neg (by omega), if_neg (by omega), if_neg (by omega), Nat.add_sub_cancel_left]
              clear HCd
              iterate 15 still_step
              refine wpStill_load 23 _ _ _ rfl rfl rfl HL23.out ?_
              iterate 1 still_step
              refine wpStill_nil ?_
              refine wpList_plain rfl fun K hK => ?_
              go_simp
              refine hK _ _ ?_
              clear hK K
              obtain ⟨f, hf⟩ := HQd.out
              refine wpList_storeRow 65 65 _ _ (n10 * 36) 36 f (w36 (wt k) (wpp k) (wbb k) (wxx k) (pt k)) _ _ _ rfl rfl rfl rfl hf (by rw [foldSet_size32]; rfl) (by kernel_rfl) (by omega) (fun j hj => ?_) (fun j hj => w36_one _ _ _ _ _ j) ?_
              · rw [foldSet_get32 4 _ _ (by exact Nat.le_refl 36)]
                unfold w36
                by_cases c4 : j < 4
                · rw [if_neg (by omega)]
                  match j, c4 with
                  | 0, _ => rfl
                  | 1, _ => rfl
                  | 2, _ => rfl
                  | 3, _ => rfl
                · rw [if_pos (by omega), if_neg (by omega), if_neg (by omega), if_neg (by omega), if_neg (by omega)]
              · intro w14 r1 r2 r3
                have HR3 : Hid (w14.rowIs b 57 48 (fun j => if j = 46 then .slice (some ⟨B5, 0, none⟩) n10 n10 else M3 j)) := r2.row HRd.out (Ne.symm HS.out.1)
                have HF3 : Hid (Fr b w3 w14 ∧ Fr b wc w14) := ⟨HFd2.out.1.other r2 HS.out.2.1, HFd2.out.2.other r2 HS2.out⟩
                have HQ3 : Hid (∃ f, w14.rowIs B5 65 (n10 * 36) f) := ⟨_, r1⟩
                clear r1 r2 r3 hf q0 q1 q2 q3 q4 h32 HL23 HRd HQd HFd2
                go_wp2_with fail
                go_roundg (n10 - (k + 1))
                case measure => rw [HG.out]; omega
                case rel => exact ⟨k + 1, rfl, hlt, by go_num, HR3, HQ3, HF3⟩
            · have hlt' : ¬ (k : Int) < (n10 : Int) := by omega
              go_wp2_with fail
              go_meet
              case rel => exact ⟨⟨_, some ⟨B5, 0, none⟩, n10, n10, HRr.out, fun j hj => if_neg hj, rfl, fun h => (by cases h)⟩, HFr.out.1, HFr.out.2⟩
      case rest =>
        obtain ⟨HMe, HFe, HFe'⟩ := hcut
        obtain ⟨M4, v10, m10, k10, hM4, hM4s, hM446, hz10⟩ := HMe.out
        have HY : Hid (wc.rowIs b 57 48 M4 ∧ (∀ j, j ≠ 46 → M4 j = M3 j) ∧ M4 46 = .slice v10 m10 k10 ∧ (v10 = none → m10 = 0 ∧ k10 = 0)) := ⟨hM4, hM4s, hM446, hz10⟩
        have d47 := hM4.cell (i := 47) (by omega)
        have f47 := hM4.frozen 47
        clear hM4 hM4s hM446 hz10 HMe HMw d46 f46 HE46 HFd
        go_wp2_with fail
        go_ret
        have hmsg := msg_final (va := va) (ca := ca) (ra := ra) pts HX2.out HX3.out HRo3.out HX1'.out HFe'.out HY.out HV8.out HV9.out
        have hbel := (HFe.out.setCell 47 (.int .i64 pts)).belowOf HB.out HN.out.2.2
        have hNb := HN.out.2.2
        exact ⟨b, fun j => if j = 47 then .int .i64 pts else M4 j, rfl, hNb, hbel, hmsg⟩

end Go.Proofs.Qxb6616194aFmt
