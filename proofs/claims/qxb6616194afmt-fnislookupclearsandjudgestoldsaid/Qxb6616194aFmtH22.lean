/- lookupKeeps. -/
import Derived.Test.Qxb6616194aFmtH21
set_option linter.unusedVariables false
set_option linter.unusedSimpArgs false
set_option linter.unnecessarySimpa false
namespace Go.Proofs.Qxb6616194aFmt
open Go.RowKit Go.Deep
attribute [local go_sem] eql22 eql24 eql25 eql26 eql50 eql53 eql54 eql55 neq22 neq24 neq25 neq27 neq53 neq55

theorem same_drew (a b : Addr) (n cap cap' : Nat) (z : Nat → Int) (w : World) (hn : n ≤ 1048576) (hc : ∀ i, i < n → w.cell? (a.add i) = some (.int .u8 (z i))) (hc' : ∀ i, i < n → w.cell? (b.add i) = some (.int .u8 (z i))) :
    Calls Tryf.prog 15 #[.slice (some a) n cap, .slice (some b) n cap'] w fun e w' => e = .returned (.bool true) ∧ ∃ m, w' = w.drewN m := by
  have hne : ((n : Int) != (n : Int)) = false := by simp
  go_enter Tryf.func15, Tryf.ntmps15
  go_wp2_with fail
  go_loopg [5] n (fun g v wr => ∃ k q : Nat, g = n - k ∧ k ≤ n ∧ v = .int .i64 (k : Int) ∧ wr = w.drewN q)
  case atStart => exact ⟨0, 0, rfl, Nat.zero_le _, rfl, rfl⟩
  case round =>
    obtain ⟨k, q, hg, hk, rfl, rfl⟩ := hrel
    have HG : Hid (gk = n - k) := hg
    clear hg
    by_cases hlt : k < n
    · have hlt' : (k : Int) < (n : Int) := by omega
      have h1 : (w.drewN q).cell? (a.add k) = some (.int .u8 (z k)) := hc k hlt
      have h2 : (w.drewN q).cell? (b.add k) = some (.int .u8 (z k)) := hc' k hlt
      have h3 : ((z k) != (z k)) = false := by simp
      go_wp2_with fail
      go_quiet (fail)
      go_wp2_with fail
      go_roundg (n - (k + 1))
      case measure => rw [HG.out]; omega
      case rel => exact ⟨k + 1, q + nq, rfl, hlt, by go_num, by simp [World.drewN_drewN]⟩
    · have hlt' : ¬ (k : Int) < (n : Int) := by omega
      go_wp2_with fail
      go_ret
      exact ⟨rfl, q, rfl⟩

theorem same_any (va vb : Option Addr) (n cap cap' : Nat) (z : Nat → Int) (w : World) (hn : n ≤ 1048576) (ha : ByAt w va n cap z) (hb : ByAt w vb n cap' z) (he : va.isNone = vb.isNone) :
    Calls Tryf.prog 15 #[.slice va n cap, .slice vb n cap'] w fun e w' => e = .returned (.bool true) ∧ ∃ m, w' = w.drewN m := by
  cases va with
  | none =>
    cases vb with
    | none =>
      obtain ⟨rfl, rfl⟩ := ha.1 rfl
      obtain ⟨-, rfl⟩ := hb.1 rfl
      exact (same_nil w).mono fun e w' ⟨h1, h2⟩ => ⟨h1, 0, h2⟩
    | some p => cases he
  | some a =>
    cases vb with
    | none => cases he
    | some p => exact same_drew a p n cap cap' z w hn (ha.2 a rfl) (hb.2 p rfl)

theorem quiet_shift {f : FuncId} {args : Array Value} {w : World} {q n : Nat} {v : Value} (h : Calls Tryf.prog f args (w.drewN (q + n)) fun e w' => e = .returned v ∧ ∃ m, w' = (w.drewN (q + n)).drewN m) : Calls Tryf.prog f args (w.drewN (q + n)) fun e w'' => e = .returned v ∧ ∃ m, w'' = w.drewN (q + m) :=
  h.mono fun _ _ ⟨he, m, hm⟩ => ⟨he, n + m, by rw [hm, World.drewN_drewN, Nat.add_assoc]⟩

theorem wp_boxes2 {c : Code} {Q : Exit → Act → World → Prop} {a : Act} (w : World) (A R : Array Value)
    (h : ∀ (w3 : World), Below w.heap.size w w3 → w3.heap[w.heap.size]? = some (.cells A 23) → w3.heap[w.heap.size + 1]? = some (.cells R 30) → c.wp Tryf.prog Q a w3) :
    c.wp Tryf.prog Q a ((w.alloc (.cells A 23)).alloc (.cells R 30)) := by
  have s1 : (w.alloc (.cells A 23)).heap.size = w.heap.size + 1 := nblk_alloc _ _
  refine h _ ?_ ?_ ?_
  · exact ((Below.refl _ w).alloc (Nat.le_refl _) _).alloc (by omega) _
  · rw [blk_alloc_lt _ _ _ (by omega)]; exact blk_alloc_new _ _
  · have := blk_alloc_new (w.alloc (.cells A 23)) (.cells R 30)
    rwa [s1] at this

theorem RtAt.below {w w' : World} {a : Option Addr} {n cap : Nat} {pr : Nat → ByteArray} {lv lk : Nat → Int} (h : RtAt w a n cap pr lv lk) (hb : Below w.heap.size w w') : RtAt w' a n cap pr lv lk := h.kept fun q v _ hc => below_kept hb (Nat.le_refl _) hc
theorem CpAt.below {w w' : World} {a : Option Addr} {n cap : Nat} {ps : Nat → Nat → Int} {nm : Nat → ByteArray} {va : Nat → Option Addr} {vn vc : Nat → Nat} {vz : Nat → Nat → Int} (h : CpAt w a n cap ps nm va vn vc vz) (hb : Below w.heap.size w w') : CpAt w' a n cap ps nm va vn vc vz :=
  h.kept (fun q v _ hc => below_kept hb (Nat.le_refl _) hc) (fun _ _ q v _ hc => below_kept hb (Nat.le_refl _) hc)

set_option maxRecDepth 100000 in
set_option maxHeartbeats 4000000 in
theorem keeps_any (w : World) (b : Nat) (M : Nat → Value) (kd : Int) (fr : ByteArray) (qy sq bt px : Int) (org : ByteArray) (x : Nat → Int) (pu : Int) (ra ca : Option Addr) (n0 rc n4 cc : Nat) (pr : Nat → ByteArray) (lv lk : Nat → Int) (ps : Nat → Nat → Int) (nm : Nat → ByteArray)
    (va : Nat → Option Addr) (vn vc : Nat → Nat) (vz : Nat → Nat → Int) (hm : Msg w b M kd fr qy sq bt px org x pu ra ca n0 n4 pr lv lk ps nm va vn vz) (hRt : RtAt w ra n0 rc pr lv lk) (hCp : CpAt w ca n4 cc ps nm va vn vc vz) (hn0 : n0 ≤ 4096) (hn4 : n4 ≤ 4096) (hvn : ∀ i, i < n4 → vn i ≤ 1048576) :
    Calls Tryf.prog 10 #[.pointer (some ⟨b, 0, none⟩), .slice ra n0 rc, .string org, .int .u8 pu, .agg (A32 x), .slice ca n4 cc, .agg #[.int .u8 kd, .string fr, .int .u64 qy, .int .u64 sq, .int .i64 bt, .int .u64 px]] w
      fun e w' => e = .returned (.bool true) ∧ Below w.heap.size w w' := by
  obtain ⟨ra', rc', m37, hRt', hNr, -⟩ := hm.route
  obtain ⟨ca', cc', va', m45, hCp', hNc, hNv, -⟩ := hm.copies
  obtain ⟨m0, m1, m2, m3, mx, m36⟩ := hm.fix
  have HM : Hid (w.rowIs b 57 48 M ∧ (∀ i, i < 32 → M (4 + i) = .int .u8 (x i))) := ⟨hm.row, mx⟩
  have HRt : Hid (RtAt w ra n0 rc pr lv lk ∧ RtAt w ra' n0 rc' pr lv lk ∧ ra'.isNone = ra.isNone) := ⟨hRt, hRt', hNr⟩
  have HCp : Hid (CpAt w ca n4 cc ps nm va vn vc vz ∧ CpAt w ca' n4 cc' ps nm va' vn vn vz ∧ ca'.isNone = ca.isNone ∧ (∀ i, i < n4 → (va' i).isNone = (va i).isNone) ∧ ∀ i, i < n4 → vn i ≤ 1048576) := ⟨hCp, hCp', hNc, fun i hi => (hNv i hi).1, hvn⟩
  have m38 := hm.m38
  have m42 := hm.m42
  have m43 := hm.m43
  clear hRt hRt' hCp hCp' hNv hvn mx hm
  go_enter Tryf.func10, Tryf.ntmps10
  go_upto_region 1 with fail
  refine wp_boxes2 w _ _ ?_
  intro w2 hb hA hR
  have HB : Hid (Below w.heap.size w w2) := hb
  have hrow : w2.rowIs b 57 48 M := HM.out.1.of_block (hb.block _ HM.out.1.lt)
  have r0 : w2.cell? ⟨w.heap.size + 1, 0, none⟩ = some (.int .u8 kd) := by rw [cell_of_row _ _ 0 _ 30 (0, 0) hR]; rfl
  have r1 : w2.cell? ⟨w.heap.size + 1, 1, none⟩ = some (.string fr) := by rw [cell_of_row _ _ 1 _ 30 (0, 0) hR]; rfl
  have r2 : w2.cell? ⟨w.heap.size + 1, 2, none⟩ = some (.int .u64 qy) := by rw [cell_of_row _ _ 2 _ 30 (0, 0) hR]; rfl
  have r3 : w2.cell? ⟨w.heap.size + 1, 3, none⟩ = some (.int .u64 sq) := by rw [cell_of_row _ _ 3 _ 30 (0, 0) hR]; rfl
  have r4 : w2.cell? ⟨w.heap.size + 1, 4, none⟩ = some (.int .i64 bt) := by rw [cell_of_row _ _ 4 _ 30 (0, 0) hR]; rfl
  have r5 : w2.cell? ⟨w.heap.size + 1, 5, none⟩ = some (.int .u64 px) := by rw [cell_of_row _ _ 5 _ 30 (0, 0) hR]; rfl
  have c0 : w2.cell? ⟨b, 0, none⟩ = some (.int .u8 kd) := by rw [hrow.cell (i := 0) (by omega), m0]
  have c1 : w2.cell? ⟨b, 1, none⟩ = some (.string fr) := by rw [hrow.cell (i := 1) (by omega), m1]
  have c2 : w2.cell? ⟨b, 2, none⟩ = some (.int .u64 qy) := by rw [hrow.cell (i := 2) (by omega), m2]
  have c3 : w2.cell? ⟨b, 3, none⟩ = some (.string org) := by rw [hrow.cell (i := 3) (by omega), m3]
  have c36 : w2.cell? ⟨b, 36, none⟩ = some (.int .u8 pu) := by rw [hrow.cell (i := 36) (by omega), m36]
  have c37 : w2.cell? ⟨b, 37, none⟩ = some (.slice ra' n0 rc') := by rw [hrow.cell (i := 37) (by omega), m37]
  have c38 : w2.cell? ⟨b, 38, none⟩ = some (.int .u64 sq) := by rw [hrow.cell (i := 38) (by omega), m38]
  have c42 : w2.cell? ⟨b, 42, none⟩ = some (.int .i64 bt) := by rw [hrow.cell (i := 42) (by omega), m42]
  have c43 : w2.cell? ⟨b, 43, none⟩ = some (.int .u64 px) := by rw [hrow.cell (i := 43) (by omega), m43]
  have c45 : w2.cell? ⟨b, 45, none⟩ = some (.slice ca' n4 cc') := by rw [hrow.cell (i := 45) (by omega), m45]
  have HL48 : Hid (∀ u : World, u.heap = w2.heap → (Instr.loadAt 48 (.pointer (some ⟨b, 4, none⟩))).run Tryf.prog u = .ok (.agg (A32 x)) u) := fun u hu => loadAt48 _ x _ fun i hi => by
    rw [cell_add', World.cell?_of_block (w := w2) (by rw [hu]), hrow.cell (i := 4 + i) (by omega), HM.out.2 i hi]
  have HL23 : Hid (∀ u : World, u.heap = w2.heap → (Instr.loadAt 23 (.pointer (some ⟨w.heap.size, 0, none⟩))).run Tryf.prog u = .ok (.agg (A32 x)) u) := fun u hu => loadAt23 _ x _ fun i hi => by
    rw [add0, World.cell?_of_block (w := w2) (by rw [hu]), cell_of_row _ _ i _ 23 (0, 0) hA]; exact A32_get x i hi
  have HRt2 : Hid (RtAt w2 ra n0 rc pr lv lk ∧ RtAt w2 ra' n0 rc' pr lv lk ∧ ra'.isNone = ra.isNone) := ⟨HRt.out.1.below hb, HRt.out.2.1.below hb, HRt.out.2.2⟩
  have HCp2 : Hid (CpAt w2 ca n4 cc ps nm va vn vc vz ∧ CpAt w2 ca' n4 cc' ps nm va' vn vn vz ∧ ca'.isNone = ca.isNone ∧ (∀ i, i < n4 → (va' i).isNone = (va i).isNone) ∧ ∀ i, i < n4 → vn i ≤ 1048576) := ⟨HCp.out.1.below hb, HCp.out.2.1.below hb, HCp.out.2.2⟩
  have e23 : ∀ w, (Op.equalIn 10000 23 (.agg (A32 x)) (.agg (A32 x))).run Tryf.prog w = .ok true w := fun w => by rw [equal23, eq32_refl]
  have g23 := eqGuard23
  clear hb hA hR hrow m0 m1 m2 m3 m36 m37 m38 m42 m43 m45 HRt HCp HM
  generalize w.heap.size + 1 = b1 at *
  go_wp2_with fail
  go_quiet (fail)
  go_wp2_with fail
  refine wp_region_quiet_lit (by kernel_rfl) (by kernel_rfl) ?_
  iterate 10 (quiet_step (fail))
  refine wpQuiet_load 48 _ _ _ rfl rfl rfl (fun n => HL48.out _ rfl) ?_
  refine wpQuiet_load 23 _ _ _ rfl rfl rfl (fun n => HL23.out _ rfl) ?_
  iterate 10 (quiet_step (fail))
  refine wpQuiet_nil ?_
  intro _ hw'
  obtain ⟨nq2, hw''⟩ := hw'
  subst hw''
  clear HL48 HL23 e23
  go_wp2_with fail
  go_quiet (fail)
  have hNr := HRt2.out.2.2
  go_wp2_with fail
  clear hNr
  clear r0 r1 r2 r3 r4 r5 c0 c1 c2 c3 c36 c38 c42 c43
  go_loopg [15] n0 (fun g v wr => ∃ k q : Nat, g = n0 - k ∧ k ≤ n0 ∧ v = .int .i64 (k : Int) ∧ wr = w2.drewN q)
  case atStart => exact ⟨0, _, rfl, Nat.zero_le _, rfl, rfl⟩
  case round =>
    obtain ⟨k, q, hg, hk, rfl, rfl⟩ := hrel
    have HG : Hid (gk = n0 - k) := hg
    clear hg
    by_cases hlt : k < n0
    · have hlt' : (k : Int) < (n0 : Int) := by omega
      obtain ⟨a, rfl⟩ : ∃ a, ra = some a := by
        cases ra with
        | none => have := (HRt2.out.1.1 rfl).1; omega
        | some a => exact ⟨a, rfl⟩
      obtain ⟨p, rfl⟩ : ∃ p, ra' = some p := by
        cases ra' with
        | none => have := (HRt2.out.2.1.1 rfl).1; omega
        | some a => exact ⟨a, rfl⟩
      have h1 := (HRt2.out.1.2 a rfl).2 k hlt
      have s1 := (HRt2.out.1.2 a rfl).1 (by omega)
      have h2 := (HRt2.out.2.1.2 p rfl).2 k hlt
      have s2 := (HRt2.out.2.1.2 p rfl).1 (by omega)
      have q1 : w2.cell? (a.add (k * 3)) = some (.string (pr k)) := by rw [cell_add _ _ _ s1]; exact h1.1
      have q2 : w2.cell? ⟨(a.add (k * 3)).block, (a.add (k * 3)).off + 1, none⟩ = some (.int .i64 (lv k)) := by rw [add_block, add_off, Nat.add_assoc]; exact h1.2.1
      have q3 : w2.cell? ⟨(a.add (k * 3)).block, (a.add (k * 3)).off + 2, none⟩ = some (.int .i64 (lk k)) := by rw [add_block, add_off, Nat.add_assoc]; exact h1.2.2
      have q4 : w2.cell? (p.add (k * 3)) = some (.string (pr k)) := by rw [cell_add _ _ _ s2]; exact h2.1
      have q5 : w2.cell? ⟨(p.add (k * 3)).block, (p.add (k * 3)).off + 1, none⟩ = some (.int .i64 (lv k)) := by rw [add_block, add_off, Nat.add_assoc]; exact h2.2.1
      have q6 : w2.cell? ⟨(p.add (k * 3)).block, (p.add (k * 3)).off + 2, none⟩ = some (.int .i64 (lk k)) := by rw [add_block, add_off, Nat.add_assoc]; exact h2.2.2
      clear h1 s1 h2 s2
      go_wp2_with fail
      go_quiet (fail)
      go_wp2_with fail
      go_roundg (n0 - (k + 1))
      case measure => rw [HG.out]; omega
      case rel => exact ⟨k + 1, q + nq, rfl, hlt, by go_num, by simp [World.drewN_drewN]⟩
    · have hlt' : ¬ (k : Int) < (n0 : Int) := by omega
      clear c37
      have hNc := HCp2.out.2.2.1
      go_wp2_with fail
      clear hNc
      go_loopg [16] n4 (fun g v wr => ∃ k q : Nat, g = n4 - k ∧ k ≤ n4 ∧ v = .int .i64 (k : Int) ∧ wr = w2.drewN q)
      case atStart => exact ⟨0, _, rfl, Nat.zero_le _, rfl, rfl⟩
      case round =>
        obtain ⟨j, q', hg, hj, rfl, rfl⟩ := hrel
        have HG2 : Hid (gk = n4 - j) := hg
        clear hg
        by_cases hlt4 : j < n4
        · have hlt4' : (j : Int) < (n4 : Int) := by omega
          obtain ⟨a, rfl⟩ : ∃ a, ca = some a := by
            cases ca with
            | none => have := (HCp2.out.1.1 rfl).1; omega
            | some a => exact ⟨a, rfl⟩
          obtain ⟨p, rfl⟩ : ∃ p, ca' = some p := by
            cases ca' with
            | none => have := (HCp2.out.2.1.1 rfl).1; omega
            | some a => exact ⟨a, rfl⟩
          have h1 := (HCp2.out.1.2 a rfl).2 j hlt4
          have s1 := (HCp2.out.1.2 a rfl).1 (by omega)
          have h2 := (HCp2.out.2.1.2 p rfl).2 j hlt4
          have s2 := (HCp2.out.2.1.2 p rfl).1 (by omega)
          have HL1 : Hid (∀ u : World, u.heap = w2.heap → (Instr.loadAt 23 (.pointer (some (a.add (j * 34))))).run Tryf.prog u = .ok (.agg (A32 (ps j))) u) := fun u hu => loadAt23 _ _ _ fun i hi => by
            rw [World.cell?_of_block (w := w2) (by rw [hu]), cell_add _ _ _ (add_spot a _ s1), add_block, add_off, Nat.add_assoc]; exact h1.1 i hi
          have HL2 : Hid (∀ u : World, u.heap = w2.heap → (Instr.loadAt 48 (.pointer (some (p.add (j * 34))))).run Tryf.prog u = .ok (.agg (A32 (ps j))) u) := fun u hu => loadAt48 _ _ _ fun i hi => by
            rw [World.cell?_of_block (w := w2) (by rw [hu]), cell_add _ _ _ (add_spot p _ s2), add_block, add_off, Nat.add_assoc]; exact h2.1 i hi
          have q2 : w2.cell? ⟨(a.add (j * 34)).block, (a.add (j * 34)).off + 32, none⟩ = some (.string (nm j)) := by rw [add_block, add_off, Nat.add_assoc]; exact h1.2.1
          have q3 : w2.cell? ⟨(a.add (j * 34)).block, (a.add (j * 34)).off + 33, none⟩ = some (.slice (va j) (vn j) (vc j)) := by rw [add_block, add_off, Nat.add_assoc]; exact h1.2.2.1
          have q5 : w2.cell? ⟨(p.add (j * 34)).block, (p.add (j * 34)).off + 32, none⟩ = some (.string (nm j)) := by rw [add_block, add_off, Nat.add_assoc]; exact h2.2.1
          have q6 : w2.cell? ⟨(p.add (j * 34)).block, (p.add (j * 34)).off + 33, none⟩ = some (.slice (va' j) (vn j) (vn j)) := by rw [add_block, add_off, Nat.add_assoc]; exact h2.2.2.1
          have HBy : Hid (∀ u : World, u.heap = w2.heap → Calls Tryf.prog 15 #[.slice (va' j) (vn j) (vn j), .slice (va j) (vn j) (vc j)] u fun e w' => e = .returned (.bool true) ∧ ∃ m, w' = u.drewN m) := fun u hu =>
            same_any _ _ _ _ _ (vz j) u (HCp2.out.2.2.2.2 j hlt4) (h2.2.2.2.kept fun q v _ h => by rw [World.cell?_of_block (w := w2) (by rw [hu])]; exact h) (h1.2.2.2.kept fun q v _ h => by rw [World.cell?_of_block (w := w2) (by rw [hu])]; exact h) (HCp2.out.2.2.2.1 j hlt4)
          have e23 : ∀ w, (Op.equalIn 10000 23 (.agg (A32 (ps j))) (.agg (A32 (ps j)))).run Tryf.prog w = .ok true w := fun w => by rw [equal23, eq32_refl]
          clear h1 s1 h2 s2
          go_wp2_with fail
          refine wp_region_quiet_lit (by kernel_rfl) (by kernel_rfl) ?_
          iterate 7 (quiet_step (fail))
          refine wpQuiet_load 48 _ _ _ rfl rfl rfl (fun n => HL2.out _ rfl) ?_
          iterate 4 (quiet_step (fail))
          refine wpQuiet_load 23 _ _ _ rfl rfl rfl (fun n => HL1.out _ rfl) ?_
          iterate 34 (quiet_step (exact quiet_shift (HBy.out (w2.drewN _) rfl)))
          refine wpQuiet_nil ?_
          intro _ hw'
          obtain ⟨nq5, hw''⟩ := hw'
          subst hw''
          clear HL1 HL2 HBy e23
          go_wp2_with fail
          go_roundg (n4 - (j + 1))
          case measure => rw [HG2.out]; omega
          case rel => exact ⟨j + 1, q' + nq5, rfl, hlt4, by go_num, by simp [World.drewN_drewN]⟩
        · have hlt4' : ¬ (j : Int) < (n4 : Int) := by omega
          go_wp2_with fail
          go_ret
          exact ⟨rfl, HB.out.os, HB.out.tape, HB.out.output, HB.out.size, HB.out.block⟩

end Go.Proofs.Qxb6616194aFmt
