/- zzBytes, lookupTooBig. -/
import Derived.Test.Qxb6616194aFmtH22
set_option linter.unusedVariables false
set_option linter.unusedSimpArgs false
set_option linter.unnecessarySimpa false
namespace Go.Proofs.Qxb6616194aFmt
open Go.RowKit Go.Deep
attribute [local go_sem] eql22 eql24 eql25 eql26 eql50 eql53 eql54 eql55 neq22 neq24 neq25 neq27 neq53 neq55

/-- A bool; where it is true, B. -/
def BOut (w : World) (B : Prop) (e : Ending) (w' : World) : Prop := ∃ r : Bool, e = .returned (.bool r) ∧ Below w.heap.size w w' ∧ (r = true → B)
theorem BOut.no {w w' : World} {B : Prop} (h : Below w.heap.size w w') : BOut w B (.returned (.bool false)) w' := ⟨false, rfl, h, fun h => by cases h⟩
theorem BOut.yes {w w' : World} {B : Prop} (h : Below w.heap.size w w') (hB : B) : BOut w B (.returned (.bool true)) w' := ⟨true, rfl, h, fun _ => hB⟩

set_option maxRecDepth 100000 in
set_option maxHeartbeats 4000000 in
theorem bytes_any (ra ca va8 pa wa : Option Addr) (n0 rc n4 cc n8 c8 n9 c9 n10 c10 : Nat) (pr : Nat → ByteArray) (lv lk : Nat → Int) (org : ByteArray) (pu : Int) (x : Nat → Int) (hp pts : Int) (fd : Bool) (kd : Int) (fr : ByteArray) (qy sq bt px : Int) (w : World)
    (pad : Nat → ByteArray) (pid : Nat → Nat → Int) (ps : Nat → Nat → Int) (nm : Nat → ByteArray) (va : Nat → Option Addr) (vn vc : Nat → Nat) (vz : Nat → Nat → Int) (wt : Nat → ByteArray) (wpp wbb wxx : Nat → Int) (pt : Nat → Nat → Int)
    (hRt : RtAt w ra n0 rc pr lv lk) (hPe : ∀ p, pa = some p → PeAt w p n9 pad pid) (hCp : CpAt w ca n4 cc ps nm va vn vc vz) (hWa : WaAt w wa n10 c10 wt wpp wbb wxx pt) (hPn : pa = none → n9 = 0) :
    Calls Tryf.prog 4 #[.slice ra n0 rc, .string org, .int .u8 pu, .agg (A32 x), .slice ca n4 cc, .int .i64 hp, .bool fd, .int .i64 pts, .slice va8 n8 c8, .slice pa n9 c9, .slice wa n10 c10, .agg #[.int .u8 kd, .string fr, .int .u64 qy, .int .u64 sq, .int .i64 bt, .int .u64 px]] w
      fun e w' => BOut w (org.size ≤ 1048576 ∧ n8 ≤ 1048576 ∧ fr.size ≤ 1048576 ∧ ∀ i, i < n4 → (nm i).size ≤ 1048576 ∧ vn i ≤ 1048576) e w' := by
  go_enter Tryf.func4, Tryf.ntmps4
  go_upto_region 1 with fail
  refine wp_boxes2 w _ _ ?_
  intro w2 hb hA hR
  have r1 : w2.cell? ⟨w.heap.size + 1, 1, none⟩ = some (.string fr) := by rw [cell_of_row _ _ 1 _ 30 (0, 0) hR]; rfl
  have HRt : Hid (RtAt w2 ra n0 rc pr lv lk) := hRt.below hb
  have HPe : Hid (∀ p, pa = some p → PeAt w2 p n9 pad pid) := fun p hp => (hPe p hp).kept fun q v h => below_kept hb (Nat.le_refl _) h
  have HCp : Hid (CpAt w2 ca n4 cc ps nm va vn vc vz) := hCp.below hb
  have HWa : Hid (WaAt w2 wa n10 c10 wt wpp wbb wxx pt) := hWa.kept fun q v h => below_kept hb (Nat.le_refl _) h
  have HPn : Hid (pa = none → n9 = 0) := hPn
  have HB : Hid (Below w.heap.size w w2) := hb
  clear hRt hPe hCp hWa hb hA hR hPn
  generalize w.heap.size + 1 = b1 at *
  go_wp2_with fail
  · go_ret
    exact BOut.no HB.out
  go_loopg [25, 26] n0 (fun g v25 v26 wr => ∃ (k : Nat) (s : Int), g = n0 - k ∧ k ≤ n0 ∧ v25 = .int .i64 s ∧ v26 = .int .i64 (k : Int) ∧ wr = w2)
  case atStart => exact ⟨0, _, rfl, Nat.zero_le _, rfl, rfl, rfl⟩
  case round =>
    obtain ⟨k, s, hg, hk, rfl, rfl, hw⟩ := hrel
    have hw' := hw.symm
    subst hw'
    have HG : Hid (gk = n0 - k) := hg
    clear hg hw
    by_cases hlt : k < n0
    · have hlt' : (k : Int) < (n0 : Int) := by omega
      obtain ⟨a, rfl⟩ : ∃ a, ra = some a := by
        cases ra with
        | none => have := (HRt.out.1 rfl).1; omega
        | some a => exact ⟨a, rfl⟩
      have q1 : w2.cell? (a.add (k * 3)) = some (.string (pr k)) := by rw [cell_add _ _ _ ((HRt.out.2 a rfl).1 (by omega))]; exact ((HRt.out.2 a rfl).2 k hlt).1
      go_wp2_with fail
      all_goals try (go_ret; exact BOut.no HB.out)
      go_roundg (n0 - (k + 1))
      case measure => rw [HG.out]; omega
      case rel => exact ⟨k + 1, _, rfl, hlt, rfl, by go_num, rfl⟩
    · have hlt' : ¬ (k : Int) < (n0 : Int) := by omega
      go_wp2_with fail
      all_goals try (go_ret; exact BOut.no HB.out)
      go_loopg [25, 27] n4 (fun g v25 v26 wr => ∃ (k : Nat) (s : Int), g = n4 - k ∧ k ≤ n4 ∧ v25 = .int .i64 s ∧ v26 = .int .i64 (k : Int) ∧ wr = w2 ∧ Hid (∀ i, i < k → (nm i).size ≤ 1048576 ∧ vn i ≤ 1048576))
      case atStart => exact ⟨0, _, rfl, Nat.zero_le _, rfl, rfl, rfl, fun i hi => absurd hi (by omega)⟩
      case round =>
        obtain ⟨j, s', hg, hj, rfl, rfl, hw, HI⟩ := hrel
        have hw' := hw.symm
        subst hw'
        have HG2 : Hid (gk = n4 - j) := hg
        clear hg hw
        by_cases hlt4 : j < n4
        · have hlt4' : (j : Int) < (n4 : Int) := by omega
          obtain ⟨a, rfl⟩ : ∃ a, ca = some a := by
            cases ca with
            | none => have := (HCp.out.1 rfl).1; omega
            | some a => exact ⟨a, rfl⟩
          have h1 := (HCp.out.2 a rfl).2 j hlt4
          have q2 : w2.cell? ⟨(a.add (j * 34)).block, (a.add (j * 34)).off + 32, none⟩ = some (.string (nm j)) := by rw [add_block, add_off, Nat.add_assoc]; exact h1.2.1
          have q3 : w2.cell? ⟨(a.add (j * 34)).block, (a.add (j * 34)).off + 33, none⟩ = some (.slice (va j) (vn j) (vc j)) := by rw [add_block, add_off, Nat.add_assoc]; exact h1.2.2.1
          clear h1
          go_wp2_with fail
          all_goals try (go_ret; exact BOut.no HB.out)
          go_roundg (n4 - (j + 1))
          case measure => rw [HG2.out]; omega
          case rel =>
            refine ⟨j + 1, _, rfl, hlt4, rfl, by go_num, rfl, fun i hi => ?_⟩
            by_cases hij : i = j
            · subst hij; exact ⟨by omega, by omega⟩
            · exact HI.out i (by omega)
        · have hlt4' : ¬ (j : Int) < (n4 : Int) := by omega
          have hjn : j = n4 := by omega
          go_wp2_with fail
          all_goals try (go_ret; exact BOut.no HB.out)
          go_loopg [25, 28] n9 (fun g v25 v26 wr => ∃ (k : Nat) (s : Int), g = n9 - k ∧ k ≤ n9 ∧ v25 = .int .i64 s ∧ v26 = .int .i64 (k : Int) ∧ wr = w2)
          case atStart => exact ⟨0, _, rfl, Nat.zero_le _, rfl, rfl, rfl⟩
          case round =>
            obtain ⟨l, s2, hg, hl, rfl, rfl, hw⟩ := hrel
            have hw' := hw.symm
            subst hw'
            have HG3 : Hid (gk = n9 - l) := hg
            clear hg hw
            by_cases hlt9 : l < n9
            · have hlt9' : (l : Int) < (n9 : Int) := by omega
              obtain ⟨a, rfl⟩ : ∃ a, pa = some a := by
                cases pa with
                | none => have := HPn.out rfl; omega
                | some a => exact ⟨a, rfl⟩
              have q1 : w2.cell? (a.add (l * 33)) = some (.string (pad l)) := by rw [cell_add _ _ _ ((HPe.out a rfl).1 (by omega))]; exact ((HPe.out a rfl).2 l hlt9).1
              go_wp2_with fail
              all_goals try (go_ret; exact BOut.no HB.out)
              go_roundg (n9 - (l + 1))
              case measure => rw [HG3.out]; omega
              case rel => exact ⟨l + 1, _, rfl, hlt9, rfl, by go_num, rfl⟩
            · have hlt9' : ¬ (l : Int) < (n9 : Int) := by omega
              go_wp2_with fail
              all_goals try (go_ret; exact BOut.no HB.out)
              go_loopg [25, 29] n10 (fun g v25 v26 wr => ∃ (k : Nat) (s : Int), g = n10 - k ∧ k ≤ n10 ∧ v25 = .int .i64 s ∧ v26 = .int .i64 (k : Int) ∧ wr = w2)
              case atStart => exact ⟨0, _, rfl, Nat.zero_le _, rfl, rfl, rfl⟩
              case round =>
                obtain ⟨m, s3, hg, hm, rfl, rfl, hw⟩ := hrel
                have hw' := hw.symm
                subst hw'
                have HG4 : Hid (gk = n10 - m) := hg
                clear hg hw
                by_cases hltA : m < n10
                · have hltA' : (m : Int) < (n10 : Int) := by omega
                  obtain ⟨a, rfl⟩ : ∃ a, wa = some a := by
                    cases wa with
                    | none => have := (HWa.out.1 rfl).1; omega
                    | some a => exact ⟨a, rfl⟩
                  have q1 : w2.cell? (a.add (m * 36)) = some (.string (wt m)) := by rw [cell_add _ _ _ ((HWa.out.2 a rfl).1 (by omega))]; exact ((HWa.out.2 a rfl).2 m hltA).1
                  go_wp2_with fail
                  all_goals try (go_ret; exact BOut.no HB.out)
                  go_roundg (n10 - (m + 1))
                  case measure => rw [HG4.out]; omega
                  case rel => exact ⟨m + 1, _, rfl, hltA, rfl, by go_num, rfl⟩
                · have hltA' : ¬ (m : Int) < (n10 : Int) := by omega
                  go_wp2_with fail
                  all_goals try (go_ret; exact BOut.no HB.out)
                  go_ret
                  exact BOut.yes HB.out ⟨by omega, by omega, by omega, fun i hi => HI.out i (by omega)⟩

/-- A bool; where it is false, B. -/
def TOut (w : World) (B : Prop) (e : Ending) (w' : World) : Prop := ∃ r : Bool, e = .returned (.bool r) ∧ Below w.heap.size w w' ∧ (r = false → B)
theorem TOut.yes {w w' : World} {B : Prop} (h : Below w.heap.size w w') : TOut w B (.returned (.bool true)) w' := ⟨true, rfl, h, fun h => by cases h⟩
theorem TOut.no {w w' : World} {B : Prop} (h : Below w.heap.size w w') (hB : B) : TOut w B (.returned (.bool false)) w' := ⟨false, rfl, h, fun _ => hB⟩

theorem wp_box1 {c : Code} {Q : Exit → Act → World → Prop} {a : Act} (w : World) (R : Array Value)
    (h : ∀ (w3 : World), Below w.heap.size w w3 → w3.heap[w.heap.size]? = some (.cells R 30) → c.wp Tryf.prog Q a w3) :
    c.wp Tryf.prog Q a (w.alloc (.cells R 30)) :=
  h _ ((Below.refl _ w).alloc (Nat.le_refl _) _) (blk_alloc_new _ _)

set_option maxRecDepth 100000 in
set_option maxHeartbeats 4000000 in
theorem tooBig_any (ra ca va8 pa wa : Option Addr) (n0 rc n4 cc n8 c8 n9 c9 n10 c10 : Nat) (pr : Nat → ByteArray) (lv lk : Nat → Int) (org : ByteArray) (kd : Int) (fr : ByteArray) (qy sq bt px : Int) (w : World)
    (pad : Nat → ByteArray) (pid : Nat → Nat → Int) (ps : Nat → Nat → Int) (nm : Nat → ByteArray) (va : Nat → Option Addr) (vn vc : Nat → Nat) (vz : Nat → Nat → Int) (wt : Nat → ByteArray) (wpp wbb wxx : Nat → Int) (pt : Nat → Nat → Int)
    (hRt : RtAt w ra n0 rc pr lv lk) (hPe : ∀ p, pa = some p → PeAt w p n9 pad pid) (hCp : CpAt w ca n4 cc ps nm va vn vc vz) (hWa : WaAt w wa n10 c10 wt wpp wbb wxx pt) (hPn : pa = none → n9 = 0)
    (horg : org.size ≤ 1048576) (hn8 : n8 ≤ 1048576) (hfr : fr.size ≤ 1048576) :
    Calls Tryf.prog 5 #[.slice ra n0 rc, .string org, .slice ca n4 cc, .slice va8 n8 c8, .slice pa n9 c9, .slice wa n10 c10, .agg #[.int .u8 kd, .string fr, .int .u64 qy, .int .u64 sq, .int .i64 bt, .int .u64 px]] w
      fun e w' => TOut w (n0 ≤ 4096 ∧ n4 ≤ 4096 ∧ n9 ≤ 4096 ∧ n10 ≤ 4096) e w' := by
  go_enter Tryf.func5, Tryf.ntmps5
  go_upto_region 1 with fail
  refine wp_box1 w _ ?_
  intro w2 hb hR
  have r1 : w2.cell? ⟨w.heap.size, 1, none⟩ = some (.string fr) := by rw [cell_of_row _ _ 1 _ 30 (0, 0) hR]; rfl
  have HRt : Hid (RtAt w2 ra n0 rc pr lv lk) := hRt.below hb
  have HPe : Hid (∀ p, pa = some p → PeAt w2 p n9 pad pid) := fun p hp => (hPe p hp).kept fun q v h => below_kept hb (Nat.le_refl _) h
  have HCp : Hid (CpAt w2 ca n4 cc ps nm va vn vc vz) := hCp.below hb
  have HWa : Hid (WaAt w2 wa n10 c10 wt wpp wbb wxx pt) := hWa.kept fun q v h => below_kept hb (Nat.le_refl _) h
  have HPn : Hid (pa = none → n9 = 0) := hPn
  have HB : Hid (Below w.heap.size w w2) := hb
  clear hRt hPe hCp hWa hb hR hPn
  have o1 : ¬ (1048576 : Int) < (org.size : Int) := by omega
  have o2 : ¬ (1048576 : Int) < (n8 : Int) := by omega
  have o3 : ¬ (1048576 : Int) < (fr.size : Int) := by omega
  by_cases b0 : n0 ≤ 4096
  case neg =>
    have b0' : (4096 : Int) < (n0 : Int) := by omega
    go_wp2_with fail
    go_ret
    exact TOut.yes HB.out
  have b0' : ¬ (4096 : Int) < (n0 : Int) := by omega
  by_cases b4 : n4 ≤ 4096
  case neg =>
    have b4' : (4096 : Int) < (n4 : Int) := by omega
    go_wp2_with fail
    go_ret
    exact TOut.yes HB.out
  have b4' : ¬ (4096 : Int) < (n4 : Int) := by omega
  by_cases b9 : n9 ≤ 4096
  case neg =>
    have b9' : (4096 : Int) < (n9 : Int) := by omega
    go_wp2_with fail
    go_ret
    exact TOut.yes HB.out
  have b9' : ¬ (4096 : Int) < (n9 : Int) := by omega
  by_cases bA : n10 ≤ 4096
  case neg =>
    have bA' : (4096 : Int) < (n10 : Int) := by omega
    go_wp2_with fail
    go_ret
    exact TOut.yes HB.out
  have bA' : ¬ (4096 : Int) < (n10 : Int) := by omega
  go_wp2_with fail
  all_goals try (go_ret; exact TOut.yes HB.out)
  go_loopg [15, 16] n0 (fun g v25 v26 wr => ∃ (k : Nat) (s : Int), g = n0 - k ∧ k ≤ n0 ∧ v25 = .int .i64 s ∧ v26 = .int .i64 (k : Int) ∧ wr = w2)
  case atStart => exact ⟨0, _, rfl, Nat.zero_le _, rfl, rfl, rfl⟩
  case round =>
    obtain ⟨k, s, hg, hk, rfl, rfl, hw⟩ := hrel
    have hw' := hw.symm
    subst hw'
    have HG : Hid (gk = n0 - k) := hg
    clear hg hw
    by_cases hlt : k < n0
    · have hlt' : (k : Int) < (n0 : Int) := by omega
      obtain ⟨a, rfl⟩ : ∃ a, ra = some a := by
        cases ra with
        | none => have := (HRt.out.1 rfl).1; omega
        | some a => exact ⟨a, rfl⟩
      have q1 : w2.cell? (a.add (k * 3)) = some (.string (pr k)) := by rw [cell_add _ _ _ ((HRt.out.2 a rfl).1 (by omega))]; exact ((HRt.out.2 a rfl).2 k hlt).1
      go_wp2_with fail
      all_goals try (go_ret; exact TOut.yes HB.out)
      go_roundg (n0 - (k + 1))
      case measure => rw [HG.out]; omega
      case rel => exact ⟨k + 1, _, rfl, hlt, rfl, by go_num, rfl⟩
    · have hlt' : ¬ (k : Int) < (n0 : Int) := by omega
      go_wp2_with fail
      all_goals try (go_ret; exact TOut.yes HB.out)
      go_loopg [15, 17] n4 (fun g v25 v26 wr => ∃ (k : Nat) (s : Int), g = n4 - k ∧ k ≤ n4 ∧ v25 = .int .i64 s ∧ v26 = .int .i64 (k : Int) ∧ wr = w2)
      case atStart => exact ⟨0, _, rfl, Nat.zero_le _, rfl, rfl, rfl⟩
      case round =>
        obtain ⟨j, s', hg, hj, rfl, rfl, hw⟩ := hrel
        have hw' := hw.symm
        subst hw'
        have HG2 : Hid (gk = n4 - j) := hg
        clear hg hw
        by_cases hlt4 : j < n4
        · have hlt4' : (j : Int) < (n4 : Int) := by omega
          obtain ⟨a, rfl⟩ : ∃ a, ca = some a := by
            cases ca with
            | none => have := (HCp.out.1 rfl).1; omega
            | some a => exact ⟨a, rfl⟩
          have h1 := (HCp.out.2 a rfl).2 j hlt4
          have q2 : w2.cell? ⟨(a.add (j * 34)).block, (a.add (j * 34)).off + 32, none⟩ = some (.string (nm j)) := by rw [add_block, add_off, Nat.add_assoc]; exact h1.2.1
          have q3 : w2.cell? ⟨(a.add (j * 34)).block, (a.add (j * 34)).off + 33, none⟩ = some (.slice (va j) (vn j) (vc j)) := by rw [add_block, add_off, Nat.add_assoc]; exact h1.2.2.1
          clear h1
          go_wp2_with fail
          all_goals try (go_ret; exact TOut.yes HB.out)
          go_roundg (n4 - (j + 1))
          case measure => rw [HG2.out]; omega
          case rel => exact ⟨j + 1, _, rfl, hlt4, rfl, by go_num, rfl⟩
        · have hlt4' : ¬ (j : Int) < (n4 : Int) := by omega
          go_wp2_with fail
          all_goals try (go_ret; exact TOut.yes HB.out)
          go_loopg [15, 18] n9 (fun g v25 v26 wr => ∃ (k : Nat) (s : Int), g = n9 - k ∧ k ≤ n9 ∧ v25 = .int .i64 s ∧ v26 = .int .i64 (k : Int) ∧ wr = w2)
          case atStart => exact ⟨0, _, rfl, Nat.zero_le _, rfl, rfl, rfl⟩
          case round =>
            obtain ⟨l, s2, hg, hl, rfl, rfl, hw⟩ := hrel
            have hw' := hw.symm
            subst hw'
            have HG3 : Hid (gk = n9 - l) := hg
            clear hg hw
            by_cases hlt9 : l < n9
            · have hlt9' : (l : Int) < (n9 : Int) := by omega
              obtain ⟨a, rfl⟩ : ∃ a, pa = some a := by
                cases pa with
                | none => have := HPn.out rfl; omega
                | some a => exact ⟨a, rfl⟩
              have q1 : w2.cell? (a.add (l * 33)) = some (.string (pad l)) := by rw [cell_add _ _ _ ((HPe.out a rfl).1 (by omega))]; exact ((HPe.out a rfl).2 l hlt9).1
              go_wp2_with fail
              all_goals try (go_ret; exact TOut.yes HB.out)
              go_roundg (n9 - (l + 1))
              case measure => rw [HG3.out]; omega
              case rel => exact ⟨l + 1, _, rfl, hlt9, rfl, by go_num, rfl⟩
            · have hlt9' : ¬ (l : Int) < (n9 : Int) := by omega
              go_wp2_with fail
              all_goals try (go_ret; exact TOut.yes HB.out)
              go_loopg [15, 19] n10 (fun g v25 v26 wr => ∃ (k : Nat) (s : Int), g = n10 - k ∧ k ≤ n10 ∧ v25 = .int .i64 s ∧ v26 = .int .i64 (k : Int) ∧ wr = w2)
              case atStart => exact ⟨0, _, rfl, Nat.zero_le _, rfl, rfl, rfl⟩
              case round =>
                obtain ⟨m, s3, hg, hm, rfl, rfl, hw⟩ := hrel
                have hw' := hw.symm
                subst hw'
                have HG4 : Hid (gk = n10 - m) := hg
                clear hg hw
                by_cases hltA : m < n10
                · have hltA' : (m : Int) < (n10 : Int) := by omega
                  obtain ⟨a, rfl⟩ : ∃ a, wa = some a := by
                    cases wa with
                    | none => have := (HWa.out.1 rfl).1; omega
                    | some a => exact ⟨a, rfl⟩
                  have q1 : w2.cell? (a.add (m * 36)) = some (.string (wt m)) := by rw [cell_add _ _ _ ((HWa.out.2 a rfl).1 (by omega))]; exact ((HWa.out.2 a rfl).2 m hltA).1
                  go_wp2_with fail
                  all_goals try (go_ret; exact TOut.yes HB.out)
                  go_roundg (n10 - (m + 1))
                  case measure => rw [HG4.out]; omega
                  case rel => exact ⟨m + 1, _, rfl, hltA, rfl, by go_num, rfl⟩
                · have hltA' : ¬ (m : Int) < (n10 : Int) := by omega
                  go_wp2_with fail
                  all_goals try (go_ret; exact TOut.yes HB.out)
                  go_ret
                  exact TOut.no HB.out (by first | trivial | exact ⟨b0, b4, b9, bA⟩)

end Go.Proofs.Qxb6616194aFmt
