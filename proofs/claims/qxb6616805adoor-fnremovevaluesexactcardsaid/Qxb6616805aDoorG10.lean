/- The bounds on lengths. -/
import Derived.Test.Qxb6616805aDoorG9
set_option linter.unusedVariables false
set_option linter.unusedSimpArgs false
set_option linter.unnecessarySimpa false
namespace Go.Proofs.Qxb6616805aDoor
open Go.RowKit

/-- Fields as the law is handed them: name and value, two cells each. -/
def NV (w : World) (p : Addr) (fs : List FB) : Prop := ∀ j (h : j < fs.length), w.cell? (p.add (j * 2)) = some (.string fs[j].1) ∧ w.cell? { block := (p.add (j * 2)).block, off := (p.add (j * 2)).off + 1 } = some (.string fs[j].2)
structure NVV (w : World) (q : Option Addr) (n c : Nat) (fs : List FB) : Prop where
  len : n = fs.length
  nil : q = none → n = 0 ∧ c = 0
  cap : n ≤ c
  at' : ∀ p, q = some p → NV w p fs
theorem NVV.ptr {w : World} {q : Option Addr} {n c : Nat} {fs : List FB} (h : NVV w q n c fs) (hn : 0 < n) : ∃ p, q = some p := by
  cases q with
  | none => have := (h.nil rfl).1; omega
  | some p => exact ⟨p, rfl⟩
theorem add_block (p : Addr) (k : Nat) : (p.add k).block = p.block := by unfold Addr.add; split <;> rfl
theorem NV.kept {w w' : World} {p : Addr} {fs : List FB} (h : NV w p fs) (hk : ∀ q v, q.block = p.block → w.cell? q = some v → w'.cell? q = some v) : NV w' p fs := fun j hj =>
  ⟨hk _ _ (add_block _ _) (h j hj).1, hk _ _ (add_block _ _) (h j hj).2⟩
theorem NVV.kept {w w' : World} {q : Option Addr} {n c : Nat} {fs : List FB} (h : NVV w q n c fs) (hk : ∀ a v, w.cell? a = some v → w'.cell? a = some v) : NVV w' q n c fs :=
  ⟨h.len, h.nil, h.cap, fun p hp => (h.at' p hp).kept fun a v _ => hk a v⟩
theorem cell_below {w w' : World} (hb : Below w.heap.size w w') {a : Addr} {v : Value} (h : w.cell? a = some v) : w'.cell? a = some v := (hb.cell (cell_lt h)).trans h
theorem NVV.below {w w' : World} {q : Option Addr} {n c : Nat} {fs : List FB} (h : NVV w q n c fs) (hb : Below w.heap.size w w') : NVV w' q n c fs := h.kept fun a v ha => cell_below hb ha

def IsB (e : Ending) : Prop := ∃ r, e = .returned (.bool r)
set_option maxHeartbeats 1000000 in
theorem zzBytes6_any (q : Option Addr) (n c : Nat) (fs : List FB) (name d : ByteArray) (w : World) (h : NVV w q n c fs) :
    Calls Tryd.prog 23 #[.slice q n c, .string name, .string d] w fun e w' => IsB e ∧ w' = w := by
  have HV : Hid (NVV w q n c fs) := h
  clear h
  by_cases hn : (1048576 : Int) < (n : Int)
  · go_enter Tryd.func23, Tryd.ntmps23
    go_wp2_with fail
    go_ret
    exact ⟨⟨_, rfl⟩, rfl⟩
  · have hn2 : n ≤ 1048576 := by omega
    go_enter Tryd.func23, Tryd.ntmps23
    go_wp2_with fail
    go_loopg [7, 8] n (fun g v7 v8 wr => wr = w ∧ ∃ (z i : Nat), g = n - i ∧ i ≤ n ∧ z ≤ 1048576 ∧ v7 = .int .i64 (z : Int) ∧ v8 = .int .i64 (i : Int))
    case atStart => exact ⟨rfl, n, 0, by omega, by omega, by omega, by go_num, by go_num⟩
    case round =>
      obtain ⟨hw, z, i, hg, hi, hz, rfl, rfl⟩ := hrel
      have hw' := hw.symm
      subst hw'
      have HG : Hid (gk = n - i) := hg
      clear hw hg hn
      by_cases hlt : i < n
      · have hlt' : (i : Int) < (n : Int) := by omega
        obtain ⟨p, rfl⟩ := HV.out.ptr (by omega)
        have hfi : i < fs.length := by have := HV.out.len; omega
        obtain ⟨c0, c1⟩ := HV.out.at' p rfl i hfi
        generalize fs[i].1 = x at *
        generalize fs[i].2 = y at *
        go_wp2_with fail
        all_goals first
          | (go_roundg (n - (i + 1))
             case measure => rw [HG.out]; omega
             case rel => exact ⟨rfl, z + x.size + y.size, i + 1, rfl, by omega, by omega, by go_num, by go_num⟩)
          | (go_ret
             exact ⟨⟨_, rfl⟩, rfl⟩)
      · have hlt' : ¬ ((i : Int) < (n : Int)) := by omega
        go_wp2_with fail
        all_goals (go_ret; exact ⟨⟨_, rfl⟩, rfl⟩)

/-- What the bound on the fields says. -/
def tot (fs : List FB) : Nat := (fs.map fun f => 32 + f.1.size + f.2.size).sum
theorem tot_take (fs : List FB) (i : Nat) (h : i < fs.length) : tot (fs.take (i + 1)) = tot (fs.take i) + (32 + fs[i].1.size + fs[i].2.size) := by
  unfold tot
  rw [List.take_succ_eq_append_getElem h, List.map_append, List.sum_append, List.map_cons, List.map_nil, List.sum_cons, List.sum_nil, Nat.add_zero]
def Ov (fs : List FB) (e : Ending) : Prop := ∃ r, e = .returned (.bool r) ∧ (r = false → tot fs ≤ 1048576)
set_option maxHeartbeats 1000000 in
theorem zzOver_any (q : Option Addr) (n c : Nat) (fs : List FB) (b : Nat) (hb : b ≤ 2147483648) (w : World) (h : NVV w q n c fs) :
    Calls Tryd.prog 8 #[.slice q n c, .int .i64 (b : Int)] w fun e w' => Ov fs e ∧ Below w.heap.size w w' := by
  have HV : Hid (NVV w q n c fs) := h
  clear h
  by_cases hb2 : (1048576 : Int) < (b : Int)
  · go_enter Tryd.func8, Tryd.ntmps8
    go_wp2_with fail
    go_ret
    exact ⟨⟨_, rfl, fun h => by cases h⟩, Below.refl _ _⟩
  by_cases hn : (1048576 : Int) < (n : Int)
  · go_enter Tryd.func8, Tryd.ntmps8
    go_wp2_with fail
    go_ret
    exact ⟨⟨_, rfl, fun h => by cases h⟩, Below.refl _ _⟩
  · have hn2 : n ≤ 1048576 := by omega
    go_enter Tryd.func8, Tryd.ntmps8
    go_wp2_with fail
    go_loopg [5, 6] n (fun g v5 v6 wr => Hid (Below w.heap.size w wr) ∧ ∃ (z i : Nat), g = n - i ∧ i ≤ n ∧ z ≤ 1048576 ∧ v5 = .int .i64 (z : Int) ∧ v6 = .int .i64 (i : Int) ∧ Hid (tot (fs.take i) ≤ z))
    case atStart => exact ⟨Below.refl _ _, b, 0, by omega, by omega, by omega, by go_num, by go_num, Nat.zero_le _⟩
    case round =>
      obtain ⟨HB, z, i, hg, hi, hz, rfl, rfl, HT⟩ := hrel
      have HG : Hid (gk = n - i) := hg
      clear hg hn hb2 hb
      by_cases hlt : i < n
      · have hlt' : (i : Int) < (n : Int) := by omega
        obtain ⟨p, rfl⟩ := HV.out.ptr (by omega)
        have hfi : i < fs.length := by have := HV.out.len; omega
        have HT2 : Hid (tot (fs.take (i + 1)) ≤ z + (32 + fs[i].1.size + fs[i].2.size)) := by show _ ≤ _; rw [tot_take fs i hfi]; have := HT.out; omega
        obtain ⟨c0, c1⟩ := (HV.out.below HB.out).at' p rfl i hfi
        generalize fs[i].1 = x at *
        generalize fs[i].2 = y at *
        by_cases hx : (1048576 : Int) < (x.size : Int)
        · go_wp2_with fail
          go_ret
          exact ⟨⟨_, rfl, fun h => by cases h⟩, HB.out⟩
        by_cases hy : (1048576 : Int) < (y.size : Int)
        · go_wp2_with fail
          go_ret
          exact ⟨⟨_, rfl, fun h => by cases h⟩, HB.out⟩
        by_cases hs : (1048576 : Int) < ((z + (32 + x.size + y.size) : Nat) : Int)
        · have hs2 : (1048576 : Int) < (z : Int) + (32 + (x.size : Int) + (y.size : Int)) := by omega
          go_wp2_with fail
          go_quiet (fail)
          go_wp2_with fail
          go_ret
          exact ⟨⟨_, rfl, fun h => by cases h⟩, bdN HB.out _⟩
        · have hs2 : ¬ ((1048576 : Int) < (z : Int) + (32 + (x.size : Int) + (y.size : Int))) := by omega
          go_wp2_with fail
          go_quiet (fail)
          go_wp2_with fail
          go_roundg (n - (i + 1))
          case measure => rw [HG.out]; omega
          case rel => exact ⟨bdN HB.out _, z + (32 + x.size + y.size), i + 1, rfl, by omega, by omega, by go_num, by go_num, HT2.out⟩
      · have hlt' : ¬ ((i : Int) < (n : Int)) := by omega
        go_wp2_with fail
        go_ret
        refine ⟨⟨_, rfl, fun _ => ?_⟩, HB.out⟩
        have h1 := HT.out
        rw [List.take_of_length_le (by have := HV.out.len; omega)] at h1
        omega
end Go.Proofs.Qxb6616805aDoor
