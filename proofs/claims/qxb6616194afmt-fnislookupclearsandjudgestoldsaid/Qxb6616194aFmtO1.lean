/- The arguments opened. -/
import Derived.Test.Qxb6616194aFmtH17
import Derived.ProofKit
import Derived.OpenShut
import Derived.WideKeyArgs
import Derived.Deep.Slices
set_option linter.unusedVariables false
set_option linter.unusedSimpArgs false
set_option linter.unnecessarySimpa false
namespace Go.Proofs.Qxb6616194aFmt
open Go.RowKit Go.Deep

theorem cells39 : Tryf.prog.cellsOf 39 = 3 := by kernel_rfl
theorem cells41 : Tryf.prog.cellsOf 41 = 34 := by kernel_rfl
theorem cells43 : Tryf.prog.cellsOf 43 = 33 := by kernel_rfl
theorem cells45 : Tryf.prog.cellsOf 45 = 36 := by kernel_rfl
theorem cells30 : Tryf.prog.cellsOf 30 = 6 := by kernel_rfl
theorem cells23 : Tryf.prog.cellsOf 23 = 32 := by kernel_rfl
theorem cells25 : Tryf.prog.cellsOf 25 = 1 := by kernel_rfl
theorem cells9 : Tryf.prog.cellsOf 9 = 1 := by kernel_rfl
theorem cells3 : Tryf.prog.cellsOf 3 = 1 := by kernel_rfl
theorem cells28 : Tryf.prog.cellsOf 28 = 1 := by kernel_rfl

section
variable {H : Type} {enc : TypeId × Value → H} {w : World} {base : Nat} {spare : Nat → Bool} {held : Bool} {fuel : Nat} {cs : List Value} {x : DataW H × List MemPlace}

theorem take1 (l : List Value) (i : Nat) {v : Value} (h : (l.drop i).take 1 = [v]) : l[i]? = some v := by
  have := congrArg (fun m => m[0]?) h
  simpa [List.getElem?_take, List.getElem?_drop] using this

theorem some_of_len {α : Type} {xs : List α} {n i : Nat} (h : xs.length = n) (hi : i < n) : ∃ y, xs[i]? = some y := ⟨xs[i]'(by omega), by simp [h, hi]⟩

/-- Thirty-two bytes. -/
theorem open23 (h : DataW.trod enc Tryf.prog w base spare held fuel 23 cs = some x) : ∃ y : Nat → Int, cs.length = 32 ∧ ∀ i, i < 32 → cs[i]? = some (.int .u8 (y i)) := by
  obtain ⟨xs, m, -, -, hl, hxl, hi⟩ := DataW.trod_array Tryf.underlying23 h
  rw [cells23] at hl
  obtain ⟨y, hy⟩ := choose_lt (α := Int) (n := 32) (p := fun i n => cs[i]? = some (.int .u8 n)) (fun i hlt => by
    have h1 := hi i hlt
    obtain ⟨z, hz⟩ := some_of_len hxl hlt
    rw [hz, cells5] at h1
    obtain ⟨n, h2, -⟩ := DataW.trod_int Tryf.underlying5 h1
    rw [Nat.mul_one] at h2
    exact ⟨n, take1 cs i h2⟩)
  exact ⟨y, hl, hy⟩

/-- A step. -/
theorem open39 (h : DataW.trod enc Tryf.prog w base spare held fuel 39 cs = some x) : ∃ (s : ByteArray) (a b : Int), cs[0]? = some (.string s) ∧ cs[1]? = some (.int .i64 a) ∧ cs[2]? = some (.int .i64 b) := by
  obtain ⟨xs, m, -, -, hl, hxl, hf⟩ := DataW.trod_struct Tryf.underlying39 h
  have hxl' : xs.length = 3 := hxl
  have f0 : DataW.trod enc Tryf.prog w base spare held m 9 ((cs.drop 0).take (Tryf.prog.cellsOf 9)) = xs[0]? := hf 0 _ rfl
  have f1 : DataW.trod enc Tryf.prog w base spare held m 3 ((cs.drop 1).take (Tryf.prog.cellsOf 3)) = xs[1]? := hf 1 _ rfl
  have f2 : DataW.trod enc Tryf.prog w base spare held m 3 ((cs.drop 2).take (Tryf.prog.cellsOf 3)) = xs[2]? := hf 2 _ rfl
  obtain ⟨z0, e0⟩ := some_of_len hxl' (show 0 < 3 by omega)
  obtain ⟨z1, e1⟩ := some_of_len hxl' (show 1 < 3 by omega)
  obtain ⟨z2, e2⟩ := some_of_len hxl' (show 2 < 3 by omega)
  rw [e0] at f0
  rw [e1] at f1
  rw [e2] at f2
  rw [cells9] at f0
  rw [cells3] at f1
  rw [cells3] at f2
  obtain ⟨s, g0, -⟩ := DataW.trod_string Tryf.underlying9 f0
  obtain ⟨a, g1, -⟩ := DataW.trod_int Tryf.underlying3 f1
  obtain ⟨b, g2, -⟩ := DataW.trod_int Tryf.underlying3 f2
  exact ⟨s, a, b, take1 _ _ g0, take1 _ _ g1, take1 _ _ g2⟩

/-- Bytes. -/
theorem open25 (h : DataW.trod enc Tryf.prog w base spare held fuel 25 cs = some x) : ∃ (a : Option Addr) (n c : Nat) (z : Nat → Int), cs = [.slice a n c] ∧ ByAt w a n c z := by
  rcases open_slice1 Tryf.underlying25 cells5 h with ⟨rfl, -⟩ | ⟨a, n, c, m, k, V, D, Pl, rfl, -, hnc, -, hm, -, hV⟩
  · exact ⟨none, 0, 0, fun _ => 0, rfl, ⟨fun _ => ⟨rfl, rfl⟩, fun p hp => by cases hp⟩⟩
  · have hle : n ≤ m := by rw [hm]; split <;> omega
    obtain ⟨z, hz⟩ := choose_lt (α := Int) (n := n) (p := fun i v => w.cell? (a.add i) = some (.int .u8 v)) (fun i hi => by
      obtain ⟨h1, h2⟩ := hV i (by omega)
      obtain ⟨v, h3, -⟩ := DataW.trod_int Tryf.underlying5 h2
      have e : V i = .int .u8 v := by simpa using h3
      exact ⟨v, by rw [h1, e]⟩)
    exact ⟨some a, n, c, z, rfl, ⟨fun h => (by cases h), fun p hp j hj => by cases hp; exact hz j hj⟩⟩

/-- A copy. -/
theorem open41 (h : DataW.trod enc Tryf.prog w base spare held fuel 41 cs = some x) :
    ∃ (y : Nat → Int) (s : ByteArray) (a : Option Addr) (n c : Nat) (z : Nat → Int), (∀ j, j < 32 → cs[j]? = some (.int .u8 (y j))) ∧ cs[32]? = some (.string s) ∧ cs[33]? = some (.slice a n c) ∧ ByAt w a n c z := by
  obtain ⟨xs, m, -, -, hl, hxl, hf⟩ := DataW.trod_struct Tryf.underlying41 h
  have hxl' : xs.length = 3 := hxl
  have f0 : DataW.trod enc Tryf.prog w base spare held m 23 ((cs.drop 0).take (Tryf.prog.cellsOf 23)) = xs[0]? := hf 0 _ rfl
  have f1 : DataW.trod enc Tryf.prog w base spare held m 9 ((cs.drop 32).take (Tryf.prog.cellsOf 9)) = xs[1]? := hf 1 _ rfl
  have f2 : DataW.trod enc Tryf.prog w base spare held m 25 ((cs.drop 33).take (Tryf.prog.cellsOf 25)) = xs[2]? := hf 2 _ rfl
  obtain ⟨z0, e0⟩ := some_of_len hxl' (show 0 < 3 by omega)
  obtain ⟨z1, e1⟩ := some_of_len hxl' (show 1 < 3 by omega)
  obtain ⟨z2, e2⟩ := some_of_len hxl' (show 2 < 3 by omega)
  rw [e0] at f0
  rw [e1] at f1
  rw [e2] at f2
  rw [cells23] at f0
  rw [cells9] at f1
  rw [cells25] at f2
  obtain ⟨y, -, hy⟩ := open23 f0
  obtain ⟨s, g1, -⟩ := DataW.trod_string Tryf.underlying9 f1
  obtain ⟨a, n, c, z, g2, hz⟩ := open25 f2
  refine ⟨y, s, a, n, c, z, fun j hj => ?_, take1 _ _ g1, take1 _ _ g2, hz⟩
  have := hy j hj
  simpa [List.getElem?_take, List.getElem?_drop, hj] using this

/-- A peer. -/
theorem open43 (h : DataW.trod enc Tryf.prog w base spare held fuel 43 cs = some x) : ∃ (s : ByteArray) (y : Nat → Int), cs[0]? = some (.string s) ∧ ∀ j, j < 32 → cs[1 + j]? = some (.int .u8 (y j)) := by
  obtain ⟨xs, m, -, -, hl, hxl, hf⟩ := DataW.trod_struct Tryf.underlying43 h
  have hxl' : xs.length = 2 := hxl
  have f0 : DataW.trod enc Tryf.prog w base spare held m 9 ((cs.drop 0).take (Tryf.prog.cellsOf 9)) = xs[0]? := hf 0 _ rfl
  have f1 : DataW.trod enc Tryf.prog w base spare held m 23 ((cs.drop 1).take (Tryf.prog.cellsOf 23)) = xs[1]? := hf 1 _ rfl
  obtain ⟨z0, e0⟩ := some_of_len hxl' (show 0 < 2 by omega)
  obtain ⟨z1, e1⟩ := some_of_len hxl' (show 1 < 2 by omega)
  rw [e0] at f0
  rw [e1] at f1
  rw [cells9] at f0
  rw [cells23] at f1
  obtain ⟨s, g0, -⟩ := DataW.trod_string Tryf.underlying9 f0
  obtain ⟨y, -, hy⟩ := open23 f1
  refine ⟨s, y, take1 _ _ g0, fun j hj => ?_⟩
  have := hy j hj
  rw [Nat.add_comm 1 j]
  simpa [List.getElem?_take, List.getElem?_drop, hj] using this

/-- A watch. -/
theorem open45 (h : DataW.trod enc Tryf.prog w base spare held fuel 45 cs = some x) :
    ∃ (s : ByteArray) (p b q : Int) (y : Nat → Int), cs[0]? = some (.string s) ∧ cs[1]? = some (.int .u8 p) ∧ cs[2]? = some (.int .i64 b) ∧ cs[3]? = some (.int .u64 q) ∧ ∀ j, j < 32 → cs[4 + j]? = some (.int .u8 (y j)) := by
  obtain ⟨xs, m, -, -, hl, hxl, hf⟩ := DataW.trod_struct Tryf.underlying45 h
  have hxl' : xs.length = 5 := hxl
  have f0 : DataW.trod enc Tryf.prog w base spare held m 9 ((cs.drop 0).take (Tryf.prog.cellsOf 9)) = xs[0]? := hf 0 _ rfl
  have f1 : DataW.trod enc Tryf.prog w base spare held m 5 ((cs.drop 1).take (Tryf.prog.cellsOf 5)) = xs[1]? := hf 1 _ rfl
  have f2 : DataW.trod enc Tryf.prog w base spare held m 3 ((cs.drop 2).take (Tryf.prog.cellsOf 3)) = xs[2]? := hf 2 _ rfl
  have f3 : DataW.trod enc Tryf.prog w base spare held m 28 ((cs.drop 3).take (Tryf.prog.cellsOf 28)) = xs[3]? := hf 3 _ rfl
  have f4 : DataW.trod enc Tryf.prog w base spare held m 23 ((cs.drop 4).take (Tryf.prog.cellsOf 23)) = xs[4]? := hf 4 _ rfl
  obtain ⟨z0, e0⟩ := some_of_len hxl' (show 0 < 5 by omega)
  obtain ⟨z1, e1⟩ := some_of_len hxl' (show 1 < 5 by omega)
  obtain ⟨z2, e2⟩ := some_of_len hxl' (show 2 < 5 by omega)
  obtain ⟨z3, e3⟩ := some_of_len hxl' (show 3 < 5 by omega)
  obtain ⟨z4, e4⟩ := some_of_len hxl' (show 4 < 5 by omega)
  rw [e0] at f0
  rw [e1] at f1
  rw [e2] at f2
  rw [e3] at f3
  rw [e4] at f4
  rw [cells9] at f0
  rw [cells5] at f1
  rw [cells3] at f2
  rw [cells28] at f3
  rw [cells23] at f4
  obtain ⟨s, g0, -⟩ := DataW.trod_string Tryf.underlying9 f0
  obtain ⟨p, g1, -⟩ := DataW.trod_int Tryf.underlying5 f1
  obtain ⟨b, g2, -⟩ := DataW.trod_int Tryf.underlying3 f2
  obtain ⟨q, g3, -⟩ := DataW.trod_int Tryf.underlying28 f3
  obtain ⟨y, -, hy⟩ := open23 f4
  refine ⟨s, p, b, q, y, take1 _ _ g0, take1 _ _ g1, take1 _ _ g2, take1 _ _ g3, fun j hj => ?_⟩
  have := hy j hj
  simpa [List.getElem?_take, List.getElem?_drop, hj] using this

/-- The rest. -/
theorem open30 (h : DataW.trod enc Tryf.prog w base spare held fuel 30 cs = some x) :
    ∃ (kd : Int) (fr : ByteArray) (qy sq bt px : Int), cs = [.int .u8 kd, .string fr, .int .u64 qy, .int .u64 sq, .int .i64 bt, .int .u64 px] := by
  obtain ⟨xs, m, -, -, hl, hxl, hf⟩ := DataW.trod_struct Tryf.underlying30 h
  rw [cells30] at hl
  have hxl' : xs.length = 6 := hxl
  have f0 : DataW.trod enc Tryf.prog w base spare held m 5 ((cs.drop 0).take (Tryf.prog.cellsOf 5)) = xs[0]? := hf 0 _ rfl
  have f1 : DataW.trod enc Tryf.prog w base spare held m 9 ((cs.drop 1).take (Tryf.prog.cellsOf 9)) = xs[1]? := hf 1 _ rfl
  have f2 : DataW.trod enc Tryf.prog w base spare held m 28 ((cs.drop 2).take (Tryf.prog.cellsOf 28)) = xs[2]? := hf 2 _ rfl
  have f3 : DataW.trod enc Tryf.prog w base spare held m 28 ((cs.drop 3).take (Tryf.prog.cellsOf 28)) = xs[3]? := hf 3 _ rfl
  have f4 : DataW.trod enc Tryf.prog w base spare held m 3 ((cs.drop 4).take (Tryf.prog.cellsOf 3)) = xs[4]? := hf 4 _ rfl
  have f5 : DataW.trod enc Tryf.prog w base spare held m 28 ((cs.drop 5).take (Tryf.prog.cellsOf 28)) = xs[5]? := hf 5 _ rfl
  obtain ⟨z0, e0⟩ := some_of_len hxl' (show 0 < 6 by omega)
  obtain ⟨z1, e1⟩ := some_of_len hxl' (show 1 < 6 by omega)
  obtain ⟨z2, e2⟩ := some_of_len hxl' (show 2 < 6 by omega)
  obtain ⟨z3, e3⟩ := some_of_len hxl' (show 3 < 6 by omega)
  obtain ⟨z4, e4⟩ := some_of_len hxl' (show 4 < 6 by omega)
  obtain ⟨z5, e5⟩ := some_of_len hxl' (show 5 < 6 by omega)
  rw [e0] at f0
  rw [e1] at f1
  rw [e2] at f2
  rw [e3] at f3
  rw [e4] at f4
  rw [e5] at f5
  rw [cells5] at f0
  rw [cells9] at f1
  rw [cells28] at f2
  rw [cells28] at f3
  rw [cells3] at f4
  rw [cells28] at f5
  obtain ⟨kd, g0, -⟩ := DataW.trod_int Tryf.underlying5 f0
  obtain ⟨fr, g1, -⟩ := DataW.trod_string Tryf.underlying9 f1
  obtain ⟨qy, g2, -⟩ := DataW.trod_int Tryf.underlying28 f2
  obtain ⟨sq, g3, -⟩ := DataW.trod_int Tryf.underlying28 f3
  obtain ⟨bt, g4, -⟩ := DataW.trod_int Tryf.underlying3 f4
  obtain ⟨px, g5, -⟩ := DataW.trod_int Tryf.underlying28 f5
  have k0 := take1 _ _ g0
  have k1 := take1 _ _ g1
  have k2 := take1 _ _ g2
  have k3 := take1 _ _ g3
  have k4 := take1 _ _ g4
  have k5 := take1 _ _ g5
  refine ⟨kd, fr, qy, sq, bt, px, ?_⟩
  match cs, hl with
  | [c0, c1, c2, c3, c4, c5], _ =>
    simp only [List.getElem?_cons_zero, List.getElem?_cons_succ, Option.some.injEq] at k0 k1 k2 k3 k4 k5
    rw [k0, k1, k2, k3, k4, k5]

theorem cell_norm {a : Addr} {v : Value} (h : w.cell? a = some v) : w.cell? ⟨a.block, a.off, none⟩ = some v := by
  have := World.cell?_spot h
  cases a with
  | mk b o s => cases this; exact h

/-- Cell j of element i. -/
theorem elem_cell {a : Addr} {i n j : Nat} {cs : List Value} {v : Value} (h : w.cells? base (a.add (i * n)) n = some cs) (hj : j < n) (hv : cs[j]? = some v) : w.cell? ⟨a.block, a.off + (i * n + j), none⟩ = some v := by
  have := (World.cells?_some h).2.2 j hj
  rw [hv] at this
  have h2 := cell_norm this
  rwa [add_block, add_block, add_off, add_off, Nat.add_assoc] at h2
theorem elem_spot {a : Addr} {n : Nat} {cs : List Value} {v : Value} (h : w.cells? base (a.add (0 * n)) n = some cs) (hn : 0 < n) (hv : cs[0]? = some v) : a.spot = none := by
  have := (World.cells?_some h).2.2 0 hn
  rw [hv, Nat.zero_mul] at this
  have h2 := World.cell?_spot this
  simpa [Addr.add] using h2

theorem open22 (h : DataW.trod enc Tryf.prog w base spare held fuel 22 cs = some x) : ∃ (a : Option Addr) (n c : Nat) (pr : Nat → ByteArray) (lv lk : Nat → Int), cs = [.slice a n c] ∧ RtAt w a n c pr lv lk := by
  rcases open_slice Tryf.underlying22 h with ⟨rfl, -⟩ | ⟨a, n, c, m, k, D, Pl, rfl, -, hnc, -, hm, -, hV⟩
  · exact ⟨none, 0, 0, fun _ => default, fun _ => 0, fun _ => 0, rfl, ⟨fun _ => ⟨rfl, rfl⟩, fun p hp => by cases hp⟩⟩
  · have hle : n ≤ m := by rw [hm]; split <;> omega
    rw [cells39] at hV
    obtain ⟨t, ht⟩ := choose_lt (α := ByteArray × Int × Int) (n := n) (p := fun i t => (i = 0 → a.spot = none) ∧ w.cell? ⟨a.block, a.off + i * 3, none⟩ = some (.string t.1) ∧ w.cell? ⟨a.block, a.off + (i * 3 + 1), none⟩ = some (.int .i64 t.2.1) ∧ w.cell? ⟨a.block, a.off + (i * 3 + 2), none⟩ = some (.int .i64 t.2.2)) (fun i hi => by
      obtain ⟨cs', h1, h2⟩ := hV i (by omega)
      obtain ⟨s, p, q, k0, k1, k2⟩ := open39 h2
      exact ⟨(s, p, q), fun h0 => by subst h0; exact elem_spot (n := 3) h1 (by omega) k0, (by have := elem_cell (n := 3) (j := 0) h1 (by omega) k0; rwa [Nat.add_zero] at this), elem_cell (n := 3) h1 (by omega) k1, elem_cell (n := 3) h1 (by omega) k2⟩)
    exact ⟨some a, n, c, fun i => (t i).1, fun i => (t i).2.1, fun i => (t i).2.2, rfl, ⟨fun h => (by cases h), fun p hp => by cases hp; exact ⟨fun h0 => (ht 0 h0).1 rfl, fun i hi => (ht i hi).2⟩⟩⟩

theorem open24 (h : DataW.trod enc Tryf.prog w base spare held fuel 24 cs = some x) : ∃ (a : Option Addr) (n c : Nat) (ps : Nat → Nat → Int) (nm : Nat → ByteArray) (va : Nat → Option Addr) (vn vc : Nat → Nat) (vz : Nat → Nat → Int), cs = [.slice a n c] ∧ CpAt w a n c ps nm va vn vc vz := by
  rcases open_slice Tryf.underlying24 h with ⟨rfl, -⟩ | ⟨a, n, c, m, k, D, Pl, rfl, -, hnc, -, hm, -, hV⟩
  · exact ⟨none, 0, 0, fun _ _ => 0, fun _ => default, fun _ => none, fun _ => 0, fun _ => 0, fun _ _ => 0, rfl, ⟨fun _ => ⟨rfl, rfl⟩, fun p hp => by cases hp⟩⟩
  · have hle : n ≤ m := by rw [hm]; split <;> omega
    rw [cells41] at hV
    obtain ⟨t, ht⟩ := choose_lt (α := (Nat → Int) × ByteArray × Option Addr × Nat × Nat × (Nat → Int)) (n := n) (p := fun i t => (i = 0 → a.spot = none) ∧ (∀ j, j < 32 → w.cell? ⟨a.block, a.off + (i * 34 + j), none⟩ = some (.int .u8 (t.1 j))) ∧ w.cell? ⟨a.block, a.off + (i * 34 + 32), none⟩ = some (.string t.2.1) ∧
        w.cell? ⟨a.block, a.off + (i * 34 + 33), none⟩ = some (.slice t.2.2.1 t.2.2.2.1 t.2.2.2.2.1) ∧ ByAt w t.2.2.1 t.2.2.2.1 t.2.2.2.2.1 t.2.2.2.2.2) (fun i hi => by
      obtain ⟨cs', h1, h2⟩ := hV i (by omega)
      obtain ⟨y, s, va, vn, vc, z, k0, k1, k2, k3⟩ := open41 h2
      exact ⟨(y, s, va, vn, vc, z), fun h0 => by subst h0; exact elem_spot (n := 34) h1 (by omega) (k0 0 (by omega)), fun j hj => elem_cell (n := 34) h1 (by omega) (k0 j hj), elem_cell (n := 34) h1 (by omega) k1, elem_cell (n := 34) h1 (by omega) k2, k3⟩)
    exact ⟨some a, n, c, fun i => (t i).1, fun i => (t i).2.1, fun i => (t i).2.2.1, fun i => (t i).2.2.2.1, fun i => (t i).2.2.2.2.1, fun i => (t i).2.2.2.2.2, rfl, ⟨fun h => (by cases h), fun p hp => by cases hp; exact ⟨fun h0 => (ht 0 h0).1 rfl, fun i hi => (ht i hi).2⟩⟩⟩

theorem open26 (h : DataW.trod enc Tryf.prog w base spare held fuel 26 cs = some x) : ∃ (a : Option Addr) (n c : Nat) (ad : Nat → ByteArray) (id : Nat → Nat → Int), cs = [.slice a n c] ∧ (a = none → n = 0 ∧ c = 0) ∧ ∀ p, a = some p → PeAt w p n ad id := by
  rcases open_slice Tryf.underlying26 h with ⟨rfl, -⟩ | ⟨a, n, c, m, k, D, Pl, rfl, -, hnc, -, hm, -, hV⟩
  · exact ⟨none, 0, 0, fun _ => default, fun _ _ => 0, rfl, fun _ => ⟨rfl, rfl⟩, fun p hp => by cases hp⟩
  · have hle : n ≤ m := by rw [hm]; split <;> omega
    rw [cells43] at hV
    obtain ⟨t, ht⟩ := choose_lt (α := ByteArray × (Nat → Int)) (n := n) (p := fun i t => (i = 0 → a.spot = none) ∧ w.cell? ⟨a.block, a.off + i * 33, none⟩ = some (.string t.1) ∧ ∀ j, j < 32 → w.cell? ⟨a.block, a.off + (i * 33 + (1 + j)), none⟩ = some (.int .u8 (t.2 j))) (fun i hi => by
      obtain ⟨cs', h1, h2⟩ := hV i (by omega)
      obtain ⟨s, y, k0, k1⟩ := open43 h2
      exact ⟨(s, y), fun h0 => by subst h0; exact elem_spot (n := 33) h1 (by omega) k0, (by have := elem_cell (n := 33) (j := 0) h1 (by omega) k0; rwa [Nat.add_zero] at this), fun j hj => elem_cell (n := 33) h1 (by omega) (k1 j hj)⟩)
    exact ⟨some a, n, c, fun i => (t i).1, fun i => (t i).2, rfl, fun h => (by cases h), fun p hp => by cases hp; exact ⟨fun h0 => (ht 0 h0).1 rfl, fun i hi => (ht i hi).2⟩⟩

theorem open27 (h : DataW.trod enc Tryf.prog w base spare held fuel 27 cs = some x) : ∃ (a : Option Addr) (n c : Nat) (wt : Nat → ByteArray) (wp wb wx : Nat → Int) (pt : Nat → Nat → Int), cs = [.slice a n c] ∧ WaAt w a n c wt wp wb wx pt := by
  rcases open_slice Tryf.underlying27 h with ⟨rfl, -⟩ | ⟨a, n, c, m, k, D, Pl, rfl, -, hnc, -, hm, -, hV⟩
  · exact ⟨none, 0, 0, fun _ => default, fun _ => 0, fun _ => 0, fun _ => 0, fun _ _ => 0, rfl, ⟨fun _ => ⟨rfl, rfl⟩, fun p hp => by cases hp⟩⟩
  · have hle : n ≤ m := by rw [hm]; split <;> omega
    rw [cells45] at hV
    obtain ⟨t, ht⟩ := choose_lt (α := ByteArray × Int × Int × Int × (Nat → Int)) (n := n) (p := fun i t => (i = 0 → a.spot = none) ∧ w.cell? ⟨a.block, a.off + i * 36, none⟩ = some (.string t.1) ∧ w.cell? ⟨a.block, a.off + (i * 36 + 1), none⟩ = some (.int .u8 t.2.1) ∧ w.cell? ⟨a.block, a.off + (i * 36 + 2), none⟩ = some (.int .i64 t.2.2.1) ∧
        w.cell? ⟨a.block, a.off + (i * 36 + 3), none⟩ = some (.int .u64 t.2.2.2.1) ∧ ∀ j, j < 32 → w.cell? ⟨a.block, a.off + (i * 36 + (4 + j)), none⟩ = some (.int .u8 (t.2.2.2.2 j))) (fun i hi => by
      obtain ⟨cs', h1, h2⟩ := hV i (by omega)
      obtain ⟨s, p, b, q, y, k0, k1, k2, k3, k4⟩ := open45 h2
      exact ⟨(s, p, b, q, y), fun h0 => by subst h0; exact elem_spot (n := 36) h1 (by omega) k0, (by have := elem_cell (n := 36) (j := 0) h1 (by omega) k0; rwa [Nat.add_zero] at this), elem_cell (n := 36) h1 (by omega) k1, elem_cell (n := 36) h1 (by omega) k2, elem_cell (n := 36) h1 (by omega) k3, fun j hj => elem_cell (n := 36) h1 (by omega) (k4 j hj)⟩)
    exact ⟨some a, n, c, fun i => (t i).1, fun i => (t i).2.1, fun i => (t i).2.2.1, fun i => (t i).2.2.2.1, fun i => (t i).2.2.2.2, rfl, ⟨fun h => (by cases h), fun p hp => by cases hp; exact ⟨fun h0 => (ht 0 h0).1 rfl, fun i hi => (ht i hi).2⟩⟩⟩

end
end Go.Proofs.Qxb6616194aFmt
