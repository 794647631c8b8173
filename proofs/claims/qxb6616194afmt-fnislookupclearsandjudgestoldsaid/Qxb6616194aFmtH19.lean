/- lookupMessage: the calls, the watches. -/
import Derived.Test.Qxb6616194aFmtH17
import Derived.Test.Qxb6616194aFmtH13
set_option linter.unusedVariables false
set_option linter.unusedSimpArgs false
set_option linter.unnecessarySimpa false
namespace Go.Proofs.Qxb6616194aFmt
open Go.RowKit Go.Deep

theorem clone_any (va : Option Addr) (n cap : Nat) (z : Nat → Int) (w : World) (hn : n ≤ 1048576) (h : ByAt w va n cap z) :
    Calls Tryf.prog 11 #[.slice va n cap] w fun e w' => e = .returned (.slice (va.map fun _ => ⟨w.heap.size, 0, none⟩) n n) ∧ ByAt w' (va.map fun _ => ⟨w.heap.size, 0, none⟩) n n z ∧ Below w.heap.size w w' := by
  cases va with
  | none =>
    obtain ⟨rfl, rfl⟩ := h.1 rfl
    refine (clone_nil w).mono fun e w' ⟨he, hw⟩ => ⟨he, ⟨fun _ => ⟨rfl, rfl⟩, fun p hp => ?_⟩, hw ▸ Below.refl _ _⟩
    cases hp
  | some a =>
    refine (clone_some a n cap z w hn (h.2 a rfl)).mono fun e w' ⟨he, hr, hb⟩ => ⟨he, ⟨fun e => ?_, fun p hp j hj => ?_⟩, hb⟩
    · cases e
    · cases hp
      rw [add0]; exact hr.cell hj

theorem PeAt.kept {w w' : World} {a : Addr} {n : Nat} {ad : Nat → ByteArray} {id : Nat → Nat → Int} (h : PeAt w a n ad id) (hk : ∀ q v, w.cell? q = some v → w'.cell? q = some v) : PeAt w' a n ad id :=
  ⟨h.1, fun i hi => ⟨hk _ _ (h.2 i hi).1, fun j hj => hk _ _ ((h.2 i hi).2 j hj)⟩⟩

theorem peers_any (pa : Option Addr) (n cap : Nat) (ad : Nat → ByteArray) (id : Nat → Nat → Int) (w : World) (hn : n ≤ 4096) (h0 : pa = none → n = 0 ∧ cap = 0) (h : ∀ p, pa = some p → PeAt w p n ad id) :
    Calls Tryf.prog 12 #[.slice pa n cap] w fun e w' => e = .returned (.slice (pa.map fun _ => ⟨w.heap.size, 0, none⟩) n n) ∧ Below w.heap.size w w' := by
  cases pa with
  | none =>
    obtain ⟨rfl, rfl⟩ := h0 rfl
    exact (peers_nil w).mono fun e w' ⟨he, hw⟩ => ⟨he, hw ▸ Below.refl _ _⟩
  | some a => exact peers_some a n cap ad id w hn (h a rfl)

/-- The cells of a watch. -/
def W36 (s : ByteArray) (p b x : Int) (y : Nat → Int) : Array Value := #[.string s, .int .u8 p, .int .i64 b, .int .u64 x] ++ A32 y
def w36 (s : ByteArray) (p b x : Int) (y : Nat → Int) (j : Nat) : Value := if j = 0 then .string s else if j = 1 then .int .u8 p else if j = 2 then .int .i64 b else if j = 3 then .int .u64 x else .int .u8 (y (j - 4))
theorem W36_size (s : ByteArray) (p b x : Int) (y : Nat → Int) : (W36 s p b x y).size = 36 := by simp [W36, A32_size]
theorem W36_get (s : ByteArray) (p b x : Int) (y : Nat → Int) (j : Nat) (hj : j < 36) : (W36 s p b x y)[j]? = some (w36 s p b x y j) := by
  unfold W36 w36
  by_cases h : j < 4
  · rw [Array.getElem?_append_left (by simp; omega)]
    match j, h with
    | 0, _ => rfl
    | 1, _ => rfl
    | 2, _ => rfl
    | 3, _ => rfl
  · rw [if_neg (by omega), if_neg (by omega), if_neg (by omega), if_neg (by omega), Array.getElem?_append_right (by simp; omega)]
    exact A32_get y (j - 4) (by omega)
theorem w36_one (s : ByteArray) (p b x : Int) (y : Nat → Int) (j : Nat) : (w36 s p b x y j).oneCell' = true := by
  unfold w36
  split
  · rfl
  · split
    · rfl
    · split
      · rfl
      · split <;> rfl
theorem loadAt45 (a : Addr) (s : ByteArray) (p b x : Int) (y : Nat → Int) (w : World) (h : ∀ j, j < 36 → w.cell? (a.add j) = some (w36 s p b x y j)) : (Instr.loadAt 45 (.pointer (some a))).run Tryf.prog w = .ok (.agg (W36 s p b x y)) w := by
  have := run_loadCells (P := Tryf.prog) w a 36 (w36 s p b x y) h
  unfold loadCells at this
  have e : ((List.range 36).map (w36 s p b x y)).toArray = W36 s p b x y := by
    apply Array.ext_getElem?
    intro j
    by_cases hj : j < 36
    · rw [W36_get s p b x y j hj]; simp [hj]
    · rw [Array.getElem?_eq_none (xs := W36 s p b x y) (by rw [W36_size]; omega), Array.getElem?_eq_none (by simp; omega)]
  simp only [Instr.loadAt, Instr.sureAddr, loadVar, Tryf.isAgg45, Tryf.sizeOf45, loadCells, Sem.run_bind, Sem.run_pure, Result.andThen_ok, if_true]
  rw [← e]
  simp only [this, Result.andThen_ok, Sem.run_pure]

theorem arg_kept {b : Nat} {w w3 wx : World} (hB : Below w.heap.size w w3) (hF : Fr b w3 wx) (hb : w.heap.size ≤ b) (q : Addr) (v : Value) (h : w.cell? q = some v) : wx.cell? q = some v :=
  hF.kept (by have := cell_lt h; omega) (below_kept hB (Nat.le_refl _) h)

/-- The message that is built, told by the arguments. -/
structure Msg (w : World) (b : Nat) (M : Nat → Value) (kd : Int) (fr : ByteArray) (qy sq bt px : Int) (org : ByteArray) (x : Nat → Int) (pu : Int) (ra ca : Option Addr) (n0 n4 : Nat) (pr : Nat → ByteArray) (lv lk : Nat → Int) (ps : Nat → Nat → Int) (nm : Nat → ByteArray)
    (va : Nat → Option Addr) (vn : Nat → Nat) (vz : Nat → Nat → Int) : Prop where
  row : w.rowIs b 57 48 M
  fix : Fix M kd fr qy org x pu
  m38 : M 38 = .int .u64 sq
  m42 : M 42 = .int .i64 bt
  m43 : M 43 = .int .u64 px
  route : ∃ ra' rc', M 37 = .slice ra' n0 rc' ∧ RtAt w ra' n0 rc' pr lv lk ∧ ra'.isNone = ra.isNone ∧ ∀ p, ra' = some p → p.block ≠ b
  copies : ∃ ca' cc' va', M 45 = .slice ca' n4 cc' ∧ CpAt w ca' n4 cc' ps nm va' vn vn vz ∧ ca'.isNone = ca.isNone ∧ (∀ i, i < n4 → (va' i).isNone = (va i).isNone ∧ ∀ p, va' i = some p → p.block ≠ b) ∧ ∀ p, ca' = some p → p.block ≠ b
  s41 : ∃ a n c, M 41 = .slice a n c ∧ (a = none → n = 0 ∧ c = 0)
  s44 : ∃ a n c, M 44 = .slice a n c ∧ (a = none → n = 0 ∧ c = 0)
  s46 : ∃ a n c, M 46 = .slice a n c ∧ (a = none → n = 0 ∧ c = 0)

theorem make55 : ∃ Z : Nat → Array Value, (∀ n, (Z n).size = n * 36) ∧ ∀ (n : Nat) (w : World), n ≤ 4096 → (Instr.makeSlice 55 (.int .i64 (n : Int)) (.int .i64 (n : Int))).run Tryf.prog w = .ok (.slice (some ⟨w.heap.size, 0, none⟩) n n) (w.alloc (.cells (Z n) 65)) :=
  make_rows 55 65 36 72 Tryf.underlying55 (by kernel_rfl) (by omega)

end Go.Proofs.Qxb6616194aFmt
