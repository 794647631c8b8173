/- lookupMessage: its data. -/
import Derived.Test.Qxb6616194aFmtH16
import Derived.Test.Qxb6616194aFmtH14
set_option linter.unusedVariables false
set_option linter.unusedSimpArgs false
set_option linter.unnecessarySimpa false
namespace Go.Proofs.Qxb6616194aFmt
open Go.RowKit Go.Deep

/-- A route: three cells a step. -/
def RtAt (w : World) (a : Option Addr) (n cap : Nat) (pr : Nat → ByteArray) (lv lk : Nat → Int) : Prop :=
  (a = none → n = 0 ∧ cap = 0) ∧ ∀ p, a = some p → (0 < n → p.spot = none) ∧ ∀ i, i < n →
    w.cell? ⟨p.block, p.off + i * 3, none⟩ = some (.string (pr i)) ∧ w.cell? ⟨p.block, p.off + (i * 3 + 1), none⟩ = some (.int .i64 (lv i)) ∧ w.cell? ⟨p.block, p.off + (i * 3 + 2), none⟩ = some (.int .i64 (lk i))
/-- Bytes. -/
def ByAt (w : World) (a : Option Addr) (n cap : Nat) (z : Nat → Int) : Prop :=
  (a = none → n = 0 ∧ cap = 0) ∧ ∀ p, a = some p → ∀ j, j < n → w.cell? (p.add j) = some (.int .u8 (z j))
/-- Copies: thirty-four cells each. -/
def CpAt (w : World) (a : Option Addr) (n cap : Nat) (ps : Nat → Nat → Int) (nm : Nat → ByteArray) (va : Nat → Option Addr) (vn vc : Nat → Nat) (vz : Nat → Nat → Int) : Prop :=
  (a = none → n = 0 ∧ cap = 0) ∧ ∀ p, a = some p → (0 < n → p.spot = none) ∧ ∀ i, i < n →
    (∀ j, j < 32 → w.cell? ⟨p.block, p.off + (i * 34 + j), none⟩ = some (.int .u8 (ps i j))) ∧ w.cell? ⟨p.block, p.off + (i * 34 + 32), none⟩ = some (.string (nm i)) ∧
    w.cell? ⟨p.block, p.off + (i * 34 + 33), none⟩ = some (.slice (va i) (vn i) (vc i)) ∧ ByAt w (va i) (vn i) (vc i) (vz i)
/-- Watches: thirty-six cells each. -/
def WaAt (w : World) (a : Option Addr) (n cap : Nat) (wt : Nat → ByteArray) (wp wb wx : Nat → Int) (pt : Nat → Nat → Int) : Prop :=
  (a = none → n = 0 ∧ cap = 0) ∧ ∀ p, a = some p → (0 < n → p.spot = none) ∧ ∀ i, i < n →
    w.cell? ⟨p.block, p.off + i * 36, none⟩ = some (.string (wt i)) ∧ w.cell? ⟨p.block, p.off + (i * 36 + 1), none⟩ = some (.int .u8 (wp i)) ∧ w.cell? ⟨p.block, p.off + (i * 36 + 2), none⟩ = some (.int .i64 (wb i)) ∧
    w.cell? ⟨p.block, p.off + (i * 36 + 3), none⟩ = some (.int .u64 (wx i)) ∧ ∀ j, j < 32 → w.cell? ⟨p.block, p.off + (i * 36 + (4 + j)), none⟩ = some (.int .u8 (pt i j))

theorem RtAt.kept {w w' : World} {a : Option Addr} {n cap : Nat} {pr : Nat → ByteArray} {lv lk : Nat → Int} (h : RtAt w a n cap pr lv lk) (hk : ∀ q v, a.map (·.block) = some q.block → w.cell? q = some v → w'.cell? q = some v) : RtAt w' a n cap pr lv lk :=
  ⟨h.1, fun p hp => ⟨(h.2 p hp).1, fun i hi => by
    obtain ⟨h1, h2, h3⟩ := (h.2 p hp).2 i hi
    subst hp
    exact ⟨hk _ _ rfl h1, hk _ _ rfl h2, hk _ _ rfl h3⟩⟩⟩
theorem ByAt.kept {w w' : World} {a : Option Addr} {n cap : Nat} {z : Nat → Int} (h : ByAt w a n cap z) (hk : ∀ q v, a.map (·.block) = some q.block → w.cell? q = some v → w'.cell? q = some v) : ByAt w' a n cap z :=
  ⟨h.1, fun p hp j hj => by
    subst hp
    exact hk _ _ (by simp [add_block]) (h.2 p rfl j hj)⟩
theorem CpAt.kept {w w' : World} {a : Option Addr} {n cap : Nat} {ps : Nat → Nat → Int} {nm : Nat → ByteArray} {va : Nat → Option Addr} {vn vc : Nat → Nat} {vz : Nat → Nat → Int} (h : CpAt w a n cap ps nm va vn vc vz)
    (hk : ∀ q v, a.map (·.block) = some q.block → w.cell? q = some v → w'.cell? q = some v) (hv : ∀ i, i < n → ∀ q v, (va i).map (·.block) = some q.block → w.cell? q = some v → w'.cell? q = some v) : CpAt w' a n cap ps nm va vn vc vz :=
  ⟨h.1, fun p hp => ⟨(h.2 p hp).1, fun i hi => by
    obtain ⟨h1, h2, h3, h4⟩ := (h.2 p hp).2 i hi
    subst hp
    exact ⟨fun j hj => hk _ _ rfl (h1 j hj), hk _ _ rfl h2, hk _ _ rfl h3, h4.kept (hv i hi)⟩⟩⟩
theorem WaAt.kept {w w' : World} {a : Option Addr} {n cap : Nat} {wt : Nat → ByteArray} {wp wb wx : Nat → Int} {pt : Nat → Nat → Int} (h : WaAt w a n cap wt wp wb wx pt) (hk : ∀ q v, w.cell? q = some v → w'.cell? q = some v) : WaAt w' a n cap wt wp wb wx pt :=
  ⟨h.1, fun p hp => ⟨(h.2 p hp).1, fun i hi => by
    obtain ⟨h1, h2, h3, h4, h5⟩ := (h.2 p hp).2 i hi
    exact ⟨hk _ _ h1, hk _ _ h2, hk _ _ h3, hk _ _ h4, fun j hj => hk _ _ (h5 j hj)⟩⟩⟩

/-- The fields that are laid first. -/
def Fix (M : Nat → Value) (kd : Int) (fr : ByteArray) (qy : Int) (org : ByteArray) (x : Nat → Int) (pu : Int) : Prop :=
  M 0 = .int .u8 kd ∧ M 1 = .string fr ∧ M 2 = .int .u64 qy ∧ M 3 = .string org ∧ (∀ i, i < 32 → M (4 + i) = .int .u8 (x i)) ∧ M 36 = .int .u8 pu
theorem Fix.set {M : Nat → Value} {kd : Int} {fr : ByteArray} {qy : Int} {org : ByteArray} {x : Nat → Int} {pu : Int} (h : Fix M kd fr qy org x pu) (i : Nat) (v : Value) (hi : 36 < i) : Fix (fun j => if j = i then v else M j) kd fr qy org x pu := by
  obtain ⟨h0, h1, h2, h3, h4, h5⟩ := h
  refine ⟨?_, ?_, ?_, ?_, fun j hj => ?_, ?_⟩
  · simp only []; rw [if_neg (by omega)]; exact h0
  · simp only []; rw [if_neg (by omega)]; exact h1
  · simp only []; rw [if_neg (by omega)]; exact h2
  · simp only []; rw [if_neg (by omega)]; exact h3
  · simp only []; rw [if_neg (by omega)]; exact h4 j hj
  · simp only []; rw [if_neg (by omega)]; exact h5

end Go.Proofs.Qxb6616194aFmt
