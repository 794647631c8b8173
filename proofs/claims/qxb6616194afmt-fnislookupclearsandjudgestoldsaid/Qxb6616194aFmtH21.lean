/- lookupMessage: the message at the end. -/
import Derived.Test.Qxb6616194aFmtH20
set_option linter.unusedVariables false
set_option linter.unusedSimpArgs false
set_option linter.unnecessarySimpa false
namespace Go.Proofs.Qxb6616194aFmt
open Go.RowKit Go.Deep

theorem msg_final {wo wc : World} {b : Nat} {M2 M3 M4 : Nat → Value} {kd : Int} {fr : ByteArray} {qy sq bt px : Int} {org : ByteArray} {x : Nat → Int} {pu : Int} {ra ca : Option Addr} {n0 n4 : Nat} {pr : Nat → ByteArray} {lv lk : Nat → Int} {ps : Nat → Nat → Int} {nm : Nat → ByteArray}
    {va : Nat → Option Addr} {vn : Nat → Nat} {vz : Nat → Nat → Int} {ra1 ca3 v8 v9 v10 : Option Addr} {rc1 cc3 n8 n9 m10 k10 : Nat} {va3 : Nat → Option Addr} (pts : Int)
    (HX2 : Fix M2 kd fr qy org x pu ∧ M2 38 = .int .u64 sq ∧ M2 42 = .int .i64 bt ∧ M2 43 = .int .u64 px ∧ M2 37 = .slice ra1 n0 rc1 ∧ M2 45 = .slice none 0 0 ∧ M2 46 = .slice none 0 0 ∧ M2 41 = .slice v8 n8 n8 ∧ M2 44 = .slice v9 n9 n9)
    (HX3 : (∀ j, j ≠ 45 → M3 j = M2 j) ∧ M3 45 = .slice ca3 n4 cc3 ∧ CpAt wo ca3 n4 cc3 ps nm va3 vn vn vz ∧ ca3.isNone = ca.isNone ∧ (∀ i, i < n4 → (va3 i).isNone = (va i).isNone ∧ ∀ p, va3 i = some p → p.block ≠ b) ∧ ∀ p, ca3 = some p → p.block ≠ b)
    (HRo3 : RtAt wo ra1 n0 rc1 pr lv lk) (HX1 : ra1.isNone = ra.isNone ∧ ∀ p, ra1 = some p → p.block ≠ b) (HF : Fr b wo wc)
    (HY : wc.rowIs b 57 48 M4 ∧ (∀ j, j ≠ 46 → M4 j = M3 j) ∧ M4 46 = .slice v10 m10 k10 ∧ (v10 = none → m10 = 0 ∧ k10 = 0)) (HV8 : v8 = none → n8 = 0 ∧ n8 = 0) (HV9 : v9 = none → n9 = 0 ∧ n9 = 0) :
    Msg (wc.setCell ⟨b, 47, none⟩ (.int .i64 pts)) b (fun j => if j = 47 then .int .i64 pts else M4 j) kd fr qy sq bt px org x pu ra ca n0 n4 pr lv lk ps nm va vn vz := by
  have hF : Fr b wo (wc.setCell ⟨b, 47, none⟩ (.int .i64 pts)) := HF.setCell 47 (.int .i64 pts)
  have hkb : ∀ (q p : Addr), p.block ≠ b → p.block = q.block → q.block ≠ b := fun q p h e => by omega
  have m4 : ∀ j, j ≠ 46 → j ≠ 45 → M4 j = M2 j := fun j h6 h5 => (HY.2.1 j h6).trans (HX3.1 j h5)
  obtain ⟨x1, x2, x3, x4, x5, x6, x7, x8, x9⟩ := HX2
  obtain ⟨y1, y2, y3, y4, y5, y6⟩ := x1
  refine { row := HY.1.set 47 (.int .i64 pts), fix := ⟨?_, ?_, ?_, ?_, fun i hi => ?_, ?_⟩, m38 := ?_, m42 := ?_, m43 := ?_, route := ⟨ra1, rc1, ?_, ?_, HX1.1, HX1.2⟩, copies := ⟨ca3, cc3, va3, ?_, ?_, HX3.2.2.2.1, HX3.2.2.2.2.1, HX3.2.2.2.2.2⟩, s41 := ⟨v8, n8, n8, ?_, HV8⟩, s44 := ⟨v9, n9, n9, ?_, HV9⟩, s46 := ⟨v10, m10, k10, ?_, HY.2.2.2⟩ }
  · try simp only []
    rw [if_neg (by omega), m4 _ (by omega) (by omega)]; exact y1
  · try simp only []
    rw [if_neg (by omega), m4 _ (by omega) (by omega)]; exact y2
  · try simp only []
    rw [if_neg (by omega), m4 _ (by omega) (by omega)]; exact y3
  · try simp only []
    rw [if_neg (by omega), m4 _ (by omega) (by omega)]; exact y4
  · try simp only []
    rw [if_neg (by omega), m4 _ (by omega) (by omega)]; exact y5 i hi
  · try simp only []
    rw [if_neg (by omega), m4 _ (by omega) (by omega)]; exact y6
  · try simp only []
    rw [if_neg (by omega), m4 _ (by omega) (by omega)]; exact x2
  · try simp only []
    rw [if_neg (by omega), m4 _ (by omega) (by omega)]; exact x3
  · try simp only []
    rw [if_neg (by omega), m4 _ (by omega) (by omega)]; exact x4
  · try simp only []
    rw [if_neg (by omega), m4 _ (by omega) (by omega)]; exact x5
  · exact HRo3.kept fun q v hq h => hF.kept (by
      cases ra1 with
      | none => cases hq
      | some p => exact hkb q p (HX1.2 p rfl) (Option.some.inj hq)) h
  · try simp only []
    rw [if_neg (by omega), HY.2.1 45 (by omega)]; exact HX3.2.1
  · exact HX3.2.2.1.kept (fun q v hq h => hF.kept (by
      cases ca3 with
      | none => cases hq
      | some p => exact hkb q p (HX3.2.2.2.2.2 p rfl) (Option.some.inj hq)) h) (fun i hi q v hq h => hF.kept (by
      cases hv : va3 i with
      | none => rw [hv] at hq; cases hq
      | some p => rw [hv] at hq; exact hkb q p ((HX3.2.2.2.2.1 i hi).2 p hv) (Option.some.inj hq)) h)
  · try simp only []
    rw [if_neg (by omega), m4 _ (by omega) (by omega)]; exact x8
  · try simp only []
    rw [if_neg (by omega), m4 _ (by omega) (by omega)]; exact x9
  · try simp only []
    rw [if_neg (by omega)]; exact HY.2.2.1

end Go.Proofs.Qxb6616194aFmt
