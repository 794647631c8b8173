/- The walks of next, digit, digits, kind, leave, enter's plain way. -/
import Derived.Test.Qxb6616712aFmtW1
set_option linter.unusedVariables false
set_option linter.unusedSimpArgs false
set_option linter.unnecessarySimpa false
namespace Go.Proofs.Qxb6616712aFmt
open Go.RowKit

theorem drop_inv {s : ByteArray} {p : Nat} {x : UInt8} {t : List UInt8} (h : s.data.toList.drop p = x :: t) : ∃ hp : p < s.size, s[p] = x ∧ s.data.toList.drop (p + 1) = t := by
  by_cases hp : p < s.size
  · rw [drop_cons s p hp] at h
    obtain ⟨h1, h2⟩ := List.cons.inj h
    exact ⟨hp, h1, h2⟩
  · rw [drop_none s p hp] at h; cases h
theorem drop_nil_inv {s : ByteArray} {p : Nat} (h : s.data.toList.drop p = []) : ¬ p < s.size := by
  intro hp
  rw [drop_cons s p hp] at h; cases h

set_option maxHeartbeats 400000 in
theorem next_yes (b : Nat) (s : ByteArray) (p : Nat) (d c : Int) (w : World) (hr : Rd b s p d w) (hs : s.size ≤ 1048576) (hp : p < s.size) (hc : Hid ((s[p].toNat : Int) = c)) :
    Calls Tryf.prog 40 #[.pointer (some ⟨b, 0, none⟩), .int .u8 c] w fun e w' => e = .returned (.bool true) ∧ Rd b s ((p + 1 : Nat) : Int) d w' ∧ Fr b w w' := by
  have c0 := hr.cell0
  have c1 := hr.cell1
  have f1 := hr.free 1
  have hlt : (p : Int) < (s.size : Int) := by omega
  have hcc : ((s[p].toNat : Int) == c) = true := by simpa using hc.out
  go_enter Tryf.func40, Tryf.ntmps40
  go_wp2
  go_quiet (fail)
  go_wp2
  go_ret
  exact ⟨rfl, (hr.set1 _).drewN _, ((Fr.refl b w).setCell _ _).drewN _⟩

set_option maxHeartbeats 400000 in
theorem next_no (b : Nat) (s : ByteArray) (p : Nat) (d c : Int) (w : World) (hr : Rd b s p d w) (hp : p < s.size) (hc : Hid ((s[p].toNat : Int) ≠ c)) :
    Calls Tryf.prog 40 #[.pointer (some ⟨b, 0, none⟩), .int .u8 c] w fun e w' => e = .returned (.bool false) ∧ Rd b s p d w' ∧ Fr b w w' := by
  have c0 := hr.cell0
  have c1 := hr.cell1
  have hlt : (p : Int) < (s.size : Int) := by omega
  have hcc : ((s[p].toNat : Int) == c) = false := by simpa using hc.out
  go_enter Tryf.func40, Tryf.ntmps40
  go_wp2
  go_quiet (fail)
  go_wp2
  go_ret
  exact ⟨rfl, hr.drewN _, (Fr.refl b w).drewN _⟩

set_option maxHeartbeats 400000 in
theorem next_end (b : Nat) (s : ByteArray) (p : Nat) (d c : Int) (w : World) (hr : Rd b s p d w) (hp : ¬ p < s.size) :
    Calls Tryf.prog 40 #[.pointer (some ⟨b, 0, none⟩), .int .u8 c] w fun e w' => e = .returned (.bool false) ∧ Rd b s p d w' ∧ Fr b w w' := by
  have c0 := hr.cell0
  have c1 := hr.cell1
  have hge : decide ((p : Int) < (s.size : Int)) = false := by simp; omega
  go_enter Tryf.func40, Tryf.ntmps40
  go_wp2
  go_quiet (fail)
  go_wp2
  go_ret
  exact ⟨rfl, hr.drewN _, (Fr.refl b w).drewN _⟩

/-- Is the next byte c? -/
def isNext (c : Int) (l : List UInt8) : Bool := match l with | [] => false | x :: _ => (x.toNat : Int) == c

theorem next_is (b : Nat) (s : ByteArray) (p : Nat) (d c : Int) (w : World) (hr : Rd b s p d w) (hs : s.size ≤ 1048576) (h : isNext c (s.data.toList.drop p) = true) :
    Calls Tryf.prog 40 #[.pointer (some ⟨b, 0, none⟩), .int .u8 c] w fun e w' => e = .returned (.bool true) ∧ Rd b s ((p + 1 : Nat) : Int) d w' ∧ Fr b w w' := by
  by_cases hp : p < s.size
  · rw [drop_cons s p hp] at h
    exact next_yes b s p d c w hr hs hp (show (s[p].toNat : Int) = c by simpa [isNext] using h)
  · rw [drop_none s p hp] at h; simp [isNext] at h

theorem next_isnt (b : Nat) (s : ByteArray) (p : Nat) (d c : Int) (w : World) (hr : Rd b s p d w) (h : isNext c (s.data.toList.drop p) = false) :
    Calls Tryf.prog 40 #[.pointer (some ⟨b, 0, none⟩), .int .u8 c] w fun e w' => e = .returned (.bool false) ∧ Rd b s p d w' ∧ Fr b w w' := by
  by_cases hp : p < s.size
  · rw [drop_cons s p hp] at h
    exact next_no b s p d c w hr hp (show (s[p].toNat : Int) ≠ c by simpa [isNext] using h)
  · exact next_end b s p d c w hr hp

/-- Is the next byte a digit? -/
def digB (l : List UInt8) : Bool := match l with | [] => false | x :: _ => J.isDig x

set_option maxHeartbeats 1000000 in
theorem digit_any (b : Nat) (s : ByteArray) (p : Nat) (d : Int) (w : World) (hr : Rd b s p d w) :
    Calls Tryf.prog 45 #[.pointer (some ⟨b, 0, none⟩)] w fun e w' => e = .returned (.bool (digB (s.data.toList.drop p))) ∧ Rd b s p d w' ∧ Fr b w w' := by
  have c0 := hr.cell0
  have c1 := hr.cell1
  by_cases hp : p < s.size
  · have hlt : (p : Int) < (s.size : Int) := by omega
    have hD : Hid (digB (s.data.toList.drop p) = (decide (48 ≤ s[p].toNat) && decide (s[p].toNat ≤ 57))) := by rw [drop_cons s p hp]; rfl
    by_cases h1 : (48 : Int) ≤ (s[p].toNat : Int)
    · by_cases h2 : (s[p].toNat : Int) ≤ 57
      · go_enter Tryf.func45, Tryf.ntmps45
        go_wp2
        go_quiet (fail)
        go_wp2
        go_ret
        refine ⟨?_, hr.drewN _, (Fr.refl b w).drewN _⟩
        rw [hD.out]
        have e1 : decide (48 ≤ s[p].toNat) = true := by simp; omega
        have e2 : decide (s[p].toNat ≤ 57) = true := by simp; omega
        rw [e1, e2]; rfl
      · have h2' : decide ((s[p].toNat : Int) ≤ 57) = false := by simpa using h2
        go_enter Tryf.func45, Tryf.ntmps45
        go_wp2
        go_quiet (fail)
        go_wp2
        go_ret
        refine ⟨?_, hr.drewN _, (Fr.refl b w).drewN _⟩
        rw [hD.out]
        have e1 : decide (48 ≤ s[p].toNat) = true := by simp; omega
        have e2 : decide (s[p].toNat ≤ 57) = false := by simp; omega
        rw [e1, e2]; rfl
    · have h1' : decide ((48 : Int) ≤ (s[p].toNat : Int)) = false := by simpa using h1
      go_enter Tryf.func45, Tryf.ntmps45
      go_wp2
      go_quiet (fail)
      go_wp2
      go_ret
      refine ⟨?_, hr.drewN _, (Fr.refl b w).drewN _⟩
      rw [hD.out]
      have e1 : decide (48 ≤ s[p].toNat) = false := by simp; omega
      rw [e1]; rfl
  · have hge : decide ((p : Int) < (s.size : Int)) = false := by simp; omega
    have hD : Hid (digB (s.data.toList.drop p) = false) := by rw [drop_none s p hp]; rfl
    go_enter Tryf.func45, Tryf.ntmps45
    go_wp2
    go_quiet (fail)
    go_wp2
    go_ret
    exact ⟨by rw [hD.out]; rfl, hr.drewN _, (Fr.refl b w).drewN _⟩

theorem leave_any (b : Nat) (s : ByteArray) (p d : Int) (w : World) (hr : Rd b s p d w) (hp : p ≤ 1048576) (hp0 : 0 ≤ p) (hd : 0 ≤ d) (hd1 : d ≤ 10001) :
    Calls Tryf.prog 36 #[.pointer (some ⟨b, 0, none⟩)] w fun e w' => e = .returned (.tuple #[]) ∧ Rd b s (p + 1) (d - 1) w' ∧ Fr b w w' := by
  have c0 := hr.cell0
  have c1 := hr.cell1
  have c2 := hr.cell2
  have f1 := hr.free 1
  have f2 := hr.free 2
  go_enter Tryf.func36, Tryf.ntmps36
  go_wp2
  go_end0
  exact ⟨rfl, (hr.set2 _).set1 _, ((Fr.refl b w).setCell _ _).setCell _ _⟩

theorem enter_ok (b : Nat) (s : ByteArray) (p d : Int) (w : World) (hr : Rd b s p d w) (hp : p ≤ 1048576) (hp0 : 0 ≤ p) (hd : 0 ≤ d) (hd1 : d < 10000) :
    Calls Tryf.prog 35 #[.pointer (some ⟨b, 0, none⟩)] w fun e w' => e = .returned .nilIface ∧ Rd b s (p + 1) (d + 1) w' ∧ Fr b w w' := by
  have c0 := hr.cell0
  have c1 := hr.cell1
  have c2 := hr.cell2
  have f1 := hr.free 1
  have f2 := hr.free 2
  go_enter Tryf.func35, Tryf.ntmps35
  go_wp2
  go_ret
  exact ⟨rfl, (hr.set2 _).set1 _, ((Fr.refl b w).setCell _ _).setCell _ _⟩

end Go.Proofs.Qxb6616712aFmt
