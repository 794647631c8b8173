/- The walks of the docReader's small methods. -/
import Derived.Test.Qxb6616712aFmtKit
set_option linter.unusedVariables false
set_option linter.unusedSimpArgs false
set_option linter.unnecessarySimpa false
namespace Go.Proofs.Qxb6616712aFmt
open Go.RowKit

/-- The first byte of what is left, or 0. -/
def hd (l : List UInt8) : Int := match l with | [] => 0 | c :: _ => (c.toNat : Int)
/-- The place behind white space. -/
def wsN (s : ByteArray) (p : Nat) : Nat := p + ((s.data.toList.drop p).takeWhile J.isWS).length

theorem drop_cons (s : ByteArray) (q : Nat) (h : q < s.size) : s.data.toList.drop q = s[q] :: s.data.toList.drop (q + 1) := by
  rw [List.drop_eq_getElem_cons (by simpa using h)]; rfl
theorem drop_none (s : ByteArray) (q : Nat) (h : ¬ q < s.size) : s.data.toList.drop q = [] :=
  List.drop_eq_nil_of_le (by simpa using h)

theorem ws_step (s : ByteArray) (q : Nat) (h : q < s.size) (hw : J.isWS s[q] = true) : wsN s q = wsN s (q + 1) ∧ J.ws (s.data.toList.drop q) = J.ws (s.data.toList.drop (q + 1)) := by
  unfold wsN J.ws
  rw [drop_cons s q h, List.takeWhile_cons, List.dropWhile_cons, if_pos hw, if_pos hw]
  refine ⟨?_, rfl⟩
  rw [List.length_cons]; omega
theorem ws_stop (s : ByteArray) (q : Nat) (h : q < s.size) (hw : J.isWS s[q] = false) : wsN s q = q ∧ J.ws (s.data.toList.drop q) = s[q] :: s.data.toList.drop (q + 1) := by
  unfold wsN J.ws
  rw [drop_cons s q h, List.takeWhile_cons, List.dropWhile_cons, hw]
  simp
theorem ws_end (s : ByteArray) (q : Nat) (h : ¬ q < s.size) : wsN s q = q ∧ J.ws (s.data.toList.drop q) = [] := by
  unfold wsN J.ws
  rw [drop_none s q h]
  simp

theorem u8_eq (c : UInt8) (n : Nat) (hn : n < 256) : ((c.toNat : Int) == (n : Int)) = (c == UInt8.ofNat n) := by
  rw [Bool.eq_iff_iff]
  simp only [beq_iff_eq]
  constructor
  · intro h
    have h' : c.toNat = n := by omega
    rw [← h']; simp
  · intro h
    rw [h, UInt8.toNat_ofNat', Nat.mod_eq_of_lt hn]

theorem isWS_int (c : UInt8) : J.isWS c = (((c.toNat : Int) == 32) || ((c.toNat : Int) == 9) || ((c.toNat : Int) == 10) || ((c.toNat : Int) == 13)) := by
  have h1 := u8_eq c 32 (by omega)
  have h2 := u8_eq c 9 (by omega)
  have h3 := u8_eq c 10 (by omega)
  have h4 := u8_eq c 13 (by omega)
  simp only [Int.cast_ofNat_Int] at h1 h2 h3 h4
  rw [h1, h2, h3, h4]
  rfl

set_option maxHeartbeats 400000 in
theorem peek_any (b : Nat) (s : ByteArray) (p : Nat) (d : Int) (w : World) (hr : Rd b s p d w) (hs : s.size ≤ 1048576) :
    Calls Tryf.prog 23 #[.pointer (some ⟨b, 0, none⟩)] w fun e w' => e = .returned (.int .u8 (hd (J.ws (s.data.toList.drop p)))) ∧ Rd b s (wsN s p) d w' ∧ Fr b w w' := by
  go_enter Tryf.func23, Tryf.ntmps23
  go_wp2
  go_loopg [] (s.size - p) (fun k wr => ∃ q : Nat, k = s.size - q ∧ Rd b s q d wr ∧ Fr b w wr ∧ Hid (wsN s q = wsN s p ∧ J.ws (s.data.toList.drop q) = J.ws (s.data.toList.drop p)))
  case atStart => exact ⟨p, rfl, hr, Fr.refl _ _, rfl, rfl⟩
  case round =>
    obtain ⟨q, hk, hrq, hfq, HQ⟩ := hrel
    have HK : Hid (gk = s.size - q) := hk
    clear hk
    have c0 := hrq.cell0
    have c1 := hrq.cell1
    have f1 := hrq.free 1
    by_cases hlt : q < s.size
    · have hlt' : (q : Int) < (s.size : Int) := by omega
      go_wp2
      go_quiet (fail)
      go_wp2
      go_quiet (fail)
      go_wp2
      iterate 4
        rotate_left
      · have hw : J.isWS s[q] = false := by rw [isWS_int]; simp only [*]; rfl
        obtain ⟨e1, e2⟩ := ws_stop s q hlt hw
        go_ret
        have H := HQ.out
        rw [e1, e2] at H
        exact ⟨by rw [← H.2]; rfl, by rw [← H.1]; exact hrq.drewN _, hfq.drewN _⟩
      all_goals
        have hw : J.isWS s[q] = true := by rw [isWS_int]; simp only [*]; rfl
        obtain ⟨e1, e2⟩ := ws_step s q hlt hw
        go_roundg (s.size - (q + 1))
        case measure => rw [HK.out]; omega
        case rel => exact ⟨q + 1, rfl, (hrq.set1 _).drewN _, (hfq.setCell _ _).drewN _, by rw [← e1, ← e2]; exact HQ.out⟩
    · have hge : decide ((q : Int) < (s.size : Int)) = false := by simp; omega
      go_wp2
      go_quiet (fail)
      go_wp2
      go_ret
      obtain ⟨e1, e2⟩ := ws_end s q hlt
      have H := HQ.out
      rw [e1, e2] at H
      exact ⟨by rw [← H.2]; rfl, by rw [← H.1]; exact (hrq.drewN _), (hfq.drewN _)⟩

end Go.Proofs.Qxb6616712aFmt
