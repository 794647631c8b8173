/- The law's own little readers. -/
import Derived.Test.Qxb6616712aFmtW4
set_option linter.unusedVariables false
set_option linter.unusedSimpArgs false
set_option linter.unnecessarySimpa false
namespace Go.Proofs.Qxb6616712aFmt
open Go.RowKit

theorem zzIsWS_any (c : UInt8) (w : World) : Calls Tryf.prog 12 #[.int .u8 (c.toNat : Int)] w fun e w' => e = .returned (.bool (J.isWS c)) ∧ w' = w := by
  rw [isWS_int]
  generalize (c.toNat : Int) = x
  by_cases h1 : (x == 32) = true
  · go_enter Tryf.func12, Tryf.ntmps12
    go_wp2_with fail
    go_ret
    exact ⟨by simp [h1], rfl⟩
  · have h1 : (x == 32) = false := by simpa using h1
    by_cases h2 : (x == 9) = true
    · go_enter Tryf.func12, Tryf.ntmps12
      go_wp2_with fail
      go_ret
      exact ⟨by simp [h2], rfl⟩
    · have h2 : (x == 9) = false := by simpa using h2
      by_cases h3 : (x == 10) = true
      · go_enter Tryf.func12, Tryf.ntmps12
        go_wp2_with fail
        go_ret
        exact ⟨by simp [h3], rfl⟩
      · have h3 : (x == 10) = false := by simpa using h3
        go_enter Tryf.func12, Tryf.ntmps12
        go_wp2_with fail
        go_ret
        exact ⟨by simp [h1, h2, h3], rfl⟩

theorem isDig_int (c : UInt8) : J.isDig c = (decide ((48 : Int) ≤ (c.toNat : Int)) && decide ((c.toNat : Int) ≤ 57)) := by
  unfold J.isDig
  rw [Bool.eq_iff_iff]
  simp
  omega
theorem isHex_int (c : UInt8) : J.isHex c = (J.isDig c || (decide ((97 : Int) ≤ (c.toNat : Int)) && decide ((c.toNat : Int) ≤ 102)) || (decide ((65 : Int) ≤ (c.toNat : Int)) && decide ((c.toNat : Int) ≤ 70))) := by
  unfold J.isHex
  have h1 : decide (97 ≤ c.toNat) = decide ((97 : Int) ≤ (c.toNat : Int)) := by rw [decide_eq_decide]; omega
  have h2 : decide (c.toNat ≤ 102) = decide ((c.toNat : Int) ≤ 102) := by rw [decide_eq_decide]; omega
  have h3 : decide (65 ≤ c.toNat) = decide ((65 : Int) ≤ (c.toNat : Int)) := by rw [decide_eq_decide]; omega
  have h4 : decide (c.toNat ≤ 70) = decide ((c.toNat : Int) ≤ 70) := by rw [decide_eq_decide]; omega
  rw [h1, h2, h3, h4]

theorem zzIsDigit_any (c : UInt8) (w : World) : Calls Tryf.prog 33 #[.int .u8 (c.toNat : Int)] w fun e w' => e = .returned (.bool (J.isDig c)) ∧ w' = w := by
  rw [isDig_int]
  generalize (c.toNat : Int) = x
  by_cases h1 : 48 ≤ x
  · have h1' : decide (48 ≤ x) = true := by simpa using h1
    go_enter Tryf.func33, Tryf.ntmps33
    go_wp2_with fail
    go_ret
    exact ⟨by simp [h1'], rfl⟩
  · have h1' : decide (48 ≤ x) = false := by simpa using h1
    go_enter Tryf.func33, Tryf.ntmps33
    go_wp2_with fail
    go_ret
    exact ⟨by simp [h1'], rfl⟩

theorem zzIsHex_any (c : UInt8) (w : World) : Calls Tryf.prog 47 #[.int .u8 (c.toNat : Int)] w fun e w' => e = .returned (.bool (J.isHex c)) ∧ w' = w := by
  rw [isHex_int]
  cases hD : J.isDig c with
  | true =>
    have HD : Hid (J.isDig c = true) := hD
    clear hD
    go_enter Tryf.func47, Tryf.ntmps47
    go_wp2_with fail
    refine (zzIsDigit_any c _).mono ?_
    rintro e w1 ⟨rfl, rfl⟩
    rw [HD.out]
    go_wp2_with fail
    go_ret
    exact ⟨by simp, rfl⟩
  | false =>
    have HD : Hid (J.isDig c = false) := hD
    clear hD
    by_cases h1 : (97 : Int) ≤ (c.toNat : Int)
    · have h1' : decide ((97 : Int) ≤ (c.toNat : Int)) = true := by simpa using h1
      by_cases h2 : (c.toNat : Int) ≤ 102
      · have h2' : decide ((c.toNat : Int) ≤ 102) = true := by simpa using h2
        go_enter Tryf.func47, Tryf.ntmps47
        go_wp2_with fail
        refine (zzIsDigit_any c _).mono ?_
        rintro e w1 ⟨rfl, rfl⟩
        rw [HD.out]
        go_wp2_with fail
        go_ret
        exact ⟨by simp [h1', h2'], rfl⟩
      · have h2' : decide ((c.toNat : Int) ≤ 102) = false := by simpa using h2
        have h3' : decide ((65 : Int) ≤ (c.toNat : Int)) = true := by simp; omega
        have h4' : decide ((c.toNat : Int) ≤ 70) = false := by simp; omega
        go_enter Tryf.func47, Tryf.ntmps47
        go_wp2_with fail
        refine (zzIsDigit_any c _).mono ?_
        rintro e w1 ⟨rfl, rfl⟩
        rw [HD.out]
        go_wp2_with fail
        go_ret
        exact ⟨by simp [h1', h2', h3', h4'], rfl⟩
    · have h1' : decide ((97 : Int) ≤ (c.toNat : Int)) = false := by simpa using h1
      by_cases h3 : (65 : Int) ≤ (c.toNat : Int)
      · have h3' : decide ((65 : Int) ≤ (c.toNat : Int)) = true := by simpa using h3
        go_enter Tryf.func47, Tryf.ntmps47
        go_wp2_with fail
        refine (zzIsDigit_any c _).mono ?_
        rintro e w1 ⟨rfl, rfl⟩
        rw [HD.out]
        go_wp2_with fail
        go_ret
        exact ⟨by simp [h1', h3'], rfl⟩
      · have h3' : decide ((65 : Int) ≤ (c.toNat : Int)) = false := by simpa using h3
        go_enter Tryf.func47, Tryf.ntmps47
        go_wp2_with fail
        refine (zzIsDigit_any c _).mono ?_
        rintro e w1 ⟨rfl, rfl⟩
        rw [HD.out]
        go_wp2_with fail
        go_ret
        exact ⟨by simp [h1', h3'], rfl⟩

set_option maxHeartbeats 400000 in
theorem zzSkipWS_any (s : ByteArray) (p : Nat) (w : World) (hs : s.size ≤ 1048576) :
    Calls Tryf.prog 18 #[.string s, .int .i64 (p : Int)] w fun e w' => e = .returned (.int .i64 (wsN s p : Nat)) ∧ w' = w := by
  go_enter Tryf.func18, Tryf.ntmps18
  go_wp2_with fail
  go_loopg [1] (s.size - p) (fun k v wr => ∃ q : Nat, k = s.size - q ∧ v = .int .i64 (q : Int) ∧ wr = w ∧ Hid (wsN s q = wsN s p))
  case atStart => exact ⟨p, rfl, rfl, rfl, rfl⟩
  case round =>
    obtain ⟨q, hk, rfl, rfl, HQ⟩ := hrel
    have HK : Hid (gk = s.size - q) := hk
    clear hk
    by_cases hlt : q < s.size
    · have hlt' : decide ((q : Int) < (s.size : Int)) = true := by simp; omega
      cases hW : J.isWS s[q] with
      | true =>
        have HW : Hid (J.isWS s[q] = true) := hW
        clear hW
        go_wp2_with fail
        refine (zzIsWS_any s[q] _).mono ?_
        rintro e w1 ⟨rfl, rfl⟩
        rw [HW.out]
        go_wp2_with fail
        go_roundg (s.size - (q + 1))
        case measure => rw [HK.out]; omega
        case rel => exact ⟨q + 1, rfl, by go_num, rfl, by rw [← (ws_step s q hlt HW.out).1]; exact HQ.out⟩
      | false =>
        have HW : Hid (J.isWS s[q] = false) := hW
        clear hW
        go_wp2_with fail
        refine (zzIsWS_any s[q] _).mono ?_
        rintro e w1 ⟨rfl, rfl⟩
        rw [HW.out]
        go_wp2_with fail
        go_ret
        refine ⟨?_, rfl⟩
        have h := HQ.out
        rw [(ws_stop s q hlt HW.out).1] at h
        rw [← h]; rfl
    · have hlt' : decide ((q : Int) < (s.size : Int)) = false := by simp; omega
      go_wp2_with fail
      go_ret
      refine ⟨?_, rfl⟩
      have h := HQ.out
      rw [(ws_end s q hlt).1] at h
      rw [← h]; rfl

set_option maxHeartbeats 400000 in
theorem zzDigitsEnd_any (s : ByteArray) (p : Nat) (w : World) (hs : s.size ≤ 1048576) (hp : p ≤ s.size) :
    Calls Tryf.prog 48 #[.string s, .int .i64 (p : Int)] w fun e w' => (∃ q : Nat, q ≤ s.size ∧ s.data.toList.drop q = J.digs (s.data.toList.drop p) ∧ e = .returned (.int .i64 (q : Int))) ∧ w' = w := by
  go_enter Tryf.func48, Tryf.ntmps48
  go_wp2_with fail
  go_loopg [1] (s.size - p) (fun k v wr => ∃ q : Nat, k = s.size - q ∧ q ≤ s.size ∧ v = .int .i64 (q : Int) ∧ wr = w ∧ Hid (J.digs (s.data.toList.drop q) = J.digs (s.data.toList.drop p)))
  case atStart => exact ⟨p, rfl, hp, rfl, rfl, rfl⟩
  case round =>
    obtain ⟨q, hk, hq, rfl, rfl, HQ⟩ := hrel
    have HK : Hid (gk = s.size - q) := hk
    clear hk
    by_cases hlt : q < s.size
    · have hlt' : decide ((q : Int) < (s.size : Int)) = true := by simp; omega
      cases hW : J.isDig s[q] with
      | true =>
        have HW : Hid (J.isDig s[q] = true) := hW
        clear hW
        go_wp2_with fail
        refine (zzIsDigit_any s[q] _).mono ?_
        rintro e w1 ⟨rfl, rfl⟩
        rw [HW.out]
        go_wp2_with fail
        go_roundg (s.size - (q + 1))
        case measure => rw [HK.out]; omega
        case rel =>
          have e2 : J.digs (s.data.toList.drop q) = J.digs (s.data.toList.drop (q + 1)) := by
            rw [drop_cons s q hlt]; unfold J.digs; rw [List.dropWhile_cons, if_pos HW.out]
          exact ⟨q + 1, rfl, hlt, by go_num, rfl, e2.symm.trans HQ.out⟩
      | false =>
        have HW : Hid (J.isDig s[q] = false) := hW
        clear hW
        go_wp2_with fail
        refine (zzIsDigit_any s[q] _).mono ?_
        rintro e w1 ⟨rfl, rfl⟩
        rw [HW.out]
        go_wp2_with fail
        go_ret
        refine ⟨⟨q, hq, ?_, rfl⟩, rfl⟩
        rw [← HQ.out, drop_cons s q hlt]
        unfold J.digs; rw [List.dropWhile_cons, if_neg (by simp [HW.out])]
    · have hlt' : decide ((q : Int) < (s.size : Int)) = false := by simp; omega
      go_wp2_with fail
      go_ret
      refine ⟨⟨q, hq, ?_, rfl⟩, rfl⟩
      rw [← HQ.out, drop_none s q hlt]; rfl

end Go.Proofs.Qxb6616712aFmt
