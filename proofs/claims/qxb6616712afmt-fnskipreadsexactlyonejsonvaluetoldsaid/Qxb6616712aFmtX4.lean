/- The law's reader of a number. -/
import Derived.Test.Qxb6616712aFmtX2
set_option linter.unusedVariables false
set_option linter.unusedSimpArgs false
set_option linter.unnecessarySimpa false
namespace Go.Proofs.Qxb6616712aFmt
open Go.RowKit

theorem isNext_at {s : ByteArray} {q : Nat} {c : Int} (h : q < s.size) : isNext c (s.data.toList.drop q) = ((s[q].toNat : Int) == c) := by
  rw [drop_cons s q h]; rfl
theorem isNext_none {s : ByteArray} {q : Nat} {c : Int} (h : ¬ q < s.size) : isNext c (s.data.toList.drop q) = false := by
  rw [drop_none s q h]; rfl
theorem digB_at {s : ByteArray} {q : Nat} (h : q < s.size) : digB (s.data.toList.drop q) = J.isDig s[q] := by
  rw [drop_cons s q h]; rfl
theorem digB_none {s : ByteArray} {q : Nat} (h : ¬ q < s.size) : digB (s.data.toList.drop q) = false := by
  rw [drop_none s q h]; rfl
theorem isNext_lt {s : ByteArray} {p : Nat} {c : Int} (h : isNext c (s.data.toList.drop p) = true) : p < s.size := by
  by_cases hp : p < s.size
  · exact hp
  · rw [isNext_none hp] at h; cases h
theorem num_parts {l l1 l2 : List UInt8} {r : Option (List UInt8)} (h : J.whole (J.minus l) = some l1) (h2 : J.frac l1 = some l2) (h3 : J.expo l2 = r) : J.num l = r := by
  unfold J.num; rw [h]; simp only; rw [h2]; simp only; exact h3
theorem num_fracless {l l1 : List UInt8} (h : J.whole (J.minus l) = some l1) (h2 : J.frac l1 = none) : J.num l = none := by
  unfold J.num; rw [h]; simp only; rw [h2]

set_option maxRecDepth 100000 in
set_option maxHeartbeats 1000000 in
theorem zzNumberEnd_any (s : ByteArray) (p : Nat) (w : World) (hs : s.size ≤ 1048576) (hp : p ≤ s.size) :
    Calls Tryf.prog 34 #[.string s, .int .i64 (p : Int)] w fun e w' => POut s w (J.num (s.data.toList.drop p)) e w' := by
  go_enter Tryf.func34, Tryf.ntmps34
  go_upto_region 2 with fail
  go_cut [17] (fun v wx => v = .bool (isNext 45 (s.data.toList.drop p)) ∧ wx = w)
  case first =>
    by_cases hlt : p < s.size
    · have hlt' : decide ((p : Int) < (s.size : Int)) = true := by simp; omega
      rcases Bool.eq_false_or_eq_true ((s[p].toNat : Int) == 45) with h | h
      all_goals
        go_wp2_with fail
        go_meet
        case rel => exact ⟨by rw [isNext_at hlt, h], rfl⟩
    · have hlt' : decide ((p : Int) < (s.size : Int)) = false := by simp; omega
      go_wp2_with fail
      go_meet
      case rel => exact ⟨by rw [isNext_none hlt], rfl⟩
  case rest =>
    obtain ⟨rfl, hw⟩ := hcut
    have hw' := hw.symm
    subst hw'
    clear hw
    go_upto_if 17 with fail
    go_cut [6] (fun v wx => (∃ q : Nat, q ≤ s.size ∧ v = .int .i64 (q : Int) ∧ Hid (J.minus (s.data.toList.drop p) = (s.data.toList.drop q))) ∧ wx = w)
    case first =>
      cases hm : isNext 45 (s.data.toList.drop p) with
      | true =>
        have HM : Hid (isNext 45 (s.data.toList.drop p) = true) := hm
        clear hm
        have hplt := isNext_lt HM.out
        go_wp2_with fail
        go_meet
        case rel =>
          obtain ⟨t, h1, h2⟩ := minus_yes HM.out
          obtain ⟨_, _, h3⟩ := drop_inv h1
          exact ⟨⟨p + 1, hplt, by go_num, by rw [h3]; exact h2⟩, rfl⟩
      | false =>
        have HM : Hid (isNext 45 (s.data.toList.drop p) = false) := hm
        clear hm
        go_wp2_with fail
        go_meet
        case rel => exact ⟨⟨p, hp, rfl, minus_no HM.out⟩, rfl⟩
    case rest =>
      obtain ⟨⟨q, hq, rfl, HMN⟩, hw⟩ := hcut
      have hw' := hw.symm
      subst hw'
      clear hw
      by_cases hlt : q < s.size
      · have hlt' : decide ((s.size : Int) ≤ (q : Int)) = false := by simp; omega
        cases hd : J.isDig s[q] with
        | false =>
          have HD : Hid (J.isDig s[q] = false) := hd
          clear hd
          go_wp2_with fail
          refine (zzIsDigit_any s[q] _).mono ?_
          rintro e w1 ⟨rfl, rfl⟩
          rw [HD.out]
          go_wp2_with fail
          go_ret2
          have hdb : digB (s.data.toList.drop q) = false := by rw [digB_at hlt, HD.out]
          exact POut_none (num_nodigit (by rw [HMN.out]; exact hdb)) rfl (Below.refl _ _)
        | true =>
          have HD : Hid (J.isDig s[q] = true) := hd
          clear hd
          go_wp2_with fail
          refine (zzIsDigit_any s[q] _).mono ?_
          rintro e w1 ⟨rfl, hw⟩
          have hw' := hw.symm
          subst hw'
          clear hw
          rw [HD.out]
          have HDB : Hid (digB (s.data.toList.drop q) = true) := by
            show _ = _
            rw [digB_at hlt, HD.out]
          clear HD
          go_upto_region 6 with fail
          go_cut [34] (fun v wx => v = .bool (isNext 48 (s.data.toList.drop q)) ∧ wx = w)
          case first =>
            go_wp2_with fail
            go_meet
            case rel => exact ⟨by rw [isNext_at hlt], rfl⟩
          case rest =>
            obtain ⟨rfl, hw⟩ := hcut
            have hw' := hw.symm
            subst hw'
            clear hw
            go_upto_if 34 with fail
            go_cut [6] (fun v wx => (∃ q1 : Nat, q1 ≤ s.size ∧ v = .int .i64 (q1 : Int) ∧ Hid (J.whole (J.minus (s.data.toList.drop p)) = some (s.data.toList.drop q1))) ∧ wx = w)
            case first =>
              cases hm : isNext 48 (s.data.toList.drop q) with
              | true =>
                have HM : Hid (isNext 48 (s.data.toList.drop q) = true) := hm
                clear hm
                go_wp2_with fail
                go_meet
                case rel =>
                  obtain ⟨t, h1, h2⟩ := whole_zero HM.out
                  obtain ⟨_, _, h3⟩ := drop_inv h1
                  exact ⟨⟨q + 1, hlt, by go_num, by rw [HMN.out, h3]; exact h2⟩, rfl⟩
              | false =>
                have HM : Hid (isNext 48 (s.data.toList.drop q) = false) := hm
                clear hm
                go_wp2_with fail
                refine (zzDigitsEnd_any s q _ hs hq).mono ?_
                rintro e w1 ⟨⟨q3, hq3, hD3, rfl⟩, hw⟩
                have hw' := hw.symm
                subst hw'
                clear hw
                have HD3 : Hid ((s.data.toList.drop q3) = J.digs (s.data.toList.drop q)) := hD3
                clear hD3
                go_wp2_with fail
                go_meet
                case rel => exact ⟨⟨q3, hq3, rfl, by rw [HMN.out, HD3.out]; exact whole_digs HDB.out HM.out⟩, rfl⟩
            case rest =>
              obtain ⟨⟨q1, hq1, rfl, HW⟩, hw⟩ := hcut
              have hw' := hw.symm
              subst hw'
              clear hw
              clear HDB hlt hlt' HMN
              go_upto_region 9 with fail
              go_cut [49] (fun v wx => v = .bool (isNext 46 (s.data.toList.drop q1)) ∧ wx = w)
              case first =>
                by_cases hlt : q1 < s.size
                · have hlt' : decide ((q1 : Int) < (s.size : Int)) = true := by simp; omega
                  rcases Bool.eq_false_or_eq_true ((s[q1].toNat : Int) == 46) with h | h
                  all_goals
                    go_wp2_with fail
                    go_meet
                    case rel => exact ⟨by rw [isNext_at hlt, h], rfl⟩
                · have hlt' : decide ((q1 : Int) < (s.size : Int)) = false := by simp; omega
                  go_wp2_with fail
                  go_meet
                  case rel => exact ⟨by rw [isNext_none hlt], rfl⟩
              case rest =>
                obtain ⟨rfl, hw⟩ := hcut
                have hw' := hw.symm
                subst hw'
                clear hw
                go_upto_if 49 with fail
                go_cut [6] (fun v wx => (∃ q2 : Nat, q2 ≤ s.size ∧ v = .int .i64 (q2 : Int) ∧ Hid (J.frac (s.data.toList.drop q1) = some (s.data.toList.drop q2))) ∧ wx = w)
                case first =>
                  cases hm : isNext 46 (s.data.toList.drop q1) with
                  | false =>
                    have HM : Hid (isNext 46 (s.data.toList.drop q1) = false) := hm
                    clear hm
                    go_wp2_with fail
                    go_meet
                    case rel => exact ⟨⟨q1, hq1, rfl, frac_no HM.out⟩, rfl⟩
                  | true =>
                    have HM : Hid (isNext 46 (s.data.toList.drop q1) = true) := hm
                    clear hm
                    have hq1lt : q1 < s.size := isNext_lt HM.out
                    obtain ⟨t, ht, hE0, hE1⟩ := frac_bad HM.out
                    obtain ⟨_, _, hd2⟩ := drop_inv ht
                    obtain ⟨q4, hq4⟩ : ∃ q4, q4 = q1 + 1 := ⟨_, rfl⟩
                    have hq4i : (q1 : Int) + 1 = (q4 : Int) := by omega
                    have hq4s : q4 ≤ s.size := by omega
                    rw [← hd2, ← hq4] at hE0 hE1
                    have HE0 : Hid (digB (s.data.toList.drop q4) = false → J.frac (s.data.toList.drop q1) = none) := hE0
                    have HE1 : Hid (digB (s.data.toList.drop q4) = true → J.frac (s.data.toList.drop q1) = some (J.digs (s.data.toList.drop q4))) := hE1
                    clear ht hd2 hq4 hE0 hE1
                    by_cases hlt : q4 < s.size
                    · have hlt' : decide ((s.size : Int) ≤ (q4 : Int)) = false := by simp; omega
                      cases hd : J.isDig s[q4] with
                      | false =>
                        have HD : Hid (J.isDig s[q4] = false) := hd
                        clear hd
                        go_wp2_with fail
                        refine (zzIsDigit_any s[q4] _).mono ?_
                        rintro e w1 ⟨rfl, rfl⟩
                        rw [HD.out]
                        go_wp2_with fail
                        go_ret2
                        have hdb : digB (s.data.toList.drop q4) = false := by rw [digB_at hlt, HD.out]
                        exact POut_none (num_fracless HW.out (HE0.out hdb)) rfl (Below.refl _ _)
                      | true =>
                        have HD : Hid (J.isDig s[q4] = true) := hd
                        clear hd
                        go_wp2_with fail
                        refine (zzIsDigit_any s[q4] _).mono ?_
                        rintro e w1 ⟨rfl, hw⟩
                        have hw' := hw.symm
                        subst hw'
                        clear hw
                        rw [HD.out]
                        have HDB : Hid (digB (s.data.toList.drop q4) = true) := by
                          show _ = _
                          rw [digB_at hlt, HD.out]
                        clear HD
                        go_wp2_with fail
                        refine (zzDigitsEnd_any s q4 _ hs hq4s).mono ?_
                        rintro e w1 ⟨⟨q3, hq3, hD3, rfl⟩, hw⟩
                        have hw' := hw.symm
                        subst hw'
                        clear hw
                        have HD3 : Hid ((s.data.toList.drop q3) = J.digs (s.data.toList.drop q4)) := hD3
                        clear hD3
                        go_wp2_with fail
                        go_meet
                        case rel => exact ⟨⟨q3, hq3, rfl, by rw [HE1.out HDB.out, HD3.out]; rfl⟩, rfl⟩
                    · have hlt' : decide ((s.size : Int) ≤ (q4 : Int)) = true := by simp; omega
                      go_wp2_with fail
                      go_ret2
                      have hdb : digB (s.data.toList.drop q4) = false := digB_none hlt
                      exact POut_none (num_fracless HW.out (HE0.out hdb)) rfl (Below.refl _ _)
                case rest =>
                  obtain ⟨⟨q2, hq2, rfl, HF⟩, hw⟩ := hcut
                  have hw' := hw.symm
                  subst hw'
                  clear hw
                  go_upto_region 14 with fail
                  go_cut [81] (fun v wx => v = .bool (isNext 101 (s.data.toList.drop q2) || isNext 69 (s.data.toList.drop q2)) ∧ wx = w)
                  case first =>
                    by_cases hlt : q2 < s.size
                    · have hlt' : decide ((q2 : Int) < (s.size : Int)) = true := by simp; omega
                      rcases Bool.eq_false_or_eq_true ((s[q2].toNat : Int) == 101) with h | h
                      · go_wp2_with fail
                        go_meet
                        case rel => exact ⟨by rw [isNext_at hlt, h]; rfl, rfl⟩
                      · rcases Bool.eq_false_or_eq_true ((s[q2].toNat : Int) == 69) with h2 | h2
                        all_goals
                          go_wp2_with fail
                          go_meet
                          case rel => exact ⟨by rw [isNext_at hlt, isNext_at hlt, h, h2]; rfl, rfl⟩
                    · have hlt' : decide ((q2 : Int) < (s.size : Int)) = false := by simp; omega
                      go_wp2_with fail
                      go_meet
                      case rel => exact ⟨by rw [isNext_none hlt, isNext_none hlt]; rfl, rfl⟩
                  case rest =>
                    obtain ⟨rfl, hw⟩ := hcut
                    have hw' := hw.symm
                    subst hw'
                    clear hw
                    go_upto_if 81 with fail
                    go_cut [6] (fun v wx => (∃ q3 : Nat, q3 ≤ s.size ∧ v = .int .i64 (q3 : Int) ∧ Hid (J.expo (s.data.toList.drop q2) = some (s.data.toList.drop q3))) ∧ wx = w)
                    case first =>
                      cases hm : (isNext 101 (s.data.toList.drop q2) || isNext 69 (s.data.toList.drop q2)) with
                      | false =>
                        have HM : Hid ((isNext 101 (s.data.toList.drop q2) || isNext 69 (s.data.toList.drop q2)) = false) := hm
                        clear hm
                        go_wp2_with fail
                        go_meet
                        case rel =>
                          have hm := HM.out
                          rw [Bool.or_eq_false_iff] at hm
                          exact ⟨⟨q2, hq2, rfl, expo_no hm.1 hm.2⟩, rfl⟩
                      | true =>
                        have HM : Hid ((isNext 101 (s.data.toList.drop q2) || isNext 69 (s.data.toList.drop q2)) = true) := hm
                        clear hm
                        have hm := HM.out
                        rw [Bool.or_eq_true] at hm
                        have hq2lt : q2 < s.size := by
                          rcases hm with h | h
                          · exact isNext_lt h
                          · exact isNext_lt h
                        obtain ⟨x, t, ht, hE0, hE1⟩ := expo_yes hm
                        obtain ⟨_, _, hd2⟩ := drop_inv ht
                        obtain ⟨q4, hq4⟩ : ∃ q4, q4 = q2 + 1 := ⟨_, rfl⟩
                        have hq4i : (q2 : Int) + 1 = (q4 : Int) := by omega
                        have hq4s : q4 ≤ s.size := by omega
                        rw [← hd2, ← hq4] at hE0 hE1
                        have HE0 : Hid (digB (J.sign (s.data.toList.drop q4)) = false → J.expo (s.data.toList.drop q2) = none) := hE0
                        have HE1 : Hid (digB (J.sign (s.data.toList.drop q4)) = true → J.expo (s.data.toList.drop q2) = some (J.digs (J.sign (s.data.toList.drop q4)))) := hE1
                        clear hm ht hd2 hq4 hE0 hE1
                        go_upto_region 16 with fail
                        go_cut [99] (fun v wx => v = .bool (isNext 43 (s.data.toList.drop q4) || isNext 45 (s.data.toList.drop q4)) ∧ wx = w)
                        case first =>
                          by_cases hlt : q4 < s.size
                          · have hlt' : decide ((q4 : Int) < (s.size : Int)) = true := by simp; omega
                            rcases Bool.eq_false_or_eq_true ((s[q4].toNat : Int) == 43) with h | h
                            · go_wp2_with fail
                              go_meet
                              case rel => exact ⟨by rw [isNext_at hlt, h]; rfl, rfl⟩
                            · rcases Bool.eq_false_or_eq_true ((s[q4].toNat : Int) == 45) with h2 | h2
                              all_goals
                                go_wp2_with fail
                                go_meet
                                case rel => exact ⟨by rw [isNext_at hlt, isNext_at hlt, h, h2]; rfl, rfl⟩
                          · have hlt' : decide ((q4 : Int) < (s.size : Int)) = false := by simp; omega
                            go_wp2_with fail
                            go_meet
                            case rel => exact ⟨by rw [isNext_none hlt, isNext_none hlt]; rfl, rfl⟩
                        case rest =>
                          obtain ⟨rfl, hw⟩ := hcut
                          have hw' := hw.symm
                          subst hw'
                          clear hw
                          go_upto_if 99 with fail
                          go_cut [6] (fun v wx => (∃ q5 : Nat, q5 ≤ s.size ∧ v = .int .i64 (q5 : Int) ∧ Hid (J.sign (s.data.toList.drop q4) = (s.data.toList.drop q5))) ∧ wx = w)
                          case first =>
                            cases hm : (isNext 43 (s.data.toList.drop q4) || isNext 45 (s.data.toList.drop q4)) with
                            | false =>
                              have HM2 : Hid ((isNext 43 (s.data.toList.drop q4) || isNext 45 (s.data.toList.drop q4)) = false) := hm
                              clear hm
                              go_wp2_with fail
                              go_meet
                              case rel =>
                                have hm := HM2.out
                                rw [Bool.or_eq_false_iff] at hm
                                exact ⟨⟨q4, hq4s, rfl, sign_no hm.1 hm.2⟩, rfl⟩
                            | true =>
                              have HM2 : Hid ((isNext 43 (s.data.toList.drop q4) || isNext 45 (s.data.toList.drop q4)) = true) := hm
                              clear hm
                              have hq4lt : q4 < s.size := by
                                have hm := HM2.out
                                rw [Bool.or_eq_true] at hm
                                rcases hm with h | h
                                · exact isNext_lt h
                                · exact isNext_lt h
                              go_wp2_with fail
                              go_meet
                              case rel =>
                                have hm := HM2.out
                                rw [Bool.or_eq_true] at hm
                                obtain ⟨x, t, h1, h2⟩ := sign_yes hm
                                obtain ⟨_, _, h3⟩ := drop_inv h1
                                exact ⟨⟨q4 + 1, hq4lt, by go_num, by rw [h3]; exact h2⟩, rfl⟩
                          case rest =>
                            obtain ⟨⟨q5, hq5, rfl, HS⟩, hw⟩ := hcut
                            have hw' := hw.symm
                            subst hw'
                            clear hw
                            by_cases hlt : q5 < s.size
                            · have hlt' : decide ((s.size : Int) ≤ (q5 : Int)) = false := by simp; omega
                              cases hd : J.isDig s[q5] with
                              | false =>
                                have HD : Hid (J.isDig s[q5] = false) := hd
                                clear hd
                                go_wp2_with fail
                                refine (zzIsDigit_any s[q5] _).mono ?_
                                rintro e w1 ⟨rfl, rfl⟩
                                rw [HD.out]
                                go_wp2_with fail
                                go_ret2
                                have hdb : digB (s.data.toList.drop q5) = false := by rw [digB_at hlt, HD.out]
                                exact POut_none (num_parts HW.out HF.out (HE0.out (by rw [HS.out]; exact hdb))) rfl (Below.refl _ _)
                              | true =>
                                have HD : Hid (J.isDig s[q5] = true) := hd
                                clear hd
                                go_wp2_with fail
                                refine (zzIsDigit_any s[q5] _).mono ?_
                                rintro e w1 ⟨rfl, hw⟩
                                have hw' := hw.symm
                                subst hw'
                                clear hw
                                rw [HD.out]
                                have HDB : Hid (digB (s.data.toList.drop q5) = true) := by
                                  show _ = _
                                  rw [digB_at hlt, HD.out]
                                clear HD
                                go_wp2_with fail
                                refine (zzDigitsEnd_any s q5 _ hs hq5).mono ?_
                                rintro e w1 ⟨⟨q3, hq3, hD3, rfl⟩, hw⟩
                                have hw' := hw.symm
                                subst hw'
                                clear hw
                                have HD3 : Hid ((s.data.toList.drop q3) = J.digs (s.data.toList.drop q5)) := hD3
                                clear hD3
                                go_wp2_with fail
                                go_meet
                                case rel => exact ⟨⟨q3, hq3, rfl, by rw [HE1.out (by rw [HS.out]; exact HDB.out), HS.out, HD3.out]; rfl⟩, rfl⟩
                            · have hlt' : decide ((s.size : Int) ≤ (q5 : Int)) = true := by simp; omega
                              go_wp2_with fail
                              go_ret2
                              have hdb : digB (s.data.toList.drop q5) = false := digB_none hlt
                              exact POut_none (num_parts HW.out HF.out (HE0.out (by rw [HS.out]; exact hdb))) rfl (Below.refl _ _)
                    case rest =>
                      obtain ⟨⟨q3, hq3, rfl, HX⟩, hw⟩ := hcut
                      have hw' := hw.symm
                      subst hw'
                      clear hw
                      go_wp2_with fail
                      go_ret2
                      exact POut_some (num_parts HW.out HF.out HX.out) ⟨q3, hq3, rfl, rfl⟩ (Below.refl _ _)
      · have hlt' : decide ((s.size : Int) ≤ (q : Int)) = true := by simp; omega
        go_wp2_with fail
        go_ret2
        have hdb : digB (s.data.toList.drop q) = false := digB_none hlt
        exact POut_none (num_nodigit (by rw [HMN.out]; exact hdb)) rfl (Below.refl _ _)

end Go.Proofs.Qxb6616712aFmt
