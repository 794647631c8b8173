/- The law's reader of a string. -/
import Derived.Test.Qxb6616712aFmtX2
import Derived.Test.Qxb6616712aFmtW9
set_option linter.unusedVariables false
set_option linter.unusedSimpArgs false
set_option linter.unnecessarySimpa false
namespace Go.Proofs.Qxb6616712aFmt
open Go.RowKit

theorem isEsc_int (c : UInt8) : J.isEsc c = (((c.toNat : Int) == 34) || ((c.toNat : Int) == 92) || ((c.toNat : Int) == 47) || ((c.toNat : Int) == 98) || ((c.toNat : Int) == 102) || ((c.toNat : Int) == 110) || ((c.toNat : Int) == 114) || ((c.toNat : Int) == 116)) := by
  have h1 := u8_eq c 34 (by omega)
  have h2 := u8_eq c 92 (by omega)
  have h3 := u8_eq c 47 (by omega)
  have h4 := u8_eq c 98 (by omega)
  have h5 := u8_eq c 102 (by omega)
  have h6 := u8_eq c 110 (by omega)
  have h7 := u8_eq c 114 (by omega)
  have h8 := u8_eq c 116 (by omega)
  simp only [Int.cast_ofNat_Int] at h1 h2 h3 h4 h5 h6 h7 h8
  rw [h1, h2, h3, h4, h5, h6, h7, h8]
  rfl

set_option maxRecDepth 100000 in
set_option maxHeartbeats 1000000 in
theorem zzStringEnd_any (s : ByteArray) (p : Nat) (w : World) (hs : s.size ≤ 1048576) (hp : p < s.size) :
    Calls Tryf.prog 31 #[.string s, .int .i64 (p : Int)] w fun e w' => POut s w (J.str (s.data.toList.drop (p + 1))) e w' := by
  go_enter Tryf.func31, Tryf.ntmps31
  go_wp2_with fail
  go_loopg [6] (s.size - (p + 1)) (fun g v wr => ∃ k : Nat, g = s.size - k ∧ k ≤ s.size ∧ v = .int .i64 (k : Int) ∧ wr = w ∧ Hid (J.str (s.data.toList.drop (p + 1)) = J.str (s.data.toList.drop k)))
  case atStart => exact ⟨p + 1, rfl, by omega, by go_num, rfl, rfl⟩
  case round =>
    obtain ⟨k, hg, hks, rfl, hw, HK⟩ := hrel
    have hw' := hw.symm
    subst hw'
    clear hw
    have HG : Hid (gk = s.size - k) := hg
    clear hg
    by_cases hlt : k < s.size
    · have hlt' : (k : Int) < (s.size : Int) := by omega
      by_cases hq : (s[k].toNat : Int) = 34
      · have hq' : ((s[k].toNat : Int) == 34) = true := by simpa using hq
        have HE : Hid (J.str (s.data.toList.drop k) = some (s.data.toList.drop (k + 1))) := st_quote hlt hq
        clear hq
        go_wp2_with fail
        go_ret2
        exact POut_some (HK.out.trans HE.out) ⟨k + 1, hlt, rfl, by go_num⟩ (Below.refl _ _)
      · have hq' : ((s[k].toNat : Int) == 34) = false := by simpa using hq
        by_cases hc : (s[k].toNat : Int) < 32
        · have HE : Hid (J.str (s.data.toList.drop k) = none) := st_ctl hlt hc
          have hc' : decide ((s[k].toNat : Int) < 32) = true := by simpa using hc
          go_wp2_with fail
          go_ret2
          exact POut_none (HK.out.trans HE.out) rfl (Below.refl _ _)
        · have hc' : decide ((s[k].toNat : Int) < 32) = false := by simpa using hc
          by_cases h92 : (s[k].toNat : Int) = 92
          · have h92' : ((s[k].toNat : Int) != 92) = false := by simpa using h92
            have H92 : Hid ((s[k].toNat : Int) = 92) := h92
            clear h92
            obtain ⟨k1, hk1⟩ : ∃ k1, k1 = k + 1 := ⟨_, rfl⟩
            have HK1 : Hid (k1 = k + 1) := hk1
            have hk1i : (k : Int) + 1 = (k1 : Int) := by omega
            by_cases hlt1 : k1 < s.size
            · have hge : ¬ (s.size : Int) ≤ (k1 : Int) := by omega
              have hlt1' : (k1 : Int) < (s.size : Int) := by omega
              clear hk1
              go_upto_region 13 with fail
              go_cut [67] (fun v wx => v = .bool (J.isEsc s[k1]) ∧ wx = w)
              case first =>
                rcases Bool.eq_false_or_eq_true ((s[k1].toNat : Int) == 34) with h34 | h34
                · go_wp2_with fail
                  go_meet
                  case rel => exact ⟨by rw [isEsc_int]; simp only [h34, Bool.true_or, Bool.or_true, Bool.false_or, Bool.or_false], rfl⟩
                · skip
                  rcases Bool.eq_false_or_eq_true ((s[k1].toNat : Int) == 92) with h92 | h92
                  · go_wp2_with fail
                    go_meet
                    case rel => exact ⟨by rw [isEsc_int]; simp only [h34, h92, Bool.true_or, Bool.or_true, Bool.false_or, Bool.or_false], rfl⟩
                  · skip
                    rcases Bool.eq_false_or_eq_true ((s[k1].toNat : Int) == 47) with h47 | h47
                    · go_wp2_with fail
                      go_meet
                      case rel => exact ⟨by rw [isEsc_int]; simp only [h34, h92, h47, Bool.true_or, Bool.or_true, Bool.false_or, Bool.or_false], rfl⟩
                    · skip
                      rcases Bool.eq_false_or_eq_true ((s[k1].toNat : Int) == 98) with h98 | h98
                      · go_wp2_with fail
                        go_meet
                        case rel => exact ⟨by rw [isEsc_int]; simp only [h34, h92, h47, h98, Bool.true_or, Bool.or_true, Bool.false_or, Bool.or_false], rfl⟩
                      · skip
                        rcases Bool.eq_false_or_eq_true ((s[k1].toNat : Int) == 102) with h102 | h102
                        · go_wp2_with fail
                          go_meet
                          case rel => exact ⟨by rw [isEsc_int]; simp only [h34, h92, h47, h98, h102, Bool.true_or, Bool.or_true, Bool.false_or, Bool.or_false], rfl⟩
                        · skip
                          rcases Bool.eq_false_or_eq_true ((s[k1].toNat : Int) == 110) with h110 | h110
                          · go_wp2_with fail
                            go_meet
                            case rel => exact ⟨by rw [isEsc_int]; simp only [h34, h92, h47, h98, h102, h110, Bool.true_or, Bool.or_true, Bool.false_or, Bool.or_false], rfl⟩
                          · skip
                            rcases Bool.eq_false_or_eq_true ((s[k1].toNat : Int) == 114) with h114 | h114
                            · go_wp2_with fail
                              go_meet
                              case rel => exact ⟨by rw [isEsc_int]; simp only [h34, h92, h47, h98, h102, h110, h114, Bool.true_or, Bool.or_true, Bool.false_or, Bool.or_false], rfl⟩
                            · skip
                              go_wp2_with fail
                              go_meet
                              case rel => exact ⟨by rw [isEsc_int]; simp only [h34, h92, h47, h98, h102, h110, h114, Bool.true_or, Bool.or_true, Bool.false_or, Bool.or_false], rfl⟩
              case rest =>
                obtain ⟨rfl, hw⟩ := hcut
                have hw' := hw.symm
                subst hw'
                clear hw
                cases hesc : J.isEsc s[k1] with
                | true =>
                  have HE : Hid (J.str (s.data.toList.drop k) = J.str (s.data.toList.drop (k + 2))) := by
                    have h92 := H92.out
                    have hk1 := HK1.out
                    subst hk1; exact st_esc hlt h92 hlt1 hesc
                  clear hesc
                  go_wp2_with fail
                  go_roundg (s.size - (k + 2))
                  case measure => rw [HG.out]; omega
                  case rel => exact ⟨k + 2, rfl, by omega, by go_num, rfl, HK.out.trans HE.out⟩
                | false =>
                  by_cases hu : (s[k1].toNat : Int) = 117
                  · have hu' : ((s[k1].toNat : Int) != 117) = false := by simpa using hu
                    by_cases h6 : k + 6 ≤ s.size
                    · have h6' : decide ((s.size : Int) < (k : Int) + 6) = false := by simp; omega
                      have HU : Hid (J.str (s.data.toList.drop k) = (match hex4L (s.data.toList.drop (k + 2)) with | none => none | some t2 => J.str t2)) := by
                        have h92 := H92.out
                        have hk1 := HK1.out
                        subst hk1; exact st_u hlt h92 hlt1 hu
                      clear hesc hu
                      go_wp2_with fail
                      go_loopg [9] 4 (fun g v wr => ∃ j q : Nat, g = 4 - j ∧ Hid (q = k + 2 + j) ∧ j ≤ 4 ∧ v = .int .i64 (q : Int) ∧ wr = w ∧ Hid (HexTo s (k + 2) j))
                      case atStart => exact ⟨0, k + 2, rfl, rfl, by omega, by go_num, rfl, fun i hi => by omega⟩
                      case round =>
                        obtain ⟨j, q, hj0, HQ, hj, rfl, hwj, HX⟩ := hrel
                        have hwj' := hwj.symm
                        subst hwj'
                        clear hwj
                        have HJ : Hid (gk = 4 - j) := hj0
                        clear hj0
                        have hqe := HQ.out
                        by_cases hj4 : j < 4
                        · have hq6 : decide ((q : Int) < (k : Int) + 6) = true := by simp; omega
                          have hqs : q < s.size := by omega
                          have hqs' : (q : Int) < (s.size : Int) := by omega
                          clear hqe
                          cases hH : J.isHex s[q] with
                          | true =>
                            have HH : Hid (J.isHex s[q] = true) := hH
                            clear hH
                            go_wp2_with fail
                            refine (zzIsHex_any s[q] _).mono ?_
                            rintro e w1 ⟨rfl, rfl⟩
                            rw [HH.out]
                            go_wp2_with fail
                            go_roundg (4 - (j + 1))
                            case measure => rw [HJ.out]; omega
                            case rel =>
                              have hqe := HQ.out
                              subst hqe
                              exact ⟨j + 1, k + 2 + j + 1, rfl, by unfold Hid; omega, by omega, by go_num, rfl, HX.out.step hqs HH.out⟩
                          | false =>
                            have HH : Hid (J.isHex s[q] = false) := hH
                            clear hH
                            go_wp2_with fail
                            refine (zzIsHex_any s[q] _).mono ?_
                            rintro e w1 ⟨rfl, rfl⟩
                            rw [HH.out]
                            go_wp2_with fail
                            go_ret2
                            have hqe := HQ.out
                            subst hqe
                            exact POut_none (HK.out.trans (HU.out.trans (by rw [hex4_bad hj4 hqs HH.out]))) rfl (Below.refl _ _)
                        · have hq6 : decide ((q : Int) < (k : Int) + 6) = false := by simp; omega
                          clear hqe
                          go_wp2_with fail
                          go_roundg (s.size - (k + 6))
                          case measure => rw [HG.out]; omega
                          case rel =>
                            have h4 : j = 4 := by omega
                            have hx := HX.out
                            subst h4
                            exact ⟨k + 6, rfl, h6, by go_num, rfl, HK.out.trans (HU.out.trans (by rw [hx.done (by omega)]))⟩
                    · have h6' : decide ((s.size : Int) < (k : Int) + 6) = true := by simp; omega
                      have HE : Hid (J.str (s.data.toList.drop k) = none) := by
                        have h92 := H92.out
                        have hk1 := HK1.out
                        subst hk1
                        rw [st_u hlt h92 hlt1 hu, hex4_ends (by omega)]; rfl
                      clear hesc hu
                      go_wp2_with fail
                      go_ret2
                      exact POut_none (HK.out.trans HE.out) rfl (Below.refl _ _)
                  · have hu' : ((s[k1].toNat : Int) != 117) = true := by simpa using hu
                    have HE : Hid (J.str (s.data.toList.drop k) = none) := by
                      have h92 := H92.out
                      have hk1 := HK1.out
                      subst hk1; exact st_bad hlt h92 hlt1 hesc hu
                    clear hesc
                    go_wp2_with fail
                    go_ret2
                    exact POut_none (HK.out.trans HE.out) rfl (Below.refl _ _)
            · have HE : Hid (J.str (s.data.toList.drop k) = none) := st_bs_end hlt H92.out (by omega)
              have hge : (s.size : Int) ≤ (k1 : Int) := by omega
              clear hk1
              go_wp2_with fail
              go_ret2
              exact POut_none (HK.out.trans HE.out) rfl (Below.refl _ _)
          · have h92' : ((s[k].toNat : Int) != 92) = true := by simpa using h92
            have HE : Hid (J.str (s.data.toList.drop k) = J.str (s.data.toList.drop (k + 1))) := st_plain hlt (by omega) hq h92
            go_wp2_with fail
            go_roundg (s.size - (k + 1))
            case measure => rw [HG.out]; omega
            case rel => exact ⟨k + 1, rfl, hlt, by go_num, rfl, HK.out.trans HE.out⟩
    · have hlt' : ¬ (k : Int) < (s.size : Int) := by omega
      have HE : Hid (J.str (s.data.toList.drop k) = none) := st_end hlt
      go_wp2_with fail
      go_ret2
      exact POut_none (HK.out.trans HE.out) rfl (Below.refl _ _)

end Go.Proofs.Qxb6616712aFmt
