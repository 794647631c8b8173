/- The law's reader of a value. -/
import Derived.Test.Qxb6616712aFmtX6
set_option linter.unusedVariables false
set_option linter.unusedSimpArgs false
set_option linter.unnecessarySimpa false
namespace Go.Proofs.Qxb6616712aFmt
open Go.RowKit

theorem b91 (c : UInt8) : ((c.toNat : Int) == 91) = (c == 91) := u8_eq c 91 (by omega)
theorem b123 (c : UInt8) : ((c.toNat : Int) == 123) = (c == 123) := u8_eq c 123 (by omega)
theorem b93 (c : UInt8) : ((c.toNat : Int) == 93) = (c == 93) := u8_eq c 93 (by omega)
theorem b125 (c : UInt8) : ((c.toNat : Int) == 125) = (c == 125) := u8_eq c 125 (by omega)
theorem b44 (c : UInt8) : ((c.toNat : Int) == 44) = (c == 44) := u8_eq c 44 (by omega)
theorem drop_lt {s : ByteArray} {i q : Nat} (hq : q ≤ s.size) (h : (s.data.toList.drop q).length < (s.data.toList.drop i).length) : i < q := by
  rw [len_drop, len_drop] at h; omega
theorem scalar_gt {s : ByteArray} {q q2 : Nat} {d : Nat} {r : List UInt8} (hd : d ≤ 10000) (hq : q < s.size) (hws : J.ws (s.data.toList.drop q) = s[q] :: s.data.toList.drop (q + 1)) (h1 : (s[q] == 91) = false) (h2 : (s[q] == 123) = false) (h : J.scalar s[q] (s.data.toList.drop (q + 1)) = some (s.data.toList.drop q2)) (hq2 : q2 ≤ s.size) : q < q2 := by
  refine drop_lt hq2 (J.R_lt hd (m := 0) ?_)
  rw [J.R_val hd, hws]; simp only; rw [h1, h2]; exact h

/-- The relation of the rounds. -/
def RV (s : ByteArray) (p d : Nat) (w : World) (i : Nat) (stk : List UInt8) (v9 v10 : Value) (wr : World) : Prop :=
  Hid (d + stk.length ≤ 10000 ∧ ∀ c ∈ stk, c = 93 ∨ c = 125) ∧ St v9 stk w wr ∧ ((v10 = .bool true ∧ Hid (J.V d stk (s.data.toList.drop i) = J.V d [] (s.data.toList.drop p))) ∨ (v10 = .bool false ∧ i ≤ s.size ∧ Hid (J.K d stk (s.data.toList.drop i) = J.V d [] (s.data.toList.drop p))))

set_option maxRecDepth 100000 in
set_option maxHeartbeats 4000000 in
theorem zzValueEnd_any (s : ByteArray) (p d : Nat) (w : World) (hs : s.size ≤ 1048576) (hd : d ≤ 10000) :
    Calls Tryf.prog 9 #[.string s, .int .i64 (p : Int), .int .i64 (d : Int)] w fun e w' => POut s w (J.V d [] (s.data.toList.drop p)) e w' := by
  go_enter Tryf.func9, Tryf.ntmps9
  go_wp2_with fail
  go_loopg [1, 9, 10] (s.size - p) (fun g v1 v9 v10 wr => ∃ (i : Nat) (stk : List UInt8), g = s.size - i ∧ v1 = .int .i64 (i : Int) ∧ RV s p d w i stk v9 v10 wr)
  case atStart => exact ⟨p, [], rfl, rfl, ⟨by simpa using hd, by simp⟩, St.nil w, .inl ⟨rfl, rfl⟩⟩
  case round =>
    obtain ⟨i, stk, hg, rfl, HD, hst, hwant⟩ := hrel
    have HG : Hid (gk = s.size - i) := hg
    clear hg
    have hdl : d + stk.length ≤ 10000 := HD.out.1
    have hwd := wsN_drop s i
    have hge := wsN_ge s i
    have HZ : Hid (∀ w, Calls Tryf.prog 18 #[.string s, .int .i64 (i : Int)] w fun e w' => e = .returned (.int .i64 (wsN s i : Nat)) ∧ w' = w) := fun w => zzSkipWS_any s i w hs
    generalize wsN s i = q at *
    have HQ : Hid (s.data.toList.drop q = J.ws (s.data.toList.drop i)) := hwd
    clear hwd
    obtain ⟨ad, cap, rfl⟩ := hst.shape
    rcases hwant with ⟨rfl, HV⟩ | ⟨rfl, hin, HV⟩
    · skip
      by_cases hlt : q < s.size
      · skip
        have HC : Hid (J.ws (s.data.toList.drop i) = s[q] :: s.data.toList.drop (q + 1)) := by
          show _ = _
          rw [← HQ.out, drop_cons s q hlt]
        have hlt' : decide (s.size ≤ q) = false := by simp; omega
        have hltn : ¬ s.size ≤ q := by omega
        have HDD := HD.out.2
        rcases Bool.eq_false_or_eq_true ((s[q].toNat : Int) == 91) with hc | hc
        · have hc2 : ((s[q].toNat : Int) == 123) = false := by
            have : (s[q].toNat : Int) = 91 := by simpa using hc
            simp [this]
          have HDD := HD.out.2
          have HCE : Hid (s[q] = 91) := by
            show _ = _
            have := hc
            rw [b91] at this
            simpa using this
          by_cases hdeep : d + stk.length = 10000
          · have hdp : (((d : Int) + (stk.length : Int)) == 10000) = true := by simp; omega
            go_wp2_with fail
            refine (HZ.out _).mono ?_
            rintro e w1 ⟨rfl, hw⟩
            have hw' := hw.symm
            subst hw'
            clear hw
            go_wp2_with fail
            go_ret2
            exact POut_none (HV.out.symm.trans (J.V_deep hdeep HC.out (by rw [HCE.out]; rfl))) rfl hst.below
          · have hdp : (((d : Int) + (stk.length : Int)) == 10000) = false := by simp; omega
            have hdd : d + stk.length < 10000 := by omega
            obtain ⟨q1, hq1⟩ : ∃ q1, q1 = q + 1 := ⟨_, rfl⟩
            have hq1i : (q : Int) + 1 = (q1 : Int) := by omega
            have hwd2 := wsN_drop s q1
            have hge2 := wsN_ge s q1
            have HZ2 : Hid (∀ w, Calls Tryf.prog 18 #[.string s, .int .i64 (q1 : Int)] w fun e w' => e = .returned (.int .i64 (wsN s q1 : Nat)) ∧ w' = w) := fun w => zzSkipWS_any s q1 w hs
            generalize wsN s q1 = q2 at *
            have hq2 : i < q2 := by omega
            have HQ2 : Hid (s.data.toList.drop q2 = J.ws (s.data.toList.drop (q + 1))) := by rw [hq1] at hwd2; exact hwd2
            have HW : Hid (J.ws (s.data.toList.drop i) = 91 :: s.data.toList.drop (q + 1)) := by
              show _ = _
              rw [HC.out, HCE.out]
            clear hwd2 hge2 hq1 hdeep
            by_cases hlt2 : q2 < s.size
            · have hlt2i : decide ((q2 : Int) < (s.size : Int)) = true := by simp; omega
              have hlt2' : decide (q2 < s.size) = true := by simp; omega
              rcases Bool.eq_false_or_eq_true ((s[q2].toNat : Int) == 93) with hx | hx
              · skip
                go_wp2_with fail
                refine (HZ.out _).mono ?_
                rintro e w1 ⟨rfl, hw⟩
                have hw' := hw.symm
                subst hw'
                clear hw
                go_wp2_with fail
                refine (HZ2.out _).mono ?_
                rintro e w2 ⟨rfl, hw⟩
                have hw' := hw.symm
                subst hw'
                clear hw
                go_wp2_with fail
                go_roundg (s.size - (q2 + 1))
                case measure => rw [HG.out]; omega
                case rel => exact ⟨q2 + 1, stk, rfl, by go_num, HD.out, hst, .inr ⟨rfl, hlt2, (J.V_empty hdd HW.out rfl (HQ2.out.symm.trans (drop_cons s q2 hlt2)) (by rw [show J.closer 91 = 93 from rfl, ← b93, hx])).symm.trans HV.out⟩⟩
              · have HV2 : Hid (J.V d stk (s.data.toList.drop i) = J.V d (93 :: stk) (s.data.toList.drop q2)) := by
                  show _ = _
                  rw [HQ2.out]
                  refine J.V_arr hdd HW.out fun x t1 h => ?_
                  rw [← HQ2.out, drop_cons s q2 hlt2] at h
                  injection h with h1 h2
                  rw [← h1, ← b93, hx]
                go_wp2_with fail
                refine (HZ.out _).mono ?_
                rintro e w1 ⟨rfl, hw⟩
                have hw' := hw.symm
                subst hw'
                clear hw
                go_wp2_with fail
                refine (HZ2.out _).mono ?_
                rintro e w2 ⟨rfl, hw⟩
                have hw' := hw.symm
                subst hw'
                clear hw
                go_wp2_with (first
                  | (at_builtin; refine st_push' rfl _ _ rfl _ stk 93 93 rfl rfl w _ (by exact hst) rfl (by omega) ?_; intro v' w3 hst3; clear hst))
                go_roundg (s.size - q2)
                case measure => rw [HG.out]; omega
                case rel => exact ⟨q2, 93 :: stk, rfl, rfl, ⟨by rw [List.length_cons]; omega, fun c hc => (List.mem_cons.1 hc).elim (fun h => .inl h) (fun h => HDD c h)⟩, hst3, .inl ⟨rfl, HV2.out.symm.trans HV.out⟩⟩
            · have hlt2i : decide ((q2 : Int) < (s.size : Int)) = false := by simp; omega
              have hlt2' : decide (q2 < s.size) = false := by simp; omega
              have HV2 : Hid (J.V d stk (s.data.toList.drop i) = J.V d (93 :: stk) (s.data.toList.drop q2)) := by
                show _ = _
                rw [HQ2.out]
                refine J.V_arr hdd HW.out fun x t1 h => ?_
                rw [← HQ2.out, drop_none s q2 hlt2] at h
                cases h
              go_wp2_with fail
              refine (HZ.out _).mono ?_
              rintro e w1 ⟨rfl, hw⟩
              have hw' := hw.symm
              subst hw'
              clear hw
              go_wp2_with fail
              refine (HZ2.out _).mono ?_
              rintro e w2 ⟨rfl, hw⟩
              have hw' := hw.symm
              subst hw'
              clear hw
              go_wp2_with (first
                | (at_builtin; refine st_push' rfl _ _ rfl _ stk 93 93 rfl rfl w _ (by exact hst) rfl (by omega) ?_; intro v' w3 hst3; clear hst))
              go_roundg (s.size - q2)
              case measure => rw [HG.out]; omega
              case rel => exact ⟨q2, 93 :: stk, rfl, rfl, ⟨by rw [List.length_cons]; omega, fun c hc => (List.mem_cons.1 hc).elim (fun h => .inl h) (fun h => HDD c h)⟩, hst3, .inl ⟨rfl, HV2.out.symm.trans HV.out⟩⟩
        · rcases Bool.eq_false_or_eq_true ((s[q].toNat : Int) == 123) with hc2 | hc2
          · have hc1 := hc
            have hc := hc2
            have HCE : Hid (s[q] = 123) := by
              show _ = _
              have := hc
              rw [b123] at this
              simpa using this
            by_cases hdeep : d + stk.length = 10000
            · have hdp : (((d : Int) + (stk.length : Int)) == 10000) = true := by simp; omega
              go_wp2_with fail
              refine (HZ.out _).mono ?_
              rintro e w1 ⟨rfl, hw⟩
              have hw' := hw.symm
              subst hw'
              clear hw
              go_wp2_with fail
              go_ret2
              exact POut_none (HV.out.symm.trans (J.V_deep hdeep HC.out (by rw [HCE.out]; rfl))) rfl hst.below
            · have hdp : (((d : Int) + (stk.length : Int)) == 10000) = false := by simp; omega
              have hdd : d + stk.length < 10000 := by omega
              obtain ⟨q1, hq1⟩ : ∃ q1, q1 = q + 1 := ⟨_, rfl⟩
              have hq1i : (q : Int) + 1 = (q1 : Int) := by omega
              have hwd2 := wsN_drop s q1
              have hge2 := wsN_ge s q1
              have HZ2 : Hid (∀ w, Calls Tryf.prog 18 #[.string s, .int .i64 (q1 : Int)] w fun e w' => e = .returned (.int .i64 (wsN s q1 : Nat)) ∧ w' = w) := fun w => zzSkipWS_any s q1 w hs
              generalize wsN s q1 = q2 at *
              have hq2 : i < q2 := by omega
              have HQ2 : Hid (s.data.toList.drop q2 = J.ws (s.data.toList.drop (q + 1))) := by rw [hq1] at hwd2; exact hwd2
              have HW : Hid (J.ws (s.data.toList.drop i) = 123 :: s.data.toList.drop (q + 1)) := by
                show _ = _
                rw [HC.out, HCE.out]
              clear hwd2 hge2 hq1 hdeep
              by_cases hlt2 : q2 < s.size
              · have hlt2i : decide ((q2 : Int) < (s.size : Int)) = true := by simp; omega
                have hlt2' : decide (q2 < s.size) = true := by simp; omega
                rcases Bool.eq_false_or_eq_true ((s[q2].toNat : Int) == 125) with hx | hx
                · skip
                  go_wp2_with fail
                  refine (HZ.out _).mono ?_
                  rintro e w1 ⟨rfl, hw⟩
                  have hw' := hw.symm
                  subst hw'
                  clear hw
                  go_wp2_with fail
                  refine (HZ2.out _).mono ?_
                  rintro e w2 ⟨rfl, hw⟩
                  have hw' := hw.symm
                  subst hw'
                  clear hw
                  go_wp2_with fail
                  go_roundg (s.size - (q2 + 1))
                  case measure => rw [HG.out]; omega
                  case rel => exact ⟨q2 + 1, stk, rfl, by go_num, HD.out, hst, .inr ⟨rfl, hlt2, (J.V_empty hdd HW.out rfl (HQ2.out.symm.trans (drop_cons s q2 hlt2)) (by rw [show J.closer 123 = 125 from rfl, ← b125, hx])).symm.trans HV.out⟩⟩
                · have HV2 : Hid (J.V d stk (s.data.toList.drop i) = (match J.name (s.data.toList.drop q2) with | none => none | some l1 => J.V d (125 :: stk) l1)) := by
                    show _ = _
                    rw [HQ2.out]
                    refine J.V_obj hdd HW.out fun x t1 h => ?_
                    rw [← HQ2.out, drop_cons s q2 hlt2] at h
                    injection h with h1 h2
                    rw [← h1, ← b125, hx]
                  go_wp2_with fail
                  refine (HZ.out _).mono ?_
                  rintro e w1 ⟨rfl, hw⟩
                  have hw' := hw.symm
                  subst hw'
                  clear hw
                  go_wp2_with fail
                  refine (HZ2.out _).mono ?_
                  rintro e w2 ⟨rfl, hw⟩
                  have hw' := hw.symm
                  subst hw'
                  clear hw
                  go_wp2_with (first
                    | (at_builtin; refine st_push' rfl _ _ rfl _ stk 125 125 rfl rfl w _ (by exact hst) rfl (by omega) ?_; intro v' w3 hst3; clear hst))
                  refine (zzMemberName_any s q2 _ hs).mono ?_
                  intro e w4 ho
                  cases hN : J.name (s.data.toList.drop q2) with
                  | none =>
                    rw [hN] at ho
                    have HN : Hid (J.name (s.data.toList.drop q2) = none) := hN
                    clear hN
                    obtain ⟨rfl, hb4⟩ := ho
                    have hst4 := (hst3).keep hb4
                    go_wp2_with fail
                    go_ret2
                    exact POut_none (HV.out.symm.trans (HV2.out.trans (by rw [HN.out]))) rfl hst4.below
                  | some l1 =>
                    rw [hN] at ho
                    have hlt4 := J.name_lt hN
                    have HN : Hid (J.name (s.data.toList.drop q2) = some l1) := hN
                    clear hN
                    obtain ⟨⟨q5, hq5, hd5, rfl⟩, hb4⟩ := ho
                    have hst4 := (hst3).keep hb4
                    rw [← hd5] at hlt4
                    have hgt5 := drop_lt hq5 hlt4
                    clear hlt4
                    have HD5 : Hid ((s.data.toList.drop q5) = l1) := hd5
                    clear hd5
                    go_wp2_with fail
                    go_roundg (s.size - q5)
                    case measure => rw [HG.out]; omega
                    case rel => exact ⟨q5, 125 :: stk, rfl, rfl, ⟨by simp only [List.length_cons]; omega, fun c hc => (List.mem_cons.1 hc).elim (fun h => .inr h) (fun h => HDD c h)⟩, hst4, .inl ⟨rfl, by rw [HD5.out]; exact ((HV2.out.trans (by rw [HN.out])).symm.trans HV.out)⟩⟩
              · have hlt2i : decide ((q2 : Int) < (s.size : Int)) = false := by simp; omega
                have hlt2' : decide (q2 < s.size) = false := by simp; omega
                have HV2 : Hid (J.V d stk (s.data.toList.drop i) = (match J.name (s.data.toList.drop q2) with | none => none | some l1 => J.V d (125 :: stk) l1)) := by
                  show _ = _
                  rw [HQ2.out]
                  refine J.V_obj hdd HW.out fun x t1 h => ?_
                  rw [← HQ2.out, drop_none s q2 hlt2] at h
                  cases h
                go_wp2_with fail
                refine (HZ.out _).mono ?_
                rintro e w1 ⟨rfl, hw⟩
                have hw' := hw.symm
                subst hw'
                clear hw
                go_wp2_with fail
                refine (HZ2.out _).mono ?_
                rintro e w2 ⟨rfl, hw⟩
                have hw' := hw.symm
                subst hw'
                clear hw
                go_wp2_with (first
                  | (at_builtin; refine st_push' rfl _ _ rfl _ stk 125 125 rfl rfl w _ (by exact hst) rfl (by omega) ?_; intro v' w3 hst3; clear hst))
                refine (zzMemberName_any s q2 _ hs).mono ?_
                intro e w4 ho
                cases hN : J.name (s.data.toList.drop q2) with
                | none =>
                  rw [hN] at ho
                  have HN : Hid (J.name (s.data.toList.drop q2) = none) := hN
                  clear hN
                  obtain ⟨rfl, hb4⟩ := ho
                  have hst4 := (hst3).keep hb4
                  go_wp2_with fail
                  go_ret2
                  exact POut_none (HV.out.symm.trans (HV2.out.trans (by rw [HN.out]))) rfl hst4.below
                | some l1 =>
                  rw [hN] at ho
                  have hlt4 := J.name_lt hN
                  have HN : Hid (J.name (s.data.toList.drop q2) = some l1) := hN
                  clear hN
                  obtain ⟨⟨q5, hq5, hd5, rfl⟩, hb4⟩ := ho
                  have hst4 := (hst3).keep hb4
                  rw [← hd5] at hlt4
                  have hgt5 := drop_lt hq5 hlt4
                  clear hlt4
                  have HD5 : Hid ((s.data.toList.drop q5) = l1) := hd5
                  clear hd5
                  go_wp2_with fail
                  go_roundg (s.size - q5)
                  case measure => rw [HG.out]; omega
                  case rel => exact ⟨q5, 125 :: stk, rfl, rfl, ⟨by simp only [List.length_cons]; omega, fun c hc => (List.mem_cons.1 hc).elim (fun h => .inr h) (fun h => HDD c h)⟩, hst4, .inl ⟨rfl, by rw [HD5.out]; exact ((HV2.out.trans (by rw [HN.out])).symm.trans HV.out)⟩⟩
          · skip
            go_wp2_with fail
            refine (HZ.out _).mono ?_
            rintro e w1 ⟨rfl, hw⟩
            have hw' := hw.symm
            subst hw'
            clear hw
            go_wp2_with fail
            refine (zzScalarEnd_any s q _ hs hlt).mono ?_
            intro e w4 ho
            have hws : J.ws (s.data.toList.drop q) = s[q] :: (s.data.toList.drop (q + 1)) := by rw [HQ.out, ws_ws, HC.out]
            cases hN : J.scalar s[q] (s.data.toList.drop (q + 1)) with
            | none =>
              rw [hN] at ho
              have HN : Hid (J.scalar s[q] (s.data.toList.drop (q + 1)) = none) := hN
              clear hN hws
              obtain ⟨rfl, hb4⟩ := ho
              have hst4 := hst.keep hb4
              go_wp2_with fail
              go_ret2
              exact POut_none (HV.out.symm.trans ((J.V_scalar hdl HC.out (by rw [← b91, hc]) (by rw [← b123, hc2])).trans (by rw [HN.out]))) rfl hst4.below
            | some l1 =>
              rw [hN] at ho
              obtain ⟨⟨q5, hq5, hd5, rfl⟩, hb4⟩ := ho
              have hst4 := hst.keep hb4
              rw [← hd5] at hN
              have hgt5 := scalar_gt (r := []) (d := d) hd hlt hws (by rw [← b91, hc]) (by rw [← b123, hc2]) hN hq5
              have HN : Hid (J.scalar s[q] (s.data.toList.drop (q + 1)) = some (s.data.toList.drop q5)) := hN
              clear hN hws hd5
              go_wp2_with fail
              go_roundg (s.size - q5)
              case measure => rw [HG.out]; omega
              case rel => exact ⟨q5, stk, rfl, rfl, HD.out, hst4, .inr ⟨rfl, hq5, ((J.V_scalar hdl HC.out (by rw [← b91, hc]) (by rw [← b123, hc2])).trans (by rw [HN.out])).symm.trans HV.out⟩⟩
      · skip
        have hlt' : decide (s.size ≤ q) = true := by simp; omega
        have hltn : s.size ≤ q := by omega
        go_wp2_with fail
        refine (HZ.out _).mono ?_
        rintro e w1 ⟨rfl, hw⟩
        have hw' := hw.symm
        subst hw'
        clear hw
        go_wp2_with fail
        go_ret2
        exact POut_none (HV.out.symm.trans (J.V_end hdl (by rw [← HQ.out, drop_none s q hlt]))) rfl hst.below
    · skip
      cases stk with
      | nil =>
        rw [List.length_nil] at hst ⊢
        go_wp2_with fail
        go_ret2
        exact POut_some (HV.out.symm.trans (J.K_nil d _)) ⟨i, hin, rfl, rfl⟩ hst.below
      | cons c rest =>
        rw [List.length_cons] at hdl
        obtain ⟨g, cap', hv, ct, hcap, hcapm, HP⟩ := hst.top
        rw [List.length_cons] at hst hv ⊢
        injection hv with hv1 hv2 hv3
        subst hv1 hv3
        clear hv2
        unfold maxLen at hcapm
        have hnz : (((rest.length + 1 : Nat) : Int) == 0) = false := by simp; omega
        have hnz2 : (((rest.length : Int) + 1) == 0) = false := by simp; omega
        have hwr : IntKind.i64.wrap (rest.length : Int) = (rest.length : Int) := by rw [IntKind.wrap_i64]; omega
        have hix1 : (rest.length : Int) < (rest.length : Int) + 1 := by omega
        have hix3 : rest.length < rest.length + 1 := by omega
        have hix0 : (0 : Int) ≤ (rest.length : Int) := by omega
        have HDD := HD.out.2
        by_cases hlt : q < s.size
        · skip
          have HC : Hid (J.ws (s.data.toList.drop i) = s[q] :: s.data.toList.drop (q + 1)) := by
            show _ = _
            rw [← HQ.out, drop_cons s q hlt]
          have hlt' : decide (s.size ≤ q) = false := by simp; omega
          have hltn : ¬ s.size ≤ q := by omega
          rcases Bool.eq_false_or_eq_true ((s[q].toNat : Int) == (c.toNat : Int)) with hx | hx
          · have HX : Hid ((s[q] == c) = true) := by
              show _ = _
              have : (s[q].toNat : Int) = (c.toNat : Int) := by simpa using hx
              have := UInt8.toNat_inj.1 (by omega : s[q].toNat = c.toNat)
              simp [this]
            go_wp2_with fail
            refine (HZ.out _).mono ?_
            rintro e w1 ⟨rfl, hw⟩
            have hw' := hw.symm
            subst hw'
            clear hw
            go_wp2_with fail
            go_roundg (s.size - (q + 1))
            case measure => rw [HG.out]; omega
            case rel => exact ⟨q + 1, rest, rfl, by go_num, ⟨by omega, fun c hc => HDD c (List.mem_cons_of_mem _ hc)⟩, HP.out, .inr ⟨rfl, hlt, (J.K_pop HC.out HX.out).symm.trans HV.out⟩⟩
          · have HX : Hid ((s[q] == c) = false) := by
              show _ = _
              by_cases e : s[q] = c
              · rw [e] at hx; simp at hx
              · simpa using e
            rcases Bool.eq_false_or_eq_true ((s[q].toNat : Int) == 44) with h4 | h4
            · have h4' : ((s[q].toNat : Int) != 44) = false := by simp [bne, h4]
              rcases HDD c (by simp) with hcl | hcl
              · skip
                have HCL : Hid (c = 93) := hcl
                have hcn : (c.toNat : Int) = 93 := by rw [hcl]; rfl
                have hcx : ((c.toNat : Int) == 125) = false := by rw [hcn]; rfl
                clear hcn hcl
                have hq1i : (q : Int) + 1 = ((q + 1 : Nat) : Int) := by omega
                obtain ⟨q1, hq1⟩ : ∃ q1, q1 = q + 1 := ⟨_, rfl⟩
                rw [← hq1] at hq1i
                have hq1s : q1 ≤ s.size := by omega
                have hq1g : i < q1 := by omega
                have HQ1 : Hid (q1 = q + 1) := hq1
                clear hq1
                go_wp2_with fail
                refine (HZ.out _).mono ?_
                rintro e w1 ⟨rfl, hw⟩
                have hw' := hw.symm
                subst hw'
                clear hw
                go_wp2_with fail
                go_roundg (s.size - q1)
                case measure => rw [HG.out]; omega
                case rel =>
                  have e := HCL.out
                  subst e
                  have hq1 := HQ1.out
                  subst hq1
                  refine ⟨q + 1, 93 :: rest, rfl, rfl, HD.out, hst, .inl ⟨rfl, ?_⟩⟩
                  exact (J.K_comma_arr hdl HC.out (by rw [← b44, h4])).symm.trans HV.out
              · skip
                have HCL : Hid (c = 125) := hcl
                have hcn : (c.toNat : Int) = 125 := by rw [hcl]; rfl
                have hcx : ((c.toNat : Int) == 125) = true := by rw [hcn]; rfl
                clear hcn hcl
                have hq1i : (q : Int) + 1 = ((q + 1 : Nat) : Int) := by omega
                obtain ⟨q1, hq1⟩ : ∃ q1, q1 = q + 1 := ⟨_, rfl⟩
                rw [← hq1] at hq1i
                have hq1s : q1 ≤ s.size := by omega
                have hq1g : i < q1 := by omega
                have HQ1 : Hid (q1 = q + 1) := hq1
                clear hq1
                have HV2 : Hid (J.K d (c :: rest) (s.data.toList.drop i) = (match J.name (s.data.toList.drop q1) with | none => none | some l1 => J.V d (c :: rest) l1)) := by
                  have e := HCL.out
                  subst e
                  have hq1 := HQ1.out
                  subst hq1
                  exact J.K_comma_obj hdl HC.out (by rw [← b44, h4])
                go_wp2_with fail
                refine (HZ.out _).mono ?_
                rintro e w1 ⟨rfl, hw⟩
                have hw' := hw.symm
                subst hw'
                clear hw
                go_wp2_with fail
                refine (zzMemberName_any s q1 _ hs).mono ?_
                intro e w4 ho
                cases hN : J.name (s.data.toList.drop q1) with
                | none =>
                  rw [hN] at ho
                  have HN : Hid (J.name (s.data.toList.drop q1) = none) := hN
                  clear hN
                  obtain ⟨rfl, hb4⟩ := ho
                  have hst4 := (hst).keep hb4
                  go_wp2_with fail
                  go_ret2
                  exact POut_none (HV.out.symm.trans (HV2.out.trans (by rw [HN.out]))) rfl hst4.below
                | some l1 =>
                  rw [hN] at ho
                  have hlt4 := J.name_lt hN
                  have HN : Hid (J.name (s.data.toList.drop q1) = some l1) := hN
                  clear hN
                  obtain ⟨⟨q5, hq5, hd5, rfl⟩, hb4⟩ := ho
                  have hst4 := (hst).keep hb4
                  rw [← hd5] at hlt4
                  have hgt5 := drop_lt hq5 hlt4
                  clear hlt4
                  have HD5 : Hid ((s.data.toList.drop q5) = l1) := hd5
                  clear hd5
                  go_wp2_with fail
                  go_roundg (s.size - q5)
                  case measure => rw [HG.out]; omega
                  case rel => exact ⟨q5, c :: rest, rfl, rfl, ⟨by simp only [List.length_cons]; omega, fun c' hc => (List.mem_cons.1 hc).elim (fun h => .inr (h.trans HCL.out)) (fun h => HDD c' (List.mem_cons_of_mem _ h))⟩, hst4, .inl ⟨rfl, by rw [HD5.out]; exact ((HV2.out.trans (by rw [HN.out])).symm.trans HV.out)⟩⟩
            · have h4' : ((s[q].toNat : Int) != 44) = true := by simp [bne, h4]
              go_wp2_with fail
              refine (HZ.out _).mono ?_
              rintro e w1 ⟨rfl, hw⟩
              have hw' := hw.symm
              subst hw'
              clear hw
              go_wp2_with fail
              go_ret2
              exact POut_none (HV.out.symm.trans (J.K_bad HC.out HX.out (by rw [← b44, h4]))) rfl hst.below
        · skip
          have hlt' : decide (s.size ≤ q) = true := by simp; omega
          have hltn : s.size ≤ q := by omega
          go_wp2_with fail
          refine (HZ.out _).mono ?_
          rintro e w1 ⟨rfl, hw⟩
          have hw' := hw.symm
          subst hw'
          clear hw
          go_wp2_with fail
          go_ret2
          exact POut_none (HV.out.symm.trans (J.K_end (by rw [← HQ.out, drop_none s q hlt]))) rfl hst.below

end Go.Proofs.Qxb6616712aFmt
