/- The second law. -/
import Derived.Test.Qxb6616712aFmtX7
import Derived.Test.Qxb6616712aFmtW11
set_option linter.unusedVariables false
set_option linter.unusedSimpArgs false
set_option linter.unnecessarySimpa false
namespace Go.Proofs.Qxb6616712aFmt
open Go.Extern.Stop Go.Stop Go.Extern
open Go.RowKit

theorem zzBytes13 (s : ByteArray) (a b : Int) (w : World) (hs : s.size ≤ maxLen) :
    Calls Tryf.prog 13 #[.string s, .int .i64 a, .int .i64 b] w fun e w' => e = .returned (.bool (decide (s.size ≤ 1048576))) ∧ w' = w := by
  unfold maxLen at hs
  by_cases h : s.size ≤ 1048576
  · have h1 : ¬ (1048576 : Int) < (s.size : Int) := by omega
    go_enter Tryf.func13, Tryf.ntmps13
    go_wp2
    go_ret
    exact ⟨by simp [h], rfl⟩
  · have h1 : (1048576 : Int) < (s.size : Int) := by omega
    go_enter Tryf.func13, Tryf.ntmps13
    go_wp2
    go_ret
    exact ⟨by simp [h], rfl⟩

set_option maxRecDepth 100000 in
set_option maxHeartbeats 1000000 in
theorem law2 (hUn : ∀ B E, SErr B E → UnescOK B E) (F : Interp) (T : Lib.PrintTabs) (s : ByteArray) (p d : Int) (w : World) (hs : s.size ≤ maxLen) (hF : F.answers w.tape) (hT : Lib.PrintTabsAt 3 4 5 6 T w) (hU : Lib.Utf8Tabs 0 1 w) :
    Calls Tryf.prog 5 #[.string s, .int .i64 p, .int .i64 d] w fun e w' => e = .returned (.bool true) ∧ Below w.heap.size w w' := by
  by_cases h1 : s.size ≤ 1048576
  · by_cases h2 : s.size ≤ 65536
    · by_cases h3 : 0 ≤ p
      · by_cases h4 : 0 ≤ d ∧ d ≤ 10000
        · obtain ⟨h4, h5⟩ := h4
          obtain ⟨p, rfl⟩ := Int.eq_ofNat_of_zero_le h3
          obtain ⟨d, rfl⟩ := Int.eq_ofNat_of_zero_le h4
          have hz := ZZskip_any hUn F T s p d w h1 (by omega) hF hT hU
          have hv := fun w' => zzValueEnd_any s p d w' h1 (by omega)
          have HZ : Hid (Calls Tryf.prog 14 #[.string s, .int .i64 p, .int .i64 d] w fun e w' => ZOut s d w (J.R 0 d (s.data.toList.drop p)) e w') := hz
          have HVE : Hid (∀ w', Calls Tryf.prog 9 #[.string s, .int .i64 p, .int .i64 d] w' fun e w'' => POut s w' (J.V d [] (s.data.toList.drop p)) e w'') := hv
          clear hz hv hF hT hU
          have g1 : ¬ (65536 : Int) < (s.size : Int) := by omega
          have g2 : ¬ (p : Int) < 0 := by omega
          have g3 : ¬ (d : Int) < 0 := by omega
          have g4 : ¬ (10000 : Int) < (d : Int) := by omega
          have e1 : decide ((p : Int) < 0) = false := by simpa using g2
          have e2 : decide ((d : Int) < 0) = false := by simpa using g3
          have e3 : decide ((10000 : Int) < (d : Int)) = false := by simpa using g4
          have hdec : decide (s.size ≤ 1048576) = true := by simpa using h1
          go_enter Tryf.func5, Tryf.ntmps5
          go_wp2_with fail
          refine (zzBytes13 s _ _ w hs).mono ?_
          rintro e w1 ⟨rfl, rfl⟩
          rw [hdec]
          go_wp2_with fail
          refine HZ.out.mono ?_
          intro e w2 ho
          have hV := HVE.out w2
          rw [J.V_R] at hV
          cases hR : J.R 0 d (s.data.toList.drop p) with
          | none =>
            rw [hR] at ho hV
            have HV : Hid (Calls Tryf.prog 9 #[.string s, .int .i64 p, .int .i64 d] w2 fun e w'' => POut s w2 none e w'') := hV
            clear hR hV
            obtain ⟨⟨a, b, rfl⟩, hb2⟩ := ho
            go_wp2_with fail
            refine HV.out.mono ?_
            rintro e w3 ⟨rfl, hb3⟩
            go_wp2_with fail
            go_ret
            exact ⟨rfl, hb2.trans (hb3.mono hb2.size)⟩
          | some l =>
            rw [hR] at ho hV
            have HV : Hid (Calls Tryf.prog 9 #[.string s, .int .i64 p, .int .i64 d] w2 fun e w'' => POut s w2 (some l) e w'') := hV
            clear hR hV
            obtain ⟨⟨q, hq, hl, rfl⟩, hb2⟩ := ho
            have HL : Hid (s.data.toList.drop q = l) := hl
            clear hl
            go_wp2_with fail
            refine HV.out.mono ?_
            rintro e w3 ⟨⟨q', hq', hl', rfl⟩, hb3⟩
            have hqq : q' = q := by
              have hlen := congrArg List.length (hl'.trans HL.out.symm)
              rw [len_drop, len_drop] at hlen
              omega
            subst hqq
            clear hl' hq
            have b1 : ((q' : Int) == (q' : Int)) = true := by simp
            have b2 : ((d : Int) == (d : Int)) = true := by simp
            go_wp2_with fail
            go_ret
            exact ⟨rfl, hb2.trans (hb3.mono hb2.size)⟩
        · have hdec : decide (s.size ≤ 1048576) = true := by simpa using h1
          have g1 : ¬ (65536 : Int) < (s.size : Int) := by omega
          have e1 : decide (p < 0) = false := by simp; omega
          clear hF hT hU
          rcases (by omega : d < 0 ∨ (0 ≤ d ∧ 10000 < d)) with h5 | ⟨h5, h6⟩
          · have e2 : decide (d < 0) = true := by simpa using h5
            go_enter Tryf.func5, Tryf.ntmps5
            go_wp2_with fail
            refine (zzBytes13 s _ _ w hs).mono ?_
            rintro e w1 ⟨rfl, rfl⟩
            rw [hdec]
            go_wp2_with fail
            go_ret
            exact ⟨rfl, Below.refl _ _⟩
          · have e2 : decide (d < 0) = false := by simp; omega
            have e3 : decide (10000 < d) = true := by simpa using h6
            go_enter Tryf.func5, Tryf.ntmps5
            go_wp2_with fail
            refine (zzBytes13 s _ _ w hs).mono ?_
            rintro e w1 ⟨rfl, rfl⟩
            rw [hdec]
            go_wp2_with fail
            go_ret
            exact ⟨rfl, Below.refl _ _⟩
      · have hdec : decide (s.size ≤ 1048576) = true := by simpa using h1
        have g1 : ¬ (65536 : Int) < (s.size : Int) := by omega
        have e1 : decide (p < 0) = true := by simp; omega
        clear hF hT hU
        go_enter Tryf.func5, Tryf.ntmps5
        go_wp2_with fail
        refine (zzBytes13 s _ _ w hs).mono ?_
        rintro e w1 ⟨rfl, rfl⟩
        rw [hdec]
        go_wp2_with fail
        go_ret
        exact ⟨rfl, Below.refl _ _⟩
    · have hdec : decide (s.size ≤ 1048576) = true := by simpa using h1
      have g1 : (65536 : Int) < (s.size : Int) := by omega
      clear hF hT hU
      go_enter Tryf.func5, Tryf.ntmps5
      go_wp2_with fail
      refine (zzBytes13 s _ _ w hs).mono ?_
      rintro e w1 ⟨rfl, rfl⟩
      rw [hdec]
      go_wp2_with fail
      go_ret
      exact ⟨rfl, Below.refl _ _⟩
  · have hdec : decide (s.size ≤ 1048576) = false := by simpa using h1
    clear hF hT hU
    go_enter Tryf.func5, Tryf.ntmps5
    go_wp2_with fail
    refine (zzBytes13 s _ _ w hs).mono ?_
    rintro e w1 ⟨rfl, rfl⟩
    rw [hdec]
    go_wp2_with fail
    go_ret
    exact ⟨rfl, Below.refl _ _⟩

end Go.Proofs.Qxb6616712aFmt
