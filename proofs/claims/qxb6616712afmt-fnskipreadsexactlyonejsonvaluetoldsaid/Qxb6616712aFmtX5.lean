/- The law's readers of a scalar and of a member's name. -/
import Derived.Test.Qxb6616712aFmtX3
import Derived.Test.Qxb6616712aFmtX4
set_option linter.unusedVariables false
set_option linter.unusedSimpArgs false
set_option linter.unnecessarySimpa false
namespace Go.Proofs.Qxb6616712aFmt
open Go.RowKit

theorem POut_pair {s : ByteArray} {w w' : World} {r : Option (List UInt8)} {e : Ending} (h : POut s w r e w') : ∃ (a : Int) (b : Bool), e = .returned (.tuple #[.int .i64 a, .bool b]) ∧ Hid (POut s w r (.returned (.tuple #[.int .i64 a, .bool b])) w') := by
  cases r with
  | none => exact ⟨0, false, h.1, rfl, h.2⟩
  | some l => obtain ⟨⟨q, h1, h2, rfl⟩, h3⟩ := h; exact ⟨q, true, rfl, ⟨q, h1, h2, rfl⟩, h3⟩
theorem POut_of {s : ByteArray} {w w' : World} {r r' : Option (List UInt8)} {e : Ending} (h : POut s w r e w') (hr : r' = r) : POut s w r' e w' := by subst hr; exact h

theorem b34 (c : UInt8) : ((c.toNat : Int) == 34) = (c == 34) := u8_eq c 34 (by omega)
theorem b116 (c : UInt8) : ((c.toNat : Int) == 116) = (c == 116) := u8_eq c 116 (by omega)
theorem b102 (c : UInt8) : ((c.toNat : Int) == 102) = (c == 102) := u8_eq c 102 (by omega)
theorem b110 (c : UInt8) : ((c.toNat : Int) == 110) = (c == 110) := u8_eq c 110 (by omega)
theorem b45 (c : UInt8) : ((c.toNat : Int) == 45) = (c == 45) := u8_eq c 45 (by omega)
theorem b58 (c : UInt8) : ((c.toNat : Int) == 58) = (c == 58) := u8_eq c 58 (by omega)

set_option maxRecDepth 100000 in
set_option maxHeartbeats 1000000 in
theorem zzScalarEnd_any (s : ByteArray) (p : Nat) (w : World) (hs : s.size ≤ 1048576) (hp : p < s.size) :
    Calls Tryf.prog 20 #[.string s, .int .i64 (p : Int)] w fun e w' => POut s w (J.scalar s[p] (s.data.toList.drop (p + 1))) e w' := by
  have hp' : (p : Int) < (s.size : Int) := by omega
  rcases Bool.eq_false_or_eq_true ((s[p].toNat : Int) == 34) with h1 | h1
  · have HR : Hid (J.scalar s[p] (s.data.toList.drop (p + 1)) = J.str (s.data.toList.drop (p + 1))) := by
      show _ = _
      unfold J.scalar; rw [← b34, h1]; rfl
    go_enter Tryf.func20, Tryf.ntmps20
    go_wp2_with fail
    refine (zzStringEnd_any s p _ hs hp).mono ?_
    intro e w1 ho
    obtain ⟨a, b, rfl, HO⟩ := POut_pair ho
    clear ho
    go_wp2_with fail
    go_ret2
    exact POut_of HO.out HR.out
  · rcases Bool.eq_false_or_eq_true ((s[p].toNat : Int) == 116) with h2 | h2
    · have HR : Hid (J.scalar s[p] (s.data.toList.drop (p + 1)) = J.word [116, 114, 117, 101] (s.data.toList.drop p)) := by
        show _ = _
        unfold J.scalar; rw [drop_cons s p hp, ← b34, h1, ← b116, h2]; rfl
      go_enter Tryf.func20, Tryf.ntmps20
      go_wp2_with fail
      refine (zzWordEnd_any s ⟨#[116, 114, 117, 101]⟩ p _ hs (by omega) (by decide)).mono ?_
      intro e w1 ho
      obtain ⟨a, b, rfl, HO⟩ := POut_pair ho
      clear ho
      go_wp2_with fail
      go_ret2
      exact POut_of HO.out HR.out
    · rcases Bool.eq_false_or_eq_true ((s[p].toNat : Int) == 102) with h3 | h3
      · have HR : Hid (J.scalar s[p] (s.data.toList.drop (p + 1)) = J.word [102, 97, 108, 115, 101] (s.data.toList.drop p)) := by
          show _ = _
          unfold J.scalar; rw [drop_cons s p hp, ← b34, h1, ← b116, h2, ← b102, h3]; rfl
        go_enter Tryf.func20, Tryf.ntmps20
        go_wp2_with fail
        refine (zzWordEnd_any s ⟨#[102, 97, 108, 115, 101]⟩ p _ hs (by omega) (by decide)).mono ?_
        intro e w1 ho
        obtain ⟨a, b, rfl, HO⟩ := POut_pair ho
        clear ho
        go_wp2_with fail
        go_ret2
        exact POut_of HO.out HR.out
      · rcases Bool.eq_false_or_eq_true ((s[p].toNat : Int) == 110) with h4 | h4
        · have HR : Hid (J.scalar s[p] (s.data.toList.drop (p + 1)) = J.word [110, 117, 108, 108] (s.data.toList.drop p)) := by
            show _ = _
            unfold J.scalar; rw [drop_cons s p hp, ← b34, h1, ← b116, h2, ← b102, h3, ← b110, h4]; rfl
          go_enter Tryf.func20, Tryf.ntmps20
          go_wp2_with fail
          refine (zzWordEnd_any s ⟨#[110, 117, 108, 108]⟩ p _ hs (by omega) (by decide)).mono ?_
          intro e w1 ho
          obtain ⟨a, b, rfl, HO⟩ := POut_pair ho
          clear ho
          go_wp2_with fail
          go_ret2
          exact POut_of HO.out HR.out
        · rcases Bool.eq_false_or_eq_true ((s[p].toNat : Int) == 45) with h5 | h5
          · have HR : Hid (J.scalar s[p] (s.data.toList.drop (p + 1)) = J.num (s.data.toList.drop p)) := by
              show _ = _
              unfold J.scalar; rw [drop_cons s p hp, ← b34, h1, ← b116, h2, ← b102, h3, ← b110, h4, ← b45, h5]; rfl
            go_enter Tryf.func20, Tryf.ntmps20
            go_wp2_with fail
            refine (zzNumberEnd_any s p _ hs (by omega)).mono ?_
            intro e w1 ho
            obtain ⟨a, b, rfl, HO⟩ := POut_pair ho
            clear ho
            go_wp2_with fail
            go_ret2
            exact POut_of HO.out HR.out
          · cases hD : J.isDig s[p] with
            | true =>
              have HR : Hid (J.scalar s[p] (s.data.toList.drop (p + 1)) = J.num (s.data.toList.drop p)) := by
                show _ = _
                unfold J.scalar; rw [drop_cons s p hp, ← b34, h1, ← b116, h2, ← b102, h3, ← b110, h4, ← b45, h5, hD]; rfl
              have HD : Hid (J.isDig s[p] = true) := hD
              clear hD
              go_enter Tryf.func20, Tryf.ntmps20
              go_wp2_with fail
              refine (zzIsDigit_any s[p] _).mono ?_
              rintro e w1 ⟨rfl, rfl⟩
              rw [HD.out]
              go_wp2_with fail
              refine (zzNumberEnd_any s p _ hs (by omega)).mono ?_
              intro e w1 ho
              obtain ⟨a, b, rfl, HO⟩ := POut_pair ho
              clear ho
              go_wp2_with fail
              go_ret2
              exact POut_of HO.out HR.out
            | false =>
              have HR : Hid (J.scalar s[p] (s.data.toList.drop (p + 1)) = none) := by
                show _ = _
                unfold J.scalar; rw [← b34, h1, ← b116, h2, ← b102, h3, ← b110, h4, ← b45, h5, hD]; rfl
              have HD : Hid (J.isDig s[p] = false) := hD
              clear hD
              go_enter Tryf.func20, Tryf.ntmps20
              go_wp2_with fail
              refine (zzIsDigit_any s[p] _).mono ?_
              rintro e w1 ⟨rfl, rfl⟩
              rw [HD.out]
              go_wp2_with fail
              go_ret2
              exact POut_none HR.out rfl (Below.refl _ _)

theorem name_nil {l : List UInt8} (h : J.ws l = []) : J.name l = none := by unfold J.name; rw [h]
theorem name_bad {l t : List UInt8} {c : UInt8} (h : J.ws l = c :: t) (hc : (c == 34) = false) : J.name l = none := by
  unfold J.name; rw [h]; simp only; rw [hc]; rfl
theorem name_str {l t : List UInt8} {c : UInt8} (h : J.ws l = c :: t) (hc : (c == 34) = true) (hs : J.str t = none) : J.name l = none := by
  unfold J.name; rw [h]; simp only; rw [hc, if_pos rfl, hs]
theorem name_at {l t r : List UInt8} {c : UInt8} (h : J.ws l = c :: t) (hc : (c == 34) = true) (hs : J.str t = some r) : J.name l = (match J.ws r with | [] => none | x :: t1 => if x == 58 then some t1 else none) := by
  unfold J.name; rw [h]; simp only; rw [hc, if_pos rfl, hs]; rfl

set_option maxRecDepth 100000 in
set_option maxHeartbeats 1000000 in
theorem zzMemberName_any (s : ByteArray) (p : Nat) (w : World) (hs : s.size ≤ 1048576) :
    Calls Tryf.prog 19 #[.string s, .int .i64 (p : Int)] w fun e w' => POut s w (J.name (s.data.toList.drop p)) e w' := by
  have hwd := wsN_drop s p
  have HZ : Hid (∀ w, Calls Tryf.prog 18 #[.string s, .int .i64 (p : Int)] w fun e w' => e = .returned (.int .i64 (wsN s p : Nat)) ∧ w' = w) := fun w => zzSkipWS_any s p w hs
  generalize wsN s p = q at *
  have HQ : Hid (s.data.toList.drop q = J.ws (s.data.toList.drop p)) := hwd
  clear hwd
  by_cases hlt : q < s.size
  · have hlt' : decide (s.size ≤ q) = false := by simp; omega
    have HC : Hid (J.ws (s.data.toList.drop p) = s[q] :: s.data.toList.drop (q + 1)) := by
      show _ = _
      rw [← HQ.out, drop_cons s q hlt]
    rcases Bool.eq_false_or_eq_true ((s[q].toNat : Int) == 34) with h1 | h1
    · have h1' : ((s[q].toNat : Int) != 34) = false := by simp [bne, h1]
      go_enter Tryf.func19, Tryf.ntmps19
      go_wp2_with fail
      refine (HZ.out _).mono ?_
      rintro e w1 ⟨rfl, hw⟩
      have hw' := hw.symm
      subst hw'
      clear hw
      go_wp2_with fail
      refine (zzStringEnd_any s q _ hs hlt).mono ?_
      intro e w1 ho
      cases hR : J.str (s.data.toList.drop (q + 1)) with
      | none =>
        rw [hR] at ho
        have HN := name_str HC.out (by rw [← b34, h1]) hR
        have HN' : Hid (J.name (s.data.toList.drop p) = none) := HN
        clear hR HN
        obtain ⟨rfl, hb1⟩ := ho
        go_wp2_with fail
        go_ret2
        exact POut_none HN'.out rfl hb1
      | some r =>
        rw [hR] at ho
        have HN := name_at HC.out (by rw [← b34, h1]) hR
        have HN' : Hid (J.name (s.data.toList.drop p) = (match J.ws r with | [] => none | x :: t1 => if x == 58 then some t1 else none)) := HN
        clear hR HN
        obtain ⟨⟨q1, hq1, hd1, rfl⟩, hb1⟩ := ho
        have hwd := wsN_drop s q1
        rw [hd1] at hwd
        clear hd1
        have HZ2 : Hid (∀ w, Calls Tryf.prog 18 #[.string s, .int .i64 (q1 : Int)] w fun e w' => e = .returned (.int .i64 (wsN s q1 : Nat)) ∧ w' = w) := fun w => zzSkipWS_any s q1 w hs
        generalize wsN s q1 = q2 at *
        have HQ2 : Hid (s.data.toList.drop q2 = J.ws r) := hwd
        clear hwd
        by_cases hlt2 : q2 < s.size
        · have hlt2' : decide (s.size ≤ q2) = false := by simp; omega
          have HC2 : Hid (J.ws r = s[q2] :: s.data.toList.drop (q2 + 1)) := by
            show _ = _
            rw [← HQ2.out, drop_cons s q2 hlt2]
          rcases Bool.eq_false_or_eq_true ((s[q2].toNat : Int) == 58) with h2 | h2
          · have h2' : ((s[q2].toNat : Int) != 58) = false := by simp [bne, h2]
            go_wp2_with fail
            refine (HZ2.out _).mono ?_
            rintro e w2 ⟨rfl, rfl⟩
            go_wp2_with fail
            go_ret2
            refine POut_some (l := s.data.toList.drop (q2 + 1)) ?_ ⟨q2 + 1, hlt2, rfl, by go_num⟩ hb1
            rw [HN'.out, HC2.out]; simp only; rw [← b58, h2]; rfl
          · have h2' : ((s[q2].toNat : Int) != 58) = true := by simp [bne, h2]
            go_wp2_with fail
            refine (HZ2.out _).mono ?_
            rintro e w2 ⟨rfl, rfl⟩
            go_wp2_with fail
            go_ret2
            refine POut_none ?_ rfl hb1
            rw [HN'.out, HC2.out]; simp only; rw [← b58, h2]; rfl
        · have hlt2' : decide (s.size ≤ q2) = true := by simp; omega
          go_wp2_with fail
          refine (HZ2.out _).mono ?_
          rintro e w2 ⟨rfl, rfl⟩
          go_wp2_with fail
          go_ret2
          refine POut_none ?_ rfl hb1
          rw [HN'.out, ← HQ2.out, drop_none s q2 hlt2]
    · have h1' : ((s[q].toNat : Int) != 34) = true := by simp [bne, h1]
      go_enter Tryf.func19, Tryf.ntmps19
      go_wp2_with fail
      refine (HZ.out _).mono ?_
      rintro e w1 ⟨rfl, rfl⟩
      go_wp2_with fail
      go_ret2
      exact POut_none (name_bad HC.out (by rw [← b34, h1])) rfl (Below.refl _ _)
  · have hlt' : decide (s.size ≤ q) = true := by simp; omega
    go_enter Tryf.func19, Tryf.ntmps19
    go_wp2_with fail
    refine (HZ.out _).mono ?_
    rintro e w1 ⟨rfl, rfl⟩
    go_wp2_with fail
    go_ret2
    exact POut_none (name_nil (by rw [← HQ.out, drop_none s q hlt])) rfl (Below.refl _ _)

end Go.Proofs.Qxb6616712aFmt
