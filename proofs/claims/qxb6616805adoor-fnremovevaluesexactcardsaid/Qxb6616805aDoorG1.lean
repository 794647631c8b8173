/- White space: the small functions. -/
import Derived.Test.Qxb6616805aDoorRows
import Derived.Test.Qxb6616805aDoorPlain
import Derived.WalkKit
import Derived.WalkSpells
import Derived.WalkLawsBesides
import Derived.Deep.LoopGhost
import Derived.Deep.QuietTactic
import Derived.BigQuiet
set_option linter.unusedVariables false
set_option linter.unusedSimpArgs false
set_option linter.unnecessarySimpa false
namespace Go.Proofs.Qxb6616805aDoor
open Go.RowKit

theorem size_list (s : ByteArray) : s.size = s.data.toList.length := rfl
theorem get_list (s : ByteArray) (i : Nat) (h : i < s.size) : s.data.toList[i]? = some s[i] := by
  have h' : i < s.data.size := h
  rw [Array.getElem?_toList, Array.getElem?_eq_getElem h']
  rfl
theorem drop_cons (s : ByteArray) (k : Nat) (h : k < s.size) : s.data.toList.drop k = s[k] :: s.data.toList.drop (k + 1) := by
  have h' : k < s.data.toList.length := by rw [← size_list]; exact h
  rw [List.drop_eq_getElem_cons h']
  congr 1
theorem drop_none (s : ByteArray) (k : Nat) (h : ¬ k < s.size) : s.data.toList.drop k = [] := List.drop_eq_nil_of_le (by rw [← size_list]; omega)

theorem lws_int (c : UInt8) : I.lws c = (((c.toNat : Int) == 32) || ((c.toNat : Int) == 9) || ((c.toNat : Int) == 13) || ((c.toNat : Int) == 10)) := by
  have key : ∀ n : UInt8, (c == n) = ((c.toNat : Int) == (n.toNat : Int)) := fun n => by
    rw [Bool.eq_iff_iff]
    simp only [beq_iff_eq]
    constructor
    · intro h; rw [h]
    · intro h; exact UInt8.toNat_inj.1 (by omega)
  unfold I.lws
  rw [key 32, key 9, key 13, key 10]
  rfl

set_option maxHeartbeats 1000000 in
theorem zzIsLWS_any (c : UInt8) (w : World) : Calls Tryd.prog 42 #[.int .u8 (c.toNat : Int)] w fun e w' => e = .returned (.bool (I.lws c)) ∧ w' = w := by
  rw [lws_int]
  generalize (c.toNat : Int) = x
  cases h1 : (x == 32) with
  | true =>
    go_enter Tryd.func42, Tryd.ntmps42
    go_wp2_with fail
    go_ret
    exact ⟨by simp, rfl⟩
  | false =>
    cases h2 : (x == 9) with
    | true =>
      go_enter Tryd.func42, Tryd.ntmps42
      go_wp2_with fail
      go_ret
      exact ⟨by simp, rfl⟩
    | false =>
      cases h3 : (x == 13) with
      | true =>
        go_enter Tryd.func42, Tryd.ntmps42
        go_wp2_with fail
        go_ret
        exact ⟨by simp, rfl⟩
      | false =>
        go_enter Tryd.func42, Tryd.ntmps42
        go_wp2_with fail
        go_ret
        exact ⟨by simp, rfl⟩
set_option maxHeartbeats 1000000 in
theorem isLWS_any (c : UInt8) (w : World) : Calls Tryd.prog 55 #[.int .u8 (c.toNat : Int)] w fun e w' => e = .returned (.bool (I.lws c)) ∧ w' = w := by
  rw [lws_int]
  generalize (c.toNat : Int) = x
  cases h1 : (x == 32) with
  | true =>
    go_enter Tryd.func55, Tryd.ntmps55
    go_wp2_with fail
    go_ret
    exact ⟨by simp, rfl⟩
  | false =>
    cases h2 : (x == 9) with
    | true =>
      go_enter Tryd.func55, Tryd.ntmps55
      go_wp2_with fail
      go_ret
      exact ⟨by simp, rfl⟩
    | false =>
      cases h3 : (x == 13) with
      | true =>
        go_enter Tryd.func55, Tryd.ntmps55
        go_wp2_with fail
        go_ret
        exact ⟨by simp, rfl⟩
      | false =>
        go_enter Tryd.func55, Tryd.ntmps55
        go_wp2_with fail
        go_ret
        exact ⟨by simp, rfl⟩

theorem ext_list (t : ByteArray) (a b : Nat) : (t.extract a b).data.toList = (t.data.toList.drop a).take (b - a) := by
  simp [ByteArray.data_extract, Array.toList_extract, List.extract_eq_take_drop]
theorem ext_tail (u : ByteArray) (n : Nat) (hn : u.size ≤ n) : (u.extract 1 n).data.toList = u.data.toList.drop 1 := by
  rw [ext_list]
  apply List.take_of_length_le
  rw [List.length_drop, ← size_list]
  omega
theorem nil_of (u : ByteArray) (h : u.size = 0) : u.data.toList = [] := List.eq_nil_of_length_eq_zero h
theorem beq_nil (u : ByteArray) : (u.toList == []) = decide (u.size = 0) := by
  rw [ByteArray.toList_eq, Bool.eq_iff_iff]
  simp only [beq_iff_eq, decide_eq_true_eq, size_list]
  exact List.length_eq_zero_iff.symm

set_option maxHeartbeats 1000000 in
/-- trimLeftLWS. -/
theorem trimLeft_any (s : ByteArray) (w : World) (hs : s.size ≤ 4194304) :
    Calls Tryd.prog 54 #[.string s] w fun e w' => (∃ r : ByteArray, r.data.toList = I.trimL s.data.toList ∧ e = .returned (.string r)) ∧ w' = w := by
  go_enter Tryd.func54, Tryd.ntmps54
  go_wp2_with fail
  go_loopg [0] s.size (fun k v wr => ∃ u : ByteArray, k = u.size ∧ u.size ≤ s.size ∧ v = .string u ∧ wr = w ∧ Hid (I.trimL u.data.toList = I.trimL s.data.toList))
  case atStart => exact ⟨s, rfl, Nat.le_refl _, rfl, rfl, rfl⟩
  case round =>
    obtain ⟨u, hk, hu, rfl, hw, HQ⟩ := hrel
    have hw' := hw.symm
    subst hw'
    have HK : Hid (gk = u.size) := hk
    clear hk hw
    by_cases h0 : u.size = 0
    · have he : (u.toList == []) = true := by rw [beq_nil]; simp [h0]
      have HE : Hid (u.data.toList = []) := nil_of u h0
      go_wp2_with fail
      go_ret
      refine ⟨⟨u, ?_, rfl⟩, rfl⟩
      rw [← HQ.out, HE.out]; rfl
    · have he : (u.toList == []) = false := by rw [beq_nil]; simp [h0]
      have hp : 0 < u.size := by omega
      clear h0
      cases hW : I.lws u[0] with
      | true =>
        have HW : Hid (I.lws u[0] = true) := hW
        clear hW
        go_wp2_with fail
        refine (isLWS_any u[0] _).mono ?_
        rintro e w1 ⟨rfl, rfl⟩
        rw [HW.out]
        go_wp2_with fail
        go_roundg (u.size - 1)
        case measure => rw [HK.out]; omega
        case rel =>
          have e1 := ext_tail u u.size (Nat.le_refl _)
          have e2 : (u.extract 1 u.size).size = u.size - 1 := by rw [size_list, e1, List.length_drop, ← size_list]
          refine ⟨u.extract 1 u.size, e2.symm, by omega, rfl, rfl, ?_⟩
          have e3 := drop_cons u 0 hp
          rw [List.drop_zero] at e3
          show I.trimL (u.extract 1 u.size).data.toList = _
          rw [← HQ.out, e1, e3, I.trimL_cons _ _ HW.out]
          rfl
      | false =>
        have HW : Hid (I.lws u[0] = false) := hW
        clear hW
        go_wp2_with fail
        refine (isLWS_any u[0] _).mono ?_
        rintro e w1 ⟨rfl, rfl⟩
        rw [HW.out]
        go_wp2_with fail
        go_ret
        refine ⟨⟨u, ?_, rfl⟩, rfl⟩
        have e3 := drop_cons u 0 hp
        rw [List.drop_zero] at e3
        rw [← HQ.out, e3]
        unfold I.trimL
        rw [List.dropWhile_cons, if_neg (by rw [HW.out]; simp)]

theorem trimR_stop (l : List UInt8) (c : UInt8) (h : I.lws c = false) : I.trimR (l ++ [c]) = l ++ [c] := by
  unfold I.trimR
  rw [List.reverse_append, List.reverse_singleton, List.singleton_append, List.dropWhile_cons, if_neg (by rw [h]; simp)]
  simp
theorem list_last (u : ByteArray) (n : Nat) (hn : u.size = n + 1) : u.data.toList = u.data.toList.take n ++ [u[n]'(by omega)] := by
  have h1 := List.take_append_drop n u.data.toList
  have h2 : u.data.toList.drop (n + 1) = [] := List.drop_eq_nil_of_le (by rw [← size_list]; omega)
  rw [drop_cons u n (by omega), h2] at h1
  exact h1.symm

set_option maxHeartbeats 1000000 in
/-- trimLWS. -/
theorem trimLWS_any (s : ByteArray) (w : World) (hs : s.size ≤ 4194304) :
    Calls Tryd.prog 51 #[.string s] w fun e w' => (∃ r : ByteArray, r.data.toList = I.trim s.data.toList ∧ e = .returned (.string r)) ∧ w' = w := by
  go_enter Tryd.func51, Tryd.ntmps51
  go_wp2_with fail
  refine (trimLeft_any s w hs).mono ?_
  rintro e w1 ⟨⟨r, hr, rfl⟩, hw1⟩
  have hw1' := hw1.symm
  subst hw1'
  clear hw1
  have HR : Hid (r.data.toList = I.trimL s.data.toList) := hr
  have hrs : r.size ≤ 4194304 := by
    have : (I.trimL s.data.toList).length ≤ s.data.toList.length := (List.dropWhile_sublist I.lws).length_le
    rw [← hr, ← size_list, ← size_list] at this
    omega
  clear hr
  go_wp2_with fail
  go_loopg [0] r.size (fun k v wr => ∃ u : ByteArray, k = u.size ∧ u.size ≤ r.size ∧ v = .string u ∧ wr = w ∧ Hid (I.trimR u.data.toList = I.trimR r.data.toList))
  case atStart => exact ⟨r, rfl, Nat.le_refl _, rfl, rfl, rfl⟩
  case round =>
    obtain ⟨u, hk, hu, rfl, hw, HQ⟩ := hrel
    have hw' := hw.symm
    subst hw'
    have HK : Hid (gk = u.size) := hk
    clear hk hw
    by_cases h0 : u.size = 0
    · have he : (u.toList == []) = true := by rw [beq_nil]; simp [h0]
      have HE : Hid (u.data.toList = []) := nil_of u h0
      go_wp2_with fail
      go_ret
      refine ⟨⟨u, ?_, rfl⟩, rfl⟩
      unfold I.trim
      rw [← HR.out, ← HQ.out, HE.out]; rfl
    · have he : (u.toList == []) = false := by rw [beq_nil]; simp [h0]
      obtain ⟨n, hn⟩ : ∃ n, u.size = n + 1 := ⟨u.size - 1, by omega⟩
      have HN : Hid (u.size = n + 1) := hn
      have hnn : n < u.size := by omega
      have hsub : (u.size : Int) - 1 = (n : Int) := by omega
      clear h0 hn
      cases hW : I.lws (u[n]'hnn) with
      | true =>
        have HW : Hid (I.lws (u[n]'hnn) = true) := hW
        clear hW
        go_wp2_with fail
        refine (isLWS_any (u[n]'hnn) _).mono ?_
        rintro e w1 ⟨rfl, rfl⟩
        rw [HW.out]
        go_wp2_with fail
        go_roundg n
        case measure => rw [HK.out, HN.out]; omega
        case rel =>
          have e1 : (u.extract 0 n).data.toList = u.data.toList.take n := by rw [ext_list]; simp
          have e2 : (u.extract 0 n).size = n := by rw [size_list, e1, List.length_take, ← size_list]; omega
          refine ⟨u.extract 0 n, e2.symm, by omega, rfl, rfl, ?_⟩
          show I.trimR (u.extract 0 n).data.toList = _
          rw [← HQ.out, e1, list_last u n HN.out, I.trimR_snoc _ _ HW.out, ← list_last u n HN.out]
      | false =>
        have HW : Hid (I.lws (u[n]'hnn) = false) := hW
        clear hW
        go_wp2_with fail
        refine (isLWS_any (u[n]'hnn) _).mono ?_
        rintro e w1 ⟨rfl, rfl⟩
        rw [HW.out]
        go_wp2_with fail
        go_ret
        refine ⟨⟨u, ?_, rfl⟩, rfl⟩
        unfold I.trim
        rw [← HR.out, ← HQ.out, list_last u n HN.out, trimR_stop _ _ HW.out]

theorem take_last (s : ByteArray) (i j : Nat) (hij : i < j) (hj : j ≤ s.size) : (s.data.toList.drop i).take (j - i) = (s.data.toList.drop i).take (j - 1 - i) ++ [s[j - 1]'(by omega)] := by
  have h : j - i = (j - 1 - i) + 1 := by omega
  rw [h, List.take_add_one, List.getElem?_drop, show i + (j - 1 - i) = j - 1 by omega, get_list s (j - 1) (by omega)]
  rfl

set_option maxHeartbeats 2000000 in
/-- zzTrimLWS. -/
theorem zzTrim_any (s : ByteArray) (w : World) (hs : s.size ≤ 4194304) :
    Calls Tryd.prog 37 #[.string s] w fun e w' => (∃ r : ByteArray, r.data.toList = I.trim s.data.toList ∧ e = .returned (.string r)) ∧ w' = w := by
  go_enter Tryd.func37, Tryd.ntmps37
  go_wp2_with fail
  go_loopg [3] s.size (fun k v wr => ∃ i : Nat, k = s.size - i ∧ i ≤ s.size ∧ v = .int .i64 (i : Int) ∧ wr = w ∧ Hid (I.trimL (s.data.toList.drop i) = I.trimL s.data.toList))
  case atStart => exact ⟨0, rfl, Nat.zero_le _, rfl, rfl, rfl⟩
  case round =>
    obtain ⟨i, hk, hi, rfl, hw, HQ⟩ := hrel
    have hw' := hw.symm
    subst hw'
    have HK : Hid (gk = s.size - i) := hk
    clear hk hw
    have rest : ∀ (W : Prop), (s.data.toList.drop i = I.trimL s.data.toList → W) → (¬ i < s.size ∨ ∃ h : i < s.size, I.lws (s[i]'h) = false) → W := fun W k h => k (by
      rw [← HQ.out]
      rcases h with h | ⟨h, hl⟩
      · rw [drop_none s i h]; rfl
      · rw [drop_cons s i h]
        unfold I.trimL
        rw [List.dropWhile_cons, if_neg (by rw [hl]; simp)])
    by_cases hlt : i < s.size
    · have hlt' : (i : Int) < (s.size : Int) := by omega
      cases hW : I.lws (s[i]'hlt) with
      | true =>
        have HW : Hid (I.lws (s[i]'hlt) = true) := hW
        clear hW rest
        go_wp2_with fail
        refine (zzIsLWS_any (s[i]'hlt) _).mono ?_
        rintro e w1 ⟨rfl, rfl⟩
        rw [HW.out]
        go_wp2_with fail
        go_roundg (s.size - (i + 1))
        case measure => rw [HK.out]; omega
        case rel =>
          refine ⟨i + 1, rfl, hlt, by go_num, rfl, ?_⟩
          show I.trimL _ = _
          rw [← HQ.out, drop_cons s i hlt, I.trimL_cons _ _ HW.out]
      | false =>
        have HD : Hid (s.data.toList.drop i = I.trimL s.data.toList) := rest _ (fun h => h) (.inr ⟨hlt, hW⟩)
        have HW : Hid (I.lws (s[i]'hlt) = false) := hW
        clear hW rest HQ HK
        go_wp2_with fail
        refine (zzIsLWS_any (s[i]'hlt) _).mono ?_
        rintro e w1 ⟨rfl, hw1⟩
        have hw1' := hw1.symm
        subst hw1'
        clear hw1
        rw [HW.out]
        go_wp2_with fail
        go_loopg [4] (s.size - i) (fun k v wr => ∃ j : Nat, k = j - i ∧ i ≤ j ∧ j ≤ s.size ∧ v = .int .i64 (j : Int) ∧ wr = w ∧ Hid (I.trimR ((s.data.toList.drop i).take (j - i)) = I.trim s.data.toList))
        case atStart =>
          refine ⟨s.size, rfl, hi, Nat.le_refl _, rfl, rfl, ?_⟩
          show I.trimR _ = _
          rw [List.take_of_length_le (by rw [List.length_drop, ← size_list]; omega), HD.out]
          rfl
        case round =>
          obtain ⟨j, hk, hij, hj, rfl, hw, HQ2⟩ := hrel
          have hw' := hw.symm
          subst hw'
          have HK2 : Hid (gk = j - i) := hk
          clear hk hw
          by_cases hlt2 : i < j
          · have hlt2' : (i : Int) < (j : Int) := by omega
            obtain ⟨m, hm⟩ : ∃ m, j = m + 1 := ⟨j - 1, by omega⟩
            subst hm
            have hsub : ((m + 1 : Nat) : Int) - 1 = (m : Int) := by omega
            have hms : m < s.size := by omega
            have HT : Hid ((s.data.toList.drop i).take (m + 1 - i) = (s.data.toList.drop i).take (m - i) ++ [s[m]'hms]) := take_last s i (m + 1) hlt2 hj
            have him : i ≤ m := by omega
            cases hW2 : I.lws (s[m]'hms) with
            | true =>
              have HW2 : Hid (I.lws (s[m]'hms) = true) := hW2
              clear hW2
              go_wp2_with fail
              refine (zzIsLWS_any (s[m]'hms) _).mono ?_
              rintro e w1 ⟨rfl, rfl⟩
              rw [HW2.out]
              go_wp2_with fail
              go_roundg (m - i)
              case measure => rw [HK2.out]; omega
              case rel =>
                refine ⟨m, rfl, him, by omega, by go_num, rfl, ?_⟩
                show I.trimR _ = _
                rw [← HQ2.out, HT.out, I.trimR_snoc _ _ HW2.out]
            | false =>
              have HW2 : Hid (I.lws (s[m]'hms) = false) := hW2
              clear hW2
              go_wp2_with fail
              refine (zzIsLWS_any (s[m]'hms) _).mono ?_
              rintro e w1 ⟨rfl, rfl⟩
              rw [HW2.out]
              go_wp2_with fail
              go_ret
              refine ⟨⟨s.extract i (m + 1), ?_, rfl⟩, rfl⟩
              rw [ext_list, ← HQ2.out, HT.out, trimR_stop _ _ HW2.out]
          · have hlt2' : ¬ (i : Int) < (j : Int) := by omega
            have hij2 : j = i := by omega
            subst hij2
            go_wp2_with fail
            go_ret
            refine ⟨⟨ByteArray.empty, ?_, rfl⟩, rfl⟩
            rw [← HQ2.out, Nat.sub_self, List.take_zero]
            rfl
    · have hlt' : ¬ (i : Int) < (s.size : Int) := by omega
      have HD : Hid (s.data.toList.drop i = I.trimL s.data.toList) := rest _ (fun h => h) (.inl hlt)
      have his : i = s.size := by omega
      have HE : Hid (I.trim s.data.toList = []) := by
        show I.trim _ = _
        unfold I.trim
        rw [← HD.out, drop_none s i hlt]
        rfl
      have hse : (s.size : Int) = (i : Int) := by omega
      clear rest HQ HK HD
      go_wp2_with fail
      go_loopg [4] 0 (fun k v wr => v = .int .i64 (i : Int) ∧ wr = w)
      case atStart => exact ⟨by rw [his], rfl⟩
      case round =>
        obtain ⟨rfl, hw⟩ := hrel
        have hw' := hw.symm
        subst hw'
        clear hw
        have hno : ¬ (i : Int) < (i : Int) := by omega
        go_wp2_with fail
        go_ret
        refine ⟨⟨ByteArray.empty, ?_, rfl⟩, rfl⟩
        rw [HE.out]
        rfl

end Go.Proofs.Qxb6616805aDoor
