/- cutList. -/
import Derived.Test.Qxb6616805aDoorG1
import Derived.WideShapes
set_option linter.unusedVariables false
set_option linter.unusedSimpArgs false
set_option linter.unnecessarySimpa false
namespace Go.Proofs.Qxb6616805aDoor
open Go.RowKit

def bs (l : List UInt8) : ByteArray := ⟨l.toArray⟩
theorem bs_list (l : List UInt8) : (bs l).data.toList = l := rfl
theorem bs_of {r : ByteArray} {l : List UInt8} (h : r.data.toList = l) : r = bs l := Go.WideShapes.bytes_inj h

theorem trimLWS_bs (s : ByteArray) (w : World) (hs : s.size ≤ 4194304) : Calls Tryd.prog 51 #[.string s] w fun e w' => e = .returned (.string (bs (I.trim s.data.toList))) ∧ w' = w :=
  (trimLWS_any s w hs).mono fun e w' ⟨⟨r, h1, h2⟩, h3⟩ => ⟨by rw [h2, bs_of h1], h3⟩
theorem zzTrim_bs (s : ByteArray) (w : World) (hs : s.size ≤ 4194304) : Calls Tryd.prog 37 #[.string s] w fun e w' => e = .returned (.string (bs (I.trim s.data.toList))) ∧ w' = w :=
  (zzTrim_any s w hs).mono fun e w' ⟨⟨r, h1, h2⟩, h3⟩ => ⟨by rw [h2, bs_of h1], h3⟩

/-- What cutList hands out. -/
def Cut (l : List UInt8) (a b : ByteArray) : Prop :=
  (∃ p r, l = p ++ 44 :: r ∧ I.scan I.s0 p = some I.s0 ∧ a.data.toList = I.trim p ∧ b.data.toList = I.trim r) ∨ ((∃ t, I.scan I.s0 l = some t) ∧ a.data.toList = I.trim l ∧ b.data.toList = [])

theorem scan_take (s : ByteArray) (i : Nat) (h : i < s.size) {t : I.St} (ht : I.scan I.s0 (s.data.toList.take i) = some t) : I.scan I.s0 (s.data.toList.take (i + 1)) = I.stp t s[i] := by
  rw [List.take_add_one, get_list s i h, I.scan_append, ht]
  simp only [Option.toList_some, Option.bind_some, I.scan]
  cases I.stp t s[i] <;> rfl
theorem stp_q {a : Bool} {c : UInt8} (h1 : ((c.toNat : Int) == 92) = false) (h2 : ((c.toNat : Int) == 34) = false) : I.stp (true, a, false) c = some (true, a, false) := by
  have n1 : c ≠ 92 := by rintro rfl; simp at h1
  have n2 : c ≠ 34 := by rintro rfl; simp at h2
  simp [I.stp, n1, n2]
theorem of_int {c : UInt8} {n : Nat} (h : ((c.toNat : Int) == (n : Int)) = true) (hn : n < 256) : c = UInt8.ofNat n := by
  have : c.toNat = n := by simp at h; omega
  apply UInt8.toNat_inj.1
  rw [this]
  simp [UInt8.toNat_ofNat']
  omega
theorem stp_plain {a : Bool} {c : UInt8} (h1 : ((c.toNat : Int) == 34) = false) (h2 : ((c.toNat : Int) == 60) = false) (h3 : ((c.toNat : Int) == 62) = false) (h4 : ((c.toNat : Int) == 44) = false ∨ a = true) : I.stp (false, a, false) c = some (false, a, false) := by
  have n1 : c ≠ 34 := by rintro rfl; simp at h1
  have n2 : c ≠ 60 := by rintro rfl; simp at h2
  have n3 : c ≠ 62 := by rintro rfl; simp at h3
  have n4 : ¬ (c = 44 ∧ a = false) := by
    rintro ⟨rfl, rfl⟩
    rcases h4 with h4 | h4
    · simp at h4
    · cases h4
  simp only [I.stp, if_neg n1, if_neg n2, if_neg n3, if_neg n4]

set_option maxHeartbeats 4000000 in
theorem cutList_any (s : ByteArray) (w : World) (hs : s.size ≤ 4194304) :
    Calls Tryd.prog 44 #[.string s] w fun e w' => (∃ a b, Cut s.data.toList a b ∧ e = .returned (.tuple #[.string a, .string b])) ∧ ∃ m, w' = w.drewN m := by
  go_enter Tryd.func44, Tryd.ntmps44
  go_wp2_with fail
  go_loopg [4, 5, 6] (s.size + 2) (fun g v4 v5 v6 wr => ∃ (q a : Bool) (i : Nat), g = s.size + 2 - i ∧ i ≤ s.size + 1 ∧ v4 = .bool q ∧ v5 = .bool a ∧ v6 = .int .i64 (i : Int) ∧ wr = w ∧ Hid ((i ≤ s.size ∧ I.scan I.s0 (s.data.toList.take i) = some (q, a, false)) ∨ (i = s.size + 1 ∧ ∃ t, I.scan I.s0 s.data.toList = some t)))
  case atStart => exact ⟨false, false, 0, rfl, by omega, rfl, rfl, rfl, rfl, .inl ⟨by omega, rfl⟩⟩
  case round =>
    obtain ⟨q, a, i, hg, hi, rfl, rfl, rfl, hw, HQ⟩ := hrel
    have hw' := hw.symm
    subst hw'
    have HG : Hid (gk = s.size + 2 - i) := hg
    clear hg hw
    by_cases hlt : i < s.size
    · have hlt' : (i : Int) < (s.size : Int) := by omega
      have HS : Hid (I.scan I.s0 (s.data.toList.take i) = some (q, a, false)) := by
        rcases HQ.out with h | h
        · exact h.2
        · omega
      have HT : Hid (∀ t, I.stp (q, a, false) (s[i]'hlt) = some t → I.scan I.s0 (s.data.toList.take (i + 1)) = some t) := fun t ht => by rw [scan_take s i hlt HS.out]; exact ht
      clear HQ
      cases q with
      | true =>
        cases h1 : (((s[i]'hlt).toNat : Int) == 92) with
        | true =>
          have HC : Hid (s[i]'hlt = 92) := of_int (n := 92) h1 (by omega)
          go_wp2_with fail
          go_roundg (s.size + 2 - (i + 2))
          case measure => rw [HG.out]; omega
          case rel =>
            have e1 := HT.out (true, a, true) (by rw [HC.out]; rfl)
            refine ⟨true, a, i + 2, rfl, by omega, rfl, rfl, by go_num, rfl, ?_⟩
            by_cases h2 : i + 1 < s.size
            · refine .inl ⟨by omega, ?_⟩
              rw [scan_take s (i + 1) h2 e1]
              rfl
            · refine .inr ⟨by omega, (true, a, true), ?_⟩
              rw [← e1, List.take_of_length_le (by rw [← size_list]; omega)]
        | false =>
          cases h2 : (((s[i]'hlt).toNat : Int) == 34) with
          | true =>
            have HC : Hid (s[i]'hlt = 34) := of_int (n := 34) h2 (by omega)
            go_wp2_with fail
            go_roundg (s.size + 2 - (i + 1))
            case measure => rw [HG.out]; omega
            case rel => exact ⟨false, a, i + 1, rfl, by omega, rfl, rfl, by go_num, rfl, .inl ⟨by omega, HT.out _ (by rw [HC.out]; rfl)⟩⟩
          | false =>
            have HC : Hid (I.stp (true, a, false) (s[i]'hlt) = some (true, a, false)) := stp_q h1 h2
            go_wp2_with fail
            go_roundg (s.size + 2 - (i + 1))
            case measure => rw [HG.out]; omega
            case rel => exact ⟨true, a, i + 1, rfl, by omega, rfl, rfl, by go_num, rfl, .inl ⟨by omega, HT.out _ HC.out⟩⟩
      | false =>
        cases h1 : (((s[i]'hlt).toNat : Int) == 34) with
        | true =>
          have HC : Hid (s[i]'hlt = 34) := of_int (n := 34) h1 (by omega)
          go_wp2_with fail
          go_roundg (s.size + 2 - (i + 1))
          case measure => rw [HG.out]; omega
          case rel => exact ⟨true, a, i + 1, rfl, by omega, rfl, rfl, by go_num, rfl, .inl ⟨by omega, HT.out _ (by rw [HC.out]; rfl)⟩⟩
        | false =>
          cases h2 : (((s[i]'hlt).toNat : Int) == 60) with
          | true =>
            have HC : Hid (s[i]'hlt = 60) := of_int (n := 60) h2 (by omega)
            go_wp2_with fail
            go_roundg (s.size + 2 - (i + 1))
            case measure => rw [HG.out]; omega
            case rel => exact ⟨false, true, i + 1, rfl, by omega, rfl, rfl, by go_num, rfl, .inl ⟨by omega, HT.out _ (by rw [HC.out]; rfl)⟩⟩
          | false =>
            cases h3 : (((s[i]'hlt).toNat : Int) == 62) with
            | true =>
              have HC : Hid (s[i]'hlt = 62) := of_int (n := 62) h3 (by omega)
              go_wp2_with fail
              go_roundg (s.size + 2 - (i + 1))
              case measure => rw [HG.out]; omega
              case rel => exact ⟨false, false, i + 1, rfl, by omega, rfl, rfl, by go_num, rfl, .inl ⟨by omega, HT.out _ (by rw [HC.out]; rfl)⟩⟩
            | false =>
              cases h4 : (((s[i]'hlt).toNat : Int) == 44) with
              | true =>
                cases a with
                | true =>
                  have HC : Hid (I.stp (false, true, false) (s[i]'hlt) = some (false, true, false)) := stp_plain h1 h2 h3 (.inr rfl)
                  go_wp2_with fail
                  go_roundg (s.size + 2 - (i + 1))
                  case measure => rw [HG.out]; omega
                  case rel => exact ⟨false, true, i + 1, rfl, by omega, rfl, rfl, by go_num, rfl, .inl ⟨by omega, HT.out _ HC.out⟩⟩
                | false =>
                  have HC : Hid (s[i]'hlt = 44) := of_int (n := 44) h4 (by omega)
                  have hx1 : (s.extract 0 i).size ≤ 4194304 := by rw [size_list, ext_list, List.length_take]; omega
                  have hx2 : (s.extract (i + 1) s.size).size ≤ 4194304 := by rw [size_list, ext_list, List.length_take, List.length_drop, ← size_list]; omega
                  go_wp2_with fail
                  go_quiet (first | exact Calls.quiet_of_same (trimLWS_bs _ _ hx1) | exact Calls.quiet_of_same (trimLWS_bs _ _ hx2))
                  go_wp2_with fail
                  go_ret2
                  refine ⟨⟨_, _, .inl ⟨s.data.toList.take i, s.data.toList.drop (i + 1), ?_, HS.out, ?_, ?_⟩, rfl⟩, nq, rfl⟩
                  · rw [← HC.out, ← drop_cons s i hlt, List.take_append_drop]
                  · rw [bs_list, ext_list]; simp
                  · rw [bs_list, ext_list, List.take_of_length_le (by rw [List.length_drop, ← size_list]; omega)]
              | false =>
                have HC : Hid (I.stp (false, a, false) (s[i]'hlt) = some (false, a, false)) := stp_plain h1 h2 h3 (.inl h4)
                go_wp2_with fail
                go_roundg (s.size + 2 - (i + 1))
                case measure => rw [HG.out]; omega
                case rel => exact ⟨false, a, i + 1, rfl, by omega, rfl, rfl, by go_num, rfl, .inl ⟨by omega, HT.out _ HC.out⟩⟩
    · have hlt' : ¬ (i : Int) < (s.size : Int) := by omega
      have HE : Hid (∃ t, I.scan I.s0 s.data.toList = some t) := by
        rcases HQ.out with h | h
        · exact ⟨(q, a, false), by rw [← h.2, List.take_of_length_le (by rw [← size_list]; omega)]⟩
        · exact h.2
      go_wp2_with fail
      refine (trimLWS_bs s w hs).mono ?_
      rintro e w1 ⟨rfl, hw1⟩
      have hw1' := hw1.symm
      subst hw1'
      clear hw1
      go_wp2_with fail
      go_ret2
      exact ⟨⟨_, _, .inr ⟨HE.out, rfl, rfl⟩, rfl⟩, 0, rfl⟩

end Go.Proofs.Qxb6616805aDoor
