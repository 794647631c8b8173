/- The walk of number. -/
import Derived.Test.Qxb6616712aFmtW3
set_option linter.unusedVariables false
set_option linter.unusedSimpArgs false
set_option linter.unnecessarySimpa false
namespace Go.Proofs.Qxb6616712aFmt
open Go.RowKit

theorem isNext_cons {c : Nat} {l : List UInt8} (hc : c < 256) (h : isNext (c : Int) l = true) : ∃ x t, l = x :: t ∧ x = UInt8.ofNat c := by
  cases l with
  | nil => simp [isNext] at h
  | cons x t =>
    refine ⟨x, t, rfl, ?_⟩
    simp only [isNext] at h
    rw [u8_eq x c hc] at h
    simpa using h
theorem isNext_not {c : Nat} {x : UInt8} {t : List UInt8} (hc : c < 256) (h : isNext (c : Int) (x :: t) = false) : (x == UInt8.ofNat c) = false := by
  simp only [isNext] at h
  rw [u8_eq x c hc] at h
  exact h

theorem minus_yes {l : List UInt8} (h : isNext 45 l = true) : ∃ t, l = 45 :: t ∧ J.minus l = t := by
  obtain ⟨x, t, rfl, rfl⟩ := isNext_cons (c := 45) (by omega) h
  exact ⟨t, rfl, rfl⟩
theorem minus_no {l : List UInt8} (h : isNext 45 l = false) : J.minus l = l := by
  cases l with
  | nil => rfl
  | cons x t =>
    have := isNext_not (c := 45) (by omega) h
    simp only [J.minus]
    rw [show (x == 45) = false from this]; rfl
theorem num_nodigit {l : List UInt8} (h : digB (J.minus l) = false) : J.num l = none := by
  unfold J.num
  have : J.whole (J.minus l) = none := by
    revert h
    cases J.minus l with
    | nil => intro _; rfl
    | cons x t => intro h; simp only [digB] at h; simp only [J.whole]; rw [h]; rfl
  rw [this]
theorem whole_zero {l : List UInt8} (h : isNext 48 l = true) : ∃ t, l = 48 :: t ∧ J.whole l = some t := by
  obtain ⟨x, t, rfl, rfl⟩ := isNext_cons (c := 48) (by omega) h
  exact ⟨t, rfl, rfl⟩
theorem whole_digs {l : List UInt8} (hd : digB l = true) (h : isNext 48 l = false) : J.whole l = some (J.digs l) := by
  cases l with
  | nil => simp [digB] at hd
  | cons x t =>
    have := isNext_not (c := 48) (by omega) h
    simp only [digB] at hd
    simp only [J.whole]
    rw [if_pos hd]
    rw [show (x == 48) = false from this]
    rfl
theorem frac_no {l : List UInt8} (h : isNext 46 l = false) : J.frac l = some l := by
  cases l with
  | nil => rfl
  | cons x t =>
    have := isNext_not (c := 46) (by omega) h
    simp only [J.frac]
    rw [show (x == 46) = false from this]; rfl
theorem frac_bad {l : List UInt8} (h : isNext 46 l = true) : ∃ t, l = 46 :: t ∧ (digB t = false → J.frac l = none) ∧ (digB t = true → J.frac l = some (J.digs t)) := by
  obtain ⟨x, t, rfl, rfl⟩ := isNext_cons (c := 46) (by omega) h
  refine ⟨t, rfl, fun hd => ?_, fun hd => ?_⟩
  · cases t with
    | nil => rfl
    | cons y t => simp only [digB] at hd; show (if J.isDig y = true then _ else _) = _; rw [hd]; rfl
  · cases t with
    | nil => simp [digB] at hd
    | cons y t => simp only [digB] at hd; show (if J.isDig y = true then _ else _) = _; rw [if_pos hd]
theorem expo_no {l : List UInt8} (h1 : isNext 101 l = false) (h2 : isNext 69 l = false) : J.expo l = some l := by
  cases l with
  | nil => rfl
  | cons x t =>
    have e1 := isNext_not (c := 101) (by omega) h1
    have e2 := isNext_not (c := 69) (by omega) h2
    simp only [J.expo]
    rw [show (x == 101 || x == 69) = false from by rw [show (x == 101) = false from e1, show (x == 69) = false from e2]; rfl]; rfl
theorem expo_yes {l : List UInt8} (h : isNext 101 l = true ∨ isNext 69 l = true) : ∃ x t, l = x :: t ∧ (digB (J.sign t) = false → J.expo l = none) ∧ (digB (J.sign t) = true → J.expo l = some (J.digs (J.sign t))) := by
  have key : ∀ (x : UInt8) t, (x == 101 || x == 69) = true → (digB (J.sign t) = false → J.expo (x :: t) = none) ∧ (digB (J.sign t) = true → J.expo (x :: t) = some (J.digs (J.sign t))) := by
    intro x t hx
    simp only [J.expo]
    rw [if_pos hx]
    cases J.sign t with
    | nil => exact ⟨fun _ => rfl, fun hd => by simp [digB] at hd⟩
    | cons y t =>
      simp only [digB]
      exact ⟨fun hd => by rw [hd]; rfl, fun hd => by rw [if_pos hd]⟩
  rcases h with h | h
  · obtain ⟨x, t, rfl, rfl⟩ := isNext_cons (c := 101) (by omega) h
    exact ⟨_, t, rfl, key _ t (by decide)⟩
  · obtain ⟨x, t, rfl, rfl⟩ := isNext_cons (c := 69) (by omega) h
    exact ⟨_, t, rfl, key _ t (by decide)⟩
theorem sign_yes {l : List UInt8} (h : isNext 43 l = true ∨ isNext 45 l = true) : ∃ x t, l = x :: t ∧ J.sign l = t := by
  rcases h with h | h
  · obtain ⟨x, t, rfl, rfl⟩ := isNext_cons (c := 43) (by omega) h
    exact ⟨_, t, rfl, rfl⟩
  · obtain ⟨x, t, rfl, rfl⟩ := isNext_cons (c := 45) (by omega) h
    exact ⟨_, t, rfl, rfl⟩
theorem sign_no {l : List UInt8} (h1 : isNext 43 l = false) (h2 : isNext 45 l = false) : J.sign l = l := by
  cases l with
  | nil => rfl
  | cons x t =>
    have e1 := isNext_not (c := 43) (by omega) h1
    have e2 := isNext_not (c := 45) (by omega) h2
    simp only [J.sign]
    rw [show (x == 43 || x == 45) = false from by rw [show (x == 43) = false from e1, show (x == 45) = false from e2]; rfl]; rfl

theorem isNext_drop {s : ByteArray} {p : Nat} {c : Int} (h : isNext c (s.data.toList.drop p) = true) : p < s.size := by
  by_cases hp : p < s.size
  · exact hp
  · rw [drop_none s p hp] at h; simp [isNext] at h

/-- Behind the whole part. -/
theorem num_of_whole {l l1 : List UInt8} (h : J.whole (J.minus l) = some l1) : J.num l = (match J.frac l1 with | none => none | some l2 => J.expo l2) := by
  simp only [J.num, h]
  cases J.frac l1 <;> rfl

theorem le_of_drop {s : ByteArray} {p q : Nat} (hp : p ≤ s.size) (hq : q ≤ s.size) (h : (s.data.toList.drop q).length ≤ (s.data.toList.drop p).length) : p ≤ q := by
  simp only [List.length_drop, Array.length_toList] at h
  have : s.data.size = s.size := rfl
  omega
theorem digs_len (l : List UInt8) : (J.digs l).length ≤ l.length := List.Sublist.length_le (List.dropWhile_sublist _)

set_option maxHeartbeats 1000000 in
theorem number_any (B : Nat) (E : World → Prop) (hSE : SErr B E) (b : Nat) (s : ByteArray) (p : Nat) (d : Int) (w : World) (hr : Rd b s p d w) (hs : s.size ≤ 1048576) (hp : p ≤ s.size) (hb : B ≤ b) (hE : E w)
    (hfirst : Hid (isNext 45 (s.data.toList.drop p) = true ∨ digB (s.data.toList.drop p) = true)) :
    Calls Tryf.prog 30 #[.pointer (some ⟨b, 0, none⟩)] w fun e w' => Out2 b s d w (J.num (s.data.toList.drop p)) e w' := by
  have c1 := hr.cell1
  go_enter Tryf.func30, Tryf.ntmps30
  go_upto_region 2 with fail
  go_cut [15] (fun s15 wx => (s15 = .bool true ∧ Hid (J.num (s.data.toList.drop p) = none) ∧ (∃ q : Nat, Rd b s q d wx) ∧ Fr b w wx) ∨ (s15 = .bool false ∧ (∃ q : Nat, p ≤ q ∧ q ≤ s.size ∧ Hid (J.minus (s.data.toList.drop p) = s.data.toList.drop q ∧ digB (s.data.toList.drop q) = true) ∧ Rd b s q d wx) ∧ Fr b w wx))
  case first =>
    cases hm : isNext 45 (s.data.toList.drop p) with
    | true =>
      have HM : Hid (isNext 45 (s.data.toList.drop p) = true) := hm
      clear hm
      obtain ⟨t, ht, hmt⟩ := minus_yes HM.out
      obtain ⟨hp2, _, hd2⟩ := drop_inv ht
      have HT : Hid (J.minus (s.data.toList.drop p) = s.data.toList.drop (p + 1)) := hmt.trans hd2.symm
      clear ht hmt hd2
      go_wp2_with fail
      refine (next_is b s p d _ _ hr hs HM.out).mono ?_
      rintro e w1 ⟨rfl, hr1, hf1⟩
      go_wp2_with fail
      refine (digit_any b s (p + 1) d _ hr1).mono ?_
      rintro e w2 ⟨rfl, hr2, hf2⟩
      cases hd : digB (s.data.toList.drop (p + 1)) with
      | true =>
        have HD : Hid (digB (s.data.toList.drop (p + 1)) = true) := hd
        clear hd
        go_wp2_with fail
        go_meet
        case rel => exact Or.inr ⟨rfl, ⟨p + 1, by omega, by omega, ⟨HT.out, HD.out⟩, hr2⟩, hf1.trans hf2⟩
      | false =>
        have HD : Hid (digB (s.data.toList.drop (p + 1)) = false) := hd
        clear hd
        go_wp2_with fail
        go_meet
        case rel => exact Or.inl ⟨rfl, num_nodigit (by rw [HT.out]; exact HD.out), ⟨_, hr2⟩, hf1.trans hf2⟩
    | false =>
      have HM : Hid (isNext 45 (s.data.toList.drop p) = false) := hm
      clear hm
      go_wp2_with fail
      refine (next_isnt b s p d _ _ hr HM.out).mono ?_
      rintro e w1 ⟨rfl, hr1, hf1⟩
      go_wp2_with fail
      go_meet
      case rel =>
        refine Or.inr ⟨rfl, ⟨p, Nat.le_refl _, hp, ⟨minus_no HM.out, ?_⟩, hr1⟩, hf1⟩
        rcases hfirst.out with h | h
        · rw [HM.out] at h; cases h
        · exact h
  case rest =>
    rcases hcut with ⟨rfl, HN, ⟨q, hrq⟩, hfq⟩ | ⟨rfl, ⟨q, hpq, hqs, HQ, hrq⟩, hfq⟩
    · go_wp2_with fail
      refine (hSE.call _ hrq hs (hSE.keep hb hE hfq)).mono ?_
      rintro e w2 ⟨⟨T, v, rfl⟩, hr2, hf2⟩
      go_wp2_with fail
      go_ret2
      rw [HN.out]
      exact ⟨⟨_, T, v, rfl⟩, ⟨_, _, hr2⟩, hfq.trans hf2⟩
    · go_upto_region 4 with fail
      go_cut [20] (fun s20 wx => (s20 = .bool false ∧ (∃ q1 : Nat, p ≤ q1 ∧ q1 ≤ s.size ∧ Hid (J.whole (J.minus (s.data.toList.drop p)) = some (s.data.toList.drop q1)) ∧ Rd b s q1 d wx) ∧ Fr b w wx) ∨ (s20 = .bool true ∧ (Hid (J.whole (J.minus (s.data.toList.drop p)) = some (J.digs (s.data.toList.drop q))) ∧ Rd b s q d wx) ∧ Fr b w wx))
      case first =>
        cases hm : isNext 48 (s.data.toList.drop q) with
        | true =>
          have HM : Hid (isNext 48 (s.data.toList.drop q) = true) := hm
          clear hm
          have hlt := isNext_drop HM.out
          go_wp2_with fail
          refine (next_is b s q d _ _ hrq hs HM.out).mono ?_
          rintro e w1 ⟨rfl, hr1, hf1⟩
          go_wp2_with fail
          go_meet
          case rel =>
            refine Or.inl ⟨rfl, ⟨q + 1, by omega, by omega, ?_, hr1⟩, hfq.trans hf1⟩
            obtain ⟨t, h1, h2⟩ := whole_zero HM.out
            obtain ⟨_, _, h3⟩ := drop_inv h1
            rw [HQ.out.1, h3]; exact h2
        | false =>
          have HM : Hid (isNext 48 (s.data.toList.drop q) = false) := hm
          clear hm
          go_wp2_with fail
          refine (next_isnt b s q d _ _ hrq HM.out).mono ?_
          rintro e w1 ⟨rfl, hr1, hf1⟩
          go_wp2_with fail
          go_meet
          case rel =>
            refine Or.inr ⟨rfl, ⟨?_, hr1⟩, hfq.trans hf1⟩
            rw [HQ.out.1]; exact whole_digs HQ.out.2 HM.out
      case rest =>
        go_upto_if 20 with fail
        go_cut [] (fun wx => (∃ q1 : Nat, p ≤ q1 ∧ q1 ≤ s.size ∧ Hid (J.whole (J.minus (s.data.toList.drop p)) = some (s.data.toList.drop q1)) ∧ Rd b s q1 d wx) ∧ Fr b w wx)
        case first =>
          rcases hcut with ⟨rfl, ⟨q1, g1, g2, g3, g4⟩, g5⟩ | ⟨rfl, ⟨g3, g4⟩, g5⟩
          · go_wp2_with fail
            go_meet
            case rel => exact ⟨⟨q1, g1, g2, g3, g4⟩, g5⟩
          · go_wp2_with fail
            refine (digits_any b s q d _ g4 hs hqs).mono ?_
            rintro e w1 ⟨rfl, ⟨q1, k1, k2, k3⟩, hf1⟩
            have K2 : Hid (s.data.toList.drop q1 = J.digs (s.data.toList.drop q)) := k2
            clear k2
            go_wp2_with fail
            go_meet
            case rel =>
              have hle : q ≤ q1 := le_of_drop hqs k1 (by rw [K2.out]; exact digs_len _)
              exact ⟨⟨q1, by omega, k1, by rw [K2.out]; exact g3.out, k3⟩, g5.trans hf1⟩
        case rest =>
          clear hrq hfq
          obtain ⟨⟨q1, hpq1, hq1s, HW, hr1⟩, hf1⟩ := hcut
          go_upto_region 6 with fail
          go_cut [24] (fun s24 wx => (s24 = .bool false ∧ Hid (J.frac (s.data.toList.drop q1) = some (s.data.toList.drop q1)) ∧ Rd b s q1 d wx ∧ Fr b w wx) ∨ (s24 = .bool true ∧ q1 < s.size ∧ Hid ((digB (s.data.toList.drop (q1 + 1)) = false → J.frac (s.data.toList.drop q1) = none) ∧ (digB (s.data.toList.drop (q1 + 1)) = true → J.frac (s.data.toList.drop q1) = some (J.digs (s.data.toList.drop (q1 + 1))))) ∧ Rd b s ((q1 + 1 : Nat) : Int) d wx ∧ Fr b w wx))
          case first =>
            cases hm : isNext 46 (s.data.toList.drop q1) with
            | true =>
              have HM : Hid (isNext 46 (s.data.toList.drop q1) = true) := hm
              clear hm
              have hlt := isNext_drop HM.out
              go_wp2_with fail
              refine (next_is b s q1 d _ _ hr1 hs HM.out).mono ?_
              rintro e w2 ⟨rfl, hr2, hf2⟩
              go_wp2_with fail
              go_meet
              case rel =>
                obtain ⟨t, h1, h2⟩ := frac_bad HM.out
                obtain ⟨_, _, h3⟩ := drop_inv h1
                exact Or.inr ⟨rfl, hlt, by rw [h3]; exact h2, hr2, hf1.trans hf2⟩
            | false =>
              have HM : Hid (isNext 46 (s.data.toList.drop q1) = false) := hm
              clear hm
              go_wp2_with fail
              refine (next_isnt b s q1 d _ _ hr1 HM.out).mono ?_
              rintro e w2 ⟨rfl, hr2, hf2⟩
              go_wp2_with fail
              go_meet
              case rel => exact Or.inl ⟨rfl, frac_no HM.out, hr2, hf1.trans hf2⟩
          case rest =>
            go_upto_if 24 with fail
            go_cut [] (fun wx => (∃ q2 : Nat, p ≤ q2 ∧ q2 ≤ s.size ∧ Hid (J.frac (s.data.toList.drop q1) = some (s.data.toList.drop q2)) ∧ Rd b s q2 d wx) ∧ Fr b w wx)
            case first =>
              clear hr1 hf1
              rcases hcut with ⟨rfl, HF, hr2, hf2⟩ | ⟨rfl, hlt, HF, hr2, hf2⟩
              · go_wp2_with fail
                go_meet
                case rel => exact ⟨⟨q1, hpq1, hq1s, HF, hr2⟩, hf2⟩
              · go_wp2_with fail
                refine (digit_any b s (q1 + 1) d _ hr2).mono ?_
                rintro e w3 ⟨rfl, hr3, hf3⟩
                cases hd : digB (s.data.toList.drop (q1 + 1)) with
                | true =>
                  have HD : Hid (digB (s.data.toList.drop (q1 + 1)) = true) := hd
                  clear hd
                  go_wp2_with fail
                  refine (digits_any b s (q1 + 1) d _ hr3 hs (by omega)).mono ?_
                  rintro e w4 ⟨rfl, ⟨q2, k1, k2, k3⟩, hf4⟩
                  have K2 : Hid (s.data.toList.drop q2 = J.digs (s.data.toList.drop (q1 + 1))) := k2
                  clear k2
                  go_wp2_with fail
                  go_meet
                  case rel =>
                    have hle : q1 + 1 ≤ q2 := le_of_drop hlt k1 (by rw [K2.out]; exact digs_len _)
                    exact ⟨⟨q2, by omega, k1, by rw [K2.out]; exact HF.out.2 HD.out, k3⟩, hf2.trans (hf3.trans hf4)⟩
                | false =>
                  have HD : Hid (digB (s.data.toList.drop (q1 + 1)) = false) := hd
                  clear hd
                  go_wp2_with fail
                  refine (hSE.call _ hr3 hs (hSE.keep hb hE (hf2.trans hf3))).mono ?_
                  rintro e w4 ⟨⟨T, v, rfl⟩, hr4, hf4⟩
                  go_wp2_with fail
                  go_ret2
                  rw [num_of_whole HW.out, HF.out.1 HD.out]
                  exact ⟨⟨_, T, v, rfl⟩, ⟨_, _, hr4⟩, hf2.trans (hf3.trans hf4)⟩
            case rest =>
              clear hr1 hf1
              obtain ⟨⟨q2, hpq2, hq2s, HF, hr2⟩, hf2⟩ := hcut
              go_upto_region 10 with fail
              go_cut [37] (fun s37 wx => (s37 = .bool false ∧ Hid (J.expo (s.data.toList.drop q2) = some (s.data.toList.drop q2)) ∧ Rd b s q2 d wx ∧ Fr b w wx) ∨ (s37 = .bool true ∧ q2 < s.size ∧ Hid ((digB (J.sign (s.data.toList.drop (q2 + 1))) = false → J.expo (s.data.toList.drop q2) = none) ∧ (digB (J.sign (s.data.toList.drop (q2 + 1))) = true → J.expo (s.data.toList.drop q2) = some (J.digs (J.sign (s.data.toList.drop (q2 + 1)))))) ∧ Rd b s ((q2 + 1 : Nat) : Int) d wx ∧ Fr b w wx))
              case first =>
                cases hm : isNext 101 (s.data.toList.drop q2) with
                | true =>
                  have HM : Hid (isNext 101 (s.data.toList.drop q2) = true) := hm
                  clear hm
                  have hlt := isNext_drop HM.out
                  go_wp2_with fail
                  refine (next_is b s q2 d _ _ hr2 hs HM.out).mono ?_
                  rintro e w3 ⟨rfl, hr3, hf3⟩
                  go_wp2_with fail
                  go_meet
                  case rel =>
                    obtain ⟨x, t, h1, h2⟩ := expo_yes (Or.inl HM.out)
                    obtain ⟨_, _, h3⟩ := drop_inv h1
                    exact Or.inr ⟨rfl, hlt, by rw [h3]; exact h2, hr3, hf2.trans hf3⟩
                | false =>
                  have HM : Hid (isNext 101 (s.data.toList.drop q2) = false) := hm
                  clear hm
                  cases hm : isNext 69 (s.data.toList.drop q2) with
                  | true =>
                    have HM2 : Hid (isNext 69 (s.data.toList.drop q2) = true) := hm
                    clear hm
                    have hlt := isNext_drop HM2.out
                    go_wp2_with fail
                    refine (next_isnt b s q2 d _ _ hr2 HM.out).mono ?_
                    rintro e w3 ⟨rfl, hr3, hf3⟩
                    go_wp2_with fail
                    refine (next_is b s q2 d _ _ hr3 hs HM2.out).mono ?_
                    rintro e w4 ⟨rfl, hr4, hf4⟩
                    go_wp2_with fail
                    go_meet
                    case rel =>
                      obtain ⟨x, t, h1, h2⟩ := expo_yes (Or.inr HM2.out)
                      obtain ⟨_, _, h3⟩ := drop_inv h1
                      exact Or.inr ⟨rfl, hlt, by rw [h3]; exact h2, hr4, hf2.trans (hf3.trans hf4)⟩
                  | false =>
                    have HM2 : Hid (isNext 69 (s.data.toList.drop q2) = false) := hm
                    clear hm
                    go_wp2_with fail
                    refine (next_isnt b s q2 d _ _ hr2 HM.out).mono ?_
                    rintro e w3 ⟨rfl, hr3, hf3⟩
                    go_wp2_with fail
                    refine (next_isnt b s q2 d _ _ hr3 HM2.out).mono ?_
                    rintro e w4 ⟨rfl, hr4, hf4⟩
                    go_wp2_with fail
                    go_meet
                    case rel => exact Or.inl ⟨rfl, expo_no HM.out HM2.out, hr4, hf2.trans (hf3.trans hf4)⟩
              case rest =>
                go_upto_if 37 with fail
                go_cut [] (fun wx => (∃ q3 : Nat, p ≤ q3 ∧ q3 ≤ s.size ∧ Hid (J.expo (s.data.toList.drop q2) = some (s.data.toList.drop q3)) ∧ Rd b s q3 d wx) ∧ Fr b w wx)
                case first =>
                  clear hr2 hf2
                  rcases hcut with ⟨rfl, HX, hr3, hf3⟩ | ⟨rfl, hlt, HX, hr3, hf3⟩
                  · go_wp2_with fail
                    go_meet
                    case rel => exact ⟨⟨q2, hpq2, hq2s, HX, hr3⟩, hf3⟩
                  · go_upto_region 11 with fail
                    go_cut [] (fun wx => (∃ q : Nat, q2 + 1 ≤ q ∧ q ≤ s.size ∧ Hid (J.sign (s.data.toList.drop (q2 + 1)) = s.data.toList.drop q) ∧ Rd b s q d wx) ∧ Fr b w wx)
                    case first =>
                      cases hm : isNext 43 (s.data.toList.drop (q2 + 1)) with
                      | true =>
                        have HM : Hid (isNext 43 (s.data.toList.drop (q2 + 1)) = true) := hm
                        clear hm
                        have hlt2 := isNext_drop HM.out
                        go_wp2_with fail
                        refine (next_is b s (q2 + 1) d _ _ hr3 hs HM.out).mono ?_
                        rintro e w4 ⟨rfl, hr4, hf4⟩
                        go_wp2_with fail
                        go_meet
                        case rel =>
                          obtain ⟨x, t, h1, h2⟩ := sign_yes (Or.inl HM.out)
                          obtain ⟨_, _, h3⟩ := drop_inv h1
                          exact ⟨⟨q2 + 1 + 1, by omega, by omega, by rw [h3]; exact h2, hr4⟩, hf3.trans hf4⟩
                      | false =>
                        have HM : Hid (isNext 43 (s.data.toList.drop (q2 + 1)) = false) := hm
                        clear hm
                        cases hm : isNext 45 (s.data.toList.drop (q2 + 1)) with
                        | true =>
                          have HM2 : Hid (isNext 45 (s.data.toList.drop (q2 + 1)) = true) := hm
                          clear hm
                          have hlt2 := isNext_drop HM2.out
                          go_wp2_with fail
                          refine (next_isnt b s (q2 + 1) d _ _ hr3 HM.out).mono ?_
                          rintro e w4 ⟨rfl, hr4, hf4⟩
                          go_wp2_with fail
                          refine (next_is b s (q2 + 1) d _ _ hr4 hs HM2.out).mono ?_
                          rintro e w5 ⟨rfl, hr5, hf5⟩
                          go_wp2_with fail
                          go_meet
                          case rel =>
                            obtain ⟨x, t, h1, h2⟩ := sign_yes (Or.inr HM2.out)
                            obtain ⟨_, _, h3⟩ := drop_inv h1
                            exact ⟨⟨q2 + 1 + 1, by omega, by omega, by rw [h3]; exact h2, hr5⟩, hf3.trans (hf4.trans hf5)⟩
                        | false =>
                          have HM2 : Hid (isNext 45 (s.data.toList.drop (q2 + 1)) = false) := hm
                          clear hm
                          go_wp2_with fail
                          refine (next_isnt b s (q2 + 1) d _ _ hr3 HM.out).mono ?_
                          rintro e w4 ⟨rfl, hr4, hf4⟩
                          go_wp2_with fail
                          refine (next_isnt b s (q2 + 1) d _ _ hr4 HM2.out).mono ?_
                          rintro e w5 ⟨rfl, hr5, hf5⟩
                          go_wp2_with fail
                          go_meet
                          case rel => exact ⟨⟨q2 + 1, by omega, by omega, sign_no HM.out HM2.out, hr5⟩, hf3.trans (hf4.trans hf5)⟩
                    case rest =>
                      clear hr3 hf3
                      obtain ⟨⟨q3, hq3, hq3s, HS, hr4⟩, hf4⟩ := hcut
                      go_wp2_with fail
                      refine (digit_any b s q3 d _ hr4).mono ?_
                      rintro e w5 ⟨rfl, hr5, hf5⟩
                      cases hd : digB (s.data.toList.drop q3) with
                      | true =>
                        have HD : Hid (digB (s.data.toList.drop q3) = true) := hd
                        clear hd
                        go_wp2_with fail
                        refine (digits_any b s q3 d _ hr5 hs hq3s).mono ?_
                        rintro e w6 ⟨rfl, ⟨q4, k1, k2, k3⟩, hf6⟩
                        have K2 : Hid (s.data.toList.drop q4 = J.digs (s.data.toList.drop q3)) := k2
                        clear k2
                        go_wp2_with fail
                        go_meet
                        case rel =>
                          have hle : q3 ≤ q4 := le_of_drop hq3s k1 (by rw [K2.out]; exact digs_len _)
                          refine ⟨⟨q4, by omega, k1, ?_, k3⟩, hf4.trans (hf5.trans hf6)⟩
                          rw [K2.out, ← HS.out]; exact HX.out.2 (by rw [HS.out]; exact HD.out)
                      | false =>
                        have HD : Hid (digB (s.data.toList.drop q3) = false) := hd
                        clear hd
                        go_wp2_with fail
                        refine (hSE.call _ hr5 hs (hSE.keep hb hE (hf4.trans hf5))).mono ?_
                        rintro e w6 ⟨⟨T, v, rfl⟩, hr6, hf6⟩
                        go_wp2_with fail
                        go_ret2
                        rw [num_of_whole HW.out, HF.out]
                        simp only
                        rw [HX.out.1 (by rw [HS.out]; exact HD.out)]
                        exact ⟨⟨_, T, v, rfl⟩, ⟨_, _, hr6⟩, hf4.trans (hf5.trans hf6)⟩
                case rest =>
                  clear hr2 hf2
                  obtain ⟨⟨q3, hpq3, hq3s, HX, hr3⟩, hf3⟩ := hcut
                  have d0 := hr3.cell0
                  have d1 := hr3.cell1
                  have i1 : (p : Int) ≤ (q3 : Int) := by omega
                  have i2 : (q3 : Int) ≤ (s.size : Int) := by omega
                  go_wp2_with fail
                  go_quiet (fail)
                  go_wp2_with fail
                  go_ret2
                  rw [num_of_whole HW.out, HF.out]
                  simp only
                  rw [HX.out]
                  exact ⟨⟨_, rfl⟩, ⟨q3, hq3s, rfl, hr3.drewN _⟩, hf3.drewN _⟩

end Go.Proofs.Qxb6616712aFmt
