/- ZZskip; the first law. -/
import Derived.Test.Qxb6616712aFmtW10
set_option linter.unusedVariables false
set_option linter.unusedSimpArgs false
set_option linter.unnecessarySimpa false
namespace Go.Proofs.Qxb6616712aFmt
open Go.Extern.Stop Go.Stop Go.Extern
open Go.RowKit

/-- The environment: all that lay in W0 lies as it lay. -/
def Env (W0 w : World) : Prop := Below W0.heap.size W0 w

theorem Env.fr {W0 w w' : World} {b : Nat} (hb : W0.heap.size ≤ b) (h : Env W0 w) (hf : Fr b w w') : Env W0 w' :=
  ⟨hf.os.trans h.os, hf.tape.trans h.tape, hf.output.trans h.output, Nat.le_trans h.size hf.size, fun k hk => (hf.block k (Nat.lt_of_lt_of_le hk h.size) (by omega)).trans (h.block k hk)⟩

theorem SErr_env (F : Interp) (T : Lib.PrintTabs) (W0 : World) (hF : F.answers W0.tape) (hT : Lib.PrintTabsAt 3 4 5 6 T W0) (hU : Lib.Utf8Tabs 0 1 W0) : SErr W0.heap.size (Env W0) :=
  ⟨fun b w w' hb he hf => he.fr hb hf, fun b s x p d w hr hs he => syntaxError_any F T b s x p d w hr hs (by rw [he.tape]; exact hF) (PrintTabsAt_below hT he) (Utf8Tabs_below hU he)⟩

/-- What ZZskip hands out. -/
def ZOut (s : ByteArray) (d : Nat) (w : World) (r : Option (List UInt8)) (e : Ending) (w' : World) : Prop :=
  match r with
  | some l => (∃ q : Nat, q ≤ s.size ∧ s.data.toList.drop q = l ∧ e = .returned (.tuple #[.int .i64 q, .int .i64 d, .bool false])) ∧ Below w.heap.size w w'
  | none => (∃ a b : Int, e = .returned (.tuple #[.int .i64 a, .int .i64 b, .bool true])) ∧ Below w.heap.size w w'

theorem ZOut_some {s : ByteArray} {d : Nat} {w w' : World} {r : Option (List UInt8)} {l : List UInt8} {e : Ending} (hR : r = some l) (h1 : ∃ q : Nat, q ≤ s.size ∧ s.data.toList.drop q = l ∧ e = .returned (.tuple #[.int .i64 q, .int .i64 d, .bool false])) (h2 : Below w.heap.size w w') : ZOut s d w r e w' := by
  subst hR; exact ⟨h1, h2⟩
theorem ZOut_none {s : ByteArray} {d : Nat} {w w' : World} {r : Option (List UInt8)} {e : Ending} (hR : r = none) (h1 : ∃ a b : Int, e = .returned (.tuple #[.int .i64 a, .int .i64 b, .bool true])) (h2 : Below w.heap.size w w') : ZOut s d w r e w' := by
  subst hR; exact ⟨h1, h2⟩

theorem env_below {w w' : World} {o : Obj} (hf : Fr w.heap.size (w.alloc o) w') : Below w.heap.size w w' :=
  Env.fr (W0 := w) (Nat.le_refl _) ((Below.refl _ w).alloc (Nat.le_refl _) o) hf

theorem below_drewN' {B : Nat} {w w' : World} (h : Below B w w') (n : Nat) : Below B w (w'.drewN n) := ⟨h.os, h.tape, h.output, h.size, h.block⟩

set_option maxHeartbeats 1000000 in
theorem ZZskip_any (hUn : ∀ B E, SErr B E → UnescOK B E) (F : Interp) (T : Lib.PrintTabs) (s : ByteArray) (p d : Nat) (w : World) (hs : s.size ≤ 1048576) (hd : d ≤ 10000) (hF : F.answers w.tape) (hT : Lib.PrintTabsAt 3 4 5 6 T w) (hU : Lib.Utf8Tabs 0 1 w) :
    Calls Tryf.prog 14 #[.string s, .int .i64 p, .int .i64 d] w fun e w' => ZOut s d w (J.R 0 d (s.data.toList.drop p)) e w' := by
  have hSE := SErr_env F T w hF hT hU
  have hQ := quoted_any _ _ hSE (hUn _ _ hSE)
  have hEF : ∀ w', Env w w' → F.answers w'.tape := fun w' h => by rw [h.tape]; exact hF
  have hSk := skip_all F w.heap.size (Env w) hSE hEF hQ w.heap.size s (Nat.le_refl _) hs s.size
  have HF : Hid (F.answers w.tape) := hF
  clear hF hT hU
  have hrd : Rd w.heap.size s p d (w.alloc (.cells #[.string s, .int .i64 p, .int .i64 d] 30)) := heap_alloc_new _ _
  have hEn : Env w (w.alloc (.cells #[.string s, .int .i64 p, .int .i64 d] 30)) := (Below.refl _ w).alloc (Nat.le_refl _) _
  go_enter Tryf.func14, Tryf.ntmps14
  go_wp2_with fail
  refine (hSk p d _ (by omega) hd hrd hEn).mono ?_
  intro e w1 ho
  cases hR : J.R 0 d (s.data.toList.drop p) with
  | none =>
    rw [hR] at ho
    have HR : Hid (J.R 0 d (s.data.toList.drop p) = none) := hR
    clear hR
    obtain ⟨⟨T', v, rfl⟩, ⟨q, d', hr1⟩, hf1⟩ := ho
    have c1 := hr1.cell1
    have c2 := hr1.cell2
    go_wp2_with fail
    go_quiet (fail)
    go_wp2_with fail
    go_ret3
    exact ZOut_none HR.out ⟨q, d', rfl⟩ (below_drewN' (env_below hf1) _)
  | some l =>
    rw [hR] at ho
    have HR : Hid (J.R 0 d (s.data.toList.drop p) = some l) := hR
    clear hR
    obtain ⟨rfl, ⟨q, hq, hl, hr1⟩, hf1⟩ := ho
    have HL : Hid (s.data.toList.drop q = l) := hl
    clear hl
    have c1 := hr1.cell1
    have c2 := hr1.cell2
    go_wp2_with fail
    go_quiet (fail)
    go_wp2_with fail
    go_ret3
    exact ZOut_some HR.out ⟨q, hq, HL.out, rfl⟩ (below_drewN' (env_below hf1) _)

theorem zzBytes15 (s : ByteArray) (a b : Int) (w : World) (hs : s.size ≤ maxLen) :
    Calls Tryf.prog 15 #[.string s, .int .i64 a, .int .i64 b] w fun e w' => e = .returned (.bool (decide (s.size ≤ 1048576))) ∧ w' = w := by
  unfold maxLen at hs
  by_cases h : s.size ≤ 1048576
  · have h1 : ¬ (1048576 : Int) < (s.size : Int) := by omega
    go_enter Tryf.func15, Tryf.ntmps15
    go_wp2
    go_ret
    exact ⟨by simp [h], rfl⟩
  · have h1 : (1048576 : Int) < (s.size : Int) := by omega
    go_enter Tryf.func15, Tryf.ntmps15
    go_wp2
    go_ret
    exact ⟨by simp [h], rfl⟩

/-- The text of the second call. -/
def dbl (v : ByteArray) : ByteArray := ⟨#[91]⟩ ++ v ++ ⟨#[44]⟩ ++ v ++ ⟨#[93]⟩
theorem dbl_size (v : ByteArray) : (dbl v).size = 2 * v.size + 3 := by
  unfold dbl
  simp only [ByteArray.size_append]
  show 1 + v.size + 1 + v.size + 1 = _
  omega
theorem dbl_list (v : ByteArray) : (dbl v).data.toList = 91 :: (v.data.toList ++ 44 :: (v.data.toList ++ [93])) := by
  unfold dbl
  simp [ByteArray.data_append]

theorem skip_twice {s : ByteArray} {p q d : Nat} {l : List UInt8} (hd : d ≤ 10000) (hs : s.size ≤ 4096) (h : J.R 0 d (s.data.toList.drop p) = some l) (hq : q ≤ s.size) (hl : s.data.toList.drop q = l) :
    p < q ∧ J.R 0 (d - 1) ((dbl (s.extract p q)).data.toList.drop 0) = some [] := by
  have hlt := J.R_lt hd h
  rw [← hl, drop_length, drop_length] at hlt
  have hpq : p < q := by omega
  refine ⟨hpq, ?_⟩
  obtain ⟨v, hv, ht⟩ := J.twice hd h (by rw [drop_length]; omega)
  have hvl : v = (s.extract p q).data.toList := by
    rw [Lib.extract_data]
    have h1 := congrArg List.length hv
    rw [List.length_append, drop_length, ← hl, drop_length] at h1
    rw [hv, List.take_left' (by omega)]
  rw [List.drop_zero, dbl_list, ← hvl]
  exact ht

set_option maxRecDepth 100000 in
set_option maxHeartbeats 1000000 in
theorem law1 (hUn : ∀ B E, SErr B E → UnescOK B E) (F : Interp) (T : Lib.PrintTabs) (s : ByteArray) (p d : Int) (w : World) (hs : s.size ≤ maxLen) (hF : F.answers w.tape) (hT : Lib.PrintTabsAt 3 4 5 6 T w) (hU : Lib.Utf8Tabs 0 1 w) :
    Calls Tryf.prog 6 #[.string s, .int .i64 p, .int .i64 d] w fun e w' => e = .returned (.bool true) ∧ Below w.heap.size w w' := by
  by_cases h1 : s.size ≤ 1048576
  · by_cases h2 : s.size ≤ 4096
    · by_cases h3 : 0 ≤ p
      · by_cases h4 : 0 ≤ d ∧ d ≤ 10000
        · obtain ⟨h4, h5⟩ := h4
          obtain ⟨p, rfl⟩ := Int.eq_ofNat_of_zero_le h3
          obtain ⟨d, rfl⟩ := Int.eq_ofNat_of_zero_le h4
          have hz := ZZskip_any hUn F T s p d w h1 (by omega) hF hT hU
          have HZ : Hid (Calls Tryf.prog 14 #[.string s, .int .i64 p, .int .i64 d] w fun e w' => ZOut s d w (J.R 0 d (s.data.toList.drop p)) e w') := hz
          have HE : Hid (F.answers w.tape ∧ Lib.PrintTabsAt 3 4 5 6 T w ∧ Lib.Utf8Tabs 0 1 w) := ⟨hF, hT, hU⟩
          clear hz hF hT hU
          have g1 : ¬ (4096 : Int) < (s.size : Int) := by omega
          have g2 : ¬ (p : Int) < 0 := by omega
          have g3 : ¬ (d : Int) < 0 := by omega
          have g4 : ¬ (10000 : Int) < (d : Int) := by omega
          have e1 : decide ((p : Int) < 0) = false := by simpa using g2
          have e2 : decide ((d : Int) < 0) = false := by simpa using g3
          have e3 : decide ((10000 : Int) < (d : Int)) = false := by simpa using g4
          have hdec : decide (s.size ≤ 1048576) = true := by simpa using h1
          go_enter Tryf.func6, Tryf.ntmps6
          go_wp2_with fail
          refine (zzBytes15 s _ _ w hs).mono ?_
          rintro e w1 ⟨rfl, rfl⟩
          rw [hdec]
          go_wp2_with fail
          refine HZ.out.mono ?_
          intro e w2 ho
          cases hR : J.R 0 d (s.data.toList.drop p) with
          | none =>
            rw [hR] at ho
            clear hR
            obtain ⟨⟨a, b, rfl⟩, hb2⟩ := ho
            go_wp2_with fail
            go_ret
            exact ⟨rfl, hb2⟩
          | some l =>
            rw [hR] at ho
            have HR : Hid (J.R 0 d (s.data.toList.drop p) = some l) := hR
            clear hR
            obtain ⟨⟨q, hq, hl, rfl⟩, hb2⟩ := ho
            obtain ⟨hpq, htw⟩ := skip_twice (by omega) h2 HR.out hq hl
            have HTW : Hid (J.R 0 (d - 1) ((dbl (s.extract p q)).data.toList.drop 0) = some []) := htw
            clear htw hl
            have hw2 : F.answers w2.tape ∧ Lib.PrintTabsAt 3 4 5 6 T w2 ∧ Lib.Utf8Tabs 0 1 w2 := ⟨by rw [hb2.tape]; exact HE.out.1, PrintTabsAt_below HE.out.2.1 hb2, Utf8Tabs_below HE.out.2.2 hb2⟩
            have hxs : (s.extract p q).size ≤ 4096 := by rw [ByteArray.size_extract]; omega
            have hz2 := ZZskip_any hUn F T (dbl (s.extract p q)) 0 (d - 1) w2 (by rw [dbl_size]; omega) (by omega) hw2.1 hw2.2.1 hw2.2.2
            rw [HTW.out] at hz2
            have HZ2 : Hid (Calls Tryf.prog 14 #[.string (dbl (s.extract p q)), .int .i64 ((0 : Nat) : Int), .int .i64 ((d - 1 : Nat) : Int)] w2 fun e w' => ZOut (dbl (s.extract p q)) (d - 1) w2 (some []) e w') := hz2
            clear hz2 hw2
            by_cases hd0 : d = 0
            · have v1 : (d : Int) - 1 < 0 := by omega
              have HD : Hid (((d - 1 : Nat) : Int) = 0) := by show _ = _; omega
              clear hd0
              go_wp2_with fail
              rw [show ((⟨#[91]⟩ : ByteArray) ++ s.extract p q ++ ⟨#[44]⟩ ++ s.extract p q ++ ⟨#[93]⟩) = dbl (s.extract p q) from rfl]
              have hz3 := HZ2.out
              rw [HD.out] at hz3
              refine (show Calls Tryf.prog 14 #[.string (dbl (s.extract p q)), .int .i64 0, .int .i64 0] w2 _ from hz3).mono ?_
              clear hz3
              rintro e w3 ⟨⟨q2, hq2, hl2, rfl⟩, hb3⟩
              have hq2e : (q2 : Int) = ((dbl (s.extract p q)).size : Int) := by
                have := drop_nil_inv hl2; omega
              rw [HD.out, hq2e]
              clear hq2e hl2
              have hbe : (((dbl (s.extract p q)).size : Int) == ((dbl (s.extract p q)).size : Int)) = true := by simp
              generalize dbl (s.extract p q) = u at *
              go_wp2_with fail
              go_ret
              exact ⟨rfl, hb2.trans (hb3.mono hb2.size)⟩
            · have v1 : ¬ (d : Int) - 1 < 0 := by omega
              have HD : Hid (((d - 1 : Nat) : Int) = (d : Int) - 1) := by show _ = _; omega
              have n1 : ¬ q < p := by omega
              have n2 : ¬ s.size < q := by omega
              clear hd0
              go_wp2_with fail
              rw [show ((⟨#[91]⟩ : ByteArray) ++ s.extract p q ++ ⟨#[44]⟩ ++ s.extract p q ++ ⟨#[93]⟩) = dbl (s.extract p q) from rfl]
              have hz3 := HZ2.out
              rw [HD.out] at hz3
              refine (show Calls Tryf.prog 14 #[.string (dbl (s.extract p q)), .int .i64 0, .int .i64 ((d : Int) - 1)] w2 _ from hz3).mono ?_
              clear hz3
              rintro e w3 ⟨⟨q2, hq2, hl2, rfl⟩, hb3⟩
              have hq2e : (q2 : Int) = ((dbl (s.extract p q)).size : Int) := by
                have := drop_nil_inv hl2; omega
              rw [HD.out, hq2e]
              clear hq2e hl2
              generalize dbl (s.extract p q) = u at *
              have hbe : ((u.size : Int) == (u.size : Int)) = true := by simp
              have hbd : ((d : Int) - 1 == (d : Int) - 1) = true := by simp
              go_wp2_with fail
              go_ret
              exact ⟨rfl, hb2.trans (hb3.mono hb2.size)⟩
        · have hdec : decide (s.size ≤ 1048576) = true := by simpa using h1
          have g1 : ¬ (4096 : Int) < (s.size : Int) := by omega
          have e1 : decide (p < 0) = false := by simp; omega
          clear hF hT hU
          rcases (by omega : d < 0 ∨ (0 ≤ d ∧ 10000 < d)) with h5 | ⟨h5, h6⟩
          · have e2 : decide (d < 0) = true := by simpa using h5
            go_enter Tryf.func6, Tryf.ntmps6
            go_wp2_with fail
            refine (zzBytes15 s _ _ w hs).mono ?_
            rintro e w1 ⟨rfl, rfl⟩
            rw [hdec]
            go_wp2_with fail
            go_ret
            exact ⟨rfl, Below.refl _ _⟩
          · have e2 : decide (d < 0) = false := by simp; omega
            have e3 : decide (10000 < d) = true := by simpa using h6
            go_enter Tryf.func6, Tryf.ntmps6
            go_wp2_with fail
            refine (zzBytes15 s _ _ w hs).mono ?_
            rintro e w1 ⟨rfl, rfl⟩
            rw [hdec]
            go_wp2_with fail
            go_ret
            exact ⟨rfl, Below.refl _ _⟩
      · have hdec : decide (s.size ≤ 1048576) = true := by simpa using h1
        have g1 : ¬ (4096 : Int) < (s.size : Int) := by omega
        have e1 : decide (p < 0) = true := by simp; omega
        clear hF hT hU
        go_enter Tryf.func6, Tryf.ntmps6
        go_wp2_with fail
        refine (zzBytes15 s _ _ w hs).mono ?_
        rintro e w1 ⟨rfl, rfl⟩
        rw [hdec]
        go_wp2_with fail
        go_ret
        exact ⟨rfl, Below.refl _ _⟩
    · have hdec : decide (s.size ≤ 1048576) = true := by simpa using h1
      have g1 : (4096 : Int) < (s.size : Int) := by omega
      clear hF hT hU
      go_enter Tryf.func6, Tryf.ntmps6
      go_wp2_with fail
      refine (zzBytes15 s _ _ w hs).mono ?_
      rintro e w1 ⟨rfl, rfl⟩
      rw [hdec]
      go_wp2_with fail
      go_ret
      exact ⟨rfl, Below.refl _ _⟩
  · have hdec : decide (s.size ≤ 1048576) = false := by simpa using h1
    clear hF hT hU
    go_enter Tryf.func6, Tryf.ntmps6
    go_wp2_with fail
    refine (zzBytes15 s _ _ w hs).mono ?_
    rintro e w1 ⟨rfl, rfl⟩
    rw [hdec]
    go_wp2_with fail
    go_ret
    exact ⟨rfl, Below.refl _ _⟩

end Go.Proofs.Qxb6616712aFmt
