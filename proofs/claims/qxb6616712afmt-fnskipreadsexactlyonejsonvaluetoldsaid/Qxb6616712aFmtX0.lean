/- The plain law of the law's own reader with a stack. -/
import Derived.Test.Qxb6616712aFmtPlain
set_option linter.unusedVariables false
set_option linter.unusedSimpArgs false
namespace Go.Proofs.Qxb6616712aFmt.J

/-- Behind a value, the closers st (the innermost first) still open: what is left behind all of them. -/
def K (d : Nat) : List UInt8 → List UInt8 → Option (List UInt8)
  | [], r => some r
  | c :: st, r => match ws r with
    | [] => none
    | x :: t => if x == c then K d st t
      else if x == 44 then (match R (if c == 125 then 2 else 1) (d + (st.length + 1)) t with | none => none | some r' => K d st r')
      else none

/-- Ahead of a value, the closers st still open. -/
def V (d : Nat) (st l : List UInt8) : Option (List UInt8) := (match R 0 (d + st.length) l with | none => none | some r => K d st r)

theorem K_nil (d : Nat) (r : List UInt8) : K d [] r = some r := by unfold K; rfl
theorem K_end {d : Nat} {c : UInt8} {st r : List UInt8} (h : ws r = []) : K d (c :: st) r = none := by unfold K; rw [h]
theorem K_pop {d : Nat} {c x : UInt8} {st r t : List UInt8} (h : ws r = x :: t) (hx : (x == c) = true) : K d (c :: st) r = K d st t := by
  conv => lhs; unfold K
  rw [h]; simp only; rw [hx, if_pos rfl]
theorem K_bad {d : Nat} {c x : UInt8} {st r t : List UInt8} (h : ws r = x :: t) (hx : (x == c) = false) (h4 : (x == 44) = false) : K d (c :: st) r = none := by
  unfold K; rw [h]; simp only; rw [hx, h4]; rfl
theorem K_comma {d : Nat} {c x : UInt8} {st r t : List UInt8} (h : ws r = x :: t) (hx : (x == c) = false) (h4 : (x == 44) = true) :
    K d (c :: st) r = (match R (if c == 125 then 2 else 1) (d + (st.length + 1)) t with | none => none | some r' => K d st r') := by
  conv => lhs; unfold K
  rw [h]; simp only; rw [hx, h4]; rfl

/-- The elements or members that follow, then what lies behind the closer: a value, the closer on the stack. -/
theorem seq_V {d m : Nat} {c : UInt8} {st l : List UInt8} (hd : d + (st.length + 1) ≤ 10000) (hm : (m = 0 ∧ c = 93) ∨ (m = 1 ∧ c = 125)) :
    (match R (m + 1) (d + (st.length + 1)) l with | none => none | some r' => K d st r') =
    (match (if m == 0 then some l else name l) with | none => none | some l1 => V d (c :: st) l1) := by
  rw [R_seq hd]
  cases hn : (if m == 0 then some l else name l) with
  | none => rfl
  | some l1 =>
    simp only
    unfold V
    rw [List.length_cons]
    cases hR : R 0 (d + (st.length + 1)) l1 with
    | none => rfl
    | some r =>
      simp only
      cases hw : ws r with
      | nil => rw [K_end hw]
      | cons x t1 =>
        simp only
        by_cases h4 : (x == 44) = true
        · have hx : (x == c) = false := by
            have e : x = 44 := by simpa using h4
            rcases hm with ⟨_, rfl⟩ | ⟨_, rfl⟩ <;> subst e <;> rfl
          rw [K_comma hw hx h4, if_pos h4]
          rcases hm with ⟨rfl, rfl⟩ | ⟨rfl, rfl⟩ <;> rfl
        · have h4' : (x == 44) = false := by simpa using h4
          have em : (if (m == 0) = true then (93 : UInt8) else 125) = c := by rcases hm with ⟨rfl, rfl⟩ | ⟨rfl, rfl⟩ <;> rfl
          rw [if_neg h4, em]
          by_cases hx : (x == c) = true
          · rw [K_pop hw hx, if_pos hx]
          · have hx' : (x == c) = false := by simpa using hx
            rw [K_bad hw hx' h4', if_neg hx]

theorem K_comma_arr {d : Nat} {x : UInt8} {st r t : List UInt8} (hd : d + (st.length + 1) ≤ 10000) (h : ws r = x :: t) (h4 : (x == 44) = true) : K d (93 :: st) r = V d (93 :: st) t := by
  have hx : (x == 93) = false := by
    have e : x = 44 := by simpa using h4
    subst e; rfl
  rw [K_comma h hx h4]
  exact seq_V (m := 0) hd (.inl ⟨rfl, rfl⟩)
theorem K_comma_obj {d : Nat} {x : UInt8} {st r t : List UInt8} (hd : d + (st.length + 1) ≤ 10000) (h : ws r = x :: t) (h4 : (x == 44) = true) : K d (125 :: st) r = (match name t with | none => none | some l1 => V d (125 :: st) l1) := by
  have hx : (x == 125) = false := by
    have e : x = 44 := by simpa using h4
    subst e; rfl
  rw [K_comma h hx h4]
  exact seq_V (m := 1) hd (.inr ⟨rfl, rfl⟩)

theorem V_end {d : Nat} {st l : List UInt8} (hd : d + st.length ≤ 10000) (h : ws l = []) : V d st l = none := by unfold V; rw [R_val hd, h]
theorem V_scalar {d : Nat} {c : UInt8} {st l t : List UInt8} (hd : d + st.length ≤ 10000) (h : ws l = c :: t) (h1 : (c == 91) = false) (h2 : (c == 123) = false) :
    V d st l = (match scalar c t with | none => none | some r => K d st r) := by
  unfold V; rw [R_val hd, h]; simp only; rw [h1, h2]; rfl
theorem V_deep {d : Nat} {c : UInt8} {st l t : List UInt8} (hd : d + st.length = 10000) (h : ws l = c :: t) (h1 : (c == 123 || c == 91) = true) : V d st l = none := by
  unfold V; rw [R_val (by omega), h]; simp only; rw [h1, hd]; rfl
theorem V_open {d : Nat} {c : UInt8} {st l t : List UInt8} (hd : d + st.length < 10000) (h : ws l = c :: t) (h1 : (c == 123 || c == 91) = true) :
    V d st l = (match ws t with | [] => none | x :: t1 => if x == closer c then K d st t1 else (match R (mode c) (d + (st.length + 1)) (x :: t1) with | none => none | some r => K d st r)) := by
  unfold V; rw [R_val (by omega), h]; simp only; rw [h1, if_pos rfl, if_neg (by simp; omega)]
  cases ws t with
  | nil => rfl
  | cons x t1 =>
    simp only
    by_cases hx : (x == closer c) = true
    · rw [if_pos hx, if_pos hx]
    · rw [if_neg hx, if_neg hx]; rfl
theorem V_empty {d : Nat} {c x : UInt8} {st l t t1 : List UInt8} (hd : d + st.length < 10000) (h : ws l = c :: t) (h1 : (c == 123 || c == 91) = true) (ht : ws t = x :: t1) (hx : (x == closer c) = true) : V d st l = K d st t1 := by
  rw [V_open hd h h1, ht]; simp only; rw [if_pos hx]
theorem V_nothing (d : Nat) (st : List UInt8) (hd : d + st.length ≤ 10000) : V d st [] = none := V_end hd rfl
/-- An array that is not empty, or that ends here. -/
theorem V_arr {d : Nat} {st l t : List UInt8} (hd : d + st.length < 10000) (h : ws l = 91 :: t) (hx : ∀ x t1, ws t = x :: t1 → (x == 93) = false) : V d st l = V d (93 :: st) (ws t) := by
  rw [V_open hd h rfl]
  cases ht : ws t with
  | nil => rw [V_nothing _ _ (by rw [List.length_cons]; omega)]
  | cons x t1 =>
    simp only
    rw [if_neg (by rw [show closer 91 = 93 from rfl, hx x t1 ht]; simp)]
    exact seq_V (m := 0) (by omega) (.inl ⟨rfl, rfl⟩)
theorem name_none : name [] = none := rfl
theorem V_obj {d : Nat} {st l t : List UInt8} (hd : d + st.length < 10000) (h : ws l = 123 :: t) (hx : ∀ x t1, ws t = x :: t1 → (x == 125) = false) : V d st l = (match name (ws t) with | none => none | some l1 => V d (125 :: st) l1) := by
  rw [V_open hd h rfl]
  cases ht : ws t with
  | nil => rw [name_none]
  | cons x t1 =>
    simp only
    rw [if_neg (by rw [show closer 123 = 125 from rfl, hx x t1 ht]; simp)]
    exact seq_V (m := 1) (by omega) (.inr ⟨rfl, rfl⟩)

theorem V_R {d : Nat} {l : List UInt8} : V d [] l = R 0 d l := by
  unfold V
  rw [List.length_nil, Nat.add_zero]
  cases R 0 d l with
  | none => rfl
  | some r => simp only; rw [K_nil]

end Go.Proofs.Qxb6616712aFmt.J
