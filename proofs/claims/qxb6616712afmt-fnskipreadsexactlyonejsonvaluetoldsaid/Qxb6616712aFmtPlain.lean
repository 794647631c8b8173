/- The plain model of the JSON reader: what is left of the text behind each piece, or none. Nothing of Go in it. -/
namespace Go.Proofs.Qxb6616712aFmt.J

def isWS (c : UInt8) : Bool := c == 32 || c == 9 || c == 10 || c == 13
def isDig (c : UInt8) : Bool := decide (48 ≤ c.toNat) && decide (c.toNat ≤ 57)
def isHex (c : UInt8) : Bool := isDig c || (decide (97 ≤ c.toNat) && decide (c.toNat ≤ 102)) || (decide (65 ≤ c.toNat) && decide (c.toNat ≤ 70))
def isEsc (c : UInt8) : Bool := c == 34 || c == 92 || c == 47 || c == 98 || c == 102 || c == 110 || c == 114 || c == 116
def ws (l : List UInt8) : List UInt8 := l.dropWhile isWS
def digs (l : List UInt8) : List UInt8 := l.dropWhile isDig

/-- What is left behind the closing quote of a string (the list begins behind the opening one). -/
def str : List UInt8 → Option (List UInt8)
  | [] => none
  | c :: t =>
    if c == 34 then some t
    else if c.toNat < 32 then none
    else if c != 92 then str t
    else match t with
      | [] => none
      | e :: t1 =>
        if isEsc e then str t1
        else if e != 117 then none
        else match t1 with
          | a :: b :: x :: y :: t2 => if isHex a && isHex b && isHex x && isHex y then str t2 else none
          | _ => none

def word (wd l : List UInt8) : Option (List UInt8) := if wd.isPrefixOf l then some (l.drop wd.length) else none

/-- Behind an optional fraction. -/
def frac (l : List UInt8) : Option (List UInt8) :=
  match l with
  | [] => some []
  | c :: t => if c == 46 then (match t with | [] => none | x :: t1 => if isDig x then some (digs (x :: t1)) else none) else some (c :: t)

def sign (l : List UInt8) : List UInt8 :=
  match l with
  | [] => []
  | c :: t => if c == 43 || c == 45 then t else c :: t

/-- Behind an optional exponent. -/
def expo (l : List UInt8) : Option (List UInt8) :=
  match l with
  | [] => some []
  | c :: t => if c == 101 || c == 69 then (match sign t with | [] => none | x :: t1 => if isDig x then some (digs (x :: t1)) else none) else some (c :: t)

/-- Behind the whole part; the list begins behind an optional minus. -/
def whole (l : List UInt8) : Option (List UInt8) :=
  match l with
  | [] => none
  | c :: t => if isDig c then (if c == 48 then some t else some (digs (c :: t))) else none

def minus (l : List UInt8) : List UInt8 :=
  match l with
  | [] => []
  | c :: t => if c == 45 then t else c :: t

def num (l : List UInt8) : Option (List UInt8) :=
  match whole (minus l) with
  | none => none
  | some l1 => match frac l1 with
    | none => none
    | some l2 => expo l2

/-- The scalar that begins with c, t behind it. -/
def scalar (c : UInt8) (t : List UInt8) : Option (List UInt8) :=
  if c == 34 then str t
  else if c == 116 then word [116, 114, 117, 101] (c :: t)
  else if c == 102 then word [102, 97, 108, 115, 101] (c :: t)
  else if c == 110 then word [110, 117, 108, 108] (c :: t)
  else if c == 45 || isDig c then num (c :: t)
  else none

/-- A member's name and its colon. -/
def name (l : List UInt8) : Option (List UInt8) :=
  match ws l with
  | [] => none
  | c :: t => if c == 34 then (match str t with
      | none => none
      | some r => match ws r with
        | [] => none
        | x :: t1 => if x == 58 then some t1 else none) else none

/-- The closer of an opener; the mode behind an opener. -/
def closer (c : UInt8) : UInt8 := if c == 123 then 125 else 93
def mode (c : UInt8) : Nat := if c == 123 then 2 else 1
theorem mode_ne (c : UInt8) : mode c ≠ 0 := by unfold mode; split <;> omega

/-- mode 0: one value; 1: the elements of an array behind its opening, at least one; 2: the members of an object likewise. -/
def run : Nat → Nat → Nat → List UInt8 → Option (List UInt8)
  | 0, _, _, _ => none
  | n + 1, 0, d, l =>
    match ws l with
    | [] => none
    | c :: t =>
      if c == 123 || c == 91 then
        if d == 10000 then none
        else match ws t with
          | [] => none
          | x :: t1 => if x == closer c then some t1 else run n (mode c) (d + 1) (x :: t1)
      else scalar c t
  | n + 1, m + 1, d, l =>
    match (if m == 0 then some l else name l) with
    | none => none
    | some l1 => match run n 0 d l1 with
      | none => none
      | some r => match ws r with
        | [] => none
        | x :: t1 => if x == 44 then run n (m + 1) d t1 else if x == (if m == 0 then 93 else 125) then some t1 else none


/-! What a reading did it does again where the text behind it is another. -/

/-- Behind a number the two texts go on alike, or the second by nothing that goes on with a number. -/
def Compat (r r' : List UInt8) : Prop := ∀ c z, r' = c :: z → (isDig c = false ∧ (c == 46) = false ∧ (c == 101 || c == 69) = false) ∨ ∃ z', r = c :: z'

theorem Compat.append {r r' : List UInt8} (h : Compat r r') (u : List UInt8) : Compat (u ++ r) (u ++ r') := by
  cases u with
  | nil => exact h
  | cons x u =>
    intro c z e
    simp at e
    exact Or.inr ⟨u ++ r, by simp [e.1]⟩

theorem Compat.same (x : UInt8) (a b : List UInt8) : Compat (x :: a) (x :: b) := by
  intro c z e
  simp at e
  exact Or.inr ⟨a, by simp [e.1]⟩

theorem Compat.same_append (u : List UInt8) (x : UInt8) (a b : List UInt8) : Compat (u ++ x :: a) (u ++ x :: b) := (Compat.same x a b).append u

theorem ws_cons {l : List UInt8} {c : UInt8} {t : List UInt8} (h : ws l = c :: t) : ∃ u, l = u ++ c :: t ∧ ∀ t', ws (u ++ c :: t') = c :: t' := by
  induction l with
  | nil => simp [ws] at h
  | cons x l ih =>
    unfold ws at h
    rw [List.dropWhile_cons] at h
    by_cases hx : isWS x = true
    · rw [if_pos hx] at h
      obtain ⟨u, hu, hw⟩ := ih h
      refine ⟨x :: u, by simp [hu], fun t' => ?_⟩
      unfold ws
      rw [List.cons_append, List.dropWhile_cons, if_pos hx]
      exact hw t'
    · rw [if_neg hx] at h
      refine ⟨[], by simpa using h, fun t' => ?_⟩
      have e : x = c := (List.cons.inj h).1
      subst e
      unfold ws
      rw [List.nil_append, List.dropWhile_cons, if_neg hx]

theorem digs_again (l : List UInt8) : ∃ u, l = u ++ digs l ∧ ∀ r', Compat (digs l) r' → digs (u ++ r') = r' := by
  induction l with
  | nil =>
    refine ⟨[], by simp [digs], fun r' h => ?_⟩
    cases r' with
    | nil => simp [digs]
    | cons c z =>
      rcases h c z rfl with ⟨h1, _, _⟩ | ⟨z', hz⟩
      · simp [digs, h1]
      · simp [digs] at hz
  | cons x l ih =>
    by_cases hx : isDig x = true
    · obtain ⟨u, hu, hw⟩ := ih
      have e : digs (x :: l) = digs l := by unfold digs; rw [List.dropWhile_cons, if_pos hx]
      rw [e]
      refine ⟨x :: u, by rw [List.cons_append, ← hu], fun r' h => ?_⟩
      have := hw r' h
      unfold digs at this ⊢
      rw [List.cons_append, List.dropWhile_cons, if_pos hx]
      exact this
    · have e : digs (x :: l) = x :: l := by unfold digs; rw [List.dropWhile_cons, if_neg hx]
      rw [e]
      refine ⟨[], rfl, fun r' h => ?_⟩
      cases r' with
      | nil => simp [digs]
      | cons c z =>
        rcases h c z rfl with ⟨h1, _, _⟩ | ⟨z', hz⟩
        · simp [digs, h1]
        · have ec : x = c := (List.cons.inj hz).1
          subst ec
          unfold digs
          rw [List.nil_append, List.dropWhile_cons, if_neg hx]

theorem digs_cons_again {x : UInt8} (hx : isDig x = true) (t : List UInt8) : ∃ u, t = u ++ digs (x :: t) ∧ ∀ r', Compat (digs (x :: t)) r' → digs (x :: (u ++ r')) = r' := by
  have e : ∀ t, digs (x :: t) = digs t := fun t => by unfold digs; rw [List.dropWhile_cons, if_pos hx]
  obtain ⟨u, hu, hw⟩ := digs_again t
  rw [e]
  exact ⟨u, hu, fun r' h => by rw [e]; exact hw r' h⟩

theorem frac_again {l r : List UInt8} (h : frac l = some r) : ∃ u, l = u ++ r ∧ ∀ r', Compat r r' → frac (u ++ r') = some r' := by
  cases l with
  | nil =>
    simp [frac] at h
    subst h
    refine ⟨[], rfl, fun r' hc => ?_⟩
    cases r' with
    | nil => simp [frac]
    | cons c z =>
      rcases hc c z rfl with ⟨_, h2, _⟩ | ⟨z', hz⟩
      · simp only [List.nil_append, frac, h2, Bool.false_eq_true, if_false]
      · cases hz
  | cons c t =>
    by_cases hcd : (c == 46) = true
    · simp only [frac, hcd, if_true] at h
      cases t with
      | nil => simp at h
      | cons x t1 =>
        simp only at h
        by_cases hx : isDig x = true
        · rw [if_pos hx] at h
          have h' := Option.some.inj h
          obtain ⟨u, hu, hw⟩ := digs_cons_again hx t1
          rw [h'] at hu hw
          refine ⟨c :: x :: u, by simp [← hu], fun r' hc => ?_⟩
          simp only [List.cons_append, frac, hcd, if_true, hx]
          rw [hw r' hc]
        · rw [if_neg hx] at h
          cases h
    · simp only [frac, hcd] at h
      have h' : c :: t = r := by simpa using h
      subst h'
      refine ⟨[], rfl, fun r' hc => ?_⟩
      cases r' with
      | nil => simp [frac]
      | cons c' z =>
        rcases hc c' z rfl with ⟨_, h2, _⟩ | ⟨z', hz⟩
        · simp only [List.nil_append, frac, h2, Bool.false_eq_true, if_false]
        · have ec : c = c' := (List.cons.inj hz).1
          subst ec
          simp only [List.nil_append, frac, hcd]
          simp

theorem sign_again (l : List UInt8) {x : UInt8} {t : List UInt8} (h : sign l = x :: t) (hx : isDig x = true) : ∃ u, l = u ++ x :: t ∧ ∀ t', sign (u ++ x :: t') = x :: t' := by
  cases l with
  | nil => simp [sign] at h
  | cons c l =>
    by_cases hc : (c == 43 || c == 45) = true
    · simp only [sign, hc, if_true] at h
      refine ⟨[c], by simp [h], fun t' => ?_⟩
      simp only [List.cons_append, List.nil_append, sign, hc, if_true]
    · simp only [sign, hc] at h
      have h' : c :: l = x :: t := by simpa using h
      refine ⟨[], by simpa using h', fun t' => ?_⟩
      have ec : c = x := (List.cons.inj h').1
      subst ec
      simp only [List.nil_append, sign, hc]
      simp

theorem expo_again {l r : List UInt8} (h : expo l = some r) : ∃ u, l = u ++ r ∧ ∀ r', Compat r r' → expo (u ++ r') = some r' := by
  cases l with
  | nil =>
    simp [expo] at h
    subst h
    refine ⟨[], rfl, fun r' hc => ?_⟩
    cases r' with
    | nil => simp [expo]
    | cons c z =>
      rcases hc c z rfl with ⟨_, _, h2⟩ | ⟨z', hz⟩
      · simp only [List.nil_append, expo, h2, Bool.false_eq_true, if_false]
      · cases hz
  | cons c t =>
    by_cases hcd : (c == 101 || c == 69) = true
    · simp only [expo, hcd, if_true] at h
      cases hs : sign t with
      | nil => rw [hs] at h; cases h
      | cons x t1 =>
        rw [hs] at h
        simp only at h
        by_cases hx : isDig x = true
        · rw [if_pos hx] at h
          have h' := Option.some.inj h
          obtain ⟨u0, hu0, hw0⟩ := sign_again t hs hx
          obtain ⟨u, hu, hw⟩ := digs_cons_again hx t1
          rw [h'] at hu hw
          refine ⟨c :: (u0 ++ x :: u), by rw [hu0]; simp [← hu], fun r' hc => ?_⟩
          have e : c :: (u0 ++ x :: u) ++ r' = c :: (u0 ++ x :: (u ++ r')) := by simp
          rw [e]
          simp only [expo, hcd, if_true]
          rw [hw0]
          simp only [hx, if_true]
          rw [hw r' hc]
        · rw [if_neg hx] at h
          cases h
    · simp only [expo, hcd] at h
      have h' : c :: t = r := by simpa using h
      subst h'
      refine ⟨[], rfl, fun r' hc => ?_⟩
      cases r' with
      | nil => simp [expo]
      | cons c' z =>
        rcases hc c' z rfl with ⟨_, _, h2⟩ | ⟨z', hz⟩
        · simp only [List.nil_append, expo, h2, Bool.false_eq_true, if_false]
        · have ec : c = c' := (List.cons.inj hz).1
          subst ec
          simp only [List.nil_append, expo, hcd]
          simp

theorem whole_again {l r : List UInt8} (h : whole l = some r) : ∃ x u, l = x :: u ++ r ∧ isDig x = true ∧ ∀ r', Compat r r' → whole (x :: u ++ r') = some r' := by
  cases l with
  | nil => simp [whole] at h
  | cons c t =>
    by_cases hd : isDig c = true
    · simp only [whole, hd, if_true] at h
      by_cases h0 : (c == 48) = true
      · rw [if_pos h0] at h
        have h' := Option.some.inj h
        subst h'
        refine ⟨c, [], rfl, hd, fun r' _ => ?_⟩
        simp only [List.cons_append, List.nil_append, whole, hd, if_true, h0]
      · rw [if_neg h0] at h
        have h' := Option.some.inj h
        obtain ⟨u, hu, hw⟩ := digs_cons_again hd t
        rw [h'] at hu hw
        refine ⟨c, u, by simp [← hu], hd, fun r' hc => ?_⟩
        simp only [List.cons_append, whole, hd, if_true]
        rw [if_neg h0, hw r' hc]
    · simp [whole, hd] at h

theorem minus_again (l : List UInt8) {x : UInt8} {t : List UInt8} (h : minus l = x :: t) (hx : isDig x = true) : ∃ u, l = u ++ x :: t ∧ ∀ t', minus (u ++ x :: t') = x :: t' := by
  cases l with
  | nil => simp [minus] at h
  | cons c l =>
    by_cases hc : (c == 45) = true
    · simp only [minus, hc, if_true] at h
      refine ⟨[c], by simp [h], fun t' => ?_⟩
      simp only [List.cons_append, List.nil_append, minus, hc, if_true]
    · simp only [minus, hc] at h
      have h' : c :: l = x :: t := by simpa using h
      refine ⟨[], by simpa using h', fun t' => ?_⟩
      have ec : c = x := (List.cons.inj h').1
      subst ec
      simp only [List.nil_append, minus, hc]
      simp

theorem num_again {l r : List UInt8} (h : num l = some r) : ∃ v, l = v ++ r ∧ v ≠ [] ∧ ∀ r', Compat r r' → num (v ++ r') = some r' := by
  unfold num at h
  cases h1 : whole (minus l) with
  | none => rw [h1] at h; cases h
  | some l1 =>
    rw [h1] at h
    simp only at h
    cases h2 : frac l1 with
    | none => rw [h2] at h; cases h
    | some l2 =>
      rw [h2] at h
      simp only at h
      obtain ⟨x, u1, e1, hx, w1⟩ := whole_again h1
      obtain ⟨u2, e2, w2⟩ := frac_again h2
      obtain ⟨u3, e3, w3⟩ := expo_again h
      obtain ⟨u0, e0, w0⟩ := minus_again l (by rw [e1, List.cons_append]) hx
      refine ⟨u0 ++ x :: u1 ++ u2 ++ u3, ?_, by simp, fun r' hc => ?_⟩
      · rw [e0, e2, e3]; simp
      · unfold num
        have c3 := hc.append u3
        have c2 := c3.append u2
        have ee : u0 ++ x :: u1 ++ u2 ++ u3 ++ r' = u0 ++ x :: (u1 ++ (u2 ++ (u3 ++ r'))) := by simp
        rw [ee, w0]
        have k1 := w1 (u2 ++ (u3 ++ r')) (by rw [e2, e3]; exact c2)
        rw [List.cons_append] at k1
        rw [k1]
        simp only
        have k2 := w2 (u3 ++ r') (by rw [e3]; exact c3)
        rw [k2]
        simp only
        exact w3 r' hc

theorem str_again : ∀ (n : Nat) {l r : List UInt8}, l.length ≤ n → str l = some r → ∃ v, l = v ++ r ∧ v ≠ [] ∧ ∀ r', str (v ++ r') = some r' := by
  intro n
  induction n with
  | zero =>
    intro l r hl h
    cases l with
    | nil => simp [str] at h
    | cons c t => simp at hl
  | succ n ih =>
    intro l r hl h
    cases l with
    | nil => simp [str] at h
    | cons c t =>
      simp only [List.length_cons] at hl
      unfold str at h
      by_cases hq : (c == 34) = true
      · rw [if_pos hq] at h
        have h' := Option.some.inj h
        subst h'
        exact ⟨[c], rfl, by simp, fun r' => by rw [List.cons_append]; unfold str; rw [if_pos hq]; rfl⟩
      · rw [if_neg hq] at h
        by_cases hlo : c.toNat < 32
        · rw [if_pos hlo] at h; cases h
        · rw [if_neg hlo] at h
          by_cases hb : (c != 92) = true
          · rw [if_pos hb] at h
            obtain ⟨v, hv, _, hw⟩ := ih (by omega) h
            exact ⟨c :: v, by rw [List.cons_append, ← hv], by simp, fun r' => by rw [List.cons_append]; unfold str; rw [if_neg hq, if_neg hlo, if_pos hb]; exact hw r'⟩
          · rw [if_neg hb] at h
            cases t with
            | nil => simp at h
            | cons e t1 =>
              simp only [List.length_cons] at hl
              simp only at h
              by_cases he : isEsc e = true
              · rw [if_pos he] at h
                obtain ⟨v, hv, _, hw⟩ := ih (by omega) h
                refine ⟨c :: e :: v, by rw [List.cons_append, List.cons_append, ← hv], by simp, fun r' => ?_⟩
                rw [List.cons_append, List.cons_append]; unfold str; rw [if_neg hq, if_neg hlo, if_neg hb]
                simp only
                rw [if_pos he]; exact hw r'
              · rw [if_neg he] at h
                by_cases hu : (e != 117) = true
                · rw [if_pos hu] at h; cases h
                · rw [if_neg hu] at h
                  match t1, h with
                  | [], h => cases h
                  | [_], h => cases h
                  | [_, _], h => cases h
                  | [_, _, _], h => cases h
                  | a :: b :: x :: y :: t2, h =>
                    simp only at h
                    simp only [List.length_cons] at hl
                    by_cases hh : (isHex a && isHex b && isHex x && isHex y) = true
                    · rw [if_pos hh] at h
                      obtain ⟨v, hv, _, hw⟩ := ih (by omega) h
                      refine ⟨c :: e :: a :: b :: x :: y :: v, by simp [← hv], by simp, fun r' => ?_⟩
                      have ee : c :: e :: a :: b :: x :: y :: v ++ r' = c :: e :: a :: b :: x :: y :: (v ++ r') := by simp
                      rw [ee]; unfold str; rw [if_neg hq, if_neg hlo, if_neg hb]
                      simp only
                      rw [if_neg he, if_neg hu, if_pos hh]; exact hw r'
                    · rw [if_neg hh] at h; cases h

theorem name_again {l r : List UInt8} (h : name l = some r) : ∃ v, l = v ++ r ∧ v ≠ [] ∧ ∀ r', name (v ++ r') = some r' := by
  unfold name at h
  cases h1 : ws l with
  | nil => rw [h1] at h; cases h
  | cons c t =>
    rw [h1] at h
    simp only at h
    by_cases hc : (c == 34) = true
    · rw [if_pos hc] at h
      cases h2 : str t with
      | none => rw [h2] at h; cases h
      | some r1 =>
        rw [h2] at h
        simp only at h
        cases h3 : ws r1 with
        | nil => rw [h3] at h; cases h
        | cons x t1 =>
          rw [h3] at h
          simp only at h
          by_cases hx : (x == 58) = true
          · rw [if_pos hx] at h
            have h' := Option.some.inj h
            subst h'
            obtain ⟨u1, e1, w1⟩ := ws_cons h1
            obtain ⟨v2, e2, _, w2⟩ := str_again _ (Nat.le_refl _) h2
            obtain ⟨u3, e3, w3⟩ := ws_cons h3
            refine ⟨u1 ++ c :: (v2 ++ (u3 ++ [x])), by rw [e1, e2, e3]; simp, by simp, fun r' => ?_⟩
            have ee : u1 ++ c :: (v2 ++ (u3 ++ [x])) ++ r' = u1 ++ c :: (v2 ++ (u3 ++ x :: r')) := by simp
            rw [ee]
            unfold name
            rw [w1]
            simp only
            rw [if_pos hc, w2]
            simp only
            rw [w3]
            simp only
            rw [if_pos hx]
          · rw [if_neg hx] at h; cases h
    · rw [if_neg hc] at h; cases h

theorem word_again {wd l r : List UInt8} (h : word wd l = some r) : l = wd ++ r ∧ ∀ r', word wd (wd ++ r') = some r' := by
  unfold word at h
  by_cases hp : wd.isPrefixOf l = true
  · rw [if_pos hp] at h
    have h' := Option.some.inj h
    have hp' := List.isPrefixOf_iff_prefix.1 hp
    obtain ⟨t, ht⟩ := hp'
    refine ⟨by rw [← h', ← ht]; simp, fun r' => ?_⟩
    unfold word
    rw [if_pos (List.isPrefixOf_iff_prefix.2 ⟨r', rfl⟩)]
    simp
  · rw [if_neg hp] at h; cases h

theorem scalar_again {c : UInt8} {t r : List UInt8} (h : scalar c t = some r) : ∃ v, t = v ++ r ∧ ∀ r', Compat r r' → scalar c (v ++ r') = some r' := by
  unfold scalar at h
  by_cases h1 : (c == 34) = true
  · rw [if_pos h1] at h
    obtain ⟨v, hv, _, hw⟩ := str_again _ (Nat.le_refl _) h
    exact ⟨v, hv, fun r' _ => by unfold scalar; rw [if_pos h1]; exact hw r'⟩
  rw [if_neg h1] at h
  by_cases h2 : (c == 116) = true
  · rw [if_pos h2] at h
    obtain ⟨hl, hw⟩ := word_again h
    refine ⟨[114, 117, 101], by simpa using (List.cons.inj hl).2, fun r' _ => ?_⟩
    unfold scalar; rw [if_neg h1, if_pos h2, (List.cons.inj hl).1]; exact hw r'
  rw [if_neg h2] at h
  by_cases h3 : (c == 102) = true
  · rw [if_pos h3] at h
    obtain ⟨hl, hw⟩ := word_again h
    refine ⟨[97, 108, 115, 101], by simpa using (List.cons.inj hl).2, fun r' _ => ?_⟩
    unfold scalar; rw [if_neg h1, if_neg h2, if_pos h3, (List.cons.inj hl).1]; exact hw r'
  rw [if_neg h3] at h
  by_cases h4 : (c == 110) = true
  · rw [if_pos h4] at h
    obtain ⟨hl, hw⟩ := word_again h
    refine ⟨[117, 108, 108], by simpa using (List.cons.inj hl).2, fun r' _ => ?_⟩
    unfold scalar; rw [if_neg h1, if_neg h2, if_neg h3, if_pos h4, (List.cons.inj hl).1]; exact hw r'
  rw [if_neg h4] at h
  by_cases h5 : (c == 45 || isDig c) = true
  · rw [if_pos h5] at h
    obtain ⟨v, hv, hne, hw⟩ := num_again h
    cases v with
    | nil => exact absurd rfl hne
    | cons x v =>
      rw [List.cons_append] at hv
      obtain ⟨rfl, e2⟩ := List.cons.inj hv
      refine ⟨v, e2, fun r' hc => ?_⟩
      unfold scalar; rw [if_neg h1, if_neg h2, if_neg h3, if_neg h4, if_pos h5]; exact hw r' hc
  · rw [if_neg h5] at h; cases h

theorem run_again : ∀ (n m d : Nat) (l r : List UInt8), d ≤ 10000 → run n m d l = some r →
    ∃ v, l = v ++ r ∧ v ≠ [] ∧ ∀ d' r', (d' ≤ d ∨ d' + v.length ≤ 10000) → Compat r r' → run n m d' (v ++ r') = some r' := by
  intro n
  induction n with
  | zero => intro m d l r _ h; simp [run] at h
  | succ n ih =>
    intro m d l r hd h
    cases m with
    | zero =>
      simp only [run] at h
      cases h1 : ws l with
      | nil => rw [h1] at h; cases h
      | cons c t =>
        rw [h1] at h
        simp only at h
        obtain ⟨u, hu, hw⟩ := ws_cons h1
        by_cases hc : (c == 123 || c == 91) = true
        · rw [if_pos hc] at h
          by_cases hd0 : (d == 10000) = true
          · rw [if_pos hd0] at h; cases h
          · rw [if_neg hd0] at h
            have hdn : d ≠ 10000 := by simpa using hd0
            cases h2 : ws t with
            | nil => rw [h2] at h; cases h
            | cons x t1 =>
              rw [h2] at h
              simp only at h
              obtain ⟨u2, hu2, hw2⟩ := ws_cons h2
              generalize hcl : closer c = cl at h
              generalize hmo : mode c = mo at h
              by_cases hx : (x == cl) = true
              · rw [if_pos hx] at h
                have h' := Option.some.inj h
                subst h'
                refine ⟨u ++ c :: (u2 ++ [x]), by rw [hu, hu2]; simp, by simp, fun d' r' hdd _ => ?_⟩
                have hd' : (d' == 10000) = false := by
                  simp only [beq_eq_false_iff_ne]
                  rcases hdd with g | g
                  · omega
                  · simp at g; omega
                have ee : u ++ c :: (u2 ++ [x]) ++ r' = u ++ c :: (u2 ++ x :: r') := by simp
                rw [ee]
                simp only [run]
                rw [hw]
                simp only
                rw [if_pos hc, hd', hw2]
                simp only [Bool.false_eq_true, if_false]
                rw [hcl, if_pos hx]
              · rw [if_neg hx] at h
                obtain ⟨v, hv, hne, hrun⟩ := ih _ _ _ _ (by omega) h
                cases v with
                | nil => exact absurd rfl hne
                | cons y v =>
                  rw [List.cons_append] at hv
                  obtain ⟨rfl, e2⟩ := List.cons.inj hv
                  refine ⟨u ++ c :: (u2 ++ x :: v), by rw [hu, hu2, e2]; simp, by simp, fun d' r' hdd hcc => ?_⟩
                  have hd' : (d' == 10000) = false := by
                    simp only [beq_eq_false_iff_ne]
                    rcases hdd with g | g
                    · omega
                    · simp at g; omega
                  have ee : u ++ c :: (u2 ++ x :: v) ++ r' = u ++ c :: (u2 ++ x :: (v ++ r')) := by simp
                  rw [ee]
                  simp only [run]
                  rw [hw]
                  simp only
                  rw [if_pos hc, hd', hw2]
                  simp only [Bool.false_eq_true, if_false]
                  rw [hcl, hmo, if_neg hx]
                  have := hrun (d' + 1) r' (by
                    rcases hdd with g | g
                    · exact Or.inl (by omega)
                    · refine Or.inr ?_
                      simp at g ⊢
                      omega) hcc
                  rw [List.cons_append] at this
                  exact this
        · rw [if_neg hc] at h
          obtain ⟨v, hv, hs⟩ := scalar_again h
          refine ⟨u ++ c :: v, by rw [hu, hv]; simp, by simp, fun d' r' _ hcc => ?_⟩
          have ee : u ++ c :: v ++ r' = u ++ c :: (v ++ r') := by simp
          rw [ee]
          simp only [run]
          rw [hw]
          simp only
          rw [if_neg hc]
          exact hs r' hcc
    | succ m =>
      simp only [run] at h
      -- the name, where there is one
      have hnm : ∃ l1 u0, (if m == 0 then some l else name l) = some l1 ∧ l = u0 ++ l1 ∧ ∀ r', (if m == 0 then some (u0 ++ r') else name (u0 ++ r')) = some r' := by
        by_cases hm : (m == 0) = true
        · exact ⟨l, [], by rw [if_pos hm], rfl, fun r' => by rw [if_pos hm]; rfl⟩
        · rw [if_neg hm] at h
          cases hn : name l with
          | none => rw [hn] at h; cases h
          | some l1 =>
            obtain ⟨v, hv, _, hw⟩ := name_again hn
            exact ⟨l1, v, by rw [if_neg hm], hv, fun r' => by rw [if_neg hm]; exact hw r'⟩
      obtain ⟨l1, u0, hn1, hl, hn2⟩ := hnm
      rw [hn1] at h
      simp only at h
      cases h1 : run n 0 d l1 with
      | none => rw [h1] at h; cases h
      | some r1 =>
        rw [h1] at h
        simp only at h
        obtain ⟨v1, hv1, hne1, hr1⟩ := ih _ _ _ _ hd h1
        cases h2 : ws r1 with
        | nil => rw [h2] at h; cases h
        | cons x t1 =>
          rw [h2] at h
          simp only at h
          obtain ⟨u2, hu2, hw2⟩ := ws_cons h2
          generalize hcl : (if m == 0 then (93 : UInt8) else 125) = cl at h
          by_cases hx : (x == 44) = true
          · rw [if_pos hx] at h
            obtain ⟨v2, hv2, hne2, hr2⟩ := ih _ _ _ _ hd h
            refine ⟨u0 ++ (v1 ++ (u2 ++ x :: v2)), by rw [hl, hv1, hu2, hv2]; simp, by simp, fun d' r' hdd hcc => ?_⟩
            have ee : u0 ++ (v1 ++ (u2 ++ x :: v2)) ++ r' = u0 ++ (v1 ++ (u2 ++ x :: (v2 ++ r'))) := by simp
            rw [ee]
            simp only [run]
            rw [hn2]
            simp only
            rw [hr1 d' _ (by
              rcases hdd with g | g
              · exact Or.inl g
              · refine Or.inr ?_
                simp at g; omega) (by rw [hu2]; exact Compat.same_append u2 x _ _)]
            simp only
            rw [hw2]
            simp only
            rw [if_pos hx]
            exact hr2 d' r' (by
              rcases hdd with g | g
              · exact Or.inl g
              · refine Or.inr ?_
                simp at g; omega) hcc
          · rw [if_neg hx] at h
            by_cases hy : (x == cl) = true
            · rw [if_pos hy] at h
              have h' := Option.some.inj h
              subst h'
              refine ⟨u0 ++ (v1 ++ (u2 ++ [x])), by rw [hl, hv1, hu2]; simp, by simp, fun d' r' hdd hcc => ?_⟩
              have ee : u0 ++ (v1 ++ (u2 ++ [x])) ++ r' = u0 ++ (v1 ++ (u2 ++ x :: r')) := by simp
              rw [ee]
              simp only [run]
              rw [hn2]
              simp only
              rw [hr1 d' _ (by
                rcases hdd with g | g
                · exact Or.inl g
                · refine Or.inr ?_
                  simp at g; omega) (by rw [hu2]; exact Compat.same_append u2 x _ _)]
              simp only
              rw [hw2]
              simp only
              rw [if_neg hx, hcl, if_pos hy]
            · rw [if_neg hy] at h; cases h

theorem run_lt {n m d : Nat} {l r : List UInt8} (hd : d ≤ 10000) (h : run n m d l = some r) : r.length < l.length := by
  obtain ⟨v, hv, hne, _⟩ := run_again n m d l r hd h
  rw [hv, List.length_append]
  have := List.length_pos_iff.2 hne
  omega

theorem ws_le (l : List UInt8) : (ws l).length ≤ l.length := by
  unfold ws
  exact List.Sublist.length_le (List.dropWhile_sublist _)

theorem name_lt {l r : List UInt8} (h : name l = some r) : r.length < l.length := by
  obtain ⟨v, hv, hne, _⟩ := name_again h
  rw [hv, List.length_append]
  have := List.length_pos_iff.2 hne
  omega

/-- How much fuel is enough. -/
def need (m : Nat) (l : List UInt8) : Nat := 2 * l.length + (if m = 0 then 1 else 2)

theorem run_fuel : ∀ (n n' m d : Nat) (l : List UInt8), d ≤ 10000 → need m l ≤ n → need m l ≤ n' → run n m d l = run n' m d l := by
  intro n
  induction n with
  | zero => intro n' m d l _ h; simp [need] at h; split at h <;> omega
  | succ n ih =>
    intro n' m d l hd h h'
    cases n' with
    | zero => simp [need] at h'; split at h' <;> omega
    | succ n' =>
      cases m with
      | zero =>
        simp only [need, if_true] at h h'
        simp only [run]
        cases h1 : ws l with
        | nil => rfl
        | cons c t =>
          simp only
          have hle := ws_le l
          rw [h1, List.length_cons] at hle
          by_cases hc : (c == 123 || c == 91) = true
          · rw [if_pos hc, if_pos hc]
            by_cases hd0 : (d == 10000) = true
            · rw [if_pos hd0, if_pos hd0]
            · rw [if_neg hd0, if_neg hd0]
              have hdn : d ≠ 10000 := by simpa using hd0
              cases h2 : ws t with
              | nil => rfl
              | cons x t1 =>
                simp only
                have hle2 := ws_le t
                rw [h2, List.length_cons] at hle2
                generalize closer c = cl
                have hmo := mode_ne c
                generalize mode c = mo at hmo
                by_cases hx : (x == cl) = true
                · rw [if_pos hx, if_pos hx]
                · rw [if_neg hx, if_neg hx]
                  exact ih _ _ _ _ (by omega) (by simp [need, hmo]; omega) (by simp [need, hmo]; omega)
          · rw [if_neg hc, if_neg hc]
      | succ m =>
        simp only [need] at h h'
        simp only [run]
        have hnm : ∀ l1, (if m == 0 then some l else name l) = some l1 → l1.length ≤ l.length := by
          intro l1 e
          by_cases hm : (m == 0) = true
          · rw [if_pos hm] at e; rw [Option.some.inj e]; exact Nat.le_refl _
          · rw [if_neg hm] at e; exact Nat.le_of_lt (name_lt e)
        cases h0 : (if m == 0 then some l else name l) with
        | none => rfl
        | some l1 =>
          simp only
          have hl1 := hnm l1 h0
          have e1 : run n 0 d l1 = run n' 0 d l1 := ih _ _ _ _ hd (by simp [need]; simp at h; omega) (by simp [need]; simp at h'; omega)
          rw [e1]
          cases h1 : run n' 0 d l1 with
          | none => rfl
          | some r =>
            simp only
            have hr := run_lt hd h1
            cases h2 : ws r with
            | nil => rfl
            | cons x t1 =>
              simp only
              have hle2 := ws_le r
              rw [h2, List.length_cons] at hle2
              by_cases hx : (x == 44) = true
              · rw [if_pos hx, if_pos hx]
                exact ih _ _ _ _ hd (by simp [need]; simp at h; omega) (by simp [need]; simp at h'; omega)
              · rw [if_neg hx, if_neg hx]

/-- The reading without fuel. -/
def R (m d : Nat) (l : List UInt8) : Option (List UInt8) := run (need m l) m d l

theorem R_eq {n m d : Nat} {l : List UInt8} (hd : d ≤ 10000) (hn : need m l ≤ n) : run n m d l = R m d l := run_fuel _ _ _ _ _ hd hn (Nat.le_refl _)

theorem R_lt {m d : Nat} {l r : List UInt8} (hd : d ≤ 10000) (h : R m d l = some r) : r.length < l.length := run_lt hd h

theorem R_val {d : Nat} (hd : d ≤ 10000) (l : List UInt8) : R 0 d l = (match ws l with
    | [] => none
    | c :: t =>
      if c == 123 || c == 91 then
        if d == 10000 then none
        else match ws t with
          | [] => none
          | x :: t1 => if x == closer c then some t1 else R (mode c) (d + 1) (x :: t1)
      else scalar c t) := by
  have e : R 0 d l = run (2 * l.length + 1) 0 d l := rfl
  rw [e]
  simp only [run]
  cases h1 : ws l with
  | nil => rfl
  | cons c t =>
    simp only
    have hle := ws_le l
    rw [h1, List.length_cons] at hle
    by_cases hc : (c == 123 || c == 91) = true
    · rw [if_pos hc, if_pos hc]
      by_cases hd0 : (d == 10000) = true
      · rw [if_pos hd0, if_pos hd0]
      · rw [if_neg hd0, if_neg hd0]
        have hdn : d ≠ 10000 := by simpa using hd0
        cases h2 : ws t with
        | nil => rfl
        | cons x t1 =>
          simp only
          have hle2 := ws_le t
          rw [h2, List.length_cons] at hle2
          have hmo := mode_ne c
          by_cases hx : (x == closer c) = true
          · rw [if_pos hx, if_pos hx]
          · rw [if_neg hx, if_neg hx]
            exact R_eq (by omega) (by rw [need, if_neg hmo, List.length_cons]; omega)
    · rw [if_neg hc, if_neg hc]

theorem run_seq (n m d : Nat) (l : List UInt8) : run (n + 1) (m + 1) d l = (match (if m == 0 then some l else name l) with
    | none => none
    | some l1 => match run n 0 d l1 with
      | none => none
      | some r => match ws r with
        | [] => none
        | x :: t1 => if x == 44 then run n (m + 1) d t1 else if x == (if m == 0 then 93 else 125) then some t1 else none) := rfl

theorem R_seq {d : Nat} (hd : d ≤ 10000) (m : Nat) (l : List UInt8) : R (m + 1) d l = (match (if m == 0 then some l else name l) with
    | none => none
    | some l1 => match R 0 d l1 with
      | none => none
      | some r => match ws r with
        | [] => none
        | x :: t1 => if x == 44 then R (m + 1) d t1 else if x == (if m == 0 then 93 else 125) then some t1 else none) := by
  have e : R (m + 1) d l = run (2 * l.length + 1 + 1) (m + 1) d l := rfl
  rw [e, run_seq]
  have hnm : ∀ l1, (if m == 0 then some l else name l) = some l1 → l1.length ≤ l.length := by
    intro l1 e
    by_cases hm : (m == 0) = true
    · rw [if_pos hm] at e; rw [Option.some.inj e]; exact Nat.le_refl _
    · rw [if_neg hm] at e; exact Nat.le_of_lt (name_lt e)
  cases h0 : (if m == 0 then some l else name l) with
  | none => rfl
  | some l1 =>
    simp only
    have hl1 := hnm l1 h0
    rw [R_eq hd (by simp [need]; omega)]
    cases h1 : R 0 d l1 with
    | none => rfl
    | some r =>
      simp only
      have hr := R_lt hd h1
      cases h2 : ws r with
      | nil => rfl
      | cons x t1 =>
        simp only
        have hle2 := ws_le r
        rw [h2, List.length_cons] at hle2
        by_cases hx : (x == 44) = true
        · rw [if_pos hx, if_pos hx]
          exact R_eq hd (by simp [need]; omega)
        · rw [if_neg hx, if_neg hx]

theorem R_again {m d : Nat} {l r : List UInt8} (hd : d ≤ 10000) (h : R m d l = some r) :
    ∃ v, l = v ++ r ∧ v ≠ [] ∧ ∀ d' r', d' ≤ 10000 → (d' ≤ d ∨ d' + v.length ≤ 10000) → Compat r r' → R m d' (v ++ r') = some r' := by
  obtain ⟨v, hv, hne, hr⟩ := run_again _ _ _ _ _ hd h
  refine ⟨v, hv, hne, fun d' r' hd' hdd hcc => ?_⟩
  have k := hr d' r' hdd hcc
  -- more fuel changes nothing
  have mono : ∀ (n k m d : Nat) (l r : List UInt8), run n m d l = some r → run (n + k) m d l = some r := by
    intro n
    induction n with
    | zero => intro k m d l r h; simp [run] at h
    | succ n ih =>
      intro k m d l r h
      rw [show n + 1 + k = (n + k) + 1 from by omega]
      cases m with
      | zero =>
        simp only [run] at h ⊢
        cases h1 : ws l with
        | nil => rw [h1] at h; cases h
        | cons c t =>
          rw [h1] at h
          simp only at h ⊢
          by_cases hc : (c == 123 || c == 91) = true
          · rw [if_pos hc] at h ⊢
            by_cases hd0 : (d == 10000) = true
            · rw [if_pos hd0] at h; cases h
            · rw [if_neg hd0] at h ⊢
              cases h2 : ws t with
              | nil => rw [h2] at h; cases h
              | cons x t1 =>
                rw [h2] at h
                simp only at h ⊢
                generalize closer c = cl at h ⊢
                by_cases hx : (x == cl) = true
                · rw [if_pos hx] at h ⊢; exact h
                · rw [if_neg hx] at h ⊢; exact ih _ _ _ _ _ h
          · rw [if_neg hc] at h ⊢; exact h
      | succ m =>
        simp only [run] at h ⊢
        cases h0 : (if m == 0 then some l else name l) with
        | none => rw [h0] at h; cases h
        | some l1 =>
          rw [h0] at h
          simp only at h ⊢
          cases h1 : run n 0 d l1 with
          | none => rw [h1] at h; cases h
          | some r1 =>
            rw [h1] at h
            rw [ih _ _ _ _ _ h1]
            simp only at h ⊢
            cases h2 : ws r1 with
            | nil => rw [h2] at h; cases h
            | cons x t1 =>
              rw [h2] at h
              simp only at h ⊢
              by_cases hx : (x == 44) = true
              · rw [if_pos hx] at h ⊢; exact ih _ _ _ _ _ h
              · rw [if_neg hx] at h ⊢; exact h
  have k2 := mono _ (need m (v ++ r')) _ _ _ _ k
  rw [R_eq hd' (by omega)] at k2
  exact k2

/-- THE PLAIN LAW OF THE FIRST STATEMENT: what was read, twice in an array, is an array. -/
theorem twice {d : Nat} {l r : List UInt8} (hd : d ≤ 10000) (h : R 0 d l = some r) (hl : l.length ≤ 9999) :
    ∃ v, l = v ++ r ∧ R 0 (d - 1) (91 :: (v ++ 44 :: (v ++ [93]))) = some [] := by
  obtain ⟨v, hv, hne, hr⟩ := R_again hd h
  refine ⟨v, hv, ?_⟩
  have hvl : v.length ≤ 9999 := by rw [hv, List.length_append] at hl; omega
  have hdd : d - 1 + 1 ≤ d ∨ d - 1 + 1 + v.length ≤ 10000 := by omega
  have stop : ∀ (c : UInt8) (z : List UInt8), c = 44 ∨ c = 93 → Compat r (c :: z) := by
    intro c z hc c' z' e
    obtain ⟨rfl, rfl⟩ := List.cons.inj e
    rcases hc with rfl | rfl <;> exact Or.inl (by decide)
  have k1 := hr (d - 1 + 1) (44 :: (v ++ [93])) (by omega) hdd (stop 44 _ (Or.inl rfl))
  have k2 := hr (d - 1 + 1) [93] (by omega) hdd (stop 93 _ (Or.inr rfl))
  -- the elements, from the last
  have e2 : R 1 (d - 1 + 1) (v ++ [93]) = some [] := by
    rw [R_seq (by omega) 0]
    simp only [beq_self_eq_true, if_true]
    rw [k2]
    simp only
    have : ws [93] = [93] := by decide
    rw [this]
    simp
  have e1 : R 1 (d - 1 + 1) (v ++ 44 :: (v ++ [93])) = some [] := by
    rw [R_seq (by omega) 0]
    simp only [beq_self_eq_true, if_true]
    rw [k1]
    simp only
    have : ∀ z, ws (44 :: z) = 44 :: z := fun z => by unfold ws; rw [List.dropWhile_cons]; rfl
    rw [this]
    simp only [beq_self_eq_true, if_true]
    exact e2
  -- the value's head is behind white space no closing bracket
  have hw : ∃ x t1, ws (v ++ 44 :: (v ++ [93])) = x :: t1 ∧ (x == 93) = false := by
    rw [R_val (by omega)] at k1
    cases h1 : ws (v ++ 44 :: (v ++ [93])) with
    | nil => rw [h1] at k1; cases k1
    | cons x t1 =>
      refine ⟨x, t1, rfl, ?_⟩
      rw [h1] at k1
      simp only at k1
      cases hx : (x == 93) with
      | false => rfl
      | true =>
        have : x = 93 := by simpa using hx
        subst this
        simp [scalar, isDig] at k1
  obtain ⟨x, t1, hw1, hx⟩ := hw
  rw [R_val (by omega)]
  have : ∀ z, ws (91 :: z) = 91 :: z := fun z => by unfold ws; rw [List.dropWhile_cons]; rfl
  rw [this]
  have c1 : ((91 : UInt8) == 123 || (91 : UInt8) == 91) = true := by decide
  have c2 : (d - 1 == 10000) = false := by simp; omega
  have c3 : closer 91 = 93 := by decide
  have c4 : mode 91 = 1 := by decide
  simp only [c1, c2, if_true, Bool.false_eq_true, if_false, hw1, c3, hx, c4]
  -- white space ahead of the first element
  have wsR : ∀ l, R 1 (d - 1 + 1) (ws l) = R 1 (d - 1 + 1) l := by
    intro l
    rw [R_seq (by omega) 0, R_seq (by omega) 0]
    simp only [beq_self_eq_true, if_true]
    have e : R 0 (d - 1 + 1) (ws l) = R 0 (d - 1 + 1) l := by
      rw [R_val (by omega), R_val (by omega)]
      have : ws (ws l) = ws l := by
        cases h1 : ws l with
        | nil => rfl
        | cons c t => obtain ⟨u, _, hu⟩ := ws_cons h1; 
                      have h2 := List.dropWhile_cons (p := isWS) (x := c) (xs := t)
                      by_cases hc : isWS c = true
                      · exfalso
                        have := List.head_dropWhile_not (p := isWS) (l := l) (by unfold ws at h1; rw [h1]; simp)
                        unfold ws at h1
                        simp [h1, hc] at this
                      · unfold ws; rw [h2, if_neg hc]
      rw [this]
    rw [e]
  rw [← hw1, wsR]
  exact e1

end Go.Proofs.Qxb6616712aFmt.J
