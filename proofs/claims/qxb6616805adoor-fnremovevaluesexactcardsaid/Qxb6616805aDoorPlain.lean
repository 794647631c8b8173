/- Lists of items: the plain law, no Go in sight. -/
set_option linter.unusedSimpArgs false
set_option linter.unusedVariables false
namespace Go.Proofs.Qxb6616805aDoor
namespace I

def lws (c : UInt8) : Bool := c == 32 || c == 9 || c == 13 || c == 10
def trimL (l : List UInt8) : List UInt8 := l.dropWhile lws
def trimR (l : List UInt8) : List UInt8 := (l.reverse.dropWhile lws).reverse
def trim (l : List UInt8) : List UInt8 := trimR (trimL l)

/-- In a quote, in brackets, behind a backslash. -/
abbrev St := Bool × Bool × Bool
def s0 : St := (false, false, false)
def stp : St → UInt8 → Option St
  | (q, a, true), _ => some (q, a, false)
  | (true, a, false), c => if c = 92 then some (true, a, true) else if c = 34 then some (false, a, false) else some (true, a, false)
  | (false, a, false), c => if c = 34 then some (true, a, false) else if c = 60 then some (false, true, false) else if c = 62 then some (false, false, false) else if c = 44 ∧ a = false then none else some (false, a, false)
def scan : St → List UInt8 → Option St
  | s, [] => some s
  | s, c :: r => (stp s c).bind fun t => scan t r
def keep (l : List UInt8) : List (List UInt8) := if trim l = [] then [] else [trim l]
def go : List UInt8 → St → List UInt8 → List (List UInt8)
  | cur, _, [] => keep cur
  | cur, s, c :: r => match stp s c with
    | none => keep cur ++ go [] s0 r
    | some t => go (cur ++ [c]) t r
def items (l : List UInt8) : List (List UInt8) := go [] s0 l

theorem scan_append (s : St) : ∀ (p r : List UInt8), scan s (p ++ r) = (scan s p).bind fun t => scan t r
  | [], r => rfl
  | c :: p, r => by
    simp only [List.cons_append, scan]
    cases stp s c with
    | none => rfl
    | some t => exact scan_append t p r
theorem go_scan : ∀ (p : List UInt8) (cur : List UInt8) (s t : St) (r : List UInt8), scan s p = some t → go cur s (p ++ r) = go (cur ++ p) t r
  | [], cur, s, t, r, h => by cases h; simp
  | c :: p, cur, s, t, r, h => by
    simp only [scan] at h
    cases hs : stp s c with
    | none => rw [hs] at h; cases h
    | some u =>
      rw [hs] at h
      simp only [List.cons_append, go, hs]
      rw [go_scan p (cur ++ [c]) u t r h]
      simp
theorem stp_none {s : St} {c : UInt8} (h : stp s c = none) : s = s0 ∧ c = 44 := by
  obtain ⟨q, a, k⟩ := s
  cases k with
  | true => simp [stp] at h
  | false =>
    cases q with
    | true =>
      by_cases h1 : c = 92
      · simp [stp, h1] at h
      · by_cases h2 : c = 34
        · simp [stp, h2] at h
        · simp [stp, h1, h2] at h
    | false =>
      by_cases h1 : c = 34
      · simp [stp, h1] at h
      · by_cases h2 : c = 60
        · simp [stp, h2] at h
        · by_cases h3 : c = 62
          · simp [stp, h3] at h
          · simp only [stp, if_neg h1, if_neg h2, if_neg h3] at h
            by_cases h4 : c = 44 ∧ a = false
            · rw [h4.2]; exact ⟨rfl, h4.1⟩
            · rw [if_neg h4] at h; cases h
theorem stp_comma : stp s0 44 = none := by decide
/-- Behind a comma that splits. -/
theorem items_cut (p r : List UInt8) (h : scan s0 p = some s0) : items (p ++ 44 :: r) = keep p ++ items r := by
  unfold items
  rw [go_scan p [] s0 s0 (44 :: r) h, List.nil_append, go, stp_comma]
theorem items_one (l : List UInt8) {t : St} (h : scan s0 l = some t) : items l = keep l := by
  unfold items
  have := go_scan l [] s0 t [] h
  rw [List.append_nil, List.nil_append] at this
  rw [this]; rfl
/-- Either no comma splits, or the first one does. -/
theorem first_cut : ∀ (l : List UInt8) (s : St), (∃ t, scan s l = some t) ∨ ∃ p r, l = p ++ 44 :: r ∧ scan s p = some s0
  | [], s => .inl ⟨s, rfl⟩
  | c :: l, s => by
    cases hs : stp s c with
    | none =>
      obtain ⟨h1, h2⟩ := stp_none hs
      exact .inr ⟨[], l, by simp [h2], by simp [scan, h1]⟩
    | some t =>
      rcases first_cut l t with ⟨u, hu⟩ | ⟨p, r, h1, h2⟩
      · exact .inl ⟨u, by simp only [scan, hs]; exact hu⟩
      · exact .inr ⟨c :: p, r, by simp [h1], by simp only [scan, hs]; exact h2⟩

theorem dropWhile_none (l : List UInt8) (h : ∀ c ∈ l, lws c = true) : l.dropWhile lws = [] := by
  induction l with
  | nil => rfl
  | cons c l ih => rw [List.dropWhile_cons, if_pos (h c (by simp))]; exact ih fun d hd => h d (by simp [hd])
theorem trimL_cons (c : UInt8) (l : List UInt8) (h : lws c = true) : trimL (c :: l) = trimL l := by unfold trimL; rw [List.dropWhile_cons, if_pos h]
theorem trimR_snoc (c : UInt8) (l : List UInt8) (h : lws c = true) : trimR (l ++ [c]) = trimR l := by unfold trimR; rw [List.reverse_append, List.reverse_singleton, List.singleton_append, List.dropWhile_cons, if_pos h]
theorem trimL_snoc (c : UInt8) (l : List UInt8) (h : lws c = true) : trimL (l ++ [c]) = if trimL l = [] then [] else trimL l ++ [c] := by
  induction l with
  | nil => simp [trimL, h]
  | cons d l ih =>
    by_cases hd : lws d = true
    · rw [List.cons_append, trimL_cons d _ hd, trimL_cons d _ hd, ih]
    · have : trimL (d :: l) = d :: l := by unfold trimL; rw [List.dropWhile_cons, if_neg hd]
      rw [this, List.cons_append]
      unfold trimL
      rw [List.dropWhile_cons, if_neg hd]
      simp
theorem trim_cons (c : UInt8) (l : List UInt8) (h : lws c = true) : trim (c :: l) = trim l := by unfold trim; rw [trimL_cons c l h]
theorem trim_snoc (c : UInt8) (l : List UInt8) (h : lws c = true) : trim (l ++ [c]) = trim l := by
  unfold trim
  rw [trimL_snoc c l h]
  split
  · rename_i h0; rw [h0]
  · exact trimR_snoc c _ h
theorem keep_cons (c : UInt8) (l : List UInt8) (h : lws c = true) : keep (c :: l) = keep l := by unfold keep; rw [trim_cons c l h]
theorem keep_snoc (c : UInt8) (l : List UInt8) (h : lws c = true) : keep (l ++ [c]) = keep l := by unfold keep; rw [trim_snoc c l h]
theorem lws_ne {c : UInt8} (h : lws c = true) : c ≠ 44 ∧ c ≠ 34 ∧ c ≠ 60 ∧ c ≠ 62 ∧ c ≠ 92 := by
  unfold lws at h
  simp only [Bool.or_eq_true, beq_iff_eq] at h
  rcases h with ((h | h) | h) | h <;> subst h <;> decide
theorem stp_lws {s : St} {c : UInt8} (h : lws c = true) : stp s c = some (s.1, s.2.1, false) := by
  obtain ⟨n1, n2, n3, n4, n5⟩ := lws_ne h
  obtain ⟨q, a, k⟩ := s
  cases k <;> cases q <;> simp [stp, n1, n2, n3, n4, n5]
theorem go_lead : ∀ (l : List UInt8) (c : UInt8) (cur : List UInt8) (s : St), lws c = true → go (c :: cur) s l = go cur s l
  | [], c, cur, s, h => by simp only [go]; exact keep_cons c cur h
  | d :: l, c, cur, s, h => by
    simp only [go]
    cases stp s d with
    | none => simp only [keep_cons c cur h]
    | some t => simp only [List.cons_append]; exact go_lead l c (cur ++ [d]) t h
theorem items_cons (c : UInt8) (l : List UInt8) (h : lws c = true) : items (c :: l) = items l := by
  unfold items
  rw [go, stp_lws h]
  exact go_lead l c [] s0 h
theorem go_snoc : ∀ (l : List UInt8) (c : UInt8) (cur : List UInt8) (s : St), lws c = true → go cur s (l ++ [c]) = go cur s l
  | [], c, cur, s, h => by simp only [List.nil_append, go, stp_lws h]; exact keep_snoc c cur h
  | d :: l, c, cur, s, h => by
    simp only [List.cons_append, go]
    cases stp s d with
    | none => simp only [go_snoc l c [] s0 h]
    | some t => exact go_snoc l c (cur ++ [d]) t h
theorem items_snoc (c : UInt8) (l : List UInt8) (h : lws c = true) : items (l ++ [c]) = items l := go_snoc l c [] s0 h
theorem items_trimL : ∀ l, items (trimL l) = items l
  | [] => rfl
  | c :: l => by
    by_cases h : lws c = true
    · rw [trimL_cons c l h, items_cons c l h]; exact items_trimL l
    · unfold trimL; rw [List.dropWhile_cons, if_neg h]
theorem items_rev : ∀ r : List UInt8, items (r.dropWhile lws).reverse = items r.reverse
  | [] => rfl
  | c :: r => by
    by_cases h : lws c = true
    · rw [List.dropWhile_cons, if_pos h, List.reverse_cons, items_snoc c _ h]; exact items_rev r
    · rw [List.dropWhile_cons, if_neg h]
theorem items_trim (l : List UInt8) : items (trim l) = items l := by
  unfold trim trimR
  rw [items_rev, List.reverse_reverse, items_trimL]

/-! What an item is. -/
def Good (x : List UInt8) : Prop := trim x = x ∧ x ≠ [] ∧ ∃ t, scan s0 x = some t
def Clean (x : List UInt8) : Prop := scan s0 x = some s0
def Chain : List (List UInt8) → Prop
  | [] => True
  | [x] => Good x
  | x :: y :: r => Good x ∧ Clean x ∧ Chain (y :: r)

theorem trimL_fix (l : List UInt8) : trimL (trimL l) = trimL l := by
  induction l with
  | nil => rfl
  | cons c l ih =>
    by_cases h : lws c = true
    · rw [trimL_cons c l h]; exact ih
    · have : trimL (c :: l) = c :: l := by unfold trimL; rw [List.dropWhile_cons, if_neg h]
      rw [this, this]
theorem trimR_fix (l : List UInt8) : trimR (trimR l) = trimR l := by
  have := trimL_fix l.reverse
  unfold trimL at this
  unfold trimR
  rw [List.reverse_reverse, this]
theorem trimL_trimR (l : List UInt8) (h : trimL l = l) : trimL (trimR l) = trimR l := by
  cases l with
  | nil => rfl
  | cons c l =>
    have hc : ¬ lws c = true := by
      intro hc
      rw [trimL_cons c l hc] at h
      have : (trimL l).length ≤ l.length := (List.dropWhile_sublist lws).length_le
      rw [h, List.length_cons] at this
      omega
    unfold trimR
    rw [List.reverse_cons]
    have : ∀ m : List UInt8, (m ++ [c]).dropWhile lws = m.dropWhile lws ++ [c] := fun m => by
      induction m with
      | nil => simp [hc]
      | cons d m ih =>
        by_cases hd : lws d = true
        · simp only [List.cons_append, List.dropWhile_cons, if_pos hd]; exact ih
        · simp only [List.cons_append, List.dropWhile_cons, if_neg hd]
    rw [this, List.reverse_append, List.reverse_singleton, List.singleton_append]
    unfold trimL
    rw [List.dropWhile_cons, if_neg hc]
theorem trim_fix (l : List UInt8) : trim (trim l) = trim l := by
  unfold trim
  rw [trimL_trimR _ (trimL_fix l), trimR_fix]

/-- Behind a backslash one is in a quote. -/
def Inv (s : St) : Prop := s.2.2 = true → s.1 = true
theorem Inv_stp {s t : St} {c : UInt8} (h : Inv s) (hs : stp s c = some t) : Inv t := by
  obtain ⟨q, a, k⟩ := s
  cases k with
  | true => simp only [stp, Option.some.injEq] at hs; subst hs; intro hk; cases hk
  | false =>
    cases q with
    | true =>
      simp only [stp] at hs
      split at hs
      · cases hs; intro _; rfl
      · split at hs <;> (cases hs; intro hk; cases hk)
    | false =>
      simp only [stp] at hs
      split at hs
      · cases hs; intro hk; cases hk
      · split at hs
        · cases hs; intro hk; cases hk
        · split at hs
          · cases hs; intro hk; cases hk
          · split at hs
            · cases hs
            · cases hs; intro hk; cases hk
theorem Inv_scan : ∀ (l : List UInt8) {s t : St}, Inv s → scan s l = some t → Inv t
  | [], s, t, h, hs => by cases hs; exact h
  | c :: l, s, t, h, hs => by
    simp only [scan] at hs
    cases hc : stp s c with
    | none => rw [hc] at hs; cases hs
    | some u => rw [hc] at hs; exact Inv_scan l (Inv_stp h hc) hs
theorem Inv_s0 : Inv s0 := fun h => by cases h

/-- A text's trimmed part: what stands before and behind it is white. -/
theorem trimL_split (l : List UInt8) : ∃ u, l = u ++ trimL l ∧ ∀ c ∈ u, lws c = true := by
  induction l with
  | nil => exact ⟨[], rfl, by simp⟩
  | cons c l ih =>
    by_cases h : lws c = true
    · obtain ⟨u, h1, h2⟩ := ih
      refine ⟨c :: u, ?_, fun d hd => ?_⟩
      · rw [trimL_cons c l h, List.cons_append, ← h1]
      · rcases List.mem_cons.1 hd with rfl | hd
        · exact h
        · exact h2 d hd
    · exact ⟨[], by unfold trimL; rw [List.dropWhile_cons, if_neg h]; rfl, by simp⟩
theorem trimR_split (l : List UInt8) : ∃ v, l = trimR l ++ v ∧ ∀ c ∈ v, lws c = true := by
  obtain ⟨u, h1, h2⟩ := trimL_split l.reverse
  refine ⟨u.reverse, ?_, fun c hc => h2 c (by simpa using hc)⟩
  have := congrArg List.reverse h1
  rw [List.reverse_reverse, List.reverse_append] at this
  exact this
theorem trim_split (l : List UInt8) : ∃ u v, l = u ++ trim l ++ v ∧ (∀ c ∈ u, lws c = true) ∧ ∀ c ∈ v, lws c = true := by
  obtain ⟨u, h1, h2⟩ := trimL_split l
  obtain ⟨v, h3, h4⟩ := trimR_split (trimL l)
  exact ⟨u, v, by rw [List.append_assoc]; unfold trim; rw [← h3, ← h1], h2, h4⟩
theorem scan_white : ∀ (u : List UInt8) (s : St), (∀ c ∈ u, lws c = true) → scan s u = some (if u = [] then s else (s.1, s.2.1, false))
  | [], s, _ => rfl
  | c :: u, s, h => by
    simp only [scan, stp_lws (h c (by simp)), Option.bind_some]
    rw [scan_white u _ fun d hd => h d (by simp [hd])]
    simp
/-- A text that no comma splits: nor is its trimmed part; and where it ends clean, so does that. -/
theorem scan_trim (p : List UInt8) {t : St} (h : scan s0 p = some t) : ∃ t', scan s0 (trim p) = some t' ∧ (t = s0 → t' = s0) := by
  obtain ⟨u, v, h1, h2, h3⟩ := trim_split p
  rw [h1, scan_append, scan_append, scan_white u s0 h2] at h
  have hu : (if u = [] then s0 else (s0.1, s0.2.1, false)) = s0 := by split <;> rfl
  rw [hu, Option.bind_some] at h
  cases hs : scan s0 (trim p) with
  | none => rw [hs] at h; cases h
  | some t' =>
    refine ⟨t', rfl, fun ht => ?_⟩
    rw [hs, Option.bind_some, scan_white v t' h3] at h
    have hi : Inv t' := Inv_scan _ Inv_s0 hs
    subst ht
    by_cases hv : v = []
    · rw [if_pos hv] at h; exact Option.some.inj h
    · rw [if_neg hv] at h
      obtain ⟨q, a, k⟩ := t'
      have := Option.some.inj h
      simp only [s0, Prod.mk.injEq] at this
      obtain ⟨rfl, rfl, -⟩ := this
      cases k with
      | false => rfl
      | true => have := hi rfl; cases this

theorem Chain_cons {x : List UInt8} {xs : List (List UInt8)} (hg : Good x) (hc : Clean x) (h : Chain xs) : Chain (x :: xs) := by
  cases xs with
  | nil => exact hg
  | cons y r => exact ⟨hg, hc, h⟩
theorem keep_chain {p : List UInt8} (h : ∃ t, scan s0 p = some t) : Chain (keep p) := by
  unfold keep
  split
  · trivial
  · rename_i hne
    obtain ⟨t, ht⟩ := h
    obtain ⟨t', h1, -⟩ := scan_trim p ht
    exact ⟨trim_fix p, hne, t', h1⟩
theorem items_chain : ∀ (n : Nat) (l : List UInt8), l.length ≤ n → Chain (items l)
  | n, l, hn => by
    rcases first_cut l s0 with ⟨t, ht⟩ | ⟨p, r, h1, h2⟩
    · rw [items_one l ht]; exact keep_chain ⟨t, ht⟩
    · cases n with
      | zero => subst h1; simp at hn
      | succ n =>
        subst h1
        rw [items_cut p r h2]
        have ih := items_chain n r (by simp at hn; omega)
        unfold keep
        split
        · exact ih
        · rename_i hne
          obtain ⟨t', k1, k2⟩ := scan_trim p h2
          have hc : Clean (trim p) := by unfold Clean; rw [k1, k2 rfl]
          exact Chain_cons ⟨trim_fix p, hne, t', k1⟩ hc ih
theorem Chain_tail {x : List UInt8} {xs : List (List UInt8)} (h : Chain (x :: xs)) : Good x ∧ Chain xs := by
  cases xs with
  | nil => exact ⟨h, trivial⟩
  | cons y r => exact ⟨h.1, h.2.2⟩
theorem Chain_filter (f : List UInt8 → Bool) : ∀ xs, Chain xs → Chain (xs.filter f)
  | [], _ => trivial
  | [x], h => by
    rw [List.filter_cons]
    split
    · exact h
    · trivial
  | x :: y :: r, h => by
    have ih := Chain_filter f (y :: r) h.2.2
    rw [List.filter_cons]
    split
    · exact Chain_cons h.1 h.2.1 ih
    · exact ih

/-- Joined by a comma and a blank. -/
def join : List (List UInt8) → List UInt8
  | [] => []
  | [x] => x
  | x :: y :: r => x ++ 44 :: 32 :: join (y :: r)
theorem keep_good {x : List UInt8} (h : Good x) : keep x = [x] := by unfold keep; rw [h.1, if_neg h.2.1]
theorem items_join : ∀ xs, Chain xs → items (join xs) = xs
  | [], _ => by decide
  | [x], h => by
    obtain ⟨t, ht⟩ := h.2.2
    rw [join, items_one x ht, keep_good h]
  | x :: y :: r, h => by
    rw [join, items_cut x _ h.2.1, keep_good h.1, items_cons 32 _ (by decide), items_join (y :: r) h.2.2]
    rfl

/-! The fields of a message. -/
abbrev Fd := List UInt8 × List UInt8
def rest (d : List UInt8) (v : List UInt8) : List (List UInt8) := (items v).filter fun x => x != d
def remOne (nmd : List UInt8 → Bool) (d : List UInt8) (f : Fd) : List Fd :=
  if nmd f.1 = false then [f] else if (rest d f.2).length = (items f.2).length then [f] else if rest d f.2 = [] then [] else [(f.1, join (rest d f.2))]
def rem (nmd : List UInt8 → Bool) (d : List UInt8) (fs : List Fd) : List Fd := fs.flatMap (remOne nmd d)

theorem rest_chain (d v : List UInt8) : Chain (rest d v) := Chain_filter _ _ (items_chain _ v (Nat.le_refl _))
theorem items_of_rest (d v : List UInt8) : items (join (rest d v)) = rest d v := items_join _ (rest_chain d v)
theorem rest_rest (d v : List UInt8) : rest d (join (rest d v)) = rest d v := by
  have h : rest d (join (rest d v)) = (rest d v).filter fun x => x != d := by
    show (items (join (rest d v))).filter _ = _
    rw [items_of_rest d v]
  rw [h]
  unfold rest
  rw [List.filter_filter]
  simp
theorem rest_all {d v : List UInt8} (h : (rest d v).length = (items v).length) : rest d v = items v := by
  unfold rest at *
  exact List.filter_eq_self.2 (fun x hx => by
    have := List.length_filter_eq_length_iff.1 h
    exact this x hx)
theorem remOne_again (nmd : List UInt8 → Bool) (d : List UInt8) (f : Fd) : (remOne nmd d f).flatMap (remOne nmd d) = remOne nmd d f := by
  unfold remOne
  by_cases h1 : nmd f.1 = false
  · simp [h1]
  · by_cases h2 : (rest d f.2).length = (items f.2).length
    · simp [h1, h2]
    · by_cases h3 : rest d f.2 = []
      · simp only [if_neg h1, if_neg h2, if_pos h3, List.flatMap_nil]
      · simp only [if_neg h1, if_neg h2, if_neg h3, List.flatMap_cons, List.flatMap_nil, List.append_nil]
        rw [if_pos (by rw [rest_rest, items_of_rest])]
theorem rem_again (nmd : List UInt8 → Bool) (d : List UInt8) (fs : List Fd) : rem nmd d (rem nmd d fs) = rem nmd d fs := by
  unfold rem
  rw [List.flatMap_assoc]
  congr 1
  funext f
  exact remOne_again nmd d f
/-- The items of the named fields. -/
def flow (nmd : List UInt8 → Bool) (fs : List Fd) : List (List UInt8) := fs.flatMap fun f => if nmd f.1 = true then items f.2 else []
def others (nmd : List UInt8 → Bool) (fs : List Fd) : List Fd := fs.flatMap fun f => if nmd f.1 = true then [] else [f]
theorem flow_rem (nmd : List UInt8 → Bool) (d : List UInt8) (fs : List Fd) : flow nmd (rem nmd d fs) = fs.flatMap fun f => if nmd f.1 = true then rest d f.2 else [] := by
  unfold flow rem
  rw [List.flatMap_assoc]
  congr 1
  funext f
  unfold remOne
  by_cases h1 : nmd f.1 = false
  · simp [h1]
  · have h1' : nmd f.1 = true := by simpa using h1
    by_cases h2 : (rest d f.2).length = (items f.2).length
    · simp only [if_neg h1, if_pos h2, List.flatMap_cons, List.flatMap_nil, List.append_nil, if_pos h1']
      exact (rest_all h2).symm
    · by_cases h3 : rest d f.2 = []
      · simp only [if_neg h1, if_neg h2, if_pos h3, List.flatMap_nil, if_pos h1']
        exact h3.symm
      · simp only [if_neg h1, if_neg h2, if_neg h3, List.flatMap_cons, List.flatMap_nil, List.append_nil, if_pos h1']
        exact items_of_rest d f.2
theorem others_rem (nmd : List UInt8 → Bool) (d : List UInt8) (fs : List Fd) : others nmd (rem nmd d fs) = others nmd fs := by
  unfold others rem
  rw [List.flatMap_assoc]
  congr 1
  funext f
  unfold remOne
  by_cases h1 : nmd f.1 = false
  · simp [h1]
  · have h1' : nmd f.1 = true := by simpa using h1
    by_cases h2 : (rest d f.2).length = (items f.2).length
    · simp [h1', h2]
    · by_cases h3 : rest d f.2 = [] <;> simp [h1', h2, h3]

end I
end Go.Proofs.Qxb6616805aDoor
