/- A region that draws its order; some of its operations move the world on, one behind the other; the others read only; a tail in line behind them all. -/
import Derived.StillTail
import Derived.Deep.Quiet
set_option linter.unusedVariables false
set_option linter.unusedSimpArgs false
set_option linter.unnecessarySimpa false
namespace Go.Proofs.Qxb6616805aDoor
open Go

section
variable {P : Program} {ops : Array Oper} {S : Nat → (Nat → Value) → World → Prop} {n : Nat} {cs : List Nat}

def dstOf (ops : Array Oper) (i : Nat) : Option Tmp := (ops[i]?).bind (·.dst)

/-- The frame behind these operations (the last one first), their values by a table. -/
def putAll (ops : Array Oper) (V : Nat → Value) : List Nat → Act → Act
  | [], a => a
  | i :: l, a => (putAll ops V l a).put (dstOf ops i) (V i)

theorem putAll_defers (V : Nat → Value) (a : Act) : ∀ l, (putAll ops V l a).defers = a.defers
  | [] => rfl
  | i :: l => by
    unfold putAll Act.put
    split <;> exact putAll_defers V a l
theorem putAll_other (V : Nat → Value) (a : Act) (t : Tmp) : ∀ l, (∀ j ∈ l, dstOf ops j ≠ some t) → (putAll ops V l a).tmps[t]? = a.tmps[t]?
  | [], _ => rfl
  | i :: l, h => by
    have ih := putAll_other V a t l fun j hj => h j (by simp [hj])
    have hi := h i (by simp)
    unfold putAll Act.put
    split
    · rename_i d hd
      have : d ≠ t := fun e => hi (by rw [hd, e])
      simp only [Array.getElem?_setIfInBounds_ne this, ih]
    · exact ih
theorem putAll_hit (V : Nat → Value) (a : Act) (t : Tmp) (j : Nat) (hd : dstOf ops j = some t) : ∀ l, j ∈ l → (∀ i ∈ l, i ≠ j → dstOf ops i ≠ some t) → (putAll ops V l a).tmps[t]? = (a.tmps[t]?).map fun _ => V j
  | [], h, _ => by cases h
  | i :: l, h, hn => by
    by_cases hij : i = j
    · subst hij
      have hsz : ∀ l, (putAll ops V l a).tmps.size = a.tmps.size := fun l => by
        induction l with
        | nil => rfl
        | cons k l ih => unfold putAll Act.put; split <;> simp [ih]
      unfold putAll Act.put
      simp only [hd, Array.getElem?_setIfInBounds, if_true, hsz]
      by_cases ht : t < a.tmps.size
      · simp [ht]
      · simp [ht, Array.getElem?_eq_none (Nat.le_of_not_lt ht)]
    · have hjl : j ∈ l := by
        rcases List.mem_cons.1 h with h | h
        · exact absurd h.symm hij
        · exact h
      have ih := putAll_hit V a t j hd l hjl fun k hk => hn k (by simp [hk])
      have hi := hn i (by simp) hij
      unfold putAll Act.put
      split
      · rename_i d hd'
        have : d ≠ t := fun e => hi (by rw [hd', e])
        simp only [Array.getElem?_setIfInBounds_ne this, ih]
      · exact ih

def down : Nat → List Nat
  | 0 => []
  | k + 1 => k :: down k
theorem mem_down (i : Nat) : ∀ k, i ∈ down k ↔ i < k
  | 0 => by simp [down]
  | k + 1 => by simp [down, mem_down i k]; omega
/-- The operations that are done. -/
def mark (ops : Array Oper) (l : List Nat) : Array Bool := (Array.range ops.size).map fun j => decide (j ∈ l)
theorem mark_getD (l : List Nat) (j : Nat) (d : Bool) : (mark ops l).getD j d = if j < ops.size then decide (j ∈ l) else d := by
  unfold mark
  by_cases h : j < ops.size
  · simp [h]
  · simp [h]
theorem mark_cons (l : List Nat) (i : Nat) : (mark ops l).setIfInBounds i true = mark ops (i :: l) := by
  unfold mark
  apply Array.ext_getElem?
  intro j
  rw [Array.getElem?_setIfInBounds]
  by_cases h : i = j
  · subst h
    by_cases h2 : i < ops.size <;> simp [h2]
  · have : ¬ j = i := fun e => h e.symm
    by_cases h2 : j < ops.size <;> simp [h, this, h2]
theorem mark_congr (l l' : List Nat) (h : ∀ j, j < ops.size → (j ∈ l ↔ j ∈ l')) : mark ops l = mark ops l' := by
  unfold mark
  apply Array.ext
  · simp
  · intro j h1 h2
    have hj : j < ops.size := by simpa using h1
    simp [h j hj]
theorem mark_nil : Array.replicate ops.size false = mark ops [] := by
  unfold mark
  apply Array.ext <;> simp

def cnt (l : List Nat) : Nat → Nat
  | 0 => 0
  | n + 1 => cnt l n + if n ∈ l then 0 else 1
theorem cnt_nil : ∀ n, cnt [] n = n
  | 0 => rfl
  | n + 1 => by simp [cnt, cnt_nil n]
theorem cnt_all (l : List Nat) : ∀ n, cnt l n = 0 → ∀ j, j < n → j ∈ l
  | 0, _, j, hj => by omega
  | n + 1, h, j, hj => by
    unfold cnt at h
    by_cases hn : n ∈ l
    · by_cases e : j = n
      · subst e; exact hn
      · exact cnt_all l n (by rw [if_pos hn] at h; omega) j (by omega)
    · rw [if_neg hn] at h; omega
theorem cnt_least (l : List Nat) : ∀ n, cnt l n ≠ 0 → ∃ j, j < n ∧ j ∉ l ∧ ∀ i, i < j → i ∈ l
  | 0, h => absurd rfl h
  | n + 1, h => by
    by_cases h0 : cnt l n = 0
    · unfold cnt at h
      by_cases hn : n ∈ l
      · rw [if_pos hn] at h; omega
      · exact ⟨n, by omega, hn, fun i hi => cnt_all l n h0 i hi⟩
    · obtain ⟨j, a1, a2, a3⟩ := cnt_least l n h0
      exact ⟨j, by omega, a2, a3⟩
theorem cnt_far (l : List Nat) (i : Nat) : ∀ n, n ≤ i → cnt (i :: l) n = cnt l n
  | 0, _ => rfl
  | n + 1, h => by
    have : n ≠ i := by omega
    simp [cnt, cnt_far l i n (by omega), this]
theorem cnt_cons (l : List Nat) (i : Nat) (hi : i ∉ l) : ∀ n, i < n → cnt l n = cnt (i :: l) n + 1
  | 0, h => by omega
  | n + 1, h => by
    by_cases e : i = n
    · subst e
      simp [cnt, cnt_far l i i (Nat.le_refl _), hi]
    · have : n ≠ i := fun h => e h.symm
      have ih := cnt_cons l i hi n (by omega)
      simp only [cnt, ih, List.mem_cons, this, false_or]
      omega


theorem putAll_congr (V V' : Nat → Value) (a : Act) : ∀ l, (∀ j ∈ l, V j = V' j) → putAll ops V l a = putAll ops V' l a
  | [], _ => rfl
  | i :: l, h => by
    unfold putAll
    rw [putAll_congr V V' a l fun j hj => h j (by simp [hj]), h i (by simp)]

/-- How many movers are done. -/
def stg : List Nat → List Nat → Nat
  | [], _ => 0
  | c :: cs, l => stg cs l + if c ∈ l then 1 else 0
theorem stg_nil : ∀ cs, stg cs [] = 0
  | [] => rfl
  | c :: cs => by simp [stg, stg_nil cs]
theorem stg_congr (l l' : List Nat) : ∀ cs : List Nat, (∀ c ∈ cs, (c ∈ l ↔ c ∈ l')) → stg cs l = stg cs l'
  | [], _ => rfl
  | c :: cs, h => by
    have h1 := stg_congr l l' cs fun x hx => h x (by simp [hx])
    have h2 := h c (by simp)
    by_cases hc : c ∈ l
    · simp [stg, h1, hc, h2.1 hc]
    · have : c ∉ l' := fun x => hc (h2.2 x)
      simp [stg, h1, hc, this]
theorem stg_other (l : List Nat) (i : Nat) (cs : List Nat) (h : i ∉ cs) : stg cs (i :: l) = stg cs l :=
  stg_congr _ _ cs fun c hc => by
    have : c ≠ i := fun e => h (e ▸ hc)
    simp [this]
theorem stg_add (l : List Nat) (i : Nat) (hi : i ∉ l) : ∀ cs : List Nat, cs.Nodup → i ∈ cs → stg cs (i :: l) = stg cs l + 1
  | [], _, h => by cases h
  | c :: cs, hn, h => by
    obtain ⟨hc, hn'⟩ := List.nodup_cons.1 hn
    by_cases e : i = c
    · subst e
      have := stg_other l i cs hc
      simp [stg, this, hi]
    · have h' : i ∈ cs := by
        rcases List.mem_cons.1 h with h | h
        · exact absurd h e
        · exact h
      have ih := stg_add l i hi cs hn' h'
      have e' : c ≠ i := fun x => e x.symm
      simp only [stg, ih, List.mem_cons, e', false_or]
      omega
theorem stg_all (l : List Nat) : ∀ cs : List Nat, (∀ c ∈ cs, c ∈ l) → stg cs l = cs.length
  | [], _ => rfl
  | c :: cs, h => by simp [stg, stg_all l cs (fun x hx => h x (by simp [hx])), h c (by simp)]

/-- Does operation j wait for i, at however many steps? -/
def reach (ops : Array Oper) : Nat → Nat → Nat → Bool
  | 0, _, _ => false
  | f + 1, j, i => match ops[j]? with
    | some o => o.after.any fun e => Region.binds .any e && (e.on == i || reach ops f e.on i)
    | none => false
theorem reach_ready {l : List Nat} (hcl : ∀ j ∈ l, ∀ o, ops[j]? = some o → ∀ e ∈ o.after, Region.binds .any e = true → e.on ∈ l) : ∀ (f j i : Nat) (o : Oper), ops[j]? = some o → (∀ e ∈ o.after, Region.binds .any e = true → e.on ∈ l) → reach ops f j i = true → i ∈ l
  | 0, _, _, _, _, _, h => by cases h
  | f + 1, j, i, o, ho, hall, h => by
    unfold reach at h
    rw [ho] at h
    obtain ⟨e, he, hb⟩ := Array.any_eq_true'.1 h
    simp only [Bool.and_eq_true, Bool.or_eq_true, beq_iff_eq] at hb
    have hel := hall e he hb.1
    rcases hb.2 with hb2 | hb2
    · exact hb2 ▸ hel
    · cases ho' : ops[e.on]? with
      | none =>
        cases f with
        | zero => cases hb2
        | succ f => unfold reach at hb2; rw [ho'] at hb2; cases hb2
      | some o' => exact reach_ready hcl f e.on i o' ho' (hcl _ hel o' ho') hb2

/-- What is asked of one operation. -/
def Ob (P : Program) (ops : Array Oper) (S : Nat → (Nat → Value) → World → Prop) (cs : List Nat) (n k : Nat) (o : Oper) (A : (Nat → Value) → Act) : Prop :=
  (k ∈ cs → ∀ V w, S (stg cs (down k)) V w → (∃ f args, (execOp (A V).eval o).run P w = .ok (.enter f args) w ∧ Calls P f args w fun e w' => ∃ V', e = .returned (V' k) ∧ S (stg cs (down k) + 1) V' w' ∧ ∀ j, j < n → reach ops n j k = false → V' j = V j) ∨
    ∃ w', (execOp (A V).eval o).run P w = .ok (.value (V k)) w' ∧ S (stg cs (down k) + 1) V w') ∧
  (k ∉ cs → ∀ m V w, S m V w → (execOp (A V).eval o).run P w = .ok (.value (V k)) w)
/-- The walk, in the order of the text. -/
def Obs (P : Program) (ops : Array Oper) (S : Nat → (Nat → Value) → World → Prop) (cs : List Nat) (n : Nat) (K : ((Nat → Value) → Act) → Prop) : Nat → List Oper → ((Nat → Value) → Act) → Prop
  | _, [], A => K A
  | k, o :: rest, A => Ob P ops S cs n k o A ∧ Obs P ops S cs n K (k + 1) rest (fun V => (A V).put o.dst (V k))
theorem obs_all {a : Act} {K : ((Nat → Value) → Act) → Prop} : ∀ (l : List Oper) (k : Nat), (∀ j, j < l.length → l[j]? = ops[k + j]?) → Obs P ops S cs n K k l (fun V => putAll ops V (down k) a) →
    (∀ j, j < l.length → ∀ o, ops[k + j]? = some o → Ob P ops S cs n (k + j) o (fun V => putAll ops V (down (k + j)) a)) ∧ K (fun V => putAll ops V (down (k + l.length)) a)
  | [], k, _, h => ⟨fun j hj => absurd hj (by simp), h⟩
  | o :: rest, k, hl, h => by
    obtain ⟨h1, h2⟩ := h
    have h0 : ops[k]? = some o := by simpa using (hl 0 (by simp)).symm
    have hd : dstOf ops k = o.dst := by simp [dstOf, h0]
    have h2' : Obs P ops S cs n K (k + 1) rest (fun V => putAll ops V (down (k + 1)) a) := by
      have : (fun V => putAll ops V (down (k + 1)) a) = fun V => (putAll ops V (down k) a).put o.dst (V k) := by
        funext V
        show (putAll ops V (down k) a).put (dstOf ops k) (V k) = _
        rw [hd]
      rw [this]
      exact h2
    obtain ⟨k1, k2⟩ := obs_all rest (k + 1) (fun j hj => by have := hl (j + 1) (by simp; omega); simpa [Nat.add_assoc, Nat.add_comm 1 j] using this) h2'
    refine ⟨fun j hj o' ho' => ?_, ?_⟩
    · cases j with
      | zero =>
        have : o' = o := Option.some.inj (ho'.symm.trans h0)
        subst this
        exact h1
      | succ j =>
        rw [show k + (j + 1) = k + 1 + j by omega] at ho' ⊢
        exact k1 j (by simp at hj; omega) o' ho'
    · rw [List.length_cons, show k + (rest.length + 1) = k + 1 + rest.length by omega]
      exact k2

/-- The Bool over a region. -/
def moversB (ops : Array Oper) (n : Nat) (cs : List Nat) : Bool :=
  Region.noSelect ops && decide (n < ops.size) && decide cs.Nodup && (cs.all fun c => decide (c < n) && cs.all fun c' => !decide (c < c') || reach ops n c' c) && Region.sinkB .any ops n && Region.chainB .any ops n &&
  ((List.range n).all fun i => match ops[i]? with
    | some o => o.guard.isNone && (o.after.all fun e => !Region.binds .any e || decide (e.on < i)) &&
        (List.range n).all fun j => match dstOf ops j with
          | some d => (decide (j = i) || dstOf ops i != some d) && (!(o.looksAt ops).contains d || Region.waitsFor .any ops i j)
          | none => true
    | none => false) &&
  Region.seqB .any ops (ops.size - n) n (mark ops (down n))

structure MoversOk (ops : Array Oper) (n : Nat) (cs : List Nat) : Prop where
  sel : Region.noSelect ops = true
  size : n < ops.size
  nodup : cs.Nodup
  lt : ∀ c ∈ cs, c < n
  line : ∀ c ∈ cs, ∀ c' ∈ cs, c < c' → reach ops n c' c = true
  sink : Region.sinkB .any ops n = true
  chain : Region.chainB .any ops n = true
  guard : ∀ i o, i < n → ops[i]? = some o → o.guard = none
  before : ∀ i o, i < n → ops[i]? = some o → ∀ e ∈ o.after, Region.binds .any e = true → e.on < i
  apart : ∀ i j d, i < n → j < n → dstOf ops j = some d → j ≠ i → dstOf ops i ≠ some d
  waits : ∀ i j d o, i < n → j < n → ops[i]? = some o → dstOf ops j = some d → d ∈ o.looksAt ops → Region.waitsFor .any ops i j = true
  seq : Region.seqB .any ops (ops.size - n) n (mark ops (down n)) = true

theorem MoversOk.of (h : moversB ops n cs = true) : MoversOk ops n cs := by
  simp only [moversB, Bool.and_eq_true, decide_eq_true_eq, List.all_eq_true, List.mem_range] at h
  obtain ⟨⟨⟨⟨⟨⟨⟨h1, h2⟩, h3⟩, h3'⟩, h4⟩, h5⟩, h6⟩, h7⟩ := h
  have key : ∀ i o, i < n → ops[i]? = some o → (o.guard.isNone = true ∧ (o.after.all fun e => !Region.binds .any e || decide (e.on < i)) = true) ∧
      ∀ j, j < n → (match dstOf ops j with | some d => (decide (j = i) || dstOf ops i != some d) && (!(o.looksAt ops).contains d || Region.waitsFor .any ops i j) | none => true) = true := fun i o hi ho => by
    have := h6 i hi
    rw [ho] at this
    simpa only [Bool.and_eq_true, List.all_eq_true, List.mem_range] using this
  refine ⟨h1, h2, h3, fun c hc => (h3' c hc).1, fun c hc c' hc' hlt => ?_, h4, h5, fun i o hi ho => ?_, fun i o hi ho e he hb => ?_, fun i j d hi hj hd hne => ?_, fun i j d o hi hj ho hd hl => ?_, h7⟩
  · have := (h3' c hc).2 c' hc'
    simpa [hlt] using this
  · exact Option.isNone_iff_eq_none.1 (key i o hi ho).1.1
  · have := Array.all_eq_true_iff_forall_mem.1 (key i o hi ho).1.2 e he
    simpa [hb] using this
  · obtain ⟨o, ho⟩ : ∃ o, ops[i]? = some o := ⟨ops[i]'(by omega), by simp [show i < ops.size by omega]⟩
    have := (key i o hi ho).2 j hj
    rw [hd] at this
    simp only [Bool.and_eq_true, Bool.or_eq_true, decide_eq_true_eq, hne, false_or] at this
    simpa using this.1
  · have := (key i o hi ho).2 j hj
    rw [hd] at this
    simp only [Bool.and_eq_true, Bool.or_eq_true] at this
    rcases this.2 with h | h
    · simp [hl] at h
    · exact h

theorem putAll_same (B : MoversOk ops n cs) (V : Nat → Value) (a : Act) (l l' : List Nat) (t : Tmp) (hl : ∀ j ∈ l, j < n) (hl' : ∀ j ∈ l', j < n) (h : ∀ j, j < n → dstOf ops j = some t → (j ∈ l ∧ j ∈ l')) :
    (putAll ops V l a).tmps[t]? = (putAll ops V l' a).tmps[t]? := by
  by_cases hx : ∃ j, j < n ∧ dstOf ops j = some t
  · obtain ⟨j, hj, hd⟩ := hx
    obtain ⟨h1, h2⟩ := h j hj hd
    rw [putAll_hit V a t j hd l h1 (fun i hi hne => B.apart i j t (hl i hi) hj hd (fun e => hne e.symm)), putAll_hit V a t j hd l' h2 (fun i hi hne => B.apart i j t (hl' i hi) hj hd (fun e => hne e.symm))]
  · have hx' : ∀ j, j < n → dstOf ops j ≠ some t := fun j hj e => hx ⟨j, hj, e⟩
    rw [putAll_other V a t l (fun j hj => hx' j (hl j hj)), putAll_other V a t l' (fun j hj => hx' j (hl' j hj))]

theorem movers_any {Q : Exit → Act → World → Prop} {a : Act} (B : MoversOk ops n cs)
    (hV : ∀ j, j < n → ∀ o, ops[j]? = some o → Ob P ops S cs n j o (fun V => putAll ops V (down j) a))
    (hK : ∀ V w, S cs.length V w → wpList P ops Q (ops.toList.drop n) (putAll ops V (down n) a) w) :
    ∀ (f : Nat) (l : List Nat) (V : Nat → Value) (w : World), cnt l n = f → (∀ i ∈ l, i < n) → (∀ j ∈ l, ∀ o, ops[j]? = some o → ∀ e ∈ o.after, Region.binds .any e = true → e.on ∈ l) →
      S (stg cs l) V w → wpAny P .any ops Q (f + (ops.size - n)) (mark ops l) (putAll ops V l a) w
  | 0, l, V, w, hc, hl, hcl, h1 => by
    have hall := cnt_all l n hc
    have e1 : mark ops l = mark ops (down n) := mark_congr l _ fun j hj => by rw [mem_down]; exact ⟨fun h => hl j h, fun h => hall j h⟩
    have e2 : putAll ops V l a = putAll ops V (down n) a := by
      have ht : (putAll ops V l a).tmps = (putAll ops V (down n) a).tmps := Array.ext_getElem? fun t => putAll_same B V a l (down n) t hl (fun j hj => (mem_down j n).1 hj) fun j hj hd => ⟨hall j hj, (mem_down j n).2 hj⟩
      have hd : (putAll ops V l a).defers = (putAll ops V (down n) a).defers := by rw [putAll_defers, putAll_defers]
      cases hx : putAll ops V l a
      cases hy : putAll ops V (down n) a
      rw [hx, hy] at ht hd
      simp at ht hd
      rw [ht, hd]
    rw [e1, e2, Nat.zero_add]
    have hlen : (ops.toList.drop n).length = ops.size - n := by simp
    rw [stg_all l cs fun c hc' => hall c (B.lt c hc')] at h1
    have := wpAny_of_seq (P := P) (md := .any) (ops := ops) (Q' := Q) (ops.toList.drop n) n (mark ops (down n)) (putAll ops V (down n) a) w (fun j => by simp [List.getElem?_drop]) (by rw [hlen]; exact B.seq) (hK V w h1)
    rwa [hlen] at this
  | f + 1, l, V, w, hc, hl, hcl, h1 => by
    obtain ⟨j0, hj0, hj0l, hleast⟩ := cnt_least l n (by omega)
    have hsz : ∀ j, j < n → j < ops.size := fun j hj => Nat.lt_trans hj B.size
    have hne : Region.ready .any ops (mark ops l) ≠ [] := by
      intro hnil
      have : j0 ∈ Region.ready .any ops (mark ops l) := by
        refine mem_ready.2 ⟨by rw [mark_getD, if_pos (hsz _ hj0)]; simp [hj0l], ops[j0]'(hsz _ hj0), by simp [hsz _ hj0], fun e he hb => ?_⟩
        have := B.before j0 _ hj0 (by simp [hsz _ hj0]) e he hb
        rw [mark_getD, if_pos (hsz _ (by omega))]
        simp [hleast _ this]
      rw [hnil] at this
      cases this
    have inv : HeadInv .any ops n (mark ops l) := by
      refine ⟨by simp [mark], fun j oj hj hm e he hb => ?_, fun t ht hts => ?_⟩
      · rw [mark_getD] at hm
        split at hm
        · have hjl : j ∈ l := by simpa using hm
          have hel := hcl j hjl oj hj e he hb
          rw [mark_getD, if_pos (hsz _ (hl _ hel))]
          simp [hel]
        · cases hm
      · rw [mark_getD, if_pos hts]
        have : t ∉ l := fun h => by have := hl t h; omega
        simp [this]
    rw [show f + 1 + (ops.size - n) = (f + (ops.size - n)) + 1 by omega]
    refine ⟨fun h => absurd h hne, fun i hi => ?_⟩
    have hin : i < n := by
      rcases Nat.lt_or_ge i n with h | h
      · exact h
      · exact absurd hi (tail_waits B.sink B.chain B.size inv _ j0 rfl hj0 (by rw [mark_getD, if_pos (hsz _ hj0)]; simp [hj0l]) i h)
    obtain ⟨hun, o, ho, hall⟩ := mem_ready.1 hi
    have hil : i ∉ l := fun h => by rw [mark_getD, if_pos (hsz _ hin)] at hun; simp [h] at hun
    have hpre : ∀ e ∈ o.after, Region.binds .any e = true → e.on ∈ l := fun e he hb => by
      have := hall e he hb
      rw [mark_getD] at this
      split at this
      · simpa using this
      · cases this
    have hex : execOp (putAll ops V l a).eval o = execOp (putAll ops V (down i) a).eval o := by
      refine execOp_congr o (fun cs b => Region.noSelect_spec B.sel i o cs b ho) fun x hx => ?_
      cases x with
      | tmp t =>
        have ht : t ∈ o.looksAt ops := List.mem_append_left _ (List.mem_filterMap.2 ⟨.tmp t, by simpa using hx, rfl⟩)
        have := putAll_same B V a l (down i) t hl (fun j hj => by have := (mem_down j i).1 hj; omega) fun j hj hd => by
          obtain ⟨o', ho', e, he, hb, hon⟩ := Region.waitsFor_spec (B.waits i j t o hin hj ho hd ht)
          have : o' = o := Option.some.inj (ho'.symm.trans ho)
          subst this
          exact ⟨hon ▸ hpre e he hb, (mem_down j i).2 (hon ▸ B.before i o' hin ho e he hb)⟩
        simp only [Act.eval, Array.getD_eq_getD_getElem?, this]
      | _ => rfl
    have hd : o.dst = dstOf ops i := by simp [dstOf, ho]
    have hob := hV i hin o ho
    have next : ∀ V' w', (∀ j ∈ l, V' j = V j) → S (stg cs (i :: l)) V' w' → wpAny P .any ops Q (f + (ops.size - n)) ((mark ops l).setIfInBounds i true) ((putAll ops V l a).put o.dst (V' i)) w' := fun V' w' hag k1 => by
      rw [mark_cons, hd, putAll_congr V V' a l fun j hj => (hag j hj).symm]
      exact movers_any B hV hK f (i :: l) V' w' (by have := cnt_cons l i hil n hin; omega) (fun j hj => by
        rcases List.mem_cons.1 hj with h | h
        · rw [h]; exact hin
        · exact hl j h) (fun j hj oj hoj e he hb => by
        rcases List.mem_cons.1 hj with h | h
        · subst h
          have : oj = o := Option.some.inj (hoj.symm.trans ho)
          subst this
          exact List.mem_cons_of_mem _ (hpre e he hb)
        · exact List.mem_cons_of_mem _ (hcl j h oj hoj e he hb)) k1
    unfold wpOp
    simp only [ho]
    rw [if_pos (by simp [Region.wanted, B.guard i o hin ho])]
    left
    unfold Oper.wp
    rw [hex]
    by_cases hic : i ∈ cs
    · have hst : stg cs l = stg cs (down i) := stg_congr _ _ cs fun c hc' => by
        rw [mem_down]
        constructor
        · intro hcl'
          rcases Nat.lt_trichotomy c i with h | h | h
          · exact h
          · exact absurd (h ▸ hcl') hil
          · have hoc : ∃ oc, ops[c]? = some oc := ⟨ops[c]'(hsz _ (B.lt c hc')), by simp [hsz _ (B.lt c hc')]⟩
            obtain ⟨oc, hoc⟩ := hoc
            exact absurd (reach_ready hcl n c i oc hoc (hcl c hcl' oc hoc) (B.line i hic c hc' h)) hil
        · intro hlt
          exact reach_ready hcl n i c o ho hpre (B.line c hc' i hic hlt)
      have hnx := stg_add l i hil cs B.nodup hic
      rw [hst] at h1 hnx
      rcases hob.1 hic V w h1 with ⟨g, args, hrun, hcall⟩ | ⟨w', hrun, hw'⟩
      · rw [hrun]
        simp only [Oper.upon]
        refine hcall.mono fun e w' ⟨V', he, hw', hag⟩ => ?_
        subst he
        refine next V' w' (fun j hj => hag j (hl j hj) ?_) (by rw [hnx]; exact hw')
        cases hr : reach ops n j i with
        | false => rfl
        | true =>
          have hoj : ∃ oj, ops[j]? = some oj := ⟨ops[j]'(hsz _ (hl j hj)), by simp [hsz _ (hl j hj)]⟩
          obtain ⟨oj, hoj⟩ := hoj
          exact absurd (reach_ready hcl n j i oj hoj (hcl j hj oj hoj) hr) hil
      · rw [hrun]
        simp only [Oper.upon]
        exact next V w' (fun _ _ => rfl) (by rw [hnx]; exact hw')
    · have hrun := hob.2 hic _ V w h1
      rw [hrun]
      simp only [Oper.upon]
      exact next V w (fun _ _ => rfl) (by rw [stg_other l i cs hic]; exact h1)

/-- A region that draws its order: of its first n operations the movers (one behind the other) take the world from stage to stage, the others only read; the rest in line behind them. -/
theorem wp_region_movers {id : Nat} {Q : Exit → Act → World → Prop} {a : Act} {w : World} {l : List Oper} (n : Nat) (cs : List Nat) (S : Nat → (Nat → Value) → World → Prop) (V0 : Nat → Value) (hm : P.follows .mixedOrders = true) (hB : moversB l.toArray n cs = true)
    (hC : S 0 V0 { w with drawn := w.drawn + 1 }) (h : Obs P l.toArray S cs n (fun A => ∀ V w', S cs.length V w' → wpList P l.toArray Q (l.drop n) (A V) w') 0 (l.take n) (fun _ => a)) : (Code.region id l.toArray true).wp P Q a w := by
  have B := MoversOk.of hB
  have hn : n < l.length := by simpa using B.size
  have htl : (l.take n).length = n := by simp; omega
  obtain ⟨hV, hK⟩ := obs_all (ops := l.toArray) (a := a) (l.take n) 0 (fun j hj => by
    have hj' : j < n := by rw [htl] at hj; exact hj
    simp [hj']) h
  refine wp_region_any hm ?_
  have := movers_any (P := P) (S := S) (cs := cs) (n := n) (Q := Q) (a := a) B (fun j hj o ho => by
    have := hV j (by rw [htl]; exact hj) o (by simpa using ho)
    rwa [Nat.zero_add] at this) (by
    rw [htl, Nat.zero_add] at hK
    intro V w' hw'
    simpa using hK V w' hw') n [] V0 { w with drawn := w.drawn + 1 } (cnt_nil n) (by simp) (by simp) (by rw [stg_nil]; exact hC)
  rw [show n + (l.toArray.size - n) = l.toArray.size by simp; omega] at this
  rw [mark_nil]
  exact this

/-- The steps of the walk. -/
theorem obs_pure {K : ((Nat → Value) → Act) → Prop} {k : Nat} {o : Oper} {rest : List Oper} {A : (Nat → Value) → Act} (hk : k ∉ cs) (hv : ∀ m V w, S m V w → (execOp (A V).eval o).run P w = .ok (.value (V k)) w)
    (h : ∀ K' : ((Nat → Value) → Act) → Prop, (∀ A', Obs P ops S cs n K (k + 1) rest A' → K' A') → K' (fun V => (A V).put o.dst (V k))) : Obs P ops S cs n K k (o :: rest) A :=
  ⟨⟨fun e => absurd e hk, fun _ => hv⟩, h _ fun _ x => x⟩
theorem obs_make {K : ((Nat → Value) → Act) → Prop} {k : Nat} {o : Oper} {rest : List Oper} {A : (Nat → Value) → Act} (m : Nat) (hk : k ∈ cs) (hm : stg cs (down k) = m) (hv : ∀ V w, S m V w → ∃ w', (execOp (A V).eval o).run P w = .ok (.value (V k)) w' ∧ S (m + 1) V w')
    (h : ∀ K' : ((Nat → Value) → Act) → Prop, (∀ A', Obs P ops S cs n K (k + 1) rest A' → K' A') → K' (fun V => (A V).put o.dst (V k))) : Obs P ops S cs n K k (o :: rest) A :=
  ⟨⟨fun _ V w hS => Or.inr (by rw [hm] at hS ⊢; exact hv V w hS), fun e => absurd hk e⟩, h _ fun _ x => x⟩
theorem obs_call {K : ((Nat → Value) → Act) → Prop} {k : Nat} {o : Oper} {rest : List Oper} {A : (Nat → Value) → Act} (m : Nat) (hk : k ∈ cs) (hm : stg cs (down k) = m)
    (hv : ∀ V w, S m V w → ∃ f args, (execOp (A V).eval o).run P w = .ok (.enter f args) w ∧ Calls P f args w fun e w' => ∃ V', e = .returned (V' k) ∧ S (m + 1) V' w' ∧ ∀ j, j < n → reach ops n j k = false → V' j = V j)
    (h : ∀ K' : ((Nat → Value) → Act) → Prop, (∀ A', Obs P ops S cs n K (k + 1) rest A' → K' A') → K' (fun V => (A V).put o.dst (V k))) : Obs P ops S cs n K k (o :: rest) A :=
  ⟨⟨fun _ V w hS => Or.inl (by rw [hm] at hS ⊢; exact hv V w hS), fun e => absurd hk e⟩, h _ fun _ x => x⟩
theorem obs_nil {K : ((Nat → Value) → Act) → Prop} {k : Nat} {A : (Nat → Value) → Act} (h : K A) : Obs P ops S cs n K k [] A := h
end
end Go.Proofs.Qxb6616805aDoor
