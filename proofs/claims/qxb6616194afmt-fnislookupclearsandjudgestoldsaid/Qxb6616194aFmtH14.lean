/- A region that draws its order; all operations but one call read only, the call moves the world on; a tail in line behind them. -/
import Derived.StillTail
import Derived.Deep.Quiet
set_option linter.unusedVariables false
set_option linter.unusedSimpArgs false
set_option linter.unnecessarySimpa false
namespace Go.Proofs.Qxb6616194aFmt
open Go

section
variable {P : Program} {ops : Array Oper} {C0 C1 : World → Prop} {c n : Nat}

def dstOf (ops : Array Oper) (i : Nat) : Option Tmp := (ops[i]?).bind (·.dst)

/-- The frame behind these operations (the last one first), their values by a table. -/
def putAll (ops : Array Oper) (V : Nat → Value) : List Nat → Act → Act
  | [], a => a
  | i :: l, a => (putAll ops V l a).put (dstOf ops i) (V i)

theorem putAll_defers (V : Nat → Value) (a : Act) : ∀ l, (putAll ops V l a).defers = a.defers
  | [] => rfl
  | i :: l => by
    unfold putAll Act.put
    split <;> exact putAll_defers V a l
theorem putAll_other (V : Nat → Value) (a : Act) (t : Tmp) : ∀ l, (∀ j ∈ l, dstOf ops j ≠ some t) → (putAll ops V l a).tmps[t]? = a.tmps[t]?
  | [], _ => rfl
  | i :: l, h => by
    have ih := putAll_other V a t l fun j hj => h j (by simp [hj])
    have hi := h i (by simp)
    unfold putAll Act.put
    split
    · rename_i d hd
      have : d ≠ t := fun e => hi (by rw [hd, e])
      simp only [Array.getElem?_setIfInBounds_ne this, ih]
    · exact ih
theorem putAll_hit (V : Nat → Value) (a : Act) (t : Tmp) (j : Nat) (hd : dstOf ops j = some t) : ∀ l, j ∈ l → (∀ i ∈ l, i ≠ j → dstOf ops i ≠ some t) → (putAll ops V l a).tmps[t]? = (a.tmps[t]?).map fun _ => V j
  | [], h, _ => by cases h
  | i :: l, h, hn => by
    by_cases hij : i = j
    · subst hij
      have hsz : ∀ l, (putAll ops V l a).tmps.size = a.tmps.size := fun l => by
        induction l with
        | nil => rfl
        | cons k l ih => unfold putAll Act.put; split <;> simp [ih]
      unfold putAll Act.put
      simp only [hd, Array.getElem?_setIfInBounds, if_true, hsz]
      by_cases ht : t < a.tmps.size
      · simp [ht]
      · simp [ht, Array.getElem?_eq_none (Nat.le_of_not_lt ht)]
    · have hjl : j ∈ l := by
        rcases List.mem_cons.1 h with h | h
        · exact absurd h.symm hij
        · exact h
      have ih := putAll_hit V a t j hd l hjl fun k hk => hn k (by simp [hk])
      have hi := hn i (by simp) hij
      unfold putAll Act.put
      split
      · rename_i d hd'
        have : d ≠ t := fun e => hi (by rw [hd', e])
        simp only [Array.getElem?_setIfInBounds_ne this, ih]
      · exact ih

/-- What is asked of one operation. -/
def Ob (P : Program) (C0 C1 : World → Prop) (c k : Nat) (o : Oper) (a : Act) (v : Value) : Prop :=
  (k = c → ∀ w, C0 w → ∃ f args, (execOp a.eval o).run P w = .ok (.enter f args) w ∧ Calls P f args w fun e w' => e = .returned v ∧ C1 w') ∧
  (k ≠ c → ∀ w, C0 w ∨ C1 w → (execOp a.eval o).run P w = .ok (.value v) w)

/-- The walk, in the order of the text. -/
def wpMove (P : Program) (C0 C1 : World → Prop) (c : Nat) (K : Act → Prop) : Nat → List Oper → Act → Prop
  | _, [], a => K a
  | k, o :: rest, a => ∃ v, Ob P C0 C1 c k o a v ∧ wpMove P C0 C1 c K (k + 1) rest (a.put o.dst v)

def st (ops : Array Oper) (V : Nat → Value) (k : Nat) : Nat → Act → Act
  | 0, a => a
  | j + 1, a => (st ops V k j a).put (dstOf ops (k + j)) (V (k + j))
theorem st_first (V : Nat → Value) (k : Nat) (a : Act) : ∀ j, st ops V k (j + 1) a = st ops V (k + 1) j (a.put (dstOf ops k) (V k))
  | 0 => rfl
  | j + 1 => by
    rw [st, st_first V k a j, st, show k + (j + 1) = k + 1 + j by omega]
theorem st_congr (V V' : Nat → Value) (k : Nat) (a : Act) : ∀ j, (∀ i, i < j → V (k + i) = V' (k + i)) → st ops V k j a = st ops V' k j a
  | 0, _ => rfl
  | j + 1, h => by rw [st, st, st_congr V V' k a j fun i hi => h i (by omega), h j (by omega)]

theorem table {K : Act → Prop} : ∀ (l : List Oper) (k : Nat) (a : Act), (∀ j, j < l.length → l[j]? = ops[k + j]?) → wpMove P C0 C1 c K k l a →
    ∃ V : Nat → Value, (∀ j, j < l.length → ∀ o, ops[k + j]? = some o → Ob P C0 C1 c (k + j) o (st ops V k j a) (V (k + j))) ∧ K (st ops V k l.length a)
  | [], k, a, _, h => ⟨fun _ => undef, fun j hj => absurd hj (by simp), h⟩
  | o :: rest, k, a, hl, h => by
    obtain ⟨v, ho, hr⟩ := h
    have h0 : ops[k]? = some o := by simpa using (hl 0 (by simp)).symm
    obtain ⟨V', h1, h2⟩ := table rest (k + 1) _ (fun j hj => by have := hl (j + 1) (by simp; omega); simpa [Nat.add_assoc, Nat.add_comm 1 j] using this) hr
    have hd : dstOf ops k = o.dst := by simp [dstOf, h0]
    have hst : ∀ j, st ops (fun i => if i = k then v else V' i) k (j + 1) a = st ops V' (k + 1) j (a.put o.dst v) := fun j => by
      rw [st_first, hd]
      simp only [if_true]
      exact st_congr _ _ _ _ j fun i hi => by rw [if_neg (by omega)]
    refine ⟨fun i => if i = k then v else V' i, fun j hj o' ho' => ?_, ?_⟩
    · cases j with
      | zero =>
        have : o' = o := Option.some.inj (ho'.symm.trans h0)
        subst this
        simpa [st] using ho
      | succ j =>
        show Ob P C0 C1 c (k + (j + 1)) o' _ (if k + (j + 1) = k then v else V' (k + (j + 1)))
        rw [hst j, if_neg (by omega), show k + (j + 1) = k + 1 + j by omega]
        exact h1 j (by simp at hj; omega) o' (by rw [← ho', show k + (j + 1) = k + 1 + j by omega])
    · rw [List.length_cons, hst]; exact h2

def down : Nat → List Nat
  | 0 => []
  | k + 1 => k :: down k
theorem mem_down (i : Nat) : ∀ k, i ∈ down k ↔ i < k
  | 0 => by simp [down]
  | k + 1 => by simp [down, mem_down i k]; omega
theorem st_down (V : Nat → Value) (a : Act) : ∀ j, st ops V 0 j a = putAll ops V (down j) a
  | 0 => rfl
  | j + 1 => by rw [st, st_down V a j, down, putAll, Nat.zero_add]

/-- The operations that are done. -/
def mark (ops : Array Oper) (l : List Nat) : Array Bool := (Array.range ops.size).map fun j => decide (j ∈ l)
theorem mark_getD (l : List Nat) (j : Nat) (d : Bool) : (mark ops l).getD j d = if j < ops.size then decide (j ∈ l) else d := by
  unfold mark
  by_cases h : j < ops.size
  · simp [h]
  · simp [h]
theorem mark_cons (l : List Nat) (i : Nat) : (mark ops l).setIfInBounds i true = mark ops (i :: l) := by
  unfold mark
  apply Array.ext_getElem?
  intro j
  rw [Array.getElem?_setIfInBounds]
  by_cases h : i = j
  · subst h
    by_cases h2 : i < ops.size <;> simp [h2]
  · have : ¬ j = i := fun e => h e.symm
    by_cases h2 : j < ops.size <;> simp [h, this, h2]
theorem mark_congr (l l' : List Nat) (h : ∀ j, j < ops.size → (j ∈ l ↔ j ∈ l')) : mark ops l = mark ops l' := by
  unfold mark
  apply Array.ext
  · simp
  · intro j h1 h2
    have hj : j < ops.size := by simpa using h1
    simp [h j hj]
theorem mark_nil : Array.replicate ops.size false = mark ops [] := by
  unfold mark
  apply Array.ext <;> simp

def cnt (l : List Nat) : Nat → Nat
  | 0 => 0
  | n + 1 => cnt l n + if n ∈ l then 0 else 1
theorem cnt_nil : ∀ n, cnt [] n = n
  | 0 => rfl
  | n + 1 => by simp [cnt, cnt_nil n]
theorem cnt_all (l : List Nat) : ∀ n, cnt l n = 0 → ∀ j, j < n → j ∈ l
  | 0, _, j, hj => by omega
  | n + 1, h, j, hj => by
    unfold cnt at h
    by_cases hn : n ∈ l
    · by_cases e : j = n
      · subst e; exact hn
      · exact cnt_all l n (by rw [if_pos hn] at h; omega) j (by omega)
    · rw [if_neg hn] at h; omega
theorem cnt_least (l : List Nat) : ∀ n, cnt l n ≠ 0 → ∃ j, j < n ∧ j ∉ l ∧ ∀ i, i < j → i ∈ l
  | 0, h => absurd rfl h
  | n + 1, h => by
    by_cases h0 : cnt l n = 0
    · unfold cnt at h
      by_cases hn : n ∈ l
      · rw [if_pos hn] at h; omega
      · exact ⟨n, by omega, hn, fun i hi => cnt_all l n h0 i hi⟩
    · obtain ⟨j, a1, a2, a3⟩ := cnt_least l n h0
      exact ⟨j, by omega, a2, a3⟩
theorem cnt_far (l : List Nat) (i : Nat) : ∀ n, n ≤ i → cnt (i :: l) n = cnt l n
  | 0, _ => rfl
  | n + 1, h => by
    have : n ≠ i := by omega
    simp [cnt, cnt_far l i n (by omega), this]
theorem cnt_cons (l : List Nat) (i : Nat) (hi : i ∉ l) : ∀ n, i < n → cnt l n = cnt (i :: l) n + 1
  | 0, h => by omega
  | n + 1, h => by
    by_cases e : i = n
    · subst e
      simp [cnt, cnt_far l i i (Nat.le_refl _), hi]
    · have : n ≠ i := fun h => e h.symm
      have ih := cnt_cons l i hi n (by omega)
      simp only [cnt, ih, List.mem_cons, this, false_or]
      omega

/-- The Bool over a region. -/
def moverB (ops : Array Oper) (n c : Nat) : Bool :=
  Region.noSelect ops && decide (n < ops.size) && decide (c < n) && Region.sinkB .any ops n && Region.chainB .any ops n &&
  ((List.range n).all fun i => match ops[i]? with
    | some o => o.guard.isNone && (o.after.all fun e => !Region.binds .any e || decide (e.on < i)) &&
        (List.range n).all fun j => match dstOf ops j with
          | some d => (decide (j = i) || dstOf ops i != some d) && (!(o.looksAt ops).contains d || Region.waitsFor .any ops i j)
          | none => true
    | none => false) &&
  Region.seqB .any ops (ops.size - n) n (mark ops (down n))

structure MoverOk (ops : Array Oper) (n c : Nat) : Prop where
  sel : Region.noSelect ops = true
  size : n < ops.size
  call : c < n
  sink : Region.sinkB .any ops n = true
  chain : Region.chainB .any ops n = true
  guard : ∀ i o, i < n → ops[i]? = some o → o.guard = none
  before : ∀ i o, i < n → ops[i]? = some o → ∀ e ∈ o.after, Region.binds .any e = true → e.on < i
  apart : ∀ i j d, i < n → j < n → dstOf ops j = some d → j ≠ i → dstOf ops i ≠ some d
  waits : ∀ i j d o, i < n → j < n → ops[i]? = some o → dstOf ops j = some d → d ∈ o.looksAt ops → Region.waitsFor .any ops i j = true
  seq : Region.seqB .any ops (ops.size - n) n (mark ops (down n)) = true

theorem MoverOk.of (h : moverB ops n c = true) : MoverOk ops n c := by
  simp only [moverB, Bool.and_eq_true, decide_eq_true_eq, List.all_eq_true, List.mem_range] at h
  obtain ⟨⟨⟨⟨⟨⟨h1, h2⟩, h3⟩, h4⟩, h5⟩, h6⟩, h7⟩ := h
  have key : ∀ i o, i < n → ops[i]? = some o → (o.guard.isNone = true ∧ (o.after.all fun e => !Region.binds .any e || decide (e.on < i)) = true) ∧
      ∀ j, j < n → (match dstOf ops j with | some d => (decide (j = i) || dstOf ops i != some d) && (!(o.looksAt ops).contains d || Region.waitsFor .any ops i j) | none => true) = true := fun i o hi ho => by
    have := h6 i hi
    rw [ho] at this
    simpa only [Bool.and_eq_true, List.all_eq_true, List.mem_range] using this
  refine ⟨h1, h2, h3, h4, h5, fun i o hi ho => ?_, fun i o hi ho e he hb => ?_, fun i j d hi hj hd hne => ?_, fun i j d o hi hj ho hd hl => ?_, h7⟩
  · exact Option.isNone_iff_eq_none.1 (key i o hi ho).1.1
  · have := Array.all_eq_true_iff_forall_mem.1 (key i o hi ho).1.2 e he
    simpa [hb] using this
  · obtain ⟨o, ho⟩ : ∃ o, ops[i]? = some o := ⟨ops[i]'(by omega), by simp [show i < ops.size by omega]⟩
    have := (key i o hi ho).2 j hj
    rw [hd] at this
    simp only [Bool.and_eq_true, Bool.or_eq_true, decide_eq_true_eq, hne, false_or] at this
    simpa using this.1
  · have := (key i o hi ho).2 j hj
    rw [hd] at this
    simp only [Bool.and_eq_true, Bool.or_eq_true] at this
    rcases this.2 with h | h
    · simp [hl] at h
    · exact h

theorem putAll_same (B : MoverOk ops n c) (V : Nat → Value) (a : Act) (l l' : List Nat) (t : Tmp) (hl : ∀ j ∈ l, j < n) (hl' : ∀ j ∈ l', j < n) (h : ∀ j, j < n → dstOf ops j = some t → (j ∈ l ∧ j ∈ l')) :
    (putAll ops V l a).tmps[t]? = (putAll ops V l' a).tmps[t]? := by
  by_cases hx : ∃ j, j < n ∧ dstOf ops j = some t
  · obtain ⟨j, hj, hd⟩ := hx
    obtain ⟨h1, h2⟩ := h j hj hd
    rw [putAll_hit V a t j hd l h1 (fun i hi hne => B.apart i j t (hl i hi) hj hd (fun e => hne e.symm)), putAll_hit V a t j hd l' h2 (fun i hi hne => B.apart i j t (hl' i hi) hj hd (fun e => hne e.symm))]
  · have hx' : ∀ j, j < n → dstOf ops j ≠ some t := fun j hj e => hx ⟨j, hj, e⟩
    rw [putAll_other V a t l (fun j hj => hx' j (hl j hj)), putAll_other V a t l' (fun j hj => hx' j (hl' j hj))]

theorem mover_any {Q : Exit → Act → World → Prop} {V : Nat → Value} {a : Act} (B : MoverOk ops n c)
    (hV : ∀ j, j < n → ∀ o, ops[j]? = some o → Ob P C0 C1 c j o (putAll ops V (down j) a) (V j))
    (hK : ∀ w, C1 w → wpList P ops Q (ops.toList.drop n) (putAll ops V (down n) a) w) :
    ∀ (f : Nat) (l : List Nat) (w : World), cnt l n = f → (∀ i ∈ l, i < n) → (∀ j ∈ l, ∀ o, ops[j]? = some o → ∀ e ∈ o.after, Region.binds .any e = true → e.on ∈ l) →
      (c ∈ l → C1 w) → (c ∉ l → C0 w) → wpAny P .any ops Q (f + (ops.size - n)) (mark ops l) (putAll ops V l a) w
  | 0, l, w, hc, hl, hcl, h1, h0 => by
    have hall := cnt_all l n hc
    have e1 : mark ops l = mark ops (down n) := mark_congr l _ fun j hj => by rw [mem_down]; exact ⟨fun h => hl j h, fun h => hall j h⟩
    have e2 : putAll ops V l a = putAll ops V (down n) a := by
      have ht : (putAll ops V l a).tmps = (putAll ops V (down n) a).tmps := Array.ext_getElem? fun t => putAll_same B V a l (down n) t hl (fun j hj => (mem_down j n).1 hj) fun j hj hd => ⟨hall j hj, (mem_down j n).2 hj⟩
      have hd : (putAll ops V l a).defers = (putAll ops V (down n) a).defers := by rw [putAll_defers, putAll_defers]
      cases hx : putAll ops V l a
      cases hy : putAll ops V (down n) a
      rw [hx, hy] at ht hd
      simp at ht hd
      rw [ht, hd]
    rw [e1, e2, Nat.zero_add]
    have hlen : (ops.toList.drop n).length = ops.size - n := by simp
    have := wpAny_of_seq (P := P) (md := .any) (ops := ops) (Q' := Q) (ops.toList.drop n) n (mark ops (down n)) (putAll ops V (down n) a) w (fun j => by simp [List.getElem?_drop]) (by rw [hlen]; exact B.seq) (hK w (h1 (hall c B.call)))
    rwa [hlen] at this
  | f + 1, l, w, hc, hl, hcl, h1, h0 => by
    obtain ⟨j0, hj0, hj0l, hleast⟩ := cnt_least l n (by omega)
    have hsz : ∀ j, j < n → j < ops.size := fun j hj => Nat.lt_trans hj B.size
    have hne : Region.ready .any ops (mark ops l) ≠ [] := by
      intro hnil
      have : j0 ∈ Region.ready .any ops (mark ops l) := by
        refine mem_ready.2 ⟨by rw [mark_getD, if_pos (hsz _ hj0)]; simp [hj0l], ops[j0]'(hsz _ hj0), by simp [hsz _ hj0], fun e he hb => ?_⟩
        have := B.before j0 _ hj0 (by simp [hsz _ hj0]) e he hb
        rw [mark_getD, if_pos (hsz _ (by omega))]
        simp [hleast _ this]
      rw [hnil] at this
      cases this
    have inv : HeadInv .any ops n (mark ops l) := by
      refine ⟨by simp [mark], fun j oj hj hm e he hb => ?_, fun t ht hts => ?_⟩
      · rw [mark_getD] at hm
        split at hm
        · have hjl : j ∈ l := by simpa using hm
          have hel := hcl j hjl oj hj e he hb
          rw [mark_getD, if_pos (hsz _ (hl _ hel))]
          simp [hel]
        · cases hm
      · rw [mark_getD, if_pos hts]
        have : t ∉ l := fun h => by have := hl t h; omega
        simp [this]
    rw [show f + 1 + (ops.size - n) = (f + (ops.size - n)) + 1 by omega]
    refine ⟨fun h => absurd h hne, fun i hi => ?_⟩
    have hin : i < n := by
      rcases Nat.lt_or_ge i n with h | h
      · exact h
      · exact absurd hi (tail_waits B.sink B.chain B.size inv _ j0 rfl hj0 (by rw [mark_getD, if_pos (hsz _ hj0)]; simp [hj0l]) i h)
    obtain ⟨hun, o, ho, hall⟩ := mem_ready.1 hi
    have hil : i ∉ l := fun h => by rw [mark_getD, if_pos (hsz _ hin)] at hun; simp [h] at hun
    have hpre : ∀ e ∈ o.after, Region.binds .any e = true → e.on ∈ l := fun e he hb => by
      have := hall e he hb
      rw [mark_getD] at this
      split at this
      · simpa using this
      · cases this
    have hex : execOp (putAll ops V l a).eval o = execOp (putAll ops V (down i) a).eval o := by
      refine execOp_congr o (fun cs b => Region.noSelect_spec B.sel i o cs b ho) fun x hx => ?_
      cases x with
      | tmp t =>
        have ht : t ∈ o.looksAt ops := List.mem_append_left _ (List.mem_filterMap.2 ⟨.tmp t, by simpa using hx, rfl⟩)
        have := putAll_same B V a l (down i) t hl (fun j hj => by have := (mem_down j i).1 hj; omega) fun j hj hd => by
          obtain ⟨o', ho', e, he, hb, hon⟩ := Region.waitsFor_spec (B.waits i j t o hin hj ho hd ht)
          have : o' = o := Option.some.inj (ho'.symm.trans ho)
          subst this
          exact ⟨hon ▸ hpre e he hb, (mem_down j i).2 (hon ▸ B.before i o' hin ho e he hb)⟩
        simp only [Act.eval, Array.getD_eq_getD_getElem?, this]
      | _ => rfl
    have hd : o.dst = dstOf ops i := by simp [dstOf, ho]
    have hob := hV i hin o ho
    have next : ∀ w', (c ∈ i :: l → C1 w') → (c ∉ i :: l → C0 w') → wpAny P .any ops Q (f + (ops.size - n)) ((mark ops l).setIfInBounds i true) ((putAll ops V l a).put o.dst (V i)) w' := fun w' k1 k0 => by
      rw [mark_cons, hd]
      exact mover_any B hV hK f (i :: l) w' (by have := cnt_cons l i hil n hin; omega) (fun j hj => by
        rcases List.mem_cons.1 hj with h | h
        · rw [h]; exact hin
        · exact hl j h) (fun j hj oj hoj e he hb => by
        rcases List.mem_cons.1 hj with h | h
        · subst h
          have : oj = o := Option.some.inj (hoj.symm.trans ho)
          subst this
          exact List.mem_cons_of_mem _ (hpre e he hb)
        · exact List.mem_cons_of_mem _ (hcl j h oj hoj e he hb)) k1 k0
    unfold wpOp
    simp only [ho]
    rw [if_pos (by simp [Region.wanted, B.guard i o hin ho])]
    left
    unfold Oper.wp
    rw [hex]
    by_cases hic : i = c
    · have hcl0 : c ∉ l := hic ▸ hil
      obtain ⟨g, args, hrun, hcall⟩ := hob.1 hic w (h0 hcl0)
      rw [hrun]
      simp only [Oper.upon]
      refine hcall.mono fun e w' ⟨he, hw'⟩ => ?_
      subst he
      exact next w' (fun _ => hw') (fun h => absurd (by rw [hic]; simp) h)
    · have hrun := hob.2 hic w (by
        by_cases hc' : c ∈ l
        · exact .inr (h1 hc')
        · exact .inl (h0 hc'))
      rw [hrun]
      simp only [Oper.upon]
      have hci : c ≠ i := fun e => hic e.symm
      exact next w (fun h => h1 (by simpa [hci] using h)) (fun h => h0 (fun h' => h (by simp [h'])))

/-- A region that draws its order: its first n operations read only, but for the call c, that moves the world from C0 to C1; the others in line behind them. -/
theorem wp_region_mover {id : Nat} {Q : Exit → Act → World → Prop} {a : Act} {w : World} {l : List Oper} (n c : Nat) (C0 C1 : World → Prop) (hm : P.follows .mixedOrders = true) (hB : moverB l.toArray n c = true)
    (hC : C0 { w with drawn := w.drawn + 1 }) (h : wpMove P C0 C1 c (fun a' => ∀ w', C1 w' → wpList P l.toArray Q (l.drop n) a' w') 0 (l.take n) a) : (Code.region id l.toArray true).wp P Q a w := by
  have B := MoverOk.of hB
  have hn : n < l.length := by simpa using B.size
  have htl : (l.take n).length = n := by simp; omega
  obtain ⟨V, hV, hK⟩ := table (ops := l.toArray) (l.take n) 0 a (fun j hj => by
    have hj' : j < n := by rw [htl] at hj; exact hj
    simp [hj']) h
  refine wp_region_any hm ?_
  have := mover_any (P := P) (Q := Q) (a := a) (V := V) B (fun j hj o ho => by
    have := hV j (by rw [htl]; exact hj) o (by simpa using ho)
    rwa [st_down, Nat.zero_add] at this) (by
    rw [htl, st_down] at hK
    intro w' hw'
    simpa using hK w' hw') n [] { w with drawn := w.drawn + 1 } (cnt_nil n) (by simp) (by simp) (by simp) (fun _ => hC)
  rw [show n + (l.toArray.size - n) = l.toArray.size by simp; omega] at this
  rw [mark_nil]
  exact this

/-- The steps of the walk. -/
theorem wpMove_val {K : Act → Prop} {k : Nat} {o : Oper} {rest : List Oper} {a : Act} (v : Value) (hk : k ≠ c) (hv : ∀ w, C0 w ∨ C1 w → (execOp a.eval o).run P w = .ok (.value v) w) (h : wpMove P C0 C1 c K (k + 1) rest (a.put o.dst v)) : wpMove P C0 C1 c K k (o :: rest) a :=
  ⟨v, ⟨fun e => absurd e hk, fun _ => hv⟩, h⟩
theorem wpMove_call {K : Act → Prop} {k : Nat} {o : Oper} {rest : List Oper} {a : Act} (v : Value) (hk : k = c) (f : FuncId) (args : Array Value) (hr : ∀ w, (execOp a.eval o).run P w = .ok (.enter f args) w) (hv : ∀ w, C0 w → Calls P f args w fun e w' => e = .returned v ∧ C1 w')
    (h : wpMove P C0 C1 c K (k + 1) rest (a.put o.dst v)) : wpMove P C0 C1 c K k (o :: rest) a :=
  ⟨v, ⟨fun _ w hw => ⟨f, args, hr w, hv w hw⟩, fun e => absurd hk e⟩, h⟩
theorem wpMove_nil {K : Act → Prop} {k : Nat} {a : Act} (h : K a) : wpMove P C0 C1 c K k [] a := h

end
end Go.Proofs.Qxb6616194aFmt
