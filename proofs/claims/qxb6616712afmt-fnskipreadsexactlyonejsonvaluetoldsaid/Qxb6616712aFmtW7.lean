/- The walks of sequence, elements, members and its closures, skip: one induction. -/
import Derived.Test.Qxb6616712aFmtFx
set_option linter.unusedVariables false
set_option linter.unusedSimpArgs false
set_option linter.unnecessarySimpa false
namespace Go.Proofs.Qxb6616712aFmt
open Go.Extern.Stop Go.Stop Go.Extern
open Go.RowKit

/-- One element, or one member. -/
def eachR (m d : Nat) (l : List UInt8) : Option (List UInt8) :=
  match (if m == 0 then some l else J.name l) with
  | none => none
  | some l1 => J.R 0 d l1

theorem R_each {d : Nat} (hd : d ≤ 10000) (m : Nat) (l : List UInt8) : J.R (m + 1) d l = (match eachR m d l with
    | none => none
    | some r => match J.ws r with
      | [] => none
      | x :: t1 => if x == 44 then J.R (m + 1) d t1 else if x == (if m == 0 then 93 else 125) then some t1 else none) := by
  rw [J.R_seq hd m l]
  unfold eachR
  cases (if m == 0 then some l else J.name l) <;> rfl

theorem R_each_none {d m : Nat} {l : List UInt8} (hd : d ≤ 10000) (h : eachR m d l = none) : J.R (m + 1) d l = none := by rw [R_each hd, h]
theorem R_each_end {d m : Nat} {l r : List UInt8} (hd : d ≤ 10000) (h : eachR m d l = some r) (hw : J.ws r = []) : J.R (m + 1) d l = none := by rw [R_each hd, h]; simp only; rw [hw]
theorem R_each_comma {d m : Nat} {l r t : List UInt8} (hd : d ≤ 10000) (h : eachR m d l = some r) (hw : J.ws r = 44 :: t) : J.R (m + 1) d l = J.R (m + 1) d t := by rw [R_each hd, h]; simp only; rw [hw]; rfl
theorem R_each_close {d m : Nat} {l r t : List UInt8} {x : UInt8} (hd : d ≤ 10000) (h : eachR m d l = some r) (hw : J.ws r = x :: t) (hx : x = (if m == 0 then 93 else 125)) : J.R (m + 1) d l = some t := by
  rw [R_each hd, h]; simp only; rw [hw]; simp only
  rw [if_neg (by rw [hx]; split <;> decide), hx, if_pos (by simp)]
theorem R_each_other {d m : Nat} {l r t : List UInt8} {x : UInt8} (hd : d ≤ 10000) (h : eachR m d l = some r) (hw : J.ws r = x :: t) (hx : (x == 44) = false) (hy : (x == (if m == 0 then 93 else 125)) = false) : J.R (m + 1) d l = none := by
  rw [R_each hd, h]; simp only; rw [hw]; simp only
  rw [hx, hy]; rfl
theorem eachR_nil {d m : Nat} (hd : d ≤ 10000) : eachR m d [] = none := by
  unfold eachR
  by_cases hm : (m == 0) = true
  · rw [if_pos hm]; simp only; rw [J.R_val hd]; rfl
  · rw [if_neg hm]; rfl

/-- What an array or an object behind its opener comes to. -/
def seqR (m d : Nat) (l : List UInt8) : Option (List UInt8) :=
  if d = 10000 then none
  else match J.ws l with
    | [] => none
    | x :: t1 => if x == (if m == 0 then 93 else 125) then some t1 else J.R (m + 1) (d + 1) (x :: t1)

/-- The contract of quoted. -/
def QuotedOK (B : Nat) (E : World → Prop) : Prop :=
  ∀ (b : Nat) (s : ByteArray) (p : Nat) (d : Int) (w : World), Rd b s p d w → s.size ≤ 1048576 → p < s.size → B ≤ b → E w →
    Calls Tryf.prog 26 #[.pointer (some ⟨b, 0, none⟩)] w fun e w' => Out2 b s d w (J.str (s.data.toList.drop (p + 1))) e w'

/-- The contract of skip, where at most n bytes are left. -/
def SkipOK (E : World → Prop) (b : Nat) (s : ByteArray) (n : Nat) : Prop :=
  ∀ (q d : Nat) (w : World), s.size - q ≤ n → d ≤ 10000 → Rd b s q d w → E w →
    Calls Tryf.prog 17 #[.pointer (some ⟨b, 0, none⟩)] w fun e w' => Out b s d w (J.R 0 d (s.data.toList.drop q)) e w'

theorem wsN_le (s : ByteArray) (p : Nat) (hp : p ≤ s.size) : wsN s p ≤ s.size := by
  unfold wsN
  have h1 := List.Sublist.length_le (List.takeWhile_sublist J.isWS (l := s.data.toList.drop p))
  rw [drop_length] at h1
  omega
theorem wsN_drop (s : ByteArray) (p : Nat) : s.data.toList.drop (wsN s p) = J.ws (s.data.toList.drop p) := by
  unfold wsN J.ws
  rw [← List.drop_drop]
  have := List.takeWhile_append_dropWhile (p := J.isWS) (l := s.data.toList.drop p)
  have h2 := congrArg (List.drop ((s.data.toList.drop p).takeWhile J.isWS).length) this
  rw [List.drop_left] at h2
  exact h2.symm
theorem wsN_ge (s : ByteArray) (p : Nat) : p ≤ wsN s p := by unfold wsN; omega

/-- The byte that peek gives, against a number. -/
theorem hd_beq (l : List UInt8) (n : Nat) (hn : n < 256) (h0 : n ≠ 0) : (hd l == (n : Int)) = (match l with | [] => false | x :: _ => x == UInt8.ofNat n) := by
  cases l with
  | nil => simp only [hd]; simp; omega
  | cons x t => simp only [hd]; exact u8_eq x n hn

/-- The boxes of a member's closure: the reader's, the inner function's, the reader's for that. -/
def Cl (b br be bs : Nat) (w : World) : Prop :=
  w.cell? ⟨br, 0, none⟩ = some (.pointer (some ⟨b, 0, none⟩)) ∧ w.cell? ⟨be, 0, none⟩ = some (.func (Fn.func 25) #[] #[.pointer (some ⟨bs, 0, none⟩)]) ∧ w.cell? ⟨bs, 0, none⟩ = some (.pointer (some ⟨b, 0, none⟩)) ∧
  br ≠ b ∧ be ≠ b ∧ bs ≠ b ∧ br < w.heap.size ∧ be < w.heap.size ∧ bs < w.heap.size
theorem Cl.keep {b br be bs : Nat} {w w' : World} (h : Cl b br be bs w) (hf : Fr b w w') : Cl b br be bs w' := by
  obtain ⟨h1, h2, h3, n1, n2, n3, l1, l2, l3⟩ := h
  have := hf.size
  refine ⟨?_, ?_, ?_, n1, n2, n3, by omega, by omega, by omega⟩
  · rw [hf.cell (p := ⟨br, 0, none⟩) l1 n1]; exact h1
  · rw [hf.cell (p := ⟨be, 0, none⟩) l2 n2]; exact h2
  · rw [hf.cell (p := ⟨bs, 0, none⟩) l3 n3]; exact h3

attribute [local go_sem] Fx.call37 Fx.guard Fx.fmt0 Fx.fmt0r Fx.op9_115 Fx.op5_99

theorem Out.left {b : Nat} {s : ByteArray} {d : Int} {w w0 w' : World} {r : Option (List UInt8)} {e : Ending} (h : Out b s d w r e w') (hf : Fr b w0 w) : Out b s d w0 r e w' := by
  cases r with
  | none => obtain ⟨h1, h2, h3⟩ := h; exact ⟨h1, h2, hf.trans h3⟩
  | some l => obtain ⟨h1, h2, h3⟩ := h; exact ⟨h1, h2, hf.trans h3⟩

theorem Out_none {b : Nat} {s : ByteArray} {d : Int} {w w' : World} {r : Option (List UInt8)} {e : Ending} (hR : r = none) (h1 : ∃ T v, e = .returned (.iface T v)) (h2 : ∃ q d' : Int, Rd b s q d' w') (h3 : Fr b w w') : Out b s d w r e w' := by
  subst hR; exact ⟨h1, h2, h3⟩
theorem Out_some {b : Nat} {s : ByteArray} {d : Int} {w w' : World} {r : Option (List UInt8)} {l : List UInt8} {e : Ending} (hR : r = some l) (h1 : e = .returned .nilIface) (h2 : ∃ q : Nat, q ≤ s.size ∧ s.data.toList.drop q = l ∧ Rd b s q d w') (h3 : Fr b w w') : Out b s d w r e w' := by
  subst hR; exact ⟨h1, h2, h3⟩

set_option maxHeartbeats 400000 in
theorem skip1_any (E : World → Prop) (b bs : Nat) (s nm : ByteArray) (n q d : Nat) (w : World) (ih : SkipOK E b s n) (hn : s.size - q ≤ n) (hd : d ≤ 10000) (hr : Rd b s q d w) (hE : E w) (hbs : w.cell? ⟨bs, 0, none⟩ = some (.pointer (some ⟨b, 0, none⟩))) :
    Calls Tryf.prog 25 #[.string nm, .pointer (some ⟨bs, 0, none⟩)] w fun e w' => Out b s d w (J.R 0 d (s.data.toList.drop q)) e w' := by
  go_enter Tryf.func25, Tryf.ntmps25
  go_wp2_with fail
  refine (ih q d w hn hd hr hE).mono ?_
  intro e w1 ho
  cases hR : J.R 0 d (s.data.toList.drop q) with
  | none =>
    rw [hR] at ho
    have HR : Hid (J.R 0 d (s.data.toList.drop q) = none) := hR
    clear hR
    obtain ⟨⟨T, v, rfl⟩, h2, h3⟩ := ho
    go_wp2_with fail
    go_ret
    exact Out_none HR.out ⟨T, v, rfl⟩ h2 h3
  | some l =>
    rw [hR] at ho
    have HR : Hid (J.R 0 d (s.data.toList.drop q) = some l) := hR
    clear hR
    obtain ⟨rfl, h2, h3⟩ := ho
    go_wp2_with fail
    go_ret
    exact Out_some HR.out rfl h2 h3

/-- What a member comes to, by its pieces. -/
theorem each1_noquote {d : Nat} {l : List UInt8} (h : ∀ t, J.ws l ≠ 34 :: t) : eachR 1 d l = none := by
  unfold eachR J.name
  simp only [Nat.succ_ne_self, beq_iff_eq, if_false]
  cases hw : J.ws l with
  | nil => rfl
  | cons c t =>
    simp only
    rw [if_neg]
    intro hc
    have : c = 34 := by simpa using hc
    exact h t (by rw [hw, this])
theorem each1_nostr {d : Nat} {l t : List UInt8} (h : J.ws l = 34 :: t) (h2 : J.str t = none) : eachR 1 d l = none := by
  unfold eachR J.name
  simp only [Nat.succ_ne_self, beq_iff_eq, if_false]
  rw [h]
  simp only [if_true]
  rw [h2]
theorem each1_nocolon {d : Nat} {l t r : List UInt8} (h : J.ws l = 34 :: t) (h2 : J.str t = some r) (h3 : ∀ t, J.ws r ≠ 58 :: t) : eachR 1 d l = none := by
  unfold eachR J.name
  simp only [Nat.succ_ne_self, beq_iff_eq, if_false]
  rw [h]
  simp only [if_true]
  rw [h2]
  simp only
  cases hw : J.ws r with
  | nil => rfl
  | cons c t =>
    simp only
    rw [if_neg]
    intro hc
    exact h3 t (by rw [hw, hc])
theorem each1_yes {d : Nat} {l t r t2 : List UInt8} (h : J.ws l = 34 :: t) (h2 : J.str t = some r) (h3 : J.ws r = 58 :: t2) : eachR 1 d l = J.R 0 d t2 := by
  unfold eachR J.name
  simp only [Nat.succ_ne_self, beq_iff_eq, if_false]
  rw [h]
  simp only [if_true]
  rw [h2]
  simp only
  rw [h3]
  simp only [if_true]

theorem hd_is {l : List UInt8} {n : Nat} (hn : n < 256) (h0 : n ≠ 0) (h : (hd l == (n : Int)) = true) : ∃ t, l = UInt8.ofNat n :: t := by
  rw [hd_beq l n hn h0] at h
  cases l with
  | nil => simp at h
  | cons x t => simp only at h; exact ⟨t, by rw [show x = UInt8.ofNat n by simpa using h]⟩
theorem hd_isnt {l : List UInt8} {n : Nat} (hn : n < 256) (h0 : n ≠ 0) (h : (hd l == (n : Int)) = false) : ∀ t, l ≠ UInt8.ofNat n :: t := by
  rw [hd_beq l n hn h0] at h
  intro t e
  subst e
  simp at h

set_option maxHeartbeats 1000000 in
theorem members1_any (B : Nat) (E : World → Prop) (hSE : SErr B E) (hQ : QuotedOK B E) (b br be bs : Nat) (s : ByteArray) (hb : B ≤ b) (hs : s.size ≤ 1048576) (n q d : Nat) (w : World) (ih : SkipOK E b s n) (hn : s.size - q ≤ n) (hdd : d ≤ 10000) (hr : Rd b s q d w) (hE : E w) (hcl : Cl b br be bs w) :
    Calls Tryf.prog 38 #[.pointer (some ⟨br, 0, none⟩), .pointer (some ⟨be, 0, none⟩)] w fun e w' => Out b s d w (eachR 1 d (s.data.toList.drop q)) e w' := by
  have k0 := hcl.1
  go_enter Tryf.func38, Tryf.ntmps38
  go_wp2_with fail
  refine (peek_any b s q d _ hr hs).mono ?_
  rintro e w1 ⟨rfl, hr1, hf1⟩
  have hE1 := hSE.keep hb hE hf1
  have hcl1 := hcl.keep hf1
  have k1 := hcl1.1
  obtain ⟨c, hc⟩ : ∃ c, c = hd (J.ws (s.data.toList.drop q)) := ⟨_, rfl⟩
  rw [← hc]
  have HC : Hid (c = hd (J.ws (s.data.toList.drop q))) := hc
  clear hc
  by_cases hq : (c == 34) = true
  · obtain ⟨t, ht⟩ := hd_is (n := 34) (by omega) (by omega) (by rw [← HC.out]; exact hq)
    have HT : Hid (J.ws (s.data.toList.drop q) = 34 :: t) := ht
    clear ht
    have hne : (c != 34) = false := by simpa using hq
    obtain ⟨hlt, _, hd1⟩ := drop_inv ((wsN_drop s q).trans HT.out)
    have HD1 : Hid (s.data.toList.drop (wsN s q + 1) = t) := hd1
    clear hd1
    have hge := wsN_ge s q
    go_wp2_with fail
    refine (hQ b s (wsN s q) d _ hr1 hs hlt hb hE1).mono ?_
    intro e w2 ho
    cases hR : J.str (s.data.toList.drop (wsN s q + 1)) with
    | none =>
      rw [hR] at ho
      have HR : Hid (J.str (s.data.toList.drop (wsN s q + 1)) = none) := hR
      clear hR
      obtain ⟨⟨x, T, v, rfl⟩, h2, h3⟩ := ho
      go_wp2_with fail
      go_ret
      exact Out_none (each1_nostr HT.out (by rw [← HD1.out]; exact HR.out)) ⟨T, v, rfl⟩ h2 (hf1.trans h3)
    | some l =>
      rw [hR] at ho
      have HR : Hid (J.str (s.data.toList.drop (wsN s q + 1)) = some l) := hR
      clear hR
      obtain ⟨⟨x, rfl⟩, ⟨q2, hq2, hl2, hr2⟩, hf2⟩ := ho
      have HL2 : Hid (s.data.toList.drop q2 = l) := hl2
      clear hl2
      have hE2 := hSE.keep hb hE1 hf2
      have hcl2 := hcl1.keep hf2
      have k2 := hcl2.1
      go_wp2_with fail
      refine (peek_any b s q2 d _ hr2 hs).mono ?_
      rintro e w3 ⟨rfl, hr3, hf3⟩
      have hE3 := hSE.keep hb hE2 hf3
      have hcl3 := hcl2.keep hf3
      have k3 := hcl3.1
      have k3e := hcl3.2.1
      have k3s := hcl3.2.2.1
      obtain ⟨c2, hc2⟩ : ∃ c, c = hd (J.ws (s.data.toList.drop q2)) := ⟨_, rfl⟩
      rw [← hc2]
      have HC2 : Hid (c2 = hd (J.ws (s.data.toList.drop q2))) := hc2
      clear hc2
      by_cases hq3 : (c2 == 58) = true
      · obtain ⟨t2, ht2⟩ := hd_is (n := 58) (by omega) (by omega) (by rw [← HC2.out]; exact hq3)
        have HT2 : Hid (J.ws (s.data.toList.drop q2) = 58 :: t2) := ht2
        clear ht2
        have hne2 : (c2 != 58) = false := by simpa using hq3
        obtain ⟨hlt2, _, hd2⟩ := drop_inv ((wsN_drop s q2).trans HT2.out)
        have HD2 : Hid (s.data.toList.drop (wsN s q2 + 1) = t2) := hd2
        clear hd2
        have hge2 := wsN_ge s q2
        have g1 := hr3.cell1
        have gf := hr3.free 1
        have hle : wsN s q + 1 ≤ q2 := by
          refine le_of_drop (by omega) hq2 ?_
          rw [HL2.out]
          obtain ⟨v, hv, _, _⟩ := J.str_again _ (Nat.le_refl _) HR.out
          rw [hv, List.length_append]; omega
        have k4 : (w3.setCell ⟨b, 1, none⟩ (.int .i64 ((wsN s q2 : Int) + 1))).cell? ⟨be, 0, none⟩ = some (.func (Fn.func 25) #[] #[.pointer (some ⟨bs, 0, none⟩)]) := by
          rw [((Fr.refl b w3).setCell _ _).cell (p := ⟨be, 0, none⟩) hcl3.2.2.2.2.2.2.2.1 hcl3.2.2.2.2.1]; exact k3e
        have k5 : (w3.setCell ⟨b, 1, none⟩ (.int .i64 ((wsN s q2 : Int) + 1))).cell? ⟨bs, 0, none⟩ = some (.pointer (some ⟨b, 0, none⟩)) := by
          rw [((Fr.refl b w3).setCell _ _).cell (p := ⟨bs, 0, none⟩) hcl3.2.2.2.2.2.2.2.2 hcl3.2.2.2.2.2.1]; exact k3s
        have hr4 := hr3.set1 (((wsN s q2 + 1 : Nat) : Int))
        have hf4 := (Fr.refl b w3).setCell 1 (.int .i64 ((wsN s q2 : Int) + 1))
        have hE4 := hSE.keep hb hE3 hf4
        go_wp2_with fail
        refine (skip1_any E b bs s _ n (wsN s q2 + 1) d _ ih (by omega) hdd hr4 hE4 k5).mono ?_
        intro e w4 ho
        have hout : eachR 1 d (s.data.toList.drop q) = J.R 0 d (s.data.toList.drop (wsN s q2 + 1)) := by
          rw [each1_yes HT.out (by rw [← HD1.out]; exact HR.out) (by rw [← HL2.out]; exact HT2.out), HD2.out]
        have HO : Hid (eachR 1 d (s.data.toList.drop q) = J.R 0 d (s.data.toList.drop (wsN s q2 + 1))) := hout
        clear hout
        have hff := hf1.trans (hf2.trans (hf3.trans hf4))
        cases hR2 : J.R 0 d (s.data.toList.drop (wsN s q2 + 1)) with
        | none =>
          rw [hR2] at ho
          have HR2 : Hid (J.R 0 d (s.data.toList.drop (wsN s q2 + 1)) = none) := hR2
          clear hR2
          obtain ⟨⟨T, v, rfl⟩, h2, h3⟩ := ho
          go_wp2_with fail
          go_ret
          exact Out_none (HO.out.trans HR2.out) ⟨T, v, rfl⟩ h2 (hff.trans h3)
        | some l2 =>
          rw [hR2] at ho
          have HR2 : Hid (J.R 0 d (s.data.toList.drop (wsN s q2 + 1)) = some l2) := hR2
          clear hR2
          obtain ⟨rfl, h2, h3⟩ := ho
          go_wp2_with fail
          go_ret
          exact Out_some (HO.out.trans HR2.out) rfl h2 (hff.trans h3)
      · have hne2 : (c2 != 58) = true := by simpa using hq3
        go_wp2_with fail
        refine (hSE.call _ hr3 hs hE3).mono ?_
        rintro e w4 ⟨⟨T, v, rfl⟩, hr4, hf4⟩
        go_wp2_with fail
        go_ret
        exact Out_none (each1_nocolon HT.out (by rw [← HD1.out]; exact HR.out) (by rw [← HL2.out]; exact hd_isnt (n := 58) (by omega) (by omega) (by rw [← HC2.out]; simpa using hq3))) ⟨T, v, rfl⟩ ⟨_, _, hr4⟩ (hf1.trans (hf2.trans (hf3.trans hf4)))
  · have hne : (c != 34) = true := by simpa using hq
    go_wp2_with fail
    refine (hSE.call _ hr1 hs hE1).mono ?_
    rintro e w2 ⟨⟨T, v, rfl⟩, hr2, hf2⟩
    go_wp2_with fail
    go_ret
    exact Out_none (each1_noquote (hd_isnt (n := 34) (by omega) (by omega) (by rw [← HC.out]; simpa using hq))) ⟨T, v, rfl⟩ ⟨_, _, hr2⟩ (hf1.trans hf2)

theorem eachR_le {m d : Nat} {l r : List UInt8} (hd : d ≤ 10000) (h : eachR m d l = some r) : r.length ≤ l.length := by
  unfold eachR at h
  by_cases hm : (m == 0) = true
  · rw [if_pos hm] at h
    exact Nat.le_of_lt (J.R_lt hd h)
  · rw [if_neg hm] at h
    cases hn : J.name l with
    | none => rw [hn] at h; cases h
    | some l1 =>
      rw [hn] at h
      have h1 := J.name_lt hn
      have h2 := J.R_lt hd h
      omega

theorem seqR_start {m d : Nat} {l : List UInt8} (hd : d < 10000) (h : (hd_is_close : Bool) → hd_is_close = (match J.ws l with | [] => false | x :: _ => x == (if m == 0 then 93 else 125)) → hd_is_close = false) :
    seqR m d l = J.R (m + 1) (d + 1) (J.ws l) := by
  have h' := h _ rfl
  unfold seqR
  rw [if_neg (by omega)]
  cases hw : J.ws l with
  | nil => simp only; rw [R_each_none (by omega) (eachR_nil (by omega))]
  | cons x t => rw [hw] at h'; simp only at h' ⊢; rw [h']; rfl
theorem seqR_close {m d : Nat} {l t : List UInt8} {x : UInt8} (hd : d < 10000) (hw : J.ws l = x :: t) (hx : x = (if m == 0 then 93 else 125)) : seqR m d l = some t := by
  unfold seqR
  rw [if_neg (by omega), hw]
  simp only
  rw [hx, if_pos (by simp)]

set_option maxHeartbeats 1000000 in
theorem seq_elems (F : Interp) (B : Nat) (E : World → Prop) (hSE : SErr B E) (hEF : ∀ w, E w → F.answers w.tape) (b : Nat) (s af : ByteArray) (hb : B ≤ b) (hs : s.size ≤ 1048576) (n q d : Nat) (w : World) (ih : SkipOK E b s n) (hn : s.size - q ≤ n + 1) (hq : q < s.size) (hdd : d ≤ 10000) (hr : Rd b s q d w) (hE : E w) :
    Calls Tryf.prog 22 #[.pointer (some ⟨b, 0, none⟩), .int .u8 93, .string af, .func (Fn.func 17) #[.pointer (some ⟨b, 0, none⟩)] #[]] w fun e w' => Out b s d w (seqR 0 d (s.data.toList.drop (q + 1))) e w' := by
  go_enter Tryf.func22, Tryf.ntmps22
  go_wp2_with fail
  by_cases hd0 : d = 10000
  · subst hd0
    refine (enter_err F b s q _ (hEF _ hE) hr).mono ?_
    rintro e w1 ⟨⟨T, v, rfl⟩, hb1⟩
    go_wp2_with fail
    go_ret
    exact Out_none (by unfold seqR; rw [if_pos rfl]) ⟨T, v, rfl⟩ ⟨_, _, hr.below hb1⟩ (Fr.below hb1)
  · have hd1 : d < 10000 := by omega
    refine (enter_ok b s q d _ hr (by omega) (by omega) (by omega) (by omega)).mono ?_
    rintro e w1 ⟨rfl, hr1, hf1⟩
    have hr1' : Rd b s ((q + 1 : Nat) : Int) ((d + 1 : Nat) : Int) w1 := hr1
    clear hr1
    go_wp2_with fail
    refine (peek_any b s (q + 1) _ _ hr1' hs).mono ?_
    rintro e w2 ⟨rfl, hr2, hf2⟩
    have hE2 := hSE.keep hb hE (hf1.trans hf2)
    obtain ⟨c, hc⟩ : ∃ c, c = hd (J.ws (s.data.toList.drop (q + 1))) := ⟨_, rfl⟩
    rw [← hc]
    have HC : Hid (c = hd (J.ws (s.data.toList.drop (q + 1)))) := hc
    clear hc
    have hle1 := wsN_le s (q + 1) (by omega)
    by_cases hcl : (c == 93) = true
    · obtain ⟨t, ht⟩ := hd_is (n := 93) (by omega) (by omega) (by rw [← HC.out]; exact hcl)
      have HT : Hid (J.ws (s.data.toList.drop (q + 1)) = 93 :: t) := ht
      clear ht
      obtain ⟨hlt, _, hd2⟩ := drop_inv ((wsN_drop s (q + 1)).trans HT.out)
      have HD2 : Hid (s.data.toList.drop (wsN s (q + 1) + 1) = t) := hd2
      clear hd2
      go_wp2_with fail
      refine (leave_any b s _ _ _ hr2 (by omega) (by omega) (by omega) (by omega)).mono ?_
      rintro e w3 ⟨rfl, hr3, hf3⟩
      have hr3' : Rd b s ((wsN s (q + 1) + 1 : Nat) : Int) d w3 := by
        rw [show (d : Int) = ((d + 1 : Nat) : Int) - 1 from by omega]; exact hr3
      go_wp2_with fail
      go_ret
      exact Out_some (seqR_close hd1 HT.out rfl) rfl ⟨_, hlt, HD2.out, hr3'⟩ (hf1.trans (hf2.trans hf3))
    · have hcl' : (c == 93) = false := by simpa using hcl
      have HS : Hid (seqR 0 d (s.data.toList.drop (q + 1)) = J.R (0 + 1) (d + 1) (s.data.toList.drop (wsN s (q + 1)))) := by
        show _ = _
        rw [wsN_drop]
        refine seqR_start hd1 (fun z hz => ?_)
        rw [hz]
        have h1 := hd_beq (J.ws (s.data.toList.drop (q + 1))) 93 (by omega) (by omega)
        rw [← HC.out] at h1
        exact h1.symm.trans hcl'
      clear hcl
      go_wp2_with fail
      go_loopg [] (s.size - wsN s (q + 1)) (fun gn wr => ∃ k : Nat, gn = s.size - k ∧ k ≤ s.size ∧ q + 1 ≤ k ∧ Rd b s k ((d + 1 : Nat) : Int) wr ∧ Fr b w wr ∧ Hid (seqR 0 d (s.data.toList.drop (q + 1)) = J.R (0 + 1) (d + 1) (s.data.toList.drop k)))
      case atStart => exact ⟨_, rfl, hle1, wsN_ge s (q + 1), hr2, hf1.trans hf2, HS⟩
      case round =>
        clear hr2 hf2 hr1' hf1 hE2 HS HC hle1
        obtain ⟨k, hgk, hks, hqk, hrk, hfk, HK⟩ := hrel
        have HG : Hid (gk = s.size - k) := hgk
        clear hgk
        have hEk := hSE.keep hb hE hfk
        go_wp2_with fail
        refine (ih k (d + 1) _ (by omega) (by omega) hrk hEk).mono ?_
        intro e w3 ho
        cases hR : eachR 0 (d + 1) (s.data.toList.drop k) with
        | none =>
          rw [← show eachR 0 (d + 1) (s.data.toList.drop k) = J.R 0 (d + 1) (s.data.toList.drop k) from rfl, hR] at ho
          have HR : Hid (eachR 0 (d + 1) (s.data.toList.drop k) = none) := hR
          clear hR
          obtain ⟨⟨T, v, rfl⟩, h2, h3⟩ := ho
          go_wp2_with fail
          go_ret
          exact Out_none (HK.out.trans (R_each_none (by omega) HR.out)) ⟨T, v, rfl⟩ h2 (hfk.trans h3)
        | some r =>
          rw [← show eachR 0 (d + 1) (s.data.toList.drop k) = J.R 0 (d + 1) (s.data.toList.drop k) from rfl, hR] at ho
          have HR : Hid (eachR 0 (d + 1) (s.data.toList.drop k) = some r) := hR
          clear hR
          obtain ⟨rfl, ⟨k2, hk2, hl2, hr3⟩, hf3⟩ := ho
          have HL2 : Hid (s.data.toList.drop k2 = r) := hl2
          clear hl2
          have hkk : k ≤ k2 := le_of_drop hks hk2 (by rw [HL2.out]; exact eachR_le (by omega) HR.out)
          go_wp2_with fail
          refine (peek_any b s k2 _ _ hr3 hs).mono ?_
          rintro e w4 ⟨rfl, hr4, hf4⟩
          have hff := hfk.trans (hf3.trans hf4)
          have hE4 := hSE.keep hb hE hff
          obtain ⟨c2, hc2⟩ : ∃ c, c = hd (J.ws (s.data.toList.drop k2)) := ⟨_, rfl⟩
          rw [← hc2]
          have HC2 : Hid (c2 = hd (J.ws (s.data.toList.drop k2))) := hc2
          clear hc2
          have hge2 := wsN_ge s k2
          by_cases h44 : (c2 == 44) = true
          · obtain ⟨t, ht⟩ := hd_is (n := 44) (by omega) (by omega) (by rw [← HC2.out]; exact h44)
            have HT : Hid (J.ws (s.data.toList.drop k2) = 44 :: t) := ht
            clear ht
            obtain ⟨hlt, _, hd2⟩ := drop_inv ((wsN_drop s k2).trans HT.out)
            have HD2 : Hid (s.data.toList.drop (wsN s k2 + 1) = t) := hd2
            clear hd2
            have g1 := hr4.cell1
            have gf := hr4.free 1
            go_wp2_with fail
            go_roundg (s.size - (wsN s k2 + 1))
            case measure => rw [HG.out]; omega
            case rel => exact ⟨wsN s k2 + 1, rfl, hlt, by omega, hr4.set1 _, hff.setCell _ _, HK.out.trans ((R_each_comma (by omega) HR.out (by rw [← HL2.out]; exact HT.out)).trans (by rw [HD2.out]))⟩
          · have h44' : (c2 == 44) = false := by simpa using h44
            clear h44
            by_cases h93 : (c2 == 93) = true
            · obtain ⟨t, ht⟩ := hd_is (n := 93) (by omega) (by omega) (by rw [← HC2.out]; exact h93)
              have HT : Hid (J.ws (s.data.toList.drop k2) = 93 :: t) := ht
              clear ht
              obtain ⟨hlt, _, hd2⟩ := drop_inv ((wsN_drop s k2).trans HT.out)
              have HD2 : Hid (s.data.toList.drop (wsN s k2 + 1) = t) := hd2
              clear hd2
              go_wp2_with fail
              refine (leave_any b s _ _ _ hr4 (by omega) (by omega) (by omega) (by omega)).mono ?_
              rintro e w5 ⟨rfl, hr5, hf5⟩
              have hr5' : Rd b s ((wsN s k2 + 1 : Nat) : Int) d w5 := by
                rw [show (d : Int) = ((d + 1 : Nat) : Int) - 1 from by omega]; exact hr5
              go_wp2_with fail
              go_ret
              exact Out_some (HK.out.trans (R_each_close (by omega) HR.out (by rw [← HL2.out]; exact HT.out) rfl)) rfl ⟨_, hlt, HD2.out, hr5'⟩ (hff.trans hf5)
            · have h93' : (c2 == 93) = false := by simpa using h93
              clear h93
              have hF' := answers_open (hEF _ hE4)
              go_wp2_with fail
              refine (hSE.call _ ((hr4.alloc _).drew) hs (hSE.keep hb hE4 (((Fr.refl b w4).alloc _).drew))).mono ?_
              rintro e w5 ⟨⟨T, v, rfl⟩, hr5, hf5⟩
              have hf5' := hff.trans ((((Fr.refl b w4).alloc _).drew).trans hf5)
              go_wp2_with fail
              go_ret
              refine Out_none ?_ ⟨T, v, rfl⟩ ⟨_, _, hr5⟩ hf5'
              refine HK.out.trans ?_
              cases hw : J.ws (s.data.toList.drop k2) with
              | nil => exact R_each_end (by omega) HR.out (by rw [← HL2.out]; exact hw)
              | cons x t =>
                have z1 := hd_beq (J.ws (s.data.toList.drop k2)) 44 (by omega) (by omega)
                have z2 := hd_beq (J.ws (s.data.toList.drop k2)) 93 (by omega) (by omega)
                rw [← HC2.out, hw] at z1 z2
                exact R_each_other (by omega) HR.out (by rw [← HL2.out]; exact hw) (z1.symm.trans h44') (z2.symm.trans h93')

set_option maxHeartbeats 1000000 in
theorem seq_membs (F : Interp) (B : Nat) (E : World → Prop) (hSE : SErr B E) (hEF : ∀ w, E w → F.answers w.tape) (hQ : QuotedOK B E) (b br be bs : Nat) (s af : ByteArray) (hb : B ≤ b) (hs : s.size ≤ 1048576) (n q d : Nat) (w : World) (ih : SkipOK E b s n) (hn : s.size - q ≤ n + 1) (hq : q < s.size) (hdd : d ≤ 10000) (hr : Rd b s q d w) (hE : E w) (hclo : Cl b br be bs w) :
    Calls Tryf.prog 22 #[.pointer (some ⟨b, 0, none⟩), .int .u8 125, .string af, .func (Fn.func 38) #[] #[.pointer (some ⟨br, 0, none⟩), .pointer (some ⟨be, 0, none⟩)]] w fun e w' => Out b s d w (seqR 1 d (s.data.toList.drop (q + 1))) e w' := by
  go_enter Tryf.func22, Tryf.ntmps22
  go_wp2_with fail
  by_cases hd0 : d = 10000
  · subst hd0
    refine (enter_err F b s q _ (hEF _ hE) hr).mono ?_
    rintro e w1 ⟨⟨T, v, rfl⟩, hb1⟩
    go_wp2_with fail
    go_ret
    exact Out_none (by unfold seqR; rw [if_pos rfl]) ⟨T, v, rfl⟩ ⟨_, _, hr.below hb1⟩ (Fr.below hb1)
  · have hd1 : d < 10000 := by omega
    refine (enter_ok b s q d _ hr (by omega) (by omega) (by omega) (by omega)).mono ?_
    rintro e w1 ⟨rfl, hr1, hf1⟩
    have hr1' : Rd b s ((q + 1 : Nat) : Int) ((d + 1 : Nat) : Int) w1 := hr1
    clear hr1
    go_wp2_with fail
    refine (peek_any b s (q + 1) _ _ hr1' hs).mono ?_
    rintro e w2 ⟨rfl, hr2, hf2⟩
    have hE2 := hSE.keep hb hE (hf1.trans hf2)
    obtain ⟨c, hc⟩ : ∃ c, c = hd (J.ws (s.data.toList.drop (q + 1))) := ⟨_, rfl⟩
    rw [← hc]
    have HC : Hid (c = hd (J.ws (s.data.toList.drop (q + 1)))) := hc
    clear hc
    have hle1 := wsN_le s (q + 1) (by omega)
    by_cases hcl : (c == 125) = true
    · obtain ⟨t, ht⟩ := hd_is (n := 125) (by omega) (by omega) (by rw [← HC.out]; exact hcl)
      have HT : Hid (J.ws (s.data.toList.drop (q + 1)) = 125 :: t) := ht
      clear ht
      obtain ⟨hlt, _, hd2⟩ := drop_inv ((wsN_drop s (q + 1)).trans HT.out)
      have HD2 : Hid (s.data.toList.drop (wsN s (q + 1) + 1) = t) := hd2
      clear hd2
      go_wp2_with fail
      refine (leave_any b s _ _ _ hr2 (by omega) (by omega) (by omega) (by omega)).mono ?_
      rintro e w3 ⟨rfl, hr3, hf3⟩
      have hr3' : Rd b s ((wsN s (q + 1) + 1 : Nat) : Int) d w3 := by
        rw [show (d : Int) = ((d + 1 : Nat) : Int) - 1 from by omega]; exact hr3
      go_wp2_with fail
      go_ret
      exact Out_some (seqR_close hd1 HT.out rfl) rfl ⟨_, hlt, HD2.out, hr3'⟩ (hf1.trans (hf2.trans hf3))
    · have hcl' : (c == 125) = false := by simpa using hcl
      have HS : Hid (seqR 1 d (s.data.toList.drop (q + 1)) = J.R (1 + 1) (d + 1) (s.data.toList.drop (wsN s (q + 1)))) := by
        show _ = _
        rw [wsN_drop]
        refine seqR_start hd1 (fun z hz => ?_)
        rw [hz]
        have h1 := hd_beq (J.ws (s.data.toList.drop (q + 1))) 125 (by omega) (by omega)
        rw [← HC.out] at h1
        exact h1.symm.trans hcl'
      clear hcl
      go_wp2_with fail
      go_loopg [] (s.size - wsN s (q + 1)) (fun gn wr => ∃ k : Nat, gn = s.size - k ∧ k ≤ s.size ∧ q + 1 ≤ k ∧ Rd b s k ((d + 1 : Nat) : Int) wr ∧ Fr b w wr ∧ Hid (seqR 1 d (s.data.toList.drop (q + 1)) = J.R (1 + 1) (d + 1) (s.data.toList.drop k)))
      case atStart => exact ⟨_, rfl, hle1, wsN_ge s (q + 1), hr2, hf1.trans hf2, HS⟩
      case round =>
        clear hr2 hf2 hr1' hf1 hE2 HS HC hle1
        obtain ⟨k, hgk, hks, hqk, hrk, hfk, HK⟩ := hrel
        have HG : Hid (gk = s.size - k) := hgk
        clear hgk
        have hEk := hSE.keep hb hE hfk
        go_wp2_with fail
        refine (members1_any B E hSE hQ b br be bs s hb hs n k (d + 1) _ ih (by omega) (by omega) hrk hEk (hclo.keep hfk)).mono ?_
        intro e w3 ho
        cases hR : eachR 1 (d + 1) (s.data.toList.drop k) with
        | none =>
          rw [hR] at ho
          have HR : Hid (eachR 1 (d + 1) (s.data.toList.drop k) = none) := hR
          clear hR
          obtain ⟨⟨T, v, rfl⟩, h2, h3⟩ := ho
          go_wp2_with fail
          go_ret
          exact Out_none (HK.out.trans (R_each_none (by omega) HR.out)) ⟨T, v, rfl⟩ h2 (hfk.trans h3)
        | some r =>
          rw [hR] at ho
          have HR : Hid (eachR 1 (d + 1) (s.data.toList.drop k) = some r) := hR
          clear hR
          obtain ⟨rfl, ⟨k2, hk2, hl2, hr3⟩, hf3⟩ := ho
          have HL2 : Hid (s.data.toList.drop k2 = r) := hl2
          clear hl2
          have hkk : k ≤ k2 := le_of_drop hks hk2 (by rw [HL2.out]; exact eachR_le (by omega) HR.out)
          go_wp2_with fail
          refine (peek_any b s k2 _ _ hr3 hs).mono ?_
          rintro e w4 ⟨rfl, hr4, hf4⟩
          have hff := hfk.trans (hf3.trans hf4)
          have hE4 := hSE.keep hb hE hff
          obtain ⟨c2, hc2⟩ : ∃ c, c = hd (J.ws (s.data.toList.drop k2)) := ⟨_, rfl⟩
          rw [← hc2]
          have HC2 : Hid (c2 = hd (J.ws (s.data.toList.drop k2))) := hc2
          clear hc2
          have hge2 := wsN_ge s k2
          by_cases h44 : (c2 == 44) = true
          · obtain ⟨t, ht⟩ := hd_is (n := 44) (by omega) (by omega) (by rw [← HC2.out]; exact h44)
            have HT : Hid (J.ws (s.data.toList.drop k2) = 44 :: t) := ht
            clear ht
            obtain ⟨hlt, _, hd2⟩ := drop_inv ((wsN_drop s k2).trans HT.out)
            have HD2 : Hid (s.data.toList.drop (wsN s k2 + 1) = t) := hd2
            clear hd2
            have g1 := hr4.cell1
            have gf := hr4.free 1
            go_wp2_with fail
            go_roundg (s.size - (wsN s k2 + 1))
            case measure => rw [HG.out]; omega
            case rel => exact ⟨wsN s k2 + 1, rfl, hlt, by omega, hr4.set1 _, hff.setCell _ _, HK.out.trans ((R_each_comma (by omega) HR.out (by rw [← HL2.out]; exact HT.out)).trans (by rw [HD2.out]))⟩
          · have h44' : (c2 == 44) = false := by simpa using h44
            clear h44
            by_cases h93 : (c2 == 125) = true
            · obtain ⟨t, ht⟩ := hd_is (n := 125) (by omega) (by omega) (by rw [← HC2.out]; exact h93)
              have HT : Hid (J.ws (s.data.toList.drop k2) = 125 :: t) := ht
              clear ht
              obtain ⟨hlt, _, hd2⟩ := drop_inv ((wsN_drop s k2).trans HT.out)
              have HD2 : Hid (s.data.toList.drop (wsN s k2 + 1) = t) := hd2
              clear hd2
              go_wp2_with fail
              refine (leave_any b s _ _ _ hr4 (by omega) (by omega) (by omega) (by omega)).mono ?_
              rintro e w5 ⟨rfl, hr5, hf5⟩
              have hr5' : Rd b s ((wsN s k2 + 1 : Nat) : Int) d w5 := by
                rw [show (d : Int) = ((d + 1 : Nat) : Int) - 1 from by omega]; exact hr5
              go_wp2_with fail
              go_ret
              exact Out_some (HK.out.trans (R_each_close (by omega) HR.out (by rw [← HL2.out]; exact HT.out) rfl)) rfl ⟨_, hlt, HD2.out, hr5'⟩ (hff.trans hf5)
            · have h93' : (c2 == 125) = false := by simpa using h93
              clear h93
              have hF' := answers_open (hEF _ hE4)
              go_wp2_with fail
              refine (hSE.call _ ((hr4.alloc _).drew) hs (hSE.keep hb hE4 (((Fr.refl b w4).alloc _).drew))).mono ?_
              rintro e w5 ⟨⟨T, v, rfl⟩, hr5, hf5⟩
              have hf5' := hff.trans ((((Fr.refl b w4).alloc _).drew).trans hf5)
              go_wp2_with fail
              go_ret
              refine Out_none ?_ ⟨T, v, rfl⟩ ⟨_, _, hr5⟩ hf5'
              refine HK.out.trans ?_
              cases hw : J.ws (s.data.toList.drop k2) with
              | nil => exact R_each_end (by omega) HR.out (by rw [← HL2.out]; exact hw)
              | cons x t =>
                have z1 := hd_beq (J.ws (s.data.toList.drop k2)) 44 (by omega) (by omega)
                have z2 := hd_beq (J.ws (s.data.toList.drop k2)) 125 (by omega) (by omega)
                rw [← HC2.out, hw] at z1 z2
                exact R_each_other (by omega) HR.out (by rw [← HL2.out]; exact hw) (z1.symm.trans h44') (z2.symm.trans h93')

set_option maxHeartbeats 400000 in
theorem elements_any (F : Interp) (B : Nat) (E : World → Prop) (hSE : SErr B E) (hEF : ∀ w, E w → F.answers w.tape) (b : Nat) (s : ByteArray) (hb : B ≤ b) (hs : s.size ≤ 1048576) (n q d : Nat) (w : World) (ih : SkipOK E b s n) (hn : s.size - q ≤ n + 1) (hq : q < s.size) (hdd : d ≤ 10000) (hr : Rd b s q d w) (hE : E w) :
    Calls Tryf.prog 16 #[.pointer (some ⟨b, 0, none⟩), .func (Fn.func 17) #[.pointer (some ⟨b, 0, none⟩)] #[]] w fun e w' => Out b s d w (seqR 0 d (s.data.toList.drop (q + 1))) e w' := by
  go_enter Tryf.func16, Tryf.ntmps16
  go_wp2_with fail
  refine (seq_elems F B E hSE hEF b s _ hb hs n q d w ih hn hq hdd hr hE).mono ?_
  intro e w1 ho
  cases hR : seqR 0 d (s.data.toList.drop (q + 1)) with
  | none =>
    rw [hR] at ho
    have HR : Hid (seqR 0 d (s.data.toList.drop (q + 1)) = none) := hR
    clear hR
    obtain ⟨⟨T, v, rfl⟩, h2, h3⟩ := ho
    go_wp2_with fail
    go_ret
    exact Out_none HR.out ⟨T, v, rfl⟩ h2 h3
  | some l =>
    rw [hR] at ho
    have HR : Hid (seqR 0 d (s.data.toList.drop (q + 1)) = some l) := hR
    clear hR
    obtain ⟨rfl, h2, h3⟩ := ho
    go_wp2_with fail
    go_ret
    exact Out_some HR.out rfl h2 h3

set_option maxHeartbeats 400000 in
theorem members_any (F : Interp) (B : Nat) (E : World → Prop) (hSE : SErr B E) (hEF : ∀ w, E w → F.answers w.tape) (hQ : QuotedOK B E) (b bs : Nat) (s : ByteArray) (hb : B ≤ b) (hs : s.size ≤ 1048576) (n q d : Nat) (w : World) (ih : SkipOK E b s n) (hn : s.size - q ≤ n + 1) (hq : q < s.size) (hdd : d ≤ 10000) (hr : Rd b s q d w) (hE : E w)
    (hbs : w.cell? ⟨bs, 0, none⟩ = some (.pointer (some ⟨b, 0, none⟩))) (hbb : bs ≠ b) (hbl : bs < w.heap.size) :
    Calls Tryf.prog 24 #[.pointer (some ⟨b, 0, none⟩), .func (Fn.func 25) #[] #[.pointer (some ⟨bs, 0, none⟩)]] w fun e w' => Out b s d w (seqR 1 d (s.data.toList.drop (q + 1))) e w' := by
  have hlt := hr.lt
  go_enter Tryf.func24, Tryf.ntmps24
  go_wp2_with fail
  refine (seq_membs F B E hSE hEF hQ b w.heap.size (w.heap.size + 1) bs s _ hb hs n q d _ ih hn hq hdd ((hr.alloc _).alloc _) (hSE.keep hb hE (((Fr.refl b w).alloc _).alloc _)) ?_).mono ?_
  · refine ⟨?_, ?_, ?_, by omega, by omega, hbb, by simp; omega, by simp, by simp; omega⟩
    · go_simp
    · go_simp
    · rw [(((Fr.refl b w).alloc _).alloc _).cell (p := ⟨bs, 0, none⟩) hbl hbb]; exact hbs
  intro e w1 ho
  have hf0 : Fr b w ((w.alloc (.cells #[.pointer (some ⟨b, 0, none⟩)] 28)).alloc (.cells #[.func (Fn.func 25) #[] #[.pointer (some ⟨bs, 0, none⟩)]] 41)) := ((Fr.refl b w).alloc _).alloc _
  cases hR : seqR 1 d (s.data.toList.drop (q + 1)) with
  | none =>
    rw [hR] at ho
    have HR : Hid (seqR 1 d (s.data.toList.drop (q + 1)) = none) := hR
    clear hR
    obtain ⟨⟨T, v, rfl⟩, h2, h3⟩ := ho
    go_wp2_with fail
    go_ret
    exact Out_none HR.out ⟨T, v, rfl⟩ h2 (hf0.trans h3)
  | some l =>
    rw [hR] at ho
    have HR : Hid (seqR 1 d (s.data.toList.drop (q + 1)) = some l) := hR
    clear hR
    obtain ⟨rfl, h2, h3⟩ := ho
    go_wp2_with fail
    go_ret
    exact Out_some HR.out rfl h2 (hf0.trans h3)

end Go.Proofs.Qxb6616712aFmt
