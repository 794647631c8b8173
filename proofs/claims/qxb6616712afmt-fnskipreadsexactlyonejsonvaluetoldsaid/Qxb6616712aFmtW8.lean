/- The walk of skip, and of ZZskip. -/
import Derived.Test.Qxb6616712aFmtW7
set_option linter.unusedVariables false
set_option linter.unusedSimpArgs false
set_option linter.unnecessarySimpa false
namespace Go.Proofs.Qxb6616712aFmt
open Go.Extern.Stop Go.Stop Go.Extern
open Go.RowKit

theorem ws_ws (l : List UInt8) : J.ws (J.ws l) = J.ws l := by
  cases h1 : J.ws l with
  | nil => rfl
  | cons c t =>
    by_cases hc : J.isWS c = true
    · exfalso
      have := List.head_dropWhile_not (p := J.isWS) (l := l) (by unfold J.ws at h1; rw [h1]; simp)
      unfold J.ws at h1
      simp [h1, hc] at this
    · unfold J.ws; rw [List.dropWhile_cons, if_neg hc]
theorem ws_wsN (s : ByteArray) (p : Nat) : J.ws (s.data.toList.drop (wsN s p)) = J.ws (s.data.toList.drop p) := by rw [wsN_drop, ws_ws]
theorem wsN_wsN (s : ByteArray) (p : Nat) : wsN s (wsN s p) = wsN s p := by
  have h := wsN_drop s p
  show wsN s p + ((s.data.toList.drop (wsN s p)).takeWhile J.isWS).length = _
  rw [h]
  have : (J.ws (s.data.toList.drop p)).takeWhile J.isWS = [] := by
    cases h1 : J.ws (s.data.toList.drop p) with
    | nil => rfl
    | cons c t =>
      rw [List.takeWhile_cons, if_neg]
      intro hc
      have := List.head_dropWhile_not (p := J.isWS) (l := s.data.toList.drop p) (by unfold J.ws at h1; rw [h1]; simp)
      unfold J.ws at h1
      simp [h1, hc] at this
  rw [this]; rfl

theorem R_nil {d : Nat} {l : List UInt8} (hd : d ≤ 10000) (h : J.ws l = []) : J.R 0 d l = none := by rw [J.R_val hd, h]
theorem R_obj {d : Nat} {l t : List UInt8} (hd : d ≤ 10000) (h : J.ws l = 123 :: t) : J.R 0 d l = seqR 1 d t := by
  rw [J.R_val hd, h]
  have c1 : ((123 : UInt8) == 123 || (123 : UInt8) == 91) = true := by decide
  simp only [c1, if_true]
  unfold seqR
  by_cases h0 : d = 10000
  · rw [if_pos h0, if_pos (by simp [h0])]
  · rw [if_neg h0, if_neg (by simp [h0])]
    cases J.ws t <;> rfl
theorem R_arr {d : Nat} {l t : List UInt8} (hd : d ≤ 10000) (h : J.ws l = 91 :: t) : J.R 0 d l = seqR 0 d t := by
  rw [J.R_val hd, h]
  have c1 : ((91 : UInt8) == 123 || (91 : UInt8) == 91) = true := by decide
  simp only [c1, if_true]
  unfold seqR
  by_cases h0 : d = 10000
  · rw [if_pos h0, if_pos (by simp [h0])]
  · rw [if_neg h0, if_neg (by simp [h0])]
    cases J.ws t <;> rfl
theorem R_scalar {d : Nat} {l t : List UInt8} {c : UInt8} (hd : d ≤ 10000) (h : J.ws l = c :: t) (h1 : (c == 123) = false) (h2 : (c == 91) = false) : J.R 0 d l = J.scalar c t := by
  rw [J.R_val hd, h]
  simp only [h1, h2, Bool.or_self, Bool.false_eq_true, if_false]

theorem hd_cons {l : List UInt8} {c : Int} (h : c = hd l) (h0 : c ≠ 0) : ∃ x t, l = x :: t ∧ (x.toNat : Int) = c := by
  cases l with
  | nil => exact absurd h h0
  | cons x t => exact ⟨x, t, rfl, h.symm⟩
theorem u8_int (x : UInt8) (n : Nat) (hn : n < 256) : (x == UInt8.ofNat n) = ((x.toNat : Int) == (n : Int)) := (u8_eq x n hn).symm

/-- A scalar's head that is none. -/
theorem R_bad {d : Nat} {l : List UInt8} {c : Int} (hd' : d ≤ 10000) (hc : c = hd (J.ws l)) (h1 : (c == 34) = false) (h2 : (c == 123) = false) (h3 : (c == 91) = false) (h4 : (c == 116) = false) (h5 : (c == 102) = false) (h6 : (c == 110) = false) (h7 : (c == 45) = false) (h8 : c < 48 ∨ 57 < c) : J.R 0 d l = none := by
  cases hw : J.ws l with
  | nil => exact R_nil hd' hw
  | cons x t =>
    rw [hw] at hc
    have hx : (x.toNat : Int) = c := hc.symm
    have e1 := u8_int x 34 (by omega)
    have e2 := u8_int x 123 (by omega)
    have e3 := u8_int x 91 (by omega)
    have e4 := u8_int x 116 (by omega)
    have e5 := u8_int x 102 (by omega)
    have e6 := u8_int x 110 (by omega)
    have e7 := u8_int x 45 (by omega)
    rw [hx] at e1 e2 e3 e4 e5 e6 e7
    rw [R_scalar hd' hw (e2.trans h2) (e3.trans h3)]
    unfold J.scalar
    rw [show (x == 34) = false from e1.trans h1, show (x == 116) = false from e4.trans h4, show (x == 102) = false from e5.trans h5, show (x == 110) = false from e6.trans h6, show (x == 45) = false from e7.trans h7]
    have e8 : J.isDig x = false := by
      unfold J.isDig
      simp
      omega
    rw [e8]
    rfl

theorem R_num {d : Nat} {l t : List UInt8} {x : UInt8} (hd' : d ≤ 10000) (hw : J.ws l = x :: t) (h : (x == 45 || J.isDig x) = true) : J.R 0 d l = J.num (x :: t) := by
  have hx : x.toNat = 45 ∨ (48 ≤ x.toNat ∧ x.toNat ≤ 57) := by
    rcases Bool.or_eq_true_iff.1 h with h | h
    · left; have : x = 45 := by simpa using h
      rw [this]; rfl
    · right; unfold J.isDig at h; simpa using h
  have e : ∀ n : Nat, n < 256 → (n < 45 ∨ (45 < n ∧ n < 48) ∨ 57 < n) → (x == UInt8.ofNat n) = false := by
    intro n hn h2
    rw [u8_int x n hn]
    simp
    omega
  rw [R_scalar hd' hw (e 123 (by omega) (by omega)) (e 91 (by omega) (by omega))]
  unfold J.scalar
  rw [show (x == 34) = false from e 34 (by omega) (by omega), show (x == 116) = false from e 116 (by omega) (by omega), show (x == 102) = false from e 102 (by omega) (by omega), show (x == 110) = false from e 110 (by omega) (by omega), h]
  rfl

theorem Out_of {b : Nat} {s : ByteArray} {d : Int} {w w0 w' : World} {r r' : Option (List UInt8)} {e : Ending} (h : Out b s d w r e w') (hr : r' = r) (hf : Fr b w0 w) : Out b s d w0 r' e w' := by
  subst hr; exact h.left hf

set_option maxHeartbeats 1000000 in
theorem skip_obj (F : Interp) (B : Nat) (E : World → Prop) (hSE : SErr B E) (hEF : ∀ w, E w → F.answers w.tape) (hQ : QuotedOK B E) (b : Nat) (s : ByteArray) (hb : B ≤ b) (hs : s.size ≤ 1048576) (n q d : Nat) (w : World) (ih : SkipOK E b s n) (hn : s.size - q ≤ n + 1) (hdd : d ≤ 10000) (hr : Rd b s q d w) (hE : E w) (t : List UInt8) (HT : Hid (J.ws (s.data.toList.drop q) = 123 :: t)) :
    Calls Tryf.prog 17 #[.pointer (some ⟨b, 0, none⟩)] w fun e w' => Out b s d w (J.R 0 d (s.data.toList.drop q)) e w' := by
  go_enter Tryf.func17, Tryf.ntmps17
  go_wp2_with fail
  have hlt0 := hr.lt
  refine (peek_any b s q d _ (hr.alloc _) hs).mono ?_
  rintro e w1 ⟨rfl, hr1, hf1⟩
  have hsz := hf1.size
  have hbx : w1.cell? ⟨w.heap.size, 0, none⟩ = some (.pointer (some ⟨b, 0, none⟩)) := by
    rw [hf1.cell (p := ⟨w.heap.size, 0, none⟩) (by simp) (by simp; omega)]; go_simp
  have hbl : w.heap.size < w1.heap.size := by simp at hsz; omega
  have hf0 : Fr b w w1 := ((Fr.refl b w).alloc _).trans hf1
  have hE1 := hSE.keep hb hE hf0
  clear hf1 hsz
  obtain ⟨hlt, _, hd1⟩ := drop_inv ((wsN_drop s q).trans HT.out)
  have HD1 : Hid (s.data.toList.drop (wsN s q + 1) = t) := hd1
  clear hd1
  have hge := wsN_ge s q
  have hc : hd (J.ws (s.data.toList.drop q)) = 123 := by rw [HT.out]; rfl
  rw [hc]
  clear hc
  go_wp2_with fail
  refine (members_any F B E hSE hEF hQ b w.heap.size s hb hs n (wsN s q) d w1 ih (by omega) hlt hdd hr1 hE1 hbx (by omega) hbl).mono ?_
  intro e w2 ho
  have HO : Hid (J.R 0 d (s.data.toList.drop q) = seqR 1 d (s.data.toList.drop (wsN s q + 1))) := by rw [HD1.out]; exact R_obj hdd HT.out
  cases hR : seqR 1 d (s.data.toList.drop (wsN s q + 1)) with
  | none =>
    rw [hR] at ho
    have HR : Hid (seqR 1 d (s.data.toList.drop (wsN s q + 1)) = none) := hR
    clear hR
    obtain ⟨⟨T, v, rfl⟩, h2, h3⟩ := ho
    go_wp2_with fail
    go_ret
    exact Out_none (HO.out.trans HR.out) ⟨T, v, rfl⟩ h2 (hf0.trans h3)
  | some l =>
    rw [hR] at ho
    have HR : Hid (seqR 1 d (s.data.toList.drop (wsN s q + 1)) = some l) := hR
    clear hR
    obtain ⟨rfl, h2, h3⟩ := ho
    go_wp2_with fail
    go_ret
    exact Out_some (HO.out.trans HR.out) rfl h2 (hf0.trans h3)

set_option maxHeartbeats 1000000 in
theorem skip_arr (F : Interp) (B : Nat) (E : World → Prop) (hSE : SErr B E) (hEF : ∀ w, E w → F.answers w.tape) (hQ : QuotedOK B E) (b : Nat) (s : ByteArray) (hb : B ≤ b) (hs : s.size ≤ 1048576) (n q d : Nat) (w : World) (ih : SkipOK E b s n) (hn : s.size - q ≤ n + 1) (hdd : d ≤ 10000) (hr : Rd b s q d w) (hE : E w) (t : List UInt8) (HT : Hid (J.ws (s.data.toList.drop q) = 91 :: t)) :
    Calls Tryf.prog 17 #[.pointer (some ⟨b, 0, none⟩)] w fun e w' => Out b s d w (J.R 0 d (s.data.toList.drop q)) e w' := by
  go_enter Tryf.func17, Tryf.ntmps17
  go_wp2_with fail
  have hlt0 := hr.lt
  refine (peek_any b s q d _ (hr.alloc _) hs).mono ?_
  rintro e w1 ⟨rfl, hr1, hf1⟩
  have hsz := hf1.size
  have hbx : w1.cell? ⟨w.heap.size, 0, none⟩ = some (.pointer (some ⟨b, 0, none⟩)) := by
    rw [hf1.cell (p := ⟨w.heap.size, 0, none⟩) (by simp) (by simp; omega)]; go_simp
  have hbl : w.heap.size < w1.heap.size := by simp at hsz; omega
  have hf0 : Fr b w w1 := ((Fr.refl b w).alloc _).trans hf1
  have hE1 := hSE.keep hb hE hf0
  clear hf1 hsz
  obtain ⟨hlt, _, hd1⟩ := drop_inv ((wsN_drop s q).trans HT.out)
  have HD1 : Hid (s.data.toList.drop (wsN s q + 1) = t) := hd1
  clear hd1
  have hge := wsN_ge s q
  have hc : hd (J.ws (s.data.toList.drop q)) = 91 := by rw [HT.out]; rfl
  rw [hc]
  clear hc
  go_wp2_with fail
  refine (elements_any F B E hSE hEF b s hb hs n (wsN s q) d w1 ih (by omega) hlt hdd hr1 hE1).mono ?_
  intro e w2 ho
  have HO : Hid (J.R 0 d (s.data.toList.drop q) = seqR 0 d (s.data.toList.drop (wsN s q + 1))) := by rw [HD1.out]; exact R_arr hdd HT.out
  cases hR : seqR 0 d (s.data.toList.drop (wsN s q + 1)) with
  | none =>
    rw [hR] at ho
    have HR : Hid (seqR 0 d (s.data.toList.drop (wsN s q + 1)) = none) := hR
    clear hR
    obtain ⟨⟨T, v, rfl⟩, h2, h3⟩ := ho
    go_wp2_with fail
    go_ret
    exact Out_none (HO.out.trans HR.out) ⟨T, v, rfl⟩ h2 (hf0.trans h3)
  | some l =>
    rw [hR] at ho
    have HR : Hid (seqR 0 d (s.data.toList.drop (wsN s q + 1)) = some l) := hR
    clear hR
    obtain ⟨rfl, h2, h3⟩ := ho
    go_wp2_with fail
    go_ret
    exact Out_some (HO.out.trans HR.out) rfl h2 (hf0.trans h3)

set_option maxHeartbeats 1000000 in
theorem skip_str (F : Interp) (B : Nat) (E : World → Prop) (hSE : SErr B E) (hEF : ∀ w, E w → F.answers w.tape) (hQ : QuotedOK B E) (b : Nat) (s : ByteArray) (hb : B ≤ b) (hs : s.size ≤ 1048576) (n q d : Nat) (w : World) (ih : SkipOK E b s n) (hn : s.size - q ≤ n + 1) (hdd : d ≤ 10000) (hr : Rd b s q d w) (hE : E w) (t : List UInt8) (HT : Hid (J.ws (s.data.toList.drop q) = 34 :: t)) :
    Calls Tryf.prog 17 #[.pointer (some ⟨b, 0, none⟩)] w fun e w' => Out b s d w (J.R 0 d (s.data.toList.drop q)) e w' := by
  go_enter Tryf.func17, Tryf.ntmps17
  go_wp2_with fail
  have hlt0 := hr.lt
  refine (peek_any b s q d _ (hr.alloc _) hs).mono ?_
  rintro e w1 ⟨rfl, hr1, hf1⟩
  have hsz := hf1.size
  have hbx : w1.cell? ⟨w.heap.size, 0, none⟩ = some (.pointer (some ⟨b, 0, none⟩)) := by
    rw [hf1.cell (p := ⟨w.heap.size, 0, none⟩) (by simp) (by simp; omega)]; go_simp
  have hbl : w.heap.size < w1.heap.size := by simp at hsz; omega
  have hf0 : Fr b w w1 := ((Fr.refl b w).alloc _).trans hf1
  have hE1 := hSE.keep hb hE hf0
  clear hf1 hsz
  obtain ⟨hlt, _, hd1⟩ := drop_inv ((wsN_drop s q).trans HT.out)
  have HD1 : Hid (s.data.toList.drop (wsN s q + 1) = t) := hd1
  clear hd1
  have hge := wsN_ge s q
  have hc : hd (J.ws (s.data.toList.drop q)) = 34 := by rw [HT.out]; rfl
  rw [hc]
  clear hc
  go_wp2_with fail
  refine (hQ b s (wsN s q) d w1 hr1 hs hlt hb hE1).mono ?_
  intro e w2 ho
  have HO : Hid (J.R 0 d (s.data.toList.drop q) = J.str (s.data.toList.drop (wsN s q + 1))) := by rw [HD1.out]; exact (R_scalar hdd HT.out rfl rfl).trans rfl
  cases hR : J.str (s.data.toList.drop (wsN s q + 1)) with
  | none =>
    rw [hR] at ho
    have HR : Hid (J.str (s.data.toList.drop (wsN s q + 1)) = none) := hR
    clear hR
    obtain ⟨⟨x, T, v, rfl⟩, h2, h3⟩ := ho
    go_wp2_with fail
    go_ret
    exact Out_none (HO.out.trans HR.out) ⟨T, v, rfl⟩ h2 (hf0.trans h3)
  | some l =>
    rw [hR] at ho
    have HR : Hid (J.str (s.data.toList.drop (wsN s q + 1)) = some l) := hR
    clear hR
    obtain ⟨⟨x, rfl⟩, h2, h3⟩ := ho
    go_wp2_with fail
    go_ret
    exact Out_some (HO.out.trans HR.out) rfl h2 (hf0.trans h3)

set_option maxHeartbeats 1000000 in
theorem skip_true (F : Interp) (B : Nat) (E : World → Prop) (hSE : SErr B E) (hEF : ∀ w, E w → F.answers w.tape) (hQ : QuotedOK B E) (b : Nat) (s : ByteArray) (hb : B ≤ b) (hs : s.size ≤ 1048576) (n q d : Nat) (w : World) (ih : SkipOK E b s n) (hn : s.size - q ≤ n + 1) (hdd : d ≤ 10000) (hr : Rd b s q d w) (hE : E w) (t : List UInt8) (HT : Hid (J.ws (s.data.toList.drop q) = 116 :: t)) :
    Calls Tryf.prog 17 #[.pointer (some ⟨b, 0, none⟩)] w fun e w' => Out b s d w (J.R 0 d (s.data.toList.drop q)) e w' := by
  go_enter Tryf.func17, Tryf.ntmps17
  go_wp2_with fail
  have hlt0 := hr.lt
  refine (peek_any b s q d _ (hr.alloc _) hs).mono ?_
  rintro e w1 ⟨rfl, hr1, hf1⟩
  have hsz := hf1.size
  have hbx : w1.cell? ⟨w.heap.size, 0, none⟩ = some (.pointer (some ⟨b, 0, none⟩)) := by
    rw [hf1.cell (p := ⟨w.heap.size, 0, none⟩) (by simp) (by simp; omega)]; go_simp
  have hbl : w.heap.size < w1.heap.size := by simp at hsz; omega
  have hf0 : Fr b w w1 := ((Fr.refl b w).alloc _).trans hf1
  have hE1 := hSE.keep hb hE hf0
  clear hf1 hsz
  obtain ⟨hlt, _, hd1⟩ := drop_inv ((wsN_drop s q).trans HT.out)
  have HD1 : Hid (s.data.toList.drop (wsN s q + 1) = t) := hd1
  clear hd1
  have hge := wsN_ge s q
  have hc : hd (J.ws (s.data.toList.drop q)) = 116 := by rw [HT.out]; rfl
  rw [hc]
  clear hc
  go_wp2_with fail
  refine (literal_any B E hSE b s ⟨#[116, 114, 117, 101]⟩ (wsN s q) d w1 hr1 hs (by omega) (by decide) hb hE1).mono ?_
  intro e w2 ho
  have HO : Hid (J.R 0 d (s.data.toList.drop q) = J.word [116, 114, 117, 101] (s.data.toList.drop (wsN s q))) := by rw [wsN_drop, HT.out]; exact (R_scalar hdd HT.out rfl rfl).trans rfl
  cases hR : J.word [116, 114, 117, 101] (s.data.toList.drop (wsN s q)) with
  | none =>
    rw [hR] at ho
    have HR : Hid (J.word [116, 114, 117, 101] (s.data.toList.drop (wsN s q)) = none) := hR
    clear hR
    obtain ⟨⟨T, v, rfl⟩, h2, h3⟩ := ho
    go_wp2_with fail
    go_ret
    exact Out_none (HO.out.trans HR.out) ⟨T, v, rfl⟩ h2 (hf0.trans h3)
  | some l =>
    rw [hR] at ho
    have HR : Hid (J.word [116, 114, 117, 101] (s.data.toList.drop (wsN s q)) = some l) := hR
    clear hR
    obtain ⟨rfl, h2, h3⟩ := ho
    go_wp2_with fail
    go_ret
    exact Out_some (HO.out.trans HR.out) rfl h2 (hf0.trans h3)

set_option maxHeartbeats 1000000 in
theorem skip_false (F : Interp) (B : Nat) (E : World → Prop) (hSE : SErr B E) (hEF : ∀ w, E w → F.answers w.tape) (hQ : QuotedOK B E) (b : Nat) (s : ByteArray) (hb : B ≤ b) (hs : s.size ≤ 1048576) (n q d : Nat) (w : World) (ih : SkipOK E b s n) (hn : s.size - q ≤ n + 1) (hdd : d ≤ 10000) (hr : Rd b s q d w) (hE : E w) (t : List UInt8) (HT : Hid (J.ws (s.data.toList.drop q) = 102 :: t)) :
    Calls Tryf.prog 17 #[.pointer (some ⟨b, 0, none⟩)] w fun e w' => Out b s d w (J.R 0 d (s.data.toList.drop q)) e w' := by
  go_enter Tryf.func17, Tryf.ntmps17
  go_wp2_with fail
  have hlt0 := hr.lt
  refine (peek_any b s q d _ (hr.alloc _) hs).mono ?_
  rintro e w1 ⟨rfl, hr1, hf1⟩
  have hsz := hf1.size
  have hbx : w1.cell? ⟨w.heap.size, 0, none⟩ = some (.pointer (some ⟨b, 0, none⟩)) := by
    rw [hf1.cell (p := ⟨w.heap.size, 0, none⟩) (by simp) (by simp; omega)]; go_simp
  have hbl : w.heap.size < w1.heap.size := by simp at hsz; omega
  have hf0 : Fr b w w1 := ((Fr.refl b w).alloc _).trans hf1
  have hE1 := hSE.keep hb hE hf0
  clear hf1 hsz
  obtain ⟨hlt, _, hd1⟩ := drop_inv ((wsN_drop s q).trans HT.out)
  have HD1 : Hid (s.data.toList.drop (wsN s q + 1) = t) := hd1
  clear hd1
  have hge := wsN_ge s q
  have hc : hd (J.ws (s.data.toList.drop q)) = 102 := by rw [HT.out]; rfl
  rw [hc]
  clear hc
  go_wp2_with fail
  refine (literal_any B E hSE b s ⟨#[102, 97, 108, 115, 101]⟩ (wsN s q) d w1 hr1 hs (by omega) (by decide) hb hE1).mono ?_
  intro e w2 ho
  have HO : Hid (J.R 0 d (s.data.toList.drop q) = J.word [102, 97, 108, 115, 101] (s.data.toList.drop (wsN s q))) := by rw [wsN_drop, HT.out]; exact (R_scalar hdd HT.out rfl rfl).trans rfl
  cases hR : J.word [102, 97, 108, 115, 101] (s.data.toList.drop (wsN s q)) with
  | none =>
    rw [hR] at ho
    have HR : Hid (J.word [102, 97, 108, 115, 101] (s.data.toList.drop (wsN s q)) = none) := hR
    clear hR
    obtain ⟨⟨T, v, rfl⟩, h2, h3⟩ := ho
    go_wp2_with fail
    go_ret
    exact Out_none (HO.out.trans HR.out) ⟨T, v, rfl⟩ h2 (hf0.trans h3)
  | some l =>
    rw [hR] at ho
    have HR : Hid (J.word [102, 97, 108, 115, 101] (s.data.toList.drop (wsN s q)) = some l) := hR
    clear hR
    obtain ⟨rfl, h2, h3⟩ := ho
    go_wp2_with fail
    go_ret
    exact Out_some (HO.out.trans HR.out) rfl h2 (hf0.trans h3)

set_option maxHeartbeats 1000000 in
theorem skip_null (F : Interp) (B : Nat) (E : World → Prop) (hSE : SErr B E) (hEF : ∀ w, E w → F.answers w.tape) (hQ : QuotedOK B E) (b : Nat) (s : ByteArray) (hb : B ≤ b) (hs : s.size ≤ 1048576) (n q d : Nat) (w : World) (ih : SkipOK E b s n) (hn : s.size - q ≤ n + 1) (hdd : d ≤ 10000) (hr : Rd b s q d w) (hE : E w) (t : List UInt8) (HT : Hid (J.ws (s.data.toList.drop q) = 110 :: t)) :
    Calls Tryf.prog 17 #[.pointer (some ⟨b, 0, none⟩)] w fun e w' => Out b s d w (J.R 0 d (s.data.toList.drop q)) e w' := by
  go_enter Tryf.func17, Tryf.ntmps17
  go_wp2_with fail
  have hlt0 := hr.lt
  refine (peek_any b s q d _ (hr.alloc _) hs).mono ?_
  rintro e w1 ⟨rfl, hr1, hf1⟩
  have hsz := hf1.size
  have hbx : w1.cell? ⟨w.heap.size, 0, none⟩ = some (.pointer (some ⟨b, 0, none⟩)) := by
    rw [hf1.cell (p := ⟨w.heap.size, 0, none⟩) (by simp) (by simp; omega)]; go_simp
  have hbl : w.heap.size < w1.heap.size := by simp at hsz; omega
  have hf0 : Fr b w w1 := ((Fr.refl b w).alloc _).trans hf1
  have hE1 := hSE.keep hb hE hf0
  clear hf1 hsz
  obtain ⟨hlt, _, hd1⟩ := drop_inv ((wsN_drop s q).trans HT.out)
  have HD1 : Hid (s.data.toList.drop (wsN s q + 1) = t) := hd1
  clear hd1
  have hge := wsN_ge s q
  have hc : hd (J.ws (s.data.toList.drop q)) = 110 := by rw [HT.out]; rfl
  rw [hc]
  clear hc
  go_wp2_with fail
  refine (literal_any B E hSE b s ⟨#[110, 117, 108, 108]⟩ (wsN s q) d w1 hr1 hs (by omega) (by decide) hb hE1).mono ?_
  intro e w2 ho
  have HO : Hid (J.R 0 d (s.data.toList.drop q) = J.word [110, 117, 108, 108] (s.data.toList.drop (wsN s q))) := by rw [wsN_drop, HT.out]; exact (R_scalar hdd HT.out rfl rfl).trans rfl
  cases hR : J.word [110, 117, 108, 108] (s.data.toList.drop (wsN s q)) with
  | none =>
    rw [hR] at ho
    have HR : Hid (J.word [110, 117, 108, 108] (s.data.toList.drop (wsN s q)) = none) := hR
    clear hR
    obtain ⟨⟨T, v, rfl⟩, h2, h3⟩ := ho
    go_wp2_with fail
    go_ret
    exact Out_none (HO.out.trans HR.out) ⟨T, v, rfl⟩ h2 (hf0.trans h3)
  | some l =>
    rw [hR] at ho
    have HR : Hid (J.word [110, 117, 108, 108] (s.data.toList.drop (wsN s q)) = some l) := hR
    clear hR
    obtain ⟨rfl, h2, h3⟩ := ho
    go_wp2_with fail
    go_ret
    exact Out_some (HO.out.trans HR.out) rfl h2 (hf0.trans h3)

set_option maxHeartbeats 1000000 in
theorem skip_num (F : Interp) (B : Nat) (E : World → Prop) (hSE : SErr B E) (hEF : ∀ w, E w → F.answers w.tape) (hQ : QuotedOK B E) (b : Nat) (s : ByteArray) (hb : B ≤ b) (hs : s.size ≤ 1048576) (n q d : Nat) (w : World) (ih : SkipOK E b s n) (hn : s.size - q ≤ n + 1) (hdd : d ≤ 10000) (hr : Rd b s q d w) (hE : E w) (x : UInt8) (t : List UInt8) (HT : Hid (J.ws (s.data.toList.drop q) = x :: t)) (hx : Hid ((x == 45 || J.isDig x) = true)) :
    Calls Tryf.prog 17 #[.pointer (some ⟨b, 0, none⟩)] w fun e w' => Out b s d w (J.R 0 d (s.data.toList.drop q)) e w' := by
  go_enter Tryf.func17, Tryf.ntmps17
  go_wp2_with fail
  have hlt0 := hr.lt
  refine (peek_any b s q d _ (hr.alloc _) hs).mono ?_
  rintro e w1 ⟨rfl, hr1, hf1⟩
  have hsz := hf1.size
  have hbx : w1.cell? ⟨w.heap.size, 0, none⟩ = some (.pointer (some ⟨b, 0, none⟩)) := by
    rw [hf1.cell (p := ⟨w.heap.size, 0, none⟩) (by simp) (by simp; omega)]; go_simp
  have hbl : w.heap.size < w1.heap.size := by simp at hsz; omega
  have hf0 : Fr b w w1 := ((Fr.refl b w).alloc _).trans hf1
  have hE1 := hSE.keep hb hE hf0
  clear hf1 hsz
  obtain ⟨hlt, _, hd1⟩ := drop_inv ((wsN_drop s q).trans HT.out)
  clear hd1
  have hxx : (x.toNat : Int) = 45 ∨ (48 ≤ (x.toNat : Int) ∧ (x.toNat : Int) ≤ 57) := by
    rcases Bool.or_eq_true_iff.1 hx.out with h | h
    · left; have : x = 45 := by simpa using h
      rw [this]; rfl
    · right; unfold J.isDig at h; simp at h; omega
  obtain ⟨c, hc⟩ : ∃ c, c = (x.toNat : Int) := ⟨_, rfl⟩
  have hc2 : hd (J.ws (s.data.toList.drop q)) = c := by rw [HT.out]; exact hc.symm
  rw [hc2]
  have HC2 : Hid (hd (J.ws (s.data.toList.drop (wsN s q))) = c) := by unfold Hid; rw [ws_wsN]; exact hc2
  rw [← hc] at hxx
  clear hc hc2
  have e1 : (c == 123) = false := by simp; omega
  have e2 : (c == 91) = false := by simp; omega
  have e3 : (c == 34) = false := by simp; omega
  have e4 : (c == 116) = false := by simp; omega
  have e5 : (c == 102) = false := by simp; omega
  have e6 : (c == 110) = false := by simp; omega
  go_wp2_with fail
  refine (kind_num b s (wsN s q) d w1 hr1 hs c HC2 hxx).mono ?_
  rintro e w2 ⟨rfl, hr2, hf2⟩
  rw [wsN_wsN] at hr2
  have hE2 := hSE.keep hb hE1 hf2
  have hbx2 : w2.cell? ⟨w.heap.size, 0, none⟩ = some (.pointer (some ⟨b, 0, none⟩)) := by
    rw [hf2.cell (p := ⟨w.heap.size, 0, none⟩) hbl (by simp; omega)]; exact hbx
  have hf0' := hf0.trans hf2
  clear hf0
  have hf0 := hf0'
  clear hf0'
  have hfst : Hid (isNext 45 (s.data.toList.drop (wsN s q)) = true ∨ digB (s.data.toList.drop (wsN s q)) = true) := by
    unfold Hid
    rw [wsN_drop, HT.out]
    rcases Bool.or_eq_true_iff.1 hx.out with h | h
    · left; have : x = 45 := by simpa using h
      rw [this]; rfl
    · right; exact h
  go_wp2_with fail
  refine (number_any B E hSE b s (wsN s q) d w2 hr2 hs (by omega) hb hE2 hfst).mono ?_
  intro e w3 ho
  have HO : Hid (J.R 0 d (s.data.toList.drop q) = J.num (s.data.toList.drop (wsN s q))) := by rw [wsN_drop, HT.out]; exact R_num hdd HT.out hx.out
  cases hR : J.num (s.data.toList.drop (wsN s q)) with
  | none =>
    rw [hR] at ho
    have HR : Hid (J.num (s.data.toList.drop (wsN s q)) = none) := hR
    clear hR
    obtain ⟨⟨x, T, v, rfl⟩, h2, h3⟩ := ho
    go_wp2_with fail
    go_ret
    exact Out_none (HO.out.trans HR.out) ⟨T, v, rfl⟩ h2 (hf0.trans h3)
  | some l =>
    rw [hR] at ho
    have HR : Hid (J.num (s.data.toList.drop (wsN s q)) = some l) := hR
    clear hR
    obtain ⟨⟨x, rfl⟩, h2, h3⟩ := ho
    go_wp2_with fail
    go_ret
    exact Out_some (HO.out.trans HR.out) rfl h2 (hf0.trans h3)

set_option maxHeartbeats 1000000 in
theorem skip_bad (F : Interp) (B : Nat) (E : World → Prop) (hSE : SErr B E) (hEF : ∀ w, E w → F.answers w.tape) (hQ : QuotedOK B E) (b : Nat) (s : ByteArray) (hb : B ≤ b) (hs : s.size ≤ 1048576) (q d : Nat) (w : World) (hdd : d ≤ 10000) (hr : Rd b s q d w) (hE : E w) (c : Int) (HC : Hid (hd (J.ws (s.data.toList.drop q)) = c)) (h1 : (c == 34) = false) (h2 : (c == 123) = false) (h3 : (c == 91) = false) (h4 : (c == 116) = false) (h5 : (c == 102) = false) (h6 : (c == 110) = false) (h7 : (c == 45) = false) (h8 : c < 48 ∨ 57 < c) :
    Calls Tryf.prog 17 #[.pointer (some ⟨b, 0, none⟩)] w fun e w' => Out b s d w (J.R 0 d (s.data.toList.drop q)) e w' := by
  go_enter Tryf.func17, Tryf.ntmps17
  go_wp2_with fail
  have hlt0 := hr.lt
  refine (peek_any b s q d _ (hr.alloc _) hs).mono ?_
  rintro e w1 ⟨rfl, hr1, hf1⟩
  have hsz := hf1.size
  have hbx : w1.cell? ⟨w.heap.size, 0, none⟩ = some (.pointer (some ⟨b, 0, none⟩)) := by
    rw [hf1.cell (p := ⟨w.heap.size, 0, none⟩) (by simp) (by simp; omega)]; go_simp
  have hbl : w.heap.size < w1.heap.size := by simp at hsz; omega
  have hf0 : Fr b w w1 := ((Fr.refl b w).alloc _).trans hf1
  have hE1 := hSE.keep hb hE hf0
  clear hf1 hsz
  rw [HC.out]
  have HC2 : Hid (hd (J.ws (s.data.toList.drop (wsN s q))) = c) := by unfold Hid; rw [ws_wsN]; exact HC.out
  have H8 : Hid (c < 48 ∨ 57 < c) := h8
  go_wp2_with fail
  refine (kind_none b s (wsN s q) d w1 hr1 hs c HC2 h1 h2 h3 h4 h5 h6 h7 H8.out).mono ?_
  rintro e w2 ⟨rfl, hr2, hf2⟩
  have hE2 := hSE.keep hb hE1 hf2
  have hbx2 : w2.cell? ⟨w.heap.size, 0, none⟩ = some (.pointer (some ⟨b, 0, none⟩)) := by
    rw [hf2.cell (p := ⟨w.heap.size, 0, none⟩) hbl (by simp; omega)]; exact hbx
  go_wp2_with fail
  refine (hSE.call _ hr2 hs hE2).mono ?_
  rintro e w3 ⟨⟨T, v, rfl⟩, hr3, hf3⟩
  go_wp2_with fail
  go_ret
  exact Out_none (R_bad hdd HC.out.symm h1 h2 h3 h4 h5 h6 h7 H8.out) ⟨T, v, rfl⟩ ⟨_, _, hr3⟩ (hf0.trans (hf2.trans hf3))

theorem skip_nothing (F : Interp) (B : Nat) (E : World → Prop) (hSE : SErr B E) (hEF : ∀ w, E w → F.answers w.tape) (hQ : QuotedOK B E) (b : Nat) (s : ByteArray) (hb : B ≤ b) (hs : s.size ≤ 1048576) (q d : Nat) (w : World) (hdd : d ≤ 10000) (hr : Rd b s q d w) (hE : E w) (hw : J.ws (s.data.toList.drop q) = []) :
    Calls Tryf.prog 17 #[.pointer (some ⟨b, 0, none⟩)] w fun e w' => Out b s d w (J.R 0 d (s.data.toList.drop q)) e w' := by
  exact skip_bad F B E hSE hEF hQ b s hb hs q d w hdd hr hE 0 (by show hd _ = 0; rw [hw]; rfl) rfl rfl rfl rfl rfl rfl rfl (by omega)

theorem skip_step (F : Interp) (B : Nat) (E : World → Prop) (hSE : SErr B E) (hEF : ∀ w, E w → F.answers w.tape) (hQ : QuotedOK B E) (b : Nat) (s : ByteArray) (hb : B ≤ b) (hs : s.size ≤ 1048576) (n q d : Nat) (w : World) (ih : SkipOK E b s n) (hn : s.size - q ≤ n + 1) (hdd : d ≤ 10000) (hr : Rd b s q d w) (hE : E w) :
    Calls Tryf.prog 17 #[.pointer (some ⟨b, 0, none⟩)] w fun e w' => Out b s d w (J.R 0 d (s.data.toList.drop q)) e w' := by
  obtain ⟨c, hc⟩ : ∃ c, c = hd (J.ws (s.data.toList.drop q)) := ⟨_, rfl⟩
  have key : ∀ m : Nat, m < 256 → m ≠ 0 → c = (m : Int) → ∃ t, J.ws (s.data.toList.drop q) = UInt8.ofNat m :: t := by
    intro m hm h0 e
    exact hd_is hm h0 (by rw [← hc, e]; simp)
  by_cases h123 : c = 123
  · obtain ⟨t, ht⟩ := key 123 (by omega) (by omega) h123
    exact skip_obj F B E hSE hEF hQ b s hb hs n q d w ih hn hdd hr hE t ht
  by_cases h91 : c = 91
  · obtain ⟨t, ht⟩ := key 91 (by omega) (by omega) h91
    exact skip_arr F B E hSE hEF hQ b s hb hs n q d w ih hn hdd hr hE t ht
  by_cases h34 : c = 34
  · obtain ⟨t, ht⟩ := key 34 (by omega) (by omega) h34
    exact skip_str F B E hSE hEF hQ b s hb hs n q d w ih hn hdd hr hE t ht
  by_cases h116 : c = 116
  · obtain ⟨t, ht⟩ := key 116 (by omega) (by omega) h116
    exact skip_true F B E hSE hEF hQ b s hb hs n q d w ih hn hdd hr hE t ht
  by_cases h102 : c = 102
  · obtain ⟨t, ht⟩ := key 102 (by omega) (by omega) h102
    exact skip_false F B E hSE hEF hQ b s hb hs n q d w ih hn hdd hr hE t ht
  by_cases h110 : c = 110
  · obtain ⟨t, ht⟩ := key 110 (by omega) (by omega) h110
    exact skip_null F B E hSE hEF hQ b s hb hs n q d w ih hn hdd hr hE t ht
  by_cases hnum : c = 45 ∨ (48 ≤ c ∧ c ≤ 57)
  · obtain ⟨x, t, hx, hxc⟩ := hd_cons hc (by omega)
    refine skip_num F B E hSE hEF hQ b s hb hs n q d w ih hn hdd hr hE x t hx ?_
    show (x == 45 || J.isDig x) = true
    rw [Bool.or_eq_true_iff]
    rcases hnum with h | h
    · left; rw [show (x == 45) = _ from u8_int x 45 (by omega)]; simp; omega
    · right; unfold J.isDig; simp; omega
  · exact skip_bad F B E hSE hEF hQ b s hb hs q d w hdd hr hE c hc.symm (by simpa using h34) (by simpa using h123) (by simpa using h91) (by simpa using h116) (by simpa using h102) (by simpa using h110) (by simp; omega) (by omega)

theorem skip_all (F : Interp) (B : Nat) (E : World → Prop) (hSE : SErr B E) (hEF : ∀ w, E w → F.answers w.tape) (hQ : QuotedOK B E) (b : Nat) (s : ByteArray) (hb : B ≤ b) (hs : s.size ≤ 1048576) (n : Nat) : SkipOK E b s n := by
  induction n with
  | zero =>
    intro q d w hn hdd hr hE
    have hw : J.ws (s.data.toList.drop q) = [] := by rw [drop_none s q (by omega)]; rfl
    exact skip_nothing F B E hSE hEF hQ b s hb hs q d w hdd hr hE hw
  | succ n ih =>
    intro q d w hn hdd hr hE
    exact skip_step F B E hSE hEF hQ b s hb hs n q d w ih hn hdd hr hE

end Go.Proofs.Qxb6616712aFmt
