/- The walks of digits, kind, literal, number, over the contract of syntaxError. -/
import Derived.Test.Qxb6616712aFmtW2
import Derived.Deep.DeepCutAuto
import Derived.Deep.CutBlock
set_option linter.unusedVariables false
set_option linter.unusedSimpArgs false
set_option linter.unnecessarySimpa false
namespace Go.Proofs.Qxb6616712aFmt
open Go.RowKit

/-- What syntaxError's contract asks of the world: an environment that later worlds keep. -/
def SErr (B : Nat) (E : World → Prop) : Prop :=
  (∀ b w w', B ≤ b → E w → Fr b w w' → E w') ∧
  ∀ (b : Nat) (s x : ByteArray) (p : Nat) (d : Int) (w : World), Rd b s p d w → s.size ≤ 1048576 → E w →
    Calls Tryf.prog 29 #[.pointer (some ⟨b, 0, none⟩), .string x] w fun e w' => (∃ T v, e = .returned (.iface T v)) ∧ Below w.heap.size w w'

theorem SErr.keep {B : Nat} {E : World → Prop} (h : SErr B E) {b : Nat} {w w' : World} (hb : B ≤ b) (he : E w) (hf : Fr b w w') : E w' := h.1 b w w' hb he hf

theorem SErr.call {B : Nat} {E : World → Prop} (h : SErr B E) {b : Nat} {s : ByteArray} {p : Nat} {d : Int} {w : World} (x : ByteArray) (hr : Rd b s p d w) (hs : s.size ≤ 1048576) (he : E w) :
    Calls Tryf.prog 29 #[.pointer (some ⟨b, 0, none⟩), .string x] w fun e w' => (∃ T v, e = .returned (.iface T v)) ∧ Rd b s p d w' ∧ Fr b w w' :=
  (h.2 b s x p d w hr hs he).mono fun _ _ ⟨h1, h2⟩ => ⟨h1, hr.below h2, Fr.below h2⟩

set_option maxHeartbeats 400000 in
theorem digits_any (b : Nat) (s : ByteArray) (p : Nat) (d : Int) (w : World) (hr : Rd b s p d w) (hs : s.size ≤ 1048576) (hp : p ≤ s.size) :
    Calls Tryf.prog 46 #[.pointer (some ⟨b, 0, none⟩)] w fun e w' => e = .returned (.tuple #[]) ∧ (∃ q : Nat, q ≤ s.size ∧ s.data.toList.drop q = J.digs (s.data.toList.drop p) ∧ Rd b s q d w') ∧ Fr b w w' := by
  go_enter Tryf.func46, Tryf.ntmps46
  go_wp2_with fail
  go_loopg [] (s.size - p) (fun k wr => ∃ q : Nat, k = s.size - q ∧ q ≤ s.size ∧ Rd b s q d wr ∧ Fr b w wr ∧ Hid (J.digs (s.data.toList.drop q) = J.digs (s.data.toList.drop p)))
  case atStart => exact ⟨p, rfl, hp, hr, Fr.refl _ _, rfl⟩
  case round =>
    obtain ⟨q, hk, hq, hrq, hfq, HQ⟩ := hrel
    have HK : Hid (gk = s.size - q) := hk
    clear hk
    cases hD : digB (s.data.toList.drop q) with
    | true =>
      have HD : Hid (digB (s.data.toList.drop q) = true) := hD
      clear hD
      go_wp2_with fail
      refine (digit_any b s q d _ hrq).mono ?_
      rintro e w1 ⟨rfl, hr1, hf1⟩
      rw [HD.out]
      have c1 := hr1.cell1
      have f1 := hr1.free 1
      have hlt : q < s.size := by
        by_cases h : q < s.size
        · exact h
        · have := HD.out; rw [drop_none s q h] at this; simp [digB] at this
      go_wp2_with fail
      go_roundg (s.size - (q + 1))
      case measure => rw [HK.out]; omega
      case rel =>
        refine ⟨q + 1, rfl, hlt, hr1.set1 _, hfq.trans (hf1.setCell _ _), ?_⟩
        have e1 := HD.out
        rw [drop_cons s q hlt] at e1
        have e2 : J.digs (s.data.toList.drop q) = J.digs (s.data.toList.drop (q + 1)) := by
          rw [drop_cons s q hlt]; unfold J.digs; rw [List.dropWhile_cons, if_pos (by simpa [digB] using e1)]
        exact e2.symm.trans HQ.out
    | false =>
      have HD : Hid (digB (s.data.toList.drop q) = false) := hD
      clear hD
      go_wp2_with fail
      refine (digit_any b s q d _ hrq).mono ?_
      rintro e w1 ⟨rfl, hr1, hf1⟩
      rw [HD.out]
      go_wp2_with fail
      go_end0
      refine ⟨rfl, ⟨q, hq, ?_, hr1⟩, hfq.trans hf1⟩
      have e1 := HD.out
      rw [← HQ.out]
      by_cases h : q < s.size
      · rw [drop_cons s q h] at e1 ⊢
        unfold J.digs; rw [List.dropWhile_cons, if_neg (by simpa [digB] using e1)]
      · rw [drop_none s q h]; rfl

set_option maxHeartbeats 400000 in
theorem kind_num (b : Nat) (s : ByteArray) (p : Nat) (d : Int) (w : World) (hr : Rd b s p d w) (hs : s.size ≤ 1048576) (c : Int) (hc : Hid (hd (J.ws (s.data.toList.drop p)) = c)) (hn : c = 45 ∨ 48 ≤ c ∧ c ≤ 57) :
    Calls Tryf.prog 28 #[.pointer (some ⟨b, 0, none⟩)] w fun e w' => e = .returned (.string ⟨#[97, 32, 110, 117, 109, 98, 101, 114]⟩) ∧ Rd b s (wsN s p) d w' ∧ Fr b w w' := by
  go_enter Tryf.func28, Tryf.ntmps28
  go_wp2_with fail
  refine (peek_any b s p d _ hr hs).mono ?_
  rintro e w1 ⟨rfl, hr1, hf1⟩
  rw [hc.out]
  rcases hn with rfl | ⟨h1, h2⟩
  · go_wp2
    go_ret
    exact ⟨rfl, hr1, hf1⟩
  · have e1 : (c == 45) = false := by simp; omega
    have e2 : (c == 34) = false := by simp; omega
    have e3 : (c == 123) = false := by simp; omega
    have e4 : (c == 91) = false := by simp; omega
    have e5 : (c == 116) = false := by simp; omega
    have e6 : (c == 102) = false := by simp; omega
    have e7 : (c == 110) = false := by simp; omega
    go_wp2
    go_ret
    exact ⟨rfl, hr1, hf1⟩

set_option maxHeartbeats 400000 in
theorem kind_none (b : Nat) (s : ByteArray) (p : Nat) (d : Int) (w : World) (hr : Rd b s p d w) (hs : s.size ≤ 1048576) (c : Int) (hc : Hid (hd (J.ws (s.data.toList.drop p)) = c))
    (h1 : (c == 34) = false) (h2 : (c == 123) = false) (h3 : (c == 91) = false) (h4 : (c == 116) = false) (h5 : (c == 102) = false) (h6 : (c == 110) = false) (h7 : (c == 45) = false) (h8 : c < 48 ∨ 57 < c) :
    Calls Tryf.prog 28 #[.pointer (some ⟨b, 0, none⟩)] w fun e w' => e = .returned (.string ⟨#[]⟩) ∧ Rd b s (wsN s p) d w' ∧ Fr b w w' := by
  go_enter Tryf.func28, Tryf.ntmps28
  go_wp2_with fail
  refine (peek_any b s p d _ hr hs).mono ?_
  rintro e w1 ⟨rfl, hr1, hf1⟩
  rw [hc.out]
  rcases h8 with h8 | h8
  · go_wp2
    go_ret
    exact ⟨rfl, hr1, hf1⟩
  · have e1 : decide (c ≤ 57) = false := by simp; omega
    have e2 : (48 : Int) ≤ c := by omega
    go_wp2
    go_ret
    exact ⟨rfl, hr1, hf1⟩

/-- What a reading comes to: what is left, at the depth as it was; or an error. -/
def Out (b : Nat) (s : ByteArray) (d : Int) (w : World) (r : Option (List UInt8)) (e : Ending) (w' : World) : Prop :=
  match r with
  | some l => e = .returned .nilIface ∧ (∃ q : Nat, q ≤ s.size ∧ s.data.toList.drop q = l ∧ Rd b s q d w') ∧ Fr b w w'
  | none => (∃ T v, e = .returned (.iface T v)) ∧ (∃ q d' : Int, Rd b s q d' w') ∧ Fr b w w'
/-- The same of a reading that hands back a string too. -/
def Out2 (b : Nat) (s : ByteArray) (d : Int) (w : World) (r : Option (List UInt8)) (e : Ending) (w' : World) : Prop :=
  match r with
  | some l => (∃ x, e = .returned (.tuple #[.string x, .nilIface])) ∧ (∃ q : Nat, q ≤ s.size ∧ s.data.toList.drop q = l ∧ Rd b s q d w') ∧ Fr b w w'
  | none => (∃ x T v, e = .returned (.tuple #[.string x, .iface T v])) ∧ (∃ q d' : Int, Rd b s q d' w') ∧ Fr b w w'

theorem word_step (wd L : List UInt8) (p k : Nat) (hk : k < wd.length) (h : L.drop p = wd.take k ++ L.drop (p + k)) (x : UInt8) (t : List UInt8) (hx : L.drop (p + k) = x :: t) :
    (x = wd[k] → L.drop p = wd.take (k + 1) ++ L.drop (p + (k + 1))) ∧ (x ≠ wd[k] → J.word wd (L.drop p) = none) := by
  constructor
  · intro e
    have ht : L.drop (p + (k + 1)) = t := by
      have : L.drop (p + k + 1) = (L.drop (p + k)).drop 1 := by rw [List.drop_drop]
      rw [show p + (k + 1) = p + k + 1 from by omega, this, hx]; rfl
    have e2 := List.take_succ_eq_append_getElem hk
    rw [h, hx, ht, e2, ← e]; simp
  · intro e
    unfold J.word
    rw [if_neg]
    intro hp
    obtain ⟨u, hu⟩ := List.isPrefixOf_iff_prefix.1 hp
    rw [h, hx] at hu
    have h1 : (wd ++ u)[k]? = some wd[k] := by rw [List.getElem?_append_left hk]; exact List.getElem?_eq_getElem hk
    rw [hu, List.getElem?_append_right (by simp; omega)] at h1
    have hmin : min k wd.length = k := by omega
    simp [hmin] at h1
    exact e h1

theorem word_end (wd L : List UInt8) (p k : Nat) (hk : k < wd.length) (h : L.drop p = wd.take k ++ L.drop (p + k)) (hx : L.drop (p + k) = []) : J.word wd (L.drop p) = none := by
  unfold J.word
  rw [if_neg]
  intro hp
  obtain ⟨u, hu⟩ := List.isPrefixOf_iff_prefix.1 hp
  rw [h, hx] at hu
  have := congrArg List.length hu
  simp at this
  omega

theorem word_all (wd L : List UInt8) (p : Nat) (h : L.drop p = wd ++ L.drop (p + wd.length)) : J.word wd (L.drop p) = some (L.drop (p + wd.length)) := by
  unfold J.word
  rw [if_pos (List.isPrefixOf_iff_prefix.2 ⟨_, h.symm⟩), List.drop_drop]

set_option maxHeartbeats 400000 in
theorem literal_any (B : Nat) (E : World → Prop) (hSE : SErr B E) (b : Nat) (s wd : ByteArray) (p : Nat) (d : Int) (w : World) (hr : Rd b s p d w) (hs : s.size ≤ 1048576) (hp : p ≤ s.size) (hwd : wd.size ≤ 100) (hb : B ≤ b) (hE : E w) :
    Calls Tryf.prog 27 #[.pointer (some ⟨b, 0, none⟩), .string wd] w fun e w' => Out b s d w (J.word wd.data.toList (s.data.toList.drop p)) e w' := by
  go_enter Tryf.func27, Tryf.ntmps27
  go_wp2_with fail
  go_loopg [8] wd.size (fun k i wr => ∃ j : Nat, k = wd.size - j ∧ j ≤ wd.size ∧ p + j ≤ s.size ∧ i = .int .i64 j ∧ Rd b s ((p + j : Nat) : Int) d wr ∧ Fr b w wr ∧ Hid (s.data.toList.drop p = wd.data.toList.take j ++ s.data.toList.drop (p + j)))
  case atStart => exact ⟨0, rfl, Nat.zero_le _, hp, rfl, hr, Fr.refl _ _, by simp [Hid]⟩
  case round =>
    obtain ⟨j, hk, hj, hpj, rfl, hrj, hfj, HJ⟩ := hrel
    have HK : Hid (gk = wd.size - j) := hk
    clear hk
    by_cases hlt : j < wd.size
    · have hlen : j < wd.data.toList.length := by simpa using hlt
      have hget : wd.data.toList[j] = wd[j] := by rw [Array.getElem_toList]; rfl
      cases hN : isNext (wd[j].toNat : Int) (s.data.toList.drop (p + j)) with
      | true =>
        have HN : Hid (isNext (wd[j].toNat : Int) (s.data.toList.drop (p + j)) = true) := hN
        clear hN
        have HG : Hid (wd.data.toList[j] = wd[j]) := hget
        clear hget
        go_wp2_with fail
        refine (next_is b s (p + j) d _ _ hrj hs HN.out).mono ?_
        rintro e w1 ⟨rfl, hr1, hf1⟩
        go_wp2_with fail
        go_roundg (wd.size - (j + 1))
        case measure => rw [HK.out]; omega
        case rel =>
          have h1 := HN.out
          have hlt2 : p + j < s.size := by
            by_cases h : p + j < s.size
            · exact h
            · rw [drop_none s _ h] at h1; simp [isNext] at h1
          rw [drop_cons s _ hlt2] at h1
          have h2 : s[p + j] = wd.data.toList[j] := by
            rw [HG.out]
            have : (s[p + j].toNat : Int) = (wd[j].toNat : Int) := by simpa [isNext] using h1
            exact UInt8.toNat_inj.1 (by omega)
          exact ⟨j + 1, rfl, hlt, by omega, by go_num, hr1, hfj.trans hf1, (word_step _ _ p j hlen HJ.out _ _ (drop_cons s _ hlt2)).1 h2⟩
      | false =>
        have HN : Hid (isNext (wd[j].toNat : Int) (s.data.toList.drop (p + j)) = false) := hN
        clear hN
        have HG : Hid (wd.data.toList[j] = wd[j]) := hget
        clear hget
        go_wp2_with fail
        refine (next_isnt b s (p + j) d _ _ hrj HN.out).mono ?_
        rintro e w1 ⟨rfl, hr1, hf1⟩
        go_wp2_with fail
        refine (hSE.call _ hr1 hs (hSE.keep hb hE (hfj.trans hf1))).mono ?_
        rintro e w2 ⟨⟨T, v, rfl⟩, hr2, hf2⟩
        go_wp2_with fail
        go_ret
        have hnone : J.word wd.data.toList (s.data.toList.drop p) = none := by
          have h1 := HN.out
          by_cases hlt2 : p + j < s.size
          · rw [drop_cons s _ hlt2] at h1
            refine (word_step _ _ p j hlen HJ.out _ _ (drop_cons s _ hlt2)).2 ?_
            rw [HG.out]
            intro e
            rw [e] at h1
            simp [isNext] at h1
          · exact word_end _ _ p j hlen HJ.out (drop_none s _ hlt2)
        rw [hnone]
        exact ⟨⟨T, v, rfl⟩, ⟨_, _, hr2⟩, hfj.trans (hf1.trans hf2)⟩
    · go_wp2_with fail
      go_ret
      have hje : j = wd.size := by omega
      subst hje
      have hjl : wd.data.toList.length = wd.size := by simp
      have h1 := HJ.out
      rw [List.take_of_length_le (by omega)] at h1
      have h2 := word_all wd.data.toList s.data.toList p (by rw [hjl]; exact h1)
      rw [h2, hjl]
      exact ⟨rfl, ⟨p + wd.size, hpj, rfl, hrj⟩, hfj⟩

end Go.Proofs.Qxb6616712aFmt
