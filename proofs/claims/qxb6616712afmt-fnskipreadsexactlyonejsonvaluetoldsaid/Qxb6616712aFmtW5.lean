/- The walk of hex4. -/
import Derived.Test.Qxb6616712aFmtW4
set_option linter.unusedVariables false
set_option linter.unusedSimpArgs false
set_option linter.unnecessarySimpa false
namespace Go.Proofs.Qxb6616712aFmt
open Go.RowKit

/-- Four hexadecimal digits. -/
def hex4L (l : List UInt8) : Option (List UInt8) :=
  match l with
  | a :: b :: x :: y :: t2 => if J.isHex a && J.isHex b && J.isHex x && J.isHex y then some t2 else none
  | _ => none

theorem hex4L_take {l : List UInt8} (h : 4 ≤ l.length) (hh : ∀ i (hi : i < l.length), i < 4 → J.isHex l[i] = true) : hex4L l = some (l.drop 4) := by
  match l, h with
  | a :: b :: x :: y :: t, _ =>
    have h0 := hh 0 (by simp) (by omega)
    have h1 := hh 1 (by simp) (by omega)
    have h2 := hh 2 (by simp) (by omega)
    have h3 := hh 3 (by simp) (by omega)
    simp at h0 h1 h2 h3
    simp [hex4L, h0, h1, h2, h3]
theorem hex4L_short {l : List UInt8} (h : l.length < 4) : hex4L l = none := by
  match l, h with
  | [], _ => rfl
  | [_], _ => rfl
  | [_, _], _ => rfl
  | [_, _, _], _ => rfl
  | _ :: _ :: _ :: _ :: _, h => simp at h; omega
theorem hex4L_bad {l : List UInt8} (i : Nat) (hi : i < l.length) (h4 : i < 4) (hh : J.isHex l[i] = false) : hex4L l = none := by
  match l, hi, hh with
  | [], h, _ => rfl
  | [_], _, _ => rfl
  | [_, _], _, _ => rfl
  | [_, _, _], _, _ => rfl
  | a :: b :: x :: y :: t, hi, hh =>
    simp only [hex4L]
    rw [if_neg]
    intro hall
    simp only [Bool.and_eq_true] at hall
    obtain ⟨⟨⟨h0, h1⟩, h2⟩, h3⟩ := hall
    rcases (by omega : i = 0 ∨ i = 1 ∨ i = 2 ∨ i = 3) with e | e | e | e
    · subst e; simp [h0] at hh
    · subst e; simp [h1] at hh
    · subst e; simp [h2] at hh
    · subst e; simp [h3] at hh

/-- The digits so far. -/
def HexTo (s : ByteArray) (p j : Nat) : Prop := ∀ i, i < j → ∃ h : p + i < s.size, J.isHex s[p + i] = true

theorem HexTo.step {s : ByteArray} {p j : Nat} (h : HexTo s p j) (hp : p + j < s.size) (hh : J.isHex s[p + j] = true) : HexTo s p (j + 1) := by
  intro i hi
  by_cases e : i = j
  · subst e; exact ⟨hp, hh⟩
  · exact h i (by omega)

theorem list_get (s : ByteArray) (p i : Nat) (h : p + i < s.size) (hl : i < (s.data.toList.drop p).length) : (s.data.toList.drop p)[i] = s[p + i] := by
  rw [List.getElem_drop, Array.getElem_toList]; rfl
theorem drop_length (s : ByteArray) (p : Nat) : (s.data.toList.drop p).length = s.size - p := by
  rw [List.length_drop, Array.length_toList]; rfl

theorem HexTo.done {s : ByteArray} {p : Nat} (h : HexTo s p 4) (hp : p + 4 ≤ s.size) : hex4L (s.data.toList.drop p) = some (s.data.toList.drop (p + 4)) := by
  have := hex4L_take (l := s.data.toList.drop p) (by rw [drop_length]; omega) (fun i hi h4 => by
    obtain ⟨h1, h2⟩ := h i h4
    rw [list_get s p i h1]; exact h2)
  rw [this, List.drop_drop]
theorem hex4_ends {s : ByteArray} {p : Nat} (hp : s.size < p + 4) : hex4L (s.data.toList.drop p) = none :=
  hex4L_short (by rw [drop_length]; omega)
theorem hex4_bad {s : ByteArray} {p j : Nat} (h4 : j < 4) (hp : p + j < s.size) (hh : J.isHex s[p + j] = false) : hex4L (s.data.toList.drop p) = none :=
  hex4L_bad j (by rw [drop_length]; omega) h4 (by rw [list_get s p j hp]; exact hh)

theorem isHex_dig {c : UInt8} (h1 : (48 : Int) ≤ (c.toNat : Int)) (h2 : (c.toNat : Int) ≤ 57) : J.isHex c = true := by
  unfold J.isHex J.isDig
  have a : decide (48 ≤ c.toNat) = true := by simp; omega
  have b : decide (c.toNat ≤ 57) = true := by simp; omega
  rw [a, b]; rfl
theorem isHex_low {c : UInt8} (h1 : (97 : Int) ≤ (c.toNat : Int)) (h2 : (c.toNat : Int) ≤ 102) : J.isHex c = true := by
  unfold J.isHex
  have a : decide (97 ≤ c.toNat) = true := by simp; omega
  have b : decide (c.toNat ≤ 102) = true := by simp; omega
  rw [a, b]; simp
theorem isHex_up {c : UInt8} (h1 : (65 : Int) ≤ (c.toNat : Int)) (h2 : (c.toNat : Int) ≤ 70) : J.isHex c = true := by
  unfold J.isHex
  have a : decide (65 ≤ c.toNat) = true := by simp; omega
  have b : decide (c.toNat ≤ 70) = true := by simp; omega
  rw [a, b]; simp
theorem isHex_not {c : UInt8} (h1 : (c.toNat : Int) < 48 ∨ (57 : Int) < c.toNat) (h2 : (c.toNat : Int) < 97 ∨ (102 : Int) < c.toNat) (h3 : (c.toNat : Int) < 65 ∨ (70 : Int) < c.toNat) : J.isHex c = false := by
  unfold J.isHex J.isDig
  simp
  omega

theorem wrap_i32 (x : Int) : -2147483648 ≤ IntKind.i32.wrap x ∧ IntKind.i32.wrap x ≤ 2147483647 := by
  constructor <;> simp [IntKind.wrap, IntKind.signed, IntKind.bits] <;> split <;> omega
theorem bits_i32 (op : BinOp) (x y : Int) : -2147483648 ≤ bits op .i32 x y ∧ bits op .i32 x y ≤ 2147483647 := by
  unfold bits
  split <;> exact wrap_i32 _

set_option maxHeartbeats 1000000 in
theorem hex4_any (B : Nat) (E : World → Prop) (hSE : SErr B E) (b : Nat) (s : ByteArray) (p : Nat) (d : Int) (w : World) (hr : Rd b s p d w) (hs : s.size ≤ 1048576) (hp : p < s.size) (hb : B ≤ b) (hE : E w) :
    Calls Tryf.prog 53 #[.pointer (some ⟨b, 0, none⟩)] w fun e w' =>
      (hex4L (s.data.toList.drop (p + 1)) = some (s.data.toList.drop (p + 5)) ∧ p + 5 ≤ s.size ∧ (∃ c : Int, -2147483648 ≤ c ∧ c ≤ 2147483647 ∧ e = .returned (.tuple #[.int .i32 c, .nilIface])) ∧ Rd b s ((p + 5 : Nat) : Int) d w' ∧ Fr b w w') ∨
      (hex4L (s.data.toList.drop (p + 1)) = none ∧ (∃ c T v, e = .returned (.tuple #[.int .i32 c, .iface T v])) ∧ (∃ q : Int, Rd b s q d w') ∧ Fr b w w') := by
  have c1 := hr.cell1
  have f1 := hr.free 1
  go_enter Tryf.func53, Tryf.ntmps53
  go_wp2_with fail
  go_loopg [4, 14] 4 (fun k s4 s14 wr => ∃ j q : Nat, k = 4 - j ∧ Hid (q = p + 1 + j) ∧ j ≤ 4 ∧ q ≤ s.size ∧ s14 = .int .i64 j ∧ (∃ c : Int, -2147483648 ≤ c ∧ c ≤ 2147483647 ∧ s4 = .int .i32 c) ∧ Rd b s q d wr ∧ Fr b w wr ∧ Hid (HexTo s (p + 1) j))
  case atStart => exact ⟨0, p + 1, rfl, rfl, by omega, by omega, rfl, ⟨0, by omega, by omega, rfl⟩, hr.set1 _, (Fr.refl b w).setCell _ _, fun i hi => by omega⟩
  case round =>
    obtain ⟨j, q, hk, HQ, hj, hpj, rfl, ⟨c, hc1, hc2, rfl⟩, hrj, hfj, HJ⟩ := hrel
    have HK : Hid (gk = 4 - j) := hk
    clear hk
    have g0 := hrj.cell0
    have g1 := hrj.cell1
    have gf := hrj.free 1
    by_cases hlt : j < 4
    · by_cases hend : q < s.size
      · have hne : ((q : Int) == (s.size : Int)) = false := by simp; omega
        have hlt' : (q : Int) < (s.size : Int) := by omega
        by_cases hD : (48 : Int) ≤ (s[q].toNat : Int) ∧ (s[q].toNat : Int) ≤ 57
        · obtain ⟨d1, d2⟩ := hD
          have HEX := isHex_dig d1 d2
          go_wp2_with fail
          go_quiet (fail)
          go_wp2_with fail
          go_quiet (fail)
          go_wp2_with fail
          go_roundg (4 - (j + 1))
          case measure => rw [HK.out]; omega
          case rel =>
            have hq := HQ.out
            subst hq
            exact ⟨j + 1, p + 1 + j + 1, rfl, by unfold Hid; omega, by omega, by omega, by go_num, ⟨_, (bits_i32 _ _ _).1, (bits_i32 _ _ _).2, rfl⟩, (hrj.drewN _).set1 _, (hfj.drewN _).setCell _ _, HJ.out.step hend HEX⟩
        · have hD' : (s[q].toNat : Int) < 48 ∨ (57 : Int) < s[q].toNat := by omega
          by_cases hL : (97 : Int) ≤ (s[q].toNat : Int) ∧ (s[q].toNat : Int) ≤ 102
          · obtain ⟨d1, d2⟩ := hL
            have HEX := isHex_low d1 d2
            have z1 : decide ((s[q].toNat : Int) ≤ 57) = false := by simp; omega
            clear hD hD'
            go_wp2_with fail
            go_quiet (fail)
            go_wp2_with fail
            go_quiet (fail)
            go_wp2_with fail
            go_roundg (4 - (j + 1))
            case measure => rw [HK.out]; omega
            case rel =>
              have hq := HQ.out
              subst hq
              exact ⟨j + 1, p + 1 + j + 1, rfl, by unfold Hid; omega, by omega, by omega, by go_num, ⟨_, (bits_i32 _ _ _).1, (bits_i32 _ _ _).2, rfl⟩, (hrj.drewN _).set1 _, (hfj.drewN _).setCell _ _, HJ.out.step hend HEX⟩
          · have hL' : (s[q].toNat : Int) < 97 ∨ (102 : Int) < s[q].toNat := by omega
            by_cases hU : (65 : Int) ≤ (s[q].toNat : Int) ∧ (s[q].toNat : Int) ≤ 70
            · obtain ⟨d1, d2⟩ := hU
              have HEX := isHex_up d1 d2
              have z1 : decide ((s[q].toNat : Int) ≤ 57) = false := by simp; omega
              have z2 : decide ((97 : Int) ≤ (s[q].toNat : Int)) = false := by simp; omega
              clear hD hD' hL hL'
              go_wp2_with fail
              go_quiet (fail)
              go_wp2_with fail
              go_quiet (fail)
              go_wp2_with fail
              go_roundg (4 - (j + 1))
              case measure => rw [HK.out]; omega
              case rel =>
                have hq := HQ.out
                subst hq
                exact ⟨j + 1, p + 1 + j + 1, rfl, by unfold Hid; omega, by omega, by omega, by go_num, ⟨_, (bits_i32 _ _ _).1, (bits_i32 _ _ _).2, rfl⟩, (hrj.drewN _).set1 _, (hfj.drewN _).setCell _ _, HJ.out.step hend HEX⟩
            · have hU' : (s[q].toNat : Int) < 65 ∨ (70 : Int) < s[q].toNat := by omega
              have HEX := isHex_not hD' hL' hU'
              have Z : (s[q].toNat : Int) < 48 ∨ ((57 : Int) < s[q].toNat ∧ (s[q].toNat : Int) < 65) ∨ ((70 : Int) < s[q].toNat ∧ (s[q].toNat : Int) < 97) ∨ (102 : Int) < s[q].toNat := by omega
              clear hD hD' hL hL' hU hU'
              rcases Z with z | ⟨z, z'⟩ | ⟨z, z'⟩ | z
              · go_wp2_with fail
                go_quiet (fail)
                go_wp2_with fail
                go_quiet (fail)
                go_wp2_with fail
                refine (hSE.call _ (hrj.drewN _) hs (hSE.keep hb hE (hfj.drewN _))).mono ?_
                rintro e w2 ⟨⟨T, v, rfl⟩, hr2, hf2⟩
                go_wp2_with fail
                go_ret2
                have hq := HQ.out
                subst hq
                exact Or.inr ⟨hex4_bad hlt hend HEX, ⟨_, T, v, rfl⟩, ⟨_, hr2⟩, (hfj.drewN _).trans hf2⟩
              · go_wp2_with fail
                go_quiet (fail)
                go_wp2_with fail
                go_quiet (fail)
                go_wp2_with fail
                refine (hSE.call _ (hrj.drewN _) hs (hSE.keep hb hE (hfj.drewN _))).mono ?_
                rintro e w2 ⟨⟨T, v, rfl⟩, hr2, hf2⟩
                go_wp2_with fail
                go_ret2
                have hq := HQ.out
                subst hq
                exact Or.inr ⟨hex4_bad hlt hend HEX, ⟨_, T, v, rfl⟩, ⟨_, hr2⟩, (hfj.drewN _).trans hf2⟩
              · go_wp2_with fail
                go_quiet (fail)
                go_wp2_with fail
                go_quiet (fail)
                go_wp2_with fail
                refine (hSE.call _ (hrj.drewN _) hs (hSE.keep hb hE (hfj.drewN _))).mono ?_
                rintro e w2 ⟨⟨T, v, rfl⟩, hr2, hf2⟩
                go_wp2_with fail
                go_ret2
                have hq := HQ.out
                subst hq
                exact Or.inr ⟨hex4_bad hlt hend HEX, ⟨_, T, v, rfl⟩, ⟨_, hr2⟩, (hfj.drewN _).trans hf2⟩
              · go_wp2_with fail
                go_quiet (fail)
                go_wp2_with fail
                go_quiet (fail)
                go_wp2_with fail
                refine (hSE.call _ (hrj.drewN _) hs (hSE.keep hb hE (hfj.drewN _))).mono ?_
                rintro e w2 ⟨⟨T, v, rfl⟩, hr2, hf2⟩
                go_wp2_with fail
                go_ret2
                have hq := HQ.out
                subst hq
                exact Or.inr ⟨hex4_bad hlt hend HEX, ⟨_, T, v, rfl⟩, ⟨_, hr2⟩, (hfj.drewN _).trans hf2⟩
      · have hne : ((q : Int) == (s.size : Int)) = true := by simp; omega
        go_wp2_with fail
        go_quiet (fail)
        go_wp2_with fail
        refine (hSE.call _ (hrj.drewN _) hs (hSE.keep hb hE (hfj.drewN _))).mono ?_
        rintro e w2 ⟨⟨T, v, rfl⟩, hr2, hf2⟩
        go_wp2_with fail
        go_ret2
        have := HQ.out
        exact Or.inr ⟨hex4_ends (by omega), ⟨_, T, v, rfl⟩, ⟨_, hr2⟩, (hfj.drewN _).trans hf2⟩
    · go_wp2_with fail
      go_ret2
      obtain rfl : j = 4 := by omega
      have hq := HQ.out
      subst hq
      exact Or.inl ⟨HJ.out.done hpj, hpj, ⟨c, hc1, hc2, rfl⟩, hrj, hfj⟩

end Go.Proofs.Qxb6616712aFmt
