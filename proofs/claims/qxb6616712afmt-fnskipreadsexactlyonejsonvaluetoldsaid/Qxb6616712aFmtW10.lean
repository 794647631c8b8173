/- The walk of quoted; ZZskip; the first law. -/
import Derived.Test.Qxb6616712aFmtW9
import Derived.Test.Qxb6616712aFmtS4
set_option linter.unusedVariables false
set_option linter.unusedSimpArgs false
set_option linter.unnecessarySimpa false
namespace Go.Proofs.Qxb6616712aFmt
open Go.Extern.Stop Go.Stop Go.Extern
open Go.RowKit

theorem Out2_none' {b : Nat} {s : ByteArray} {d : Int} {w w' : World} {r : Option (List UInt8)} {e : Ending} (hR : r = none) (h1 : ∃ x T v, e = .returned (.tuple #[.string x, .iface T v])) (h2 : ∃ q d' : Int, Rd b s q d' w') (h3 : Fr b w w') : Out2 b s d w r e w' := by
  subst hR; exact ⟨h1, h2, h3⟩
theorem Out2_some' {b : Nat} {s : ByteArray} {d : Int} {w w' : World} {r : Option (List UInt8)} {l : List UInt8} {e : Ending} (hR : r = some l) (h1 : ∃ x, e = .returned (.tuple #[.string x, .nilIface])) (h2 : ∃ q : Nat, q ≤ s.size ∧ s.data.toList.drop q = l ∧ Rd b s q d w') (h3 : Fr b w w') : Out2 b s d w r e w' := by
  subst hR; exact ⟨h1, h2, h3⟩

/-- The contract of unescape. -/
def UnescOK (B : Nat) (E : World → Prop) : Prop :=
  ∀ (b : Nat) (s : ByteArray) (st p : Nat) (d : Int) (w : World), Rd b s p d w → s.size ≤ 1048576 → st ≤ p → p ≤ s.size → B ≤ b → E w →
    Calls Tryf.prog 39 #[.pointer (some ⟨b, 0, none⟩), .int .i64 st] w fun e w' => Out2 b s d w (J.str (s.data.toList.drop p)) e w'

set_option maxRecDepth 100000 in
set_option maxHeartbeats 1000000 in
theorem quoted_any (B : Nat) (E : World → Prop) (hSE : SErr B E) (hUn : UnescOK B E) : QuotedOK B E := by
  intro b s p d w hr hs hp hb hE
  have c0 := hr.cell0
  have c1 := hr.cell1
  go_enter Tryf.func26, Tryf.ntmps26
  go_wp2_with fail
  go_loopg [5] (s.size - (p + 1)) (fun gn s5 wr => ∃ i : Nat, gn = s.size - i ∧ p + 1 ≤ i ∧ i ≤ s.size ∧ s5 = .int .i64 i ∧ Rd b s p d wr ∧ Fr b w wr ∧ Hid (J.str (s.data.toList.drop (p + 1)) = J.str (s.data.toList.drop i)))
  case atStart => exact ⟨p + 1, rfl, Nat.le_refl _, hp, by go_num, hr, Fr.refl _ _, rfl⟩
  case round =>
    obtain ⟨i, hgi, hpi, his, rfl, hri, hfi, HI⟩ := hrel
    have HG : Hid (gk = s.size - i) := hgi
    clear hgi c0 c1
    have g0 := hri.cell0
    have g1 := hri.cell1
    have gf := hri.free 1
    have hEi := hSE.keep hb hE hfi
    by_cases hlt : i < s.size
    · have hlt' : (i : Int) < (s.size : Int) := by omega
      have i1 : (p : Int) + 1 ≤ (i : Int) := by omega
      have i2 : (i : Int) ≤ (s.size : Int) := by omega
      by_cases hq : (s[i].toNat : Int) = 34
      · have HE : Hid (J.str (s.data.toList.drop i) = some (s.data.toList.drop (i + 1))) := st_quote hlt hq
        have hq' : ((s[i].toNat : Int) == 34) = true := by simpa using hq
        clear hq
        go_wp2_with fail
        go_ret2
        exact Out2_some' (HI.out.trans HE.out) ⟨_, rfl⟩ ⟨i + 1, hlt, rfl, hri.set1 _⟩ (hfi.setCell _ _)
      · have hq' : ((s[i].toNat : Int) == 34) = false := by simpa using hq
        by_cases hc : (s[i].toNat : Int) = 92 ∨ (s[i].toNat : Int) < 32
        · have hr4 := hri.set1 (i : Int)
          have hf4 := (Fr.refl b wr).setCell 1 (.int .i64 (i : Int))
          have hE4 := hSE.keep hb hEi hf4
          have hst : ((p : Int) + 1) = ((p + 1 : Nat) : Int) := by omega
          have HST : Hid (((p : Int) + 1) = ((p + 1 : Nat) : Int)) := hst
          clear hst
          rcases hc with hc | hc
          · have hc' : ((s[i].toNat : Int) == 92) = true := by simpa using hc
            clear hc hq
            go_wp2_with fail
            rw [HST.out]
            refine (hUn b s (p + 1) i d _ hr4 hs hpi his hb hE4).mono ?_
            intro e w2 ho
            cases hR : J.str (s.data.toList.drop i) with
            | none =>
              rw [hR] at ho
              have HR : Hid (J.str (s.data.toList.drop i) = none) := hR
              clear hR
              obtain ⟨⟨x, T, v, rfl⟩, h2, h3⟩ := ho
              go_wp2_with fail
              go_ret2
              exact Out2_none' (HI.out.trans HR.out) ⟨_, T, v, rfl⟩ h2 (hfi.trans (hf4.trans h3))
            | some l =>
              rw [hR] at ho
              have HR : Hid (J.str (s.data.toList.drop i) = some l) := hR
              clear hR
              obtain ⟨⟨x, rfl⟩, h2, h3⟩ := ho
              go_wp2_with fail
              go_ret2
              exact Out2_some' (HI.out.trans HR.out) ⟨_, rfl⟩ h2 (hfi.trans (hf4.trans h3))
          · have hc' : ((s[i].toNat : Int) == 92) = false := by simp; omega
            clear hq
            go_wp2_with fail
            rw [HST.out]
            refine (hUn b s (p + 1) i d _ hr4 hs hpi his hb hE4).mono ?_
            intro e w2 ho
            cases hR : J.str (s.data.toList.drop i) with
            | none =>
              rw [hR] at ho
              have HR : Hid (J.str (s.data.toList.drop i) = none) := hR
              clear hR
              obtain ⟨⟨x, T, v, rfl⟩, h2, h3⟩ := ho
              go_wp2_with fail
              go_ret2
              exact Out2_none' (HI.out.trans HR.out) ⟨_, T, v, rfl⟩ h2 (hfi.trans (hf4.trans h3))
            | some l =>
              rw [hR] at ho
              have HR : Hid (J.str (s.data.toList.drop i) = some l) := hR
              clear hR
              obtain ⟨⟨x, rfl⟩, h2, h3⟩ := ho
              go_wp2_with fail
              go_ret2
              exact Out2_some' (HI.out.trans HR.out) ⟨_, rfl⟩ h2 (hfi.trans (hf4.trans h3))
        · have HE : Hid (J.str (s.data.toList.drop i) = J.str (s.data.toList.drop (i + 1))) := st_plain hlt (by omega) hq (by omega)
          have hc1 : ((s[i].toNat : Int) == 92) = false := by simp; omega
          have hc2 : decide ((s[i].toNat : Int) < 32) = false := by simp; omega
          clear hc hq
          go_wp2_with fail
          go_roundg (s.size - (i + 1))
          case measure => rw [HG.out]; omega
          case rel => exact ⟨i + 1, rfl, by omega, hlt, by go_num, hri, hfi, HI.out.trans HE.out⟩
    · have hge : ¬ (i : Int) < (s.size : Int) := by omega
      have HE : Hid (J.str (s.data.toList.drop i) = none) := st_end hlt
      have hr4 := hri.set1 (s.size : Int)
      have hf4 := (Fr.refl b wr).setCell 1 (.int .i64 (s.size : Int))
      have hE4 := hSE.keep hb hEi hf4
      go_wp2_with fail
      refine (hSE.call _ hr4 hs hE4).mono ?_
      rintro e w2 ⟨⟨T, v, rfl⟩, hr2, hf2⟩
      go_wp2_with fail
      go_ret2
      exact Out2_none' (HI.out.trans HE.out) ⟨_, T, v, rfl⟩ ⟨_, _, hr2⟩ (hfi.trans (hf4.trans hf2))

end Go.Proofs.Qxb6616712aFmt
