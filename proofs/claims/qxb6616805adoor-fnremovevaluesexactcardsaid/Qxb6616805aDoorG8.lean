/- Field.Is. -/
import Derived.Test.Qxb6616805aDoorG7
set_option linter.unusedVariables false
set_option linter.unusedSimpArgs false
set_option linter.unnecessarySimpa false
namespace Go.Proofs.Qxb6616805aDoor
open Go.RowKit

theorem asc_of {l : List UInt8} (h : ∀ b ∈ l, b.toNat < 128) : asc l = true := by
  unfold asc
  rw [List.all_eq_true]
  exact fun b hb => decide_eq_true (h b hb)
theorem is_any (x y z name : ByteArray) (w : World) (hx : x.size ≤ 4194304) (hn : name.size ≤ 4194304) (hna : asc name.data.toList = true) (T : Tb w) :
    Calls Tryd.prog 29 #[.agg #[.string x, .string y, .string z], .string name] w fun e w' => e = .returned (.bool (nmd name x.data.toList)) ∧ Below w.heap.size w w' := by
  obtain ⟨w0, hw0⟩ : ∃ w0, w.alloc (.cells #[.string x, .string y, .string z] 34) = w0 := ⟨_, rfl⟩
  have HB : Hid (Below w.heap.size w w0) := by rw [← hw0]; exact (Below.refl _ w).alloc (Nat.le_refl _) _
  have HT : Hid (Tb w0) := T.below HB.out
  have hc : w0.cell? ⟨w.heap.size, 0, none⟩ = some (.string x) := by
    rw [← hw0]
    exact World.cell?_alloc_new w _ _ 0
  have HA : Hid (asc name.data.toList = true) := hna
  have HX : Hid (x.size ≤ 4194304 ∧ name.size ≤ 4194304 ∧ w.heap.size ≤ w0.heap.size) := ⟨hx, hn, HB.out.size⟩
  clear T hna
  by_cases h1 : x.size = 1
  · have hb : ((x.size : Int) == 1) = true := beq_iff_eq.2 (by omega)
    have h0 : 0 < x.size := by omega
    rw [nmd_one name x h1]
    go_enter Tryd.func29, Tryd.ntmps29
    go_wp2_with fail
    refine (longForm_any x[0] _).mono ?_
    rintro e w1 ⟨rfl, rfl⟩
    go_wp2_with fail
    refine (equalFold_any _ name _ (tab_size _) HX.out.2.1 HA.out (Or.inl (asc_of (tab_asc _))) HT.out).mono ?_
    rintro e w2 ⟨rfl, hB2⟩
    have HB2 : Hid (Below w.heap.size w w2) := HB.out.trans (hB2.mono HX.out.2.2)
    clear hB2
    go_wp2_with fail
    go_ret
    exact ⟨rfl, HB2.out⟩
  · have hb : ((x.size : Int) == 1) = false := beq_eq_false_iff_ne.2 (by omega)
    rw [nmd_not name x h1]
    by_cases hl : x.size = name.size
    · have hb3 : ((x.size : Int) == (name.size : Int)) = true := beq_iff_eq.2 (by omega)
      go_enter Tryd.func29, Tryd.ntmps29
      go_wp2_with fail
      refine (equalFold_any x name _ HX.out.1 HX.out.2.1 HA.out (Or.inr hl) HT.out).mono ?_
      rintro e w2 ⟨rfl, hB2⟩
      have HB2 : Hid (Below w.heap.size w w2) := by
          exact HB.out.trans (hB2.mono HX.out.2.2)
      clear hB2
      go_wp2_with fail
      go_ret
      exact ⟨rfl, HB2.out⟩
    · have hb3 : ((x.size : Int) == (name.size : Int)) = false := beq_eq_false_iff_ne.2 (by omega)
      have HF : Hid (fe x.data.toList name.data.toList = false) := fe_len _ _ hl
      go_enter Tryd.func29, Tryd.ntmps29
      go_wp2_with fail
      go_ret
      refine ⟨by rw [HF.out]; rfl, ?_⟩
      exact HB.out
end Go.Proofs.Qxb6616805aDoor
