/- The law's reader of a word. -/
import Derived.Test.Qxb6616712aFmtX1
set_option linter.unusedVariables false
set_option linter.unusedSimpArgs false
set_option linter.unnecessarySimpa false
namespace Go.Proofs.Qxb6616712aFmt
open Go.RowKit

/-- What the law's readers hand out. -/
def POut (s : ByteArray) (w : World) (r : Option (List UInt8)) (e : Ending) (w' : World) : Prop :=
  match r with
  | some l => (∃ q : Nat, q ≤ s.size ∧ s.data.toList.drop q = l ∧ e = .returned (.tuple #[.int .i64 q, .bool true])) ∧ Below w.heap.size w w'
  | none => e = .returned (.tuple #[.int .i64 0, .bool false]) ∧ Below w.heap.size w w'

theorem POut_some {s : ByteArray} {w w' : World} {r : Option (List UInt8)} {l : List UInt8} {e : Ending} (hR : r = some l) (h1 : ∃ q : Nat, q ≤ s.size ∧ s.data.toList.drop q = l ∧ e = .returned (.tuple #[.int .i64 q, .bool true])) (h2 : Below w.heap.size w w') : POut s w r e w' := by
  subst hR; exact ⟨h1, h2⟩
theorem POut_none {s : ByteArray} {w w' : World} {r : Option (List UInt8)} {e : Ending} (hR : r = none) (h1 : e = .returned (.tuple #[.int .i64 0, .bool false])) (h2 : Below w.heap.size w w') : POut s w r e w' := by
  subst hR; exact ⟨h1, h2⟩
theorem below_drewN2 {B : Nat} {w w' : World} (h : Below B w w') (n : Nat) : Below B w (w'.drewN n) := ⟨h.os, h.tape, h.output, h.size, h.block⟩

theorem word_short (wd l : List UInt8) (h : l.length < wd.length) : J.word wd l = none := by
  unfold J.word
  rw [if_neg]
  intro hp
  have := (List.isPrefixOf_iff_prefix.1 hp).length_le
  omega

theorem len_drop (s : ByteArray) (p : Nat) : (s.data.toList.drop p).length = s.size - p := by simp

set_option maxHeartbeats 400000 in
theorem zzWordEnd_any (s wd : ByteArray) (p : Nat) (w : World) (hs : s.size ≤ 1048576) (hp : p ≤ s.size) (hwd : wd.size ≤ 100) :
    Calls Tryf.prog 32 #[.string s, .int .i64 (p : Int), .string wd] w fun e w' => POut s w (J.word wd.data.toList (s.data.toList.drop p)) e w' := by
  by_cases hlen : s.size - p < wd.size
  · have h1 : (s.size : Int) - (p : Int) < (wd.size : Int) := by omega
    go_enter Tryf.func32, Tryf.ntmps32
    go_wp2_with fail
    go_ret2
    exact POut_none (word_short _ _ (by rw [len_drop]; simpa using hlen)) rfl (Below.refl _ _)
  · have h1 : ¬ (s.size : Int) - (p : Int) < (wd.size : Int) := by omega
    go_enter Tryf.func32, Tryf.ntmps32
    go_wp2_with fail
    go_loopg [8] wd.size (fun k i wr => ∃ j : Nat, k = wd.size - j ∧ j ≤ wd.size ∧ i = .int .i64 j ∧ Below w.heap.size w wr ∧ Hid (s.data.toList.drop p = wd.data.toList.take j ++ s.data.toList.drop (p + j)))
    case atStart => exact ⟨0, rfl, Nat.zero_le _, rfl, Below.refl _ _, by simp [Hid]⟩
    case round =>
      obtain ⟨j, hk, hj, rfl, hb, HJ⟩ := hrel
      have HK : Hid (gk = wd.size - j) := hk
      clear hk
      by_cases hlt : j < wd.size
      · have hll : j < wd.data.toList.length := by simpa using hlt
        have hget : wd.data.toList[j] = wd[j] := by rw [Array.getElem_toList]; rfl
        have HG : Hid (wd.data.toList[j] = wd[j]) := hget
        clear hget
        obtain ⟨q, hq⟩ : ∃ q, q = p + j := ⟨_, rfl⟩
        have hqi : (p : Int) + (j : Int) = (q : Int) := by omega
        have hqs : q < s.size := by omega
        have hqs' : (q : Int) < (s.size : Int) := by omega
        have hlt' : (j : Int) < (wd.size : Int) := by omega
        have HQ : Hid (q = p + j) := hq
        clear hq
        cases hE : ((s[q].toNat : Int) != (wd[j].toNat : Int)) with
        | true =>
          go_wp2_with fail
          go_quiet (fail)
          go_wp2_with fail
          go_ret2
          refine POut_none ?_ rfl (below_drewN2 hb _)
          have hq := HQ.out
          subst hq
          refine (word_step _ _ p j hll HJ.out _ _ (drop_cons s _ hqs)).2 ?_
          rw [HG.out]
          intro e
          rw [e] at hE
          simp at hE
        | false =>
          go_wp2_with fail
          go_quiet (fail)
          go_wp2_with fail
          go_roundg (wd.size - (j + 1))
          case measure => rw [HK.out]; omega
          case rel =>
            have hq := HQ.out
            subst hq
            refine ⟨j + 1, rfl, hlt, by go_num, below_drewN2 hb _, (word_step _ _ p j hll HJ.out _ _ (drop_cons s _ hqs)).1 ?_⟩
            rw [HG.out]
            have : (s[p + j].toNat : Int) = (wd[j].toNat : Int) := by simpa using hE
            exact UInt8.toNat_inj.1 (by omega)
      · have hlt' : ¬ (j : Int) < (wd.size : Int) := by omega
        go_wp2_with fail
        go_ret2
        have hje : j = wd.size := by omega
        have hjl : wd.data.toList.length = wd.size := by simp
        have h1 := HJ.out
        subst hje
        rw [List.take_of_length_le (by omega)] at h1
        have h2 := word_all wd.data.toList s.data.toList p (by rw [hjl]; exact h1)
        refine POut_some h2 ⟨p + wd.size, by omega, by rw [hjl], ?_⟩ hb
        go_num

end Go.Proofs.Qxb6616712aFmt
