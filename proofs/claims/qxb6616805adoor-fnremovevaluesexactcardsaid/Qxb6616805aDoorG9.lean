/- The laws' own items. -/
import Derived.Test.Qxb6616805aDoorG6
import Derived.Test.Qxb6616805aDoorG5
set_option linter.unusedVariables false
set_option linter.unusedSimpArgs false
set_option linter.unnecessarySimpa false
namespace Go.Proofs.Qxb6616805aDoor
open Go.RowKit

theorem gb_below {w w' : World} (hb : Below w.heap.size w w') : w.grownBy w' none := ⟨hb.os, hb.tape, hb.output, hb.size, fun k hk _ => hb.block k hk⟩
theorem owns_below {w w' : World} {base n size : Nat} {e : TypeId} {v : Value} {xs : List Value} (h : w.ownsRow base e size v n xs) (hb : Below w.heap.size w w') : w'.ownsRow base e size v n xs := by
  refine h.kept (gb_below hb) ?_
  by_cases hn : v.ownBlock = none
  · exact Or.inl hn
  · exact Or.inr hn
/-- A slice of strings that the call made itself. -/
def SR (w : World) (B : Nat) (v : Value) (xs : List ByteArray) : Prop := w.ownsRow B 9 1 v xs.length (xs.map Value.string)
theorem SR.below {w w' : World} {B : Nat} {v : Value} {xs : List ByteArray} (h : SR w B v xs) (hb : Below w.heap.size w w') : SR w' B v xs := owns_below h hb
theorem SR.nil (w : World) (B : Nat) : SR w B (.slice none 0 0) [] := World.ownsRow_nil _ _ _ _


theorem info_9 : ∃ i0, Tryd.prog.info? 9 = some i0 ∧ i0.zero = some (.string ⟨#[]⟩) ∧ i0.size = 1 ∧ i0.bytes = 16 := by
  have h := info9
  cases h9 : Tryd.prog.info? 9 with
  | none => rw [h9] at h; cases h
  | some i =>
    rw [h9] at h
    have hz := Option.some.inj h
    exact ⟨i, rfl, congrArg Prod.fst hz, congrArg (fun p => p.2.1) hz, congrArg (fun p => p.2.2) hz⟩
theorem grown_alloc {w w' : World} {o : Obj} {row : Option Nat} (h : (w.alloc o).grownBy w' row) : w.grownBy w' row :=
  ⟨h.os, h.tape, h.output, Nat.le_trans (by simp) h.size, fun k hk hne => (h.block k (Nat.lt_of_lt_of_le hk (by simp)) hne).trans (Below.heap_alloc w o k hk)⟩
section
variable {ops : Array Oper} {rest : List Oper} {a : Act} {Q : Exit → Act → World → Prop} {dst : Option Nat} {ty : TypeId} {ps : String} {aft : Array Edge}
/-- append of one string onto an owned slice. -/
theorem sr_push (s x : Operand)
    (v : Value) (xs : List ByteArray) (z : ByteArray) (hs : a.eval s = v) (B : Nat) (w0 : World) (hb : SR w0 B v xs) (hB : B ≤ w0.heap.size)
    (hx : a.eval x = .slice (some ⟨w0.heap.size, 0, none⟩) 1 1) (hlen : xs.length ≤ 8388608)
    (h : ∀ g cap w', SR w' B (.slice (some ⟨g, 0, none⟩) (xs.length + 1) cap) (xs ++ [z]) → Below B w0 w' → w0.grownBy w' v.ownBlock → wpList Tryd.prog ops Q rest (a.put dst (.slice (some ⟨g, 0, none⟩) (xs.length + 1) cap)) w') : wpList Tryd.prog ops Q ({ dst := dst, op := .call { callee := .builtin .append, args := #[s, x], argTypes := #[45, 45] }, type := ty, pos := ps, after := aft, guard := none } :: rest) a (w0.alloc (.cells #[.string z] 9)) := by
  obtain ⟨i0, hi, hz0, hz1, hz2⟩ := info_9
  refine wpList_append_own _ rfl s x 45 rfl B 9 i0 (.string ⟨#[]⟩) 1 16 Tryd.underlying45 hi hz0 hz1 hz2 rfl (by decide) v _ _ hs (World.ownsRow.alloc hb _) ⟨w0.heap.size, 0, none⟩ 1 1 [.string z] hx rfl (cell_one_new _ _ _) (by simp [Value.oneCell']) (by unfold maxLen; omega) (by omega) (by simp; omega) ?_
  intro v' w' h1 h2 h3
  obtain ⟨g, cap, rfl⟩ := ownsRow_succ h1
  have hl : xs.length + 1 = (xs ++ [z]).length := by simp
  have hS : SR w' B (.slice (some ⟨g, 0, none⟩) (xs.length + 1) cap) (xs ++ [z]) := by
    unfold SR
    rw [← hl, List.map_append]
    exact h1
  have hG := grown_alloc h2
  exact h g cap w' hS (Below.grown (Below.refl B w0) hG hB (fun k hk => (hb.lt k hk).1)) hG
end

theorem zzAppendItem_any (B : Nat) (v : Value) (xs : List ByteArray) (s : ByteArray) (w : World) (h : SR w B v xs) (hB : B ≤ w.heap.size) (hs : s.size ≤ 4194304) (hx : xs.length ≤ 8388608) :
    Calls Tryd.prog 30 #[v, .string s] w fun e w' => (∃ v', e = .returned v' ∧ SR w' B v' (xs ++ (I.keep s.data.toList).map bs)) ∧ Below B w w' := by
  have HR : Hid (SR w B v xs) := h
  clear h
  by_cases hk : I.trim s.data.toList = []
  · have e1 : I.keep s.data.toList = [] := by unfold I.keep; rw [if_pos hk]
    rw [e1, List.map_nil, List.append_nil]
    have hb : ((bs (I.trim s.data.toList)).toList == []) = true := by rw [beq_nil]; exact decide_eq_true (by rw [size_list, bs_list, hk]; rfl)
    have HZ : Hid (∀ w, Calls Tryd.prog 37 #[.string s] w fun e w' => e = .returned (.string (bs (I.trim s.data.toList))) ∧ w' = w) := fun w => zzTrim_bs s w hs
    clear hk e1
    generalize bs (I.trim s.data.toList) = z at *
    go_enter Tryd.func30, Tryd.ntmps30
    go_wp2_with fail
    refine (HZ.out _).mono ?_
    rintro e w1 ⟨rfl, rfl⟩
    go_wp2_with fail
    go_ret
    exact ⟨⟨_, rfl, HR.out⟩, Below.refl _ _⟩
  · have e1 : I.keep s.data.toList = [I.trim s.data.toList] := by unfold I.keep; rw [if_neg hk]
    rw [e1, List.map_cons, List.map_nil]
    have hb : ((bs (I.trim s.data.toList)).toList == []) = false := by
      rw [beq_nil]
      refine decide_eq_false ?_
      rw [size_list, bs_list]
      exact fun h => hk (List.eq_nil_of_length_eq_zero h)
    have HZ : Hid (∀ w, Calls Tryd.prog 37 #[.string s] w fun e w' => e = .returned (.string (bs (I.trim s.data.toList))) ∧ w' = w) := fun w => zzTrim_bs s w hs
    clear hk e1
    generalize bs (I.trim s.data.toList) = z at *
    go_enter Tryd.func30, Tryd.ntmps30
    go_wp2_with fail
    refine (HZ.out _).mono ?_
    rintro e w1 ⟨rfl, rfl⟩
    go_upto_region 4 with fail
    apply wp_region_lit
    iterate 3 (refine wpList_plain rfl fun K0 hK0 => ?_; go_simp; refine hK0 _ _ ?_; clear hK0 K0)
    refine sr_push _ _ v xs z rfl B w1 HR.out hB rfl hx ?_
    intro g cap wa hS hBe hG
    have HH : Hid (SR wa B (.slice (some ⟨g, 0, none⟩) (xs.length + 1) cap) (xs ++ [z]) ∧ Below B w1 wa) := ⟨hS, hBe⟩
    clear hS hBe hG
    go_wp2_with fail
    go_ret
    exact ⟨⟨_, rfl, HH.out.1⟩, HH.out.2⟩

theorem go_some {cur r : List UInt8} {s t : I.St} {c : UInt8} (h : I.stp s c = some t) : I.go cur s (c :: r) = I.go (cur ++ [c]) t r := by
  show (match I.stp s c with | none => I.keep cur ++ I.go [] I.s0 r | some t => I.go (cur ++ [c]) t r) = _
  rw [h]
theorem go_none {cur r : List UInt8} {s : I.St} {c : UInt8} (h : I.stp s c = none) : I.go cur s (c :: r) = I.keep cur ++ I.go [] I.s0 r := by
  show (match I.stp s c with | none => I.keep cur ++ I.go [] I.s0 r | some t => I.go (cur ++ [c]) t r) = _
  rw [h]
/-- What the loop of zzItems has read. -/
structure IR (s : ByteArray) (xs : List ByteArray) (q a k : Bool) (st i : Nat) : Prop where
  le : st ≤ i
  li : i ≤ s.size
  eq : its s.data.toList = xs ++ (I.go ((s.data.toList.drop st).take (i - st)) (q, a, k) (s.data.toList.drop i)).map bs
  len : xs.length ≤ i
theorem IR.start (s : ByteArray) : IR s [] false false false 0 0 := ⟨Nat.le_refl _, Nat.zero_le _, rfl, Nat.le_refl _⟩
theorem IR.step {s : ByteArray} {xs : List ByteArray} {q a k q' a' k' : Bool} {st i : Nat} (h : IR s xs q a k st i) (hi : i < s.size) (ht : I.stp (q, a, k) s[i] = some (q', a', k')) : IR s xs q' a' k' st (i + 1) := by
  refine ⟨by have := h.le; omega, by omega, ?_, by have := h.len; omega⟩
  rw [h.eq, drop_cons s i hi, go_some ht]
  congr 3
  have e : i + 1 - st = (i - st) + 1 := by have := h.le; omega
  rw [e, List.take_add_one, List.getElem?_drop, show st + (i - st) = i by have := h.le; omega, get_list s i hi]
  rfl
theorem IR.cut {s : ByteArray} {xs : List ByteArray} {q a k : Bool} {st i : Nat} (h : IR s xs q a k st i) (hi : i < s.size) (ht : I.stp (q, a, k) s[i] = none) : IR s (xs ++ (I.keep (s.extract st i).data.toList).map bs) false false false (i + 1) (i + 1) := by
  refine ⟨by omega, by omega, ?_, ?_⟩
  · rw [h.eq, drop_cons s i hi, go_none ht, List.map_append, ext_list, List.append_assoc, Nat.sub_self, List.take_zero]
    rfl
  · have := h.len
    have h2 : (I.keep (s.extract st i).data.toList).length ≤ 1 := by unfold I.keep; split <;> simp
    rw [List.length_append, List.length_map]
    omega
theorem IR.done {s : ByteArray} {xs : List ByteArray} {q a k : Bool} {st i : Nat} (h : IR s xs q a k st i) (hi : ¬ i < s.size) : its s.data.toList = xs ++ (I.keep (s.extract st s.size).data.toList).map bs := by
  have hl := h.li
  have e : i = s.size := by omega
  rw [h.eq, drop_none s i hi, ext_list, e]
  unfold I.go
  rfl

set_option maxHeartbeats 4000000 in
theorem zzItems_any (s : ByteArray) (w : World) (hs : s.size ≤ 4194304) :
    Calls Tryd.prog 20 #[.string s] w fun e w' => (∃ v, e = .returned v ∧ SR w' w.heap.size v (its s.data.toList)) ∧ Below w.heap.size w w' := by
  go_enter Tryd.func20, Tryd.ntmps20
  go_wp2_with fail
  go_loopg [3, 4, 5, 6, 7, 8] s.size (fun g v3 v4 v5 v6 v7 v8 wr => ∃ (xs : List ByteArray) (q a k : Bool) (st i : Nat), g = s.size - i ∧ st ≤ i ∧ v4 = .bool q ∧ v5 = .bool a ∧ v6 = .bool k ∧ v7 = .int .i64 (st : Int) ∧ v8 = .int .i64 (i : Int) ∧ Hid (IR s xs q a k st i ∧ SR wr w.heap.size v3 xs ∧ Below w.heap.size w wr))
  case atStart => exact ⟨[], false, false, false, 0, 0, by omega, by omega, rfl, rfl, rfl, rfl, rfl, IR.start s, SR.nil _ _, Below.refl _ _⟩
  case round =>
    obtain ⟨xs, q, a, k, st, i, hg, hst, rfl, rfl, rfl, rfl, rfl, HQ⟩ := hrel
    have HG : Hid (gk = s.size - i) := hg
    clear hg
    by_cases hlt : i < s.size
    · have hlt' : (i : Int) < (s.size : Int) := by omega
      have hsti : (st : Int) ≤ (i : Int) := by omega
      have hiz : (i : Int) ≤ (s.size : Int) := by omega
      cases k with
      | true =>
        have HT : Hid (IR s xs q a false st (i + 1)) := HQ.out.1.step hlt rfl
        go_wp2_with fail
        go_roundg (s.size - (i + 1))
        case measure => rw [HG.out]; omega
        case rel => exact ⟨xs, q, a, false, st, i + 1, rfl, by omega, rfl, rfl, rfl, rfl, by go_num, HT.out, HQ.out.2⟩
      | false =>
        cases q with
        | true =>
          cases h1 : (((s[i]'hlt).toNat : Int) == 92) with
          | true =>
            have HT : Hid (IR s xs true a true st (i + 1)) := HQ.out.1.step hlt (by rw [of_int (n := 92) h1 (by omega)]; rfl)
            go_wp2_with fail
            go_roundg (s.size - (i + 1))
            case measure => rw [HG.out]; omega
            case rel => exact ⟨xs, true, a, true, st, i + 1, rfl, by omega, rfl, rfl, rfl, rfl, by go_num, HT.out, HQ.out.2⟩
          | false =>
            cases h2 : (((s[i]'hlt).toNat : Int) == 34) with
            | true =>
              have HT : Hid (IR s xs false a false st (i + 1)) := HQ.out.1.step hlt (by rw [of_int (n := 34) h2 (by omega)]; rfl)
              go_wp2_with fail
              go_roundg (s.size - (i + 1))
              case measure => rw [HG.out]; omega
              case rel => exact ⟨xs, false, a, false, st, i + 1, rfl, by omega, rfl, rfl, rfl, rfl, by go_num, HT.out, HQ.out.2⟩
            | false =>
              have HT : Hid (IR s xs true a false st (i + 1)) := HQ.out.1.step hlt (stp_q h1 h2)
              go_wp2_with fail
              go_roundg (s.size - (i + 1))
              case measure => rw [HG.out]; omega
              case rel => exact ⟨xs, true, a, false, st, i + 1, rfl, by omega, rfl, rfl, rfl, rfl, by go_num, HT.out, HQ.out.2⟩
        | false =>
          cases h1 : (((s[i]'hlt).toNat : Int) == 34) with
          | true =>
            have HT : Hid (IR s xs true a false st (i + 1)) := HQ.out.1.step hlt (by rw [of_int (n := 34) h1 (by omega)]; rfl)
            go_wp2_with fail
            go_roundg (s.size - (i + 1))
            case measure => rw [HG.out]; omega
            case rel => exact ⟨xs, true, a, false, st, i + 1, rfl, by omega, rfl, rfl, rfl, rfl, by go_num, HT.out, HQ.out.2⟩
          | false =>
            cases h2 : (((s[i]'hlt).toNat : Int) == 60) with
            | true =>
              have HT : Hid (IR s xs false true false st (i + 1)) := HQ.out.1.step hlt (by rw [of_int (n := 60) h2 (by omega)]; rfl)
              go_wp2_with fail
              go_roundg (s.size - (i + 1))
              case measure => rw [HG.out]; omega
              case rel => exact ⟨xs, false, true, false, st, i + 1, rfl, by omega, rfl, rfl, rfl, rfl, by go_num, HT.out, HQ.out.2⟩
            | false =>
              cases h3 : (((s[i]'hlt).toNat : Int) == 62) with
              | true =>
                have HT : Hid (IR s xs false false false st (i + 1)) := HQ.out.1.step hlt (by rw [of_int (n := 62) h3 (by omega)]; rfl)
                go_wp2_with fail
                go_roundg (s.size - (i + 1))
                case measure => rw [HG.out]; omega
                case rel => exact ⟨xs, false, false, false, st, i + 1, rfl, by omega, rfl, rfl, rfl, rfl, by go_num, HT.out, HQ.out.2⟩
              | false =>
                cases h4 : (((s[i]'hlt).toNat : Int) == 44) with
                | true =>
                  cases a with
                  | true =>
                    have HT : Hid (IR s xs false true false st (i + 1)) := HQ.out.1.step hlt (stp_plain h1 h2 h3 (Or.inr rfl))
                    go_wp2_with fail
                    go_roundg (s.size - (i + 1))
                    case measure => rw [HG.out]; omega
                    case rel => exact ⟨xs, false, true, false, st, i + 1, rfl, by omega, rfl, rfl, rfl, rfl, by go_num, HT.out, HQ.out.2⟩
                  | false =>
                    have HT : Hid (IR s (xs ++ (I.keep (s.extract st i).data.toList).map bs) false false false (i + 1) (i + 1)) := HQ.out.1.cut hlt (by rw [of_int (n := 44) h4 (by omega)]; rfl)
                    go_wp2_with fail
                    have HX : Hid ((s.extract st i).size ≤ 4194304) := by show _ ≤ _; rw [size_list, ext_list, List.length_take]; omega
                    refine (zzAppendItem_any w.heap.size u3 xs _ _ HQ.out.2.1 HQ.out.2.2.size HX.out (by have := HQ.out.1.len; omega)).mono ?_
                    rintro e w2 ⟨⟨v', rfl, hS⟩, hB⟩
                    have HS : Hid (SR w2 w.heap.size v' (xs ++ (I.keep (s.extract st i).data.toList).map bs) ∧ Below w.heap.size w w2) := ⟨hS, HQ.out.2.2.trans hB⟩
                    clear hS hB
                    go_wp2_with fail
                    go_roundg (s.size - (i + 1))
                    case measure => rw [HG.out]; omega
                    case rel => exact ⟨_, false, false, false, i + 1, i + 1, rfl, by omega, rfl, rfl, rfl, by go_num, by go_num, HT.out, HS.out⟩
                | false =>
                  have HT : Hid (IR s xs false a false st (i + 1)) := HQ.out.1.step hlt (stp_plain h1 h2 h3 (Or.inl h4))
                  go_wp2_with fail
                  go_roundg (s.size - (i + 1))
                  case measure => rw [HG.out]; omega
                  case rel => exact ⟨xs, false, a, false, st, i + 1, rfl, by omega, rfl, rfl, rfl, rfl, by go_num, HT.out, HQ.out.2⟩
    · have hlt' : ¬ ((i : Int) < (s.size : Int)) := by omega
      have hstz : (st : Int) ≤ (s.size : Int) := by have := HQ.out.1.li; omega
      have HD : Hid (its s.data.toList = xs ++ (I.keep (s.extract st s.size).data.toList).map bs) := HQ.out.1.done hlt
      have HX : Hid ((s.extract st s.size).size ≤ 4194304) := by show _ ≤ _; rw [size_list, ext_list, List.length_take]; omega
      go_wp2_with fail
      refine (zzAppendItem_any w.heap.size u3 xs _ _ HQ.out.2.1 HQ.out.2.2.size HX.out (by have := HQ.out.1.len; have := HQ.out.1.li; omega)).mono ?_
      rintro e w2 ⟨⟨v', rfl, hS⟩, hB⟩
      have HS : Hid (SR w2 w.heap.size v' (its s.data.toList) ∧ Below w.heap.size w w2) := ⟨by rw [HD.out]; exact hS, HQ.out.2.2.trans hB⟩
      clear hS hB
      go_wp2_with fail
      go_ret
      exact ⟨⟨_, rfl, HS.out.1⟩, HS.out.2⟩
end Go.Proofs.Qxb6616805aDoor
