/- listOf: the iterator. -/
import Derived.Test.Qxb6616805aDoorG2
import Derived.RangeFuncNested
import Derived.RangeFuncBound
import Derived.RangeFuncCalls
import Derived.RangeFuncLeaves
import Derived.RangeFuncBox
import Derived.RangeFuncWrites
import Derived.Shelf.Abstract
import Derived.Shelf.RegionOpen
import Derived.OwnWalkIn
import Derived.TacticsInMore
import Derived.LoopNIn
import Derived.LoopIn
import Derived.Maps.AppendAt
set_option linter.unusedVariables false
set_option linter.unusedSimpArgs false
set_option linter.unnecessarySimpa false
namespace Go.Proofs.Qxb6616805aDoor
open Go.RowKit Go.Shelf
attribute [local go_sem] Oper.semAt_some

theorem cut_items {l : List UInt8} {a b : ByteArray} (h : Cut l a b) : I.items l = (if a.data.toList = [] then [] else [a.data.toList]) ++ I.items b.data.toList := by
  rcases h with ⟨p, r, h1, h2, h3, h4⟩ | ⟨⟨t, h1⟩, h2, h3⟩
  · rw [h1, I.items_cut p r h2, h3, h4, I.items_trim]; rfl
  · rw [I.items_one l h1, h2, h3]
    show _ = _ ++ []
    rw [List.append_nil]; rfl
theorem trim_len (l : List UInt8) : (I.trim l).length ≤ l.length := by
  obtain ⟨u, v, h, -, -⟩ := I.trim_split l
  have := congrArg List.length h
  simp only [List.length_append] at this
  omega
theorem cut_lt {l : List UInt8} {a b : ByteArray} (h : Cut l a b) (hl : l ≠ []) : b.data.toList.length < l.length := by
  rcases h with ⟨p, r, h1, h2, h3, h4⟩ | ⟨⟨t, h1⟩, h2, h3⟩
  · have := trim_len r
    rw [h4, h1]
    simp only [List.length_append, List.length_cons]
    omega
  · rw [h3]
    cases l with
    | nil => exact absurd rfl hl
    | cons c l => simp

/-- What comes, as strings. -/
def its (l : List UInt8) : List ByteArray := (I.items l).map bs
theorem its_cut {l : List UInt8} {a b : ByteArray} (h : Cut l a b) : its l = (if a.data.toList = [] then [] else [a]) ++ its b.data.toList := by
  unfold its
  rw [cut_items h, List.map_append]
  congr 1
  split
  · rfl
  · simp only [List.map_cons, List.map_nil]
    rw [← bs_of rfl]

def strLen : Value → Nat
  | .string u => u.size
  | _ => 0

set_option maxHeartbeats 1000000 in
theorem listOf_in (n : Nat) (s : ByteArray) (w : World) :
    CallsIn Fence.wide n Tryd.prog 38 #[.string s] w fun e w' => e = .returned (.func (.func 43) #[] #[.pointer (some ⟨w.heap.size, 0, none⟩)]) ∧ w' = w.alloc (.cells #[.string s] 9) := by
  refine callsIn_of_wp Tryd.func38 rfl trivial ?_ rfl
  simp only [Tryd.ntmps38, List.size_toArray, List.length_cons, List.length_nil, Nat.reduceAdd, Nat.reduceSub, Array.replicate_succ, Array.replicate_zero, List.push_toArray, List.append_toArray, List.nil_append, List.cons_append]
  gi_wp2
  go_ret
  exact ⟨rfl, rfl⟩

set_option maxRecDepth 100000 in
set_option maxHeartbeats 2000000 in
theorem listOf1_in (n : Nat) (hn : 1 ≤ n) (l Bn n₀ : Nat) (s : ByteArray) (hs : s.size ≤ 4194304) (J Jx : List ByteArray → World → Prop) (hJa : ∀ pre W m, J pre W → J pre (W.drewN m))
    (hY : ∀ pre x W, J pre W → pre.length < (its s.data.toList).length → YieldAt Fence.wide (n - 1) Tryd.prog l #[.string x] W fun e W' =>
      (e = .returned (.bool true) ∧ J (pre ++ [x]) W' ∧ Below n₀ W W') ∨ (e = .returned (.bool false) ∧ Jx (pre ++ [x]) W'))
    (W : World) (hBn : W.cell? ⟨Bn, 0, none⟩ = some (.string s)) (h0 : J [] W) :
    CallsIn Fence.wide n Tryd.prog 43 #[.func (.yield l) #[] #[], .pointer (some ⟨Bn, 0, none⟩)] W fun e W' => (∃ v, e = .returned v) ∧
      ((∃ ys, ys = its s.data.toList ∧ J ys W') ∨ (∃ pre, pre <+: its s.data.toList ∧ Jx pre W')) := by
  refine callsIn_of_wp Tryd.func43 rfl trivial ?_ rfl
  simp only [Tryd.ntmps43, List.size_toArray, List.length_cons, List.length_nil, Nat.reduceAdd, Nat.reduceSub, Array.replicate_succ, Array.replicate_zero, List.push_toArray, List.append_toArray, List.nil_append, List.cons_append]
  gi_wp2
  gi_loopw [3] (fun p wr => ∃ (pre : List ByteArray) (u : ByteArray), p = .string u ∧ u.size ≤ 4194304 ∧ its s.data.toList = pre ++ its u.data.toList ∧ J pre wr) (fun p wr => strLen p)
  case atStart => exact ⟨[], s, rfl, hs, rfl, h0⟩
  case round =>
    obtain ⟨pre, u, rfl, hu, hx, hJs⟩ := hrel
    by_cases hz : u.size = 0
    · have he : (u.toList == []) = true := by rw [beq_nil]; simp [hz]
      have HX : Hid (its s.data.toList = pre) := by
        show its _ = _
        rw [hx, nil_of u hz]
        exact List.append_nil _
      gi_wp2
      go_end0
      exact ⟨⟨_, rfl⟩, .inl ⟨pre, HX.out.symm, hJs⟩⟩
    · have he : (u.toList == []) = false := by rw [beq_nil]; simp [hz]
      have HX : Hid (its s.data.toList = pre ++ its u.data.toList) := hx
      have HZ : Hid (u.data.toList ≠ []) := fun e => hz (by rw [size_list, e]; rfl)
      clear hx hz
      gi_wp2
      refine ⟨trivial, ?_⟩
      refine (callsIn_wide.2 (cutList_any u _ hu)).mono ?_
      rintro e w1 ⟨⟨a, b, hc, rfl⟩, m, rfl⟩
      have HI : Hid (its s.data.toList = pre ++ ((if a.data.toList = [] then [] else [a]) ++ its b.data.toList)) := by
        show its _ = _
        rw [HX.out, its_cut hc]
      have HL : Hid (b.size < u.size) := cut_lt hc HZ.out
      have hb : b.size ≤ 4194304 := by have := HL.out; omega
      have hJm := hJa pre wr m hJs
      clear HX HZ hc hJs
      by_cases ha0 : a.size = 0
      · have ha : (a.toList == []) = true := by rw [beq_nil]; simp [ha0]
        have HI2 : Hid (its s.data.toList = pre ++ its b.data.toList) := by
          have := HI.out
          rw [if_pos (nil_of a ha0), List.nil_append] at this
          exact this
        clear HI
        gi_wp2
        refine ⟨fun _ h => (by cases h), ?_⟩
        gi_wp2
        go_roundw
        case rel => exact ⟨pre, b, rfl, hb, HI2.out, hJm⟩
        case measure => exact HL.out
      · have ha : (a.toList == []) = false := by rw [beq_nil]; simp [ha0]
        have hane : a.data.toList ≠ [] := fun e => ha0 (by rw [size_list, e]; rfl)
        have HI2 : Hid (its s.data.toList = pre ++ [a] ++ its b.data.toList) := by
          have := HI.out
          rw [if_neg hane] at this
          rw [List.append_assoc]
          exact this
        obtain ⟨fn, tmps, assign, body, hy, hR⟩ := hY pre a (wr.drewN m) hJm (by rw [HI2.out]; simp only [List.length_append, List.length_singleton]; omega)
        clear HI hane ha0
        gi_wp2
        refine hR.mono ?_
        rintro e W3 (⟨rfl, hJ3, hk3⟩ | ⟨rfl, hJx3⟩)
        · gi_wp2
          go_roundw
          case rel => exact ⟨pre ++ [a], b, rfl, hb, HI2.out, hJ3⟩
          case measure => exact HL.out
        · gi_wp2
          refine bodyPost_ret (results_none rfl _ _ _) rfl ?_
          exact ⟨⟨_, rfl⟩, .inr ⟨pre ++ [a], ⟨its b.data.toList, HI2.out.symm⟩, hJx3⟩⟩

theorem listOf_stops (n : Nat) (hn : 1 ≤ n) (Bn n₀ : Nat) (s : ByteArray) (hs : s.size ≤ 4194304) (w : World) (hBn : Bn < w.heap.size) (hc : w.cell? ⟨Bn, 0, none⟩ = some (.string s)) :
    SeqStopsK Fence.wide n Tryd.prog 43 #[.pointer (some ⟨Bn, 0, none⟩)] (fun x : ByteArray => #[Value.string x]) (Below n₀) (fun ys => ys = its s.data.toList) (fun pre => pre <+: its s.data.toList) (its s.data.toList).length w := fun l J Jx W hW hJ _ hY h0 =>
  listOf1_in n hn l Bn n₀ s hs J Jx (fun pre W1 m hj => hJ pre W1 _ none hj ⟨rfl, rfl, rfl, Nat.le_refl _, fun _ _ _ => rfl⟩ (fun r e => by cases e)) hY W ((hW.cell (p := ⟨Bn, 0, none⟩) hBn).trans hc) h0

end Go.Proofs.Qxb6616805aDoor
