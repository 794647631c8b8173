/- The law's reader of a value: its stack of closers. -/
import Derived.Test.Qxb6616712aFmtX0
import Derived.Test.Qxb6616712aFmtX5
set_option linter.unusedVariables false
set_option linter.unusedSimpArgs false
set_option linter.unnecessarySimpa false
namespace Go.Proofs.Qxb6616712aFmt
open Go.RowKit

/-- The cells of the stack, the innermost closer last. -/
def stCells (stk : List UInt8) : List Value := stk.reverse.map fun c => Value.int .u8 (c.toNat : Int)
theorem stCells_len (stk : List UInt8) : (stCells stk).length = stk.length := by simp [stCells]
theorem stCells_cons (c : UInt8) (stk : List UInt8) : stCells (c :: stk) = stCells stk ++ [.int .u8 (c.toNat : Int)] := by simp [stCells]
theorem stCells_top (c : UInt8) (stk : List UInt8) : (stCells (c :: stk))[stk.length]? = some (.int .u8 (c.toNat : Int)) := by
  rw [stCells_cons, List.getElem?_append_right (by rw [stCells_len]; exact Nat.le_refl _), stCells_len]; simp

/-- A stack of the call's own. -/
def St (v : Value) (stk : List UInt8) (W0 w : World) : Prop := w.ownsRow W0.heap.size 5 1 v stk.length (stCells stk) ∧ Below W0.heap.size W0 w

theorem St.nil (w : World) : St (.slice none 0 0) [] w w := ⟨World.ownsRow_nil _ _ _ _, Below.refl _ _⟩
theorem St.keep {v : Value} {stk : List UInt8} {W0 w w' : World} (h : St v stk W0 w) (hb : Below w.heap.size w w') : St v stk W0 w' :=
  ⟨h.1.kept (row := none) ⟨hb.os, hb.tape, hb.output, hb.size, fun k hk _ => hb.block k hk⟩ (by cases v.ownBlock with | none => exact .inl rfl | some k => exact .inr (by simp)), h.2.trans (hb.mono h.2.size)⟩
theorem St.below {v : Value} {stk : List UInt8} {W0 w : World} (h : St v stk W0 w) : Below W0.heap.size W0 w := h.2
theorem St.shape {v : Value} {stk : List UInt8} {W0 w : World} (h : St v stk W0 w) : ∃ ad cap, v = .slice ad stk.length cap := by
  rcases h.1.2 with ⟨rfl, h0⟩ | ⟨g, cap, cur, rfl, _⟩
  · exact ⟨none, 0, by rw [h0]⟩
  · exact ⟨_, _, rfl⟩
theorem St.top {v : Value} {c : UInt8} {stk : List UInt8} {W0 w : World} (h : St v (c :: stk) W0 w) : ∃ g cap, v = .slice (some ⟨g, 0, none⟩) (stk.length + 1) cap ∧ w.cell? ⟨g, stk.length, none⟩ = some (.int .u8 (c.toNat : Int)) ∧ stk.length + 1 ≤ cap ∧ cap ≤ maxLen ∧ Hid (St (.slice (some ⟨g, 0, none⟩) stk.length cap) stk W0 w) := by
  have h1 := h.1
  rcases h.1.2 with ⟨_, h0⟩ | ⟨g, cap, cur, rfl, hg, hh, hn, hcap, hsz, htake⟩
  · simp at h0
  · rw [List.length_cons] at h1 hn htake
    refine ⟨g, cap, rfl, (h1.cellAt stk.length (by omega)).trans (stCells_top c stk), hn, hcap, ⟨by rw [stCells_len]; omega, .inr ⟨g, cap, cur, rfl, hg, hh, by omega, hcap, hsz, ?_⟩⟩, h.2⟩
    have h3 := congrArg (List.take (stk.length * 1)) htake
    rw [List.take_take, Nat.min_eq_left (by omega), stCells_cons] at h3
    rw [h3, List.take_left' (by rw [stCells_len]; omega)]

section
variable {ops : Array Oper} {rest : List Oper} {o : Oper} {a : Act} {Q : Exit → Act → World → Prop}
theorem infoByte' : (Tryf.prog.info? 5).map (fun i => (i.zero, i.size, i.bytes)) = some (some (.int .u8 0), 1, 1) := by kernel_rfl
/-- 'open = append(open, c)'. -/
theorem st_push (hgd : o.guard = none) (s x : Operand) (ho : o.op = .call { callee := .builtin .append, args := #[s, x], argTypes := #[35, 35] })
    (v : Value) (stk : List UInt8) (c : UInt8) (hs : a.eval s = v) (W0 w0 : World) (hb : St v stk W0 w0)
    (hx : a.eval x = .slice (some ⟨w0.heap.size, 0, none⟩) 1 1) (hlen : stk.length ≤ 10000)
    (h : ∀ v' w', St v' (c :: stk) W0 w' → wpList Tryf.prog ops Q rest (a.put o.dst v') w') : wpList Tryf.prog ops Q (o :: rest) a (w0.alloc (.cells #[.int .u8 (c.toNat : Int)] 5)) := by
  obtain ⟨i0, hi, hz0, hz1, hz2⟩ := info_parts infoByte'
  refine wpList_append_own _ hgd s x 35 ho W0.heap.size 5 i0 (.int .u8 0) 1 1 Tryf.underlying35 hi hz0 hz1 hz2 rfl (by decide) v _ _ hs (hb.1.alloc _) ⟨w0.heap.size, 0, none⟩ 1 1 [.int .u8 (c.toNat : Int)] hx rfl ?_ (fun u hu => by simp at hu; subst hu; rfl) (by unfold maxLen; omega) (by omega) ?_ ?_
  · intro j u hj
    match j, hj with
    | 0, hj => simp at hj; subst hj; simp [Addr.add]
    | j + 1, hj => simp at hj
  · have := hb.2.size
    simp
    omega
  · intro v' w' h1 h2 h3
    refine h v' w' ⟨by rw [List.length_cons, stCells_cons]; exact h1, ?_⟩
    exact Below.grown (hb.2.alloc hb.2.size _) h2 (by have := hb.2.size; simp; omega) (fun k hk => (hb.1.lt k hk).1)
theorem st_push' (hgd : o.guard = none) (s x : Operand) (ho : o.op = .call { callee := .builtin .append, args := #[s, x], argTypes := #[35, 35] })
    (v : Value) (stk : List UInt8) (c : UInt8) (z : Int) (hz : (c.toNat : Int) = z) (hs : a.eval s = v) (W0 w0 : World) (hb : St v stk W0 w0)
    (hx : a.eval x = .slice (some ⟨w0.heap.size, 0, none⟩) 1 1) (hlen : stk.length ≤ 10000)
    (h : ∀ v' w', St v' (c :: stk) W0 w' → wpList Tryf.prog ops Q rest (a.put o.dst v') w') : wpList Tryf.prog ops Q (o :: rest) a (w0.alloc (.cells #[.int .u8 z] 5)) := by
  subst hz; exact st_push hgd s x ho v stk c hs W0 w0 hb hx hlen h
end

end Go.Proofs.Qxb6616712aFmt
