/- strconv.QuoteRune, its quote an apostrophe: that it returns some string and turns nothing old. -/
import Derived.Test.Qxb6616712aFmtKit
import Derived.Test.Qxb6616712aFmtShelf
import Derived.Lib.BufSteps
import Derived.Lib.QuoteHex
set_option linter.unusedVariables false
set_option linter.unusedSimpArgs false
set_option linter.unnecessarySimpa false
namespace Go.Proofs.Qxb6616712aFmt
open Go.RowKit

theorem infoByte : (Tryf.prog.info? 5).map (fun i => (i.zero, i.size, i.bytes)) = some (some (.int .u8 0), 1, 1) := by kernel_rfl

/-- A buffer of the call's own that holds at most n bytes. -/
def Bf (B n : Nat) (v : Value) (W0 w : World) : Prop := ∃ (m : Nat) (zs : List Int), Lib.OwnBuf B 5 v m (Lib.intCells zs) W0 w ∧ m ≤ n

theorem Bf.alloc {B n : Nat} {v : Value} {W0 w : World} (h : Bf B n v W0 w) (o : Obj) : Bf B n v W0 (w.alloc o) := by
  obtain ⟨m, zs, h1, h2⟩ := h; exact ⟨m, zs, h1.alloc o, h2⟩
theorem Bf.drewN {B n : Nat} {v : Value} {W0 w : World} (h : Bf B n v W0 w) (q : Nat) : Bf B n v W0 (w.drewN q) := by
  obtain ⟨m, zs, h1, h2⟩ := h; exact ⟨m, zs, h1.drewN q, h2⟩
theorem Bf.mono {B n m : Nat} {v : Value} {W0 w : World} (h : Bf B n v W0 w) (hm : n ≤ m) : Bf B m v W0 w := by
  obtain ⟨k, zs, h1, h2⟩ := h; exact ⟨k, zs, h1, by omega⟩

theorem intCells_append (a b : List Int) : Lib.intCells (a ++ b) = Lib.intCells a ++ Lib.intCells b := by simp [Lib.intCells]

section
variable {ops : Array Oper} {rest : List Oper} {o : Oper} {a : Act} {Q : Exit → Act → World → Prop}
/-- 'buf = append(buf, c)'. -/
theorem bf_byte (hgd : o.guard = none) (s x : Operand) (ho : o.op = .call { callee := .builtin .append, args := #[s, x], argTypes := #[35, 35] })
    (B n : Nat) (v : Value) (hs : a.eval s = v) (W0 w0 : World) (c : Int) (hb : Bf B n v W0 w0)
    (hx : a.eval x = .slice (some ⟨w0.heap.size, 0, none⟩) 1 1) (hlen : n + 1 ≤ 140737488355328)
    (h : ∀ v' w', Bf B (n + 1) v' W0 w' → wpList Tryf.prog ops Q rest (a.put o.dst v') w') : wpList Tryf.prog ops Q (o :: rest) a (w0.alloc (.cells #[.int .u8 c] 5)) := by
  obtain ⟨i0, hi, hz0, hz1, hz2⟩ := info_parts infoByte
  obtain ⟨m, zs, h1, h2⟩ := hb
  refine Lib.wpList_append_byte hgd s x 35 ho B 5 i0 Tryf.underlying35 hi hz0 hz1 hz2 v m _ hs W0 w0 c h1 hx (by omega) ?_
  intro v' w' h3
  exact h v' w' ⟨m + 1, zs ++ [c], by rw [intCells_append]; exact h3, by omega⟩
/-- 'buf = append(buf, text...)'. -/
theorem bf_text {w : World} (hgd : o.guard = none) (sl x : Operand) (ho : o.op = .call { callee := .builtin .append, args := #[sl, x], argTypes := #[35, 9] })
    (B n : Nat) (v : Value) (hs : a.eval sl = v) (W0 : World) (hb : Bf B n v W0 w) (s : ByteArray) (hx : a.eval x = .string s) (hlen : n + s.size ≤ 140737488355328)
    (h : ∀ v' w', Bf B (n + s.size) v' W0 w' → wpList Tryf.prog ops Q rest (a.put o.dst v') w') : wpList Tryf.prog ops Q (o :: rest) a w := by
  obtain ⟨i0, hi, hz0, hz1, hz2⟩ := info_parts infoByte
  obtain ⟨m, zs, h1, h2⟩ := hb
  refine Lib.wpList_append_text hgd sl x 35 9 ho B 5 i0 Tryf.underlying35 Tryf.underlying9 hi hz0 hz1 hz2 v m _ hs W0 h1 s hx (by omega) ?_
  intro v' w' h3
  refine h v' w' ⟨m + s.size, zs ++ s.data.toList.map (fun b => (b.toNat : Int)), ?_, by omega⟩
  rw [intCells_append]
  have e : Lib.intCells (s.data.toList.map (fun b => (b.toNat : Int))) = Lib.strCells s := by simp [Lib.intCells, Lib.strCells]
  rw [e]; exact h3
end

theorem bf_AppendRune (B n : Nat) (v : Value) (r : Int) (W0 w : World) (h : Bf B n v W0 w) (hn : n + 4 ≤ 140737488355328) (h0 : -2147483648 ≤ r) (h1 : r ≤ 2147483647) :
    Calls Tryf.prog 64 #[v, .int .i32 r] w fun e w' => ∃ v', e = .returned v' ∧ Bf B (n + 4) v' W0 w' := by
  obtain ⟨m, zs, hb, hm⟩ := h
  refine (Tryf.utf8_AppendRune_row B v m _ r h0 h1 w hb.1 (by omega) hb.2.2).mono ?_
  rintro e w' ⟨v', he, ho, o, hg⟩
  refine ⟨v', he, m + (Lib.runeCells r).length, zs ++ Lib.encodeRuneZ r, ?_, ?_⟩
  · rw [intCells_append]
    exact (hb.alloc o).grown ho hg
  · have : (Lib.runeCells r).length ≤ 4 := by
      unfold Lib.runeCells
      rw [List.length_map]
      unfold Lib.encodeRuneZ
      repeat' split
      all_goals simp
    omega

end Go.Proofs.Qxb6616712aFmt
