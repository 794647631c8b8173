/- Whole values into rows; rows that make lays. -/
import Derived.Test.Qxb6616194aFmtH6
import Derived.Test.Qxb6616194aFmtH8
import Derived.Laws.CopyRow
set_option linter.unusedVariables false
set_option linter.unusedSimpArgs false
set_option linter.unnecessarySimpa false
namespace Go.Proofs.Qxb6616194aFmt
open Go.RowKit Go.Deep

theorem setRow_other (w : World) (g : Nat) (c : Array Value) (k : Nat) (h : k ≠ g) : (w.setRow g c).heap[k]? = w.heap[k]? := by
  unfold World.setRow
  rw [Array.getElem?_modify, if_neg (fun e => h e.symm)]

/-- A whole value into a row. -/
theorem storeRow (t T : TypeId) (b off N : Nat) (f g : Nat → Value) (vs : Array Value) (w : World) (hr : w.rowIs b T N f) (hs : (Tryf.prog.info? t).map (·.size) = some vs.size) (hfit : off + vs.size ≤ N)
    (h1 : ∀ v ∈ vs, v.oneCell' = true) (hg : ∀ j, j < vs.size → vs[j]? = some (g j)) :
    ∃ w2, (Instr.storeAt t (.pointer (some ⟨b, off, none⟩)) (.agg vs)).run Tryf.prog w = .ok () w2 ∧ w2.rowIs b T N (fun j => if off ≤ j ∧ j < off + vs.size then g (j - off) else f j) ∧ Fr b w w2 ∧ w2.heap.size = w.heap.size := by
  obtain ⟨c, hb, hn, hc⟩ := hr
  have hst := run_storeCells_at Tryf.prog b off T vs.toList 0 c w hb (by simp; omega) (fun v hv => h1 v (by simpa using hv))
  refine ⟨w.setRow b (c.toList.take (off + 0) ++ vs.toList ++ c.toList.drop (off + 0 + vs.toList.length)).toArray, ?_, ⟨_, setRow_heap w b c _ T _ hb, ?_, fun j hj => ?_⟩, ⟨rfl, rfl, rfl, ?_, fun k _ hk => setRow_other w b _ k hk⟩, ?_⟩
  · cases hq : Tryf.prog.info? t with
    | none => simp [hq] at hs
    | some i =>
      have hs' : i.size = vs.size := by simpa [hq] using hs
      simp only [Instr.storeAt, Instr.sureAddr, storeVar, sizeOf, typeInfo, hq, Value.cells, Sem.run_bind, Sem.run_pure, Result.andThen_ok]
      simpa [hs', hq] using hst
  · simp; omega
  · simp only [List.getElem?_toArray, List.getElem?_append, List.length_append, List.length_take, List.getElem?_take, List.getElem?_drop, Nat.add_zero, Array.length_toList, Array.getElem?_toList, Nat.min_eq_left (show off ≤ c.size by omega)]
    by_cases h : off ≤ j ∧ j < off + vs.size
    · rw [if_pos h, if_pos h.2, if_neg (by omega)]
      exact hg _ (by omega)
    · rw [if_neg h]
      by_cases h2 : j < off
      · rw [if_pos (by omega), if_pos h2, if_pos h2]; exact hc j hj
      · rw [if_neg (by omega)]
        rw [show off + vs.size + (j - (off + vs.size)) = j by omega]; exact hc j hj
  · simp [World.setRow]
  · simp [World.setRow]

section
variable {ops : Array Oper} {rest : List Oper} {o : Oper} {a : Act} {Q : Exit → Act → World → Prop}
theorem wpList_store {w w2 : World} (t : TypeId) (p v : Operand) (ho : o.op = .store t p v) (hgd : o.guard = none) (pv vv : Value) (hp : a.eval p = pv) (hv : a.eval v = vv)
    (hr : (Instr.storeAt t pv vv).run Tryf.prog w = .ok () w2) (h : wpList Tryf.prog ops Q rest (a.put o.dst undef) w2) : wpList Tryf.prog ops Q (o :: rest) a w :=
  wpList_plain hgd fun K hK => by
    unfold Oper.wp execOp
    simp only [ho, hp, hv, Sem.run_bind, hr, Result.andThen_ok, Sem.run_pure]
    exact hK _ _ h
end

/-- make of elements of several cells. -/
theorem make_rows (t e size bytes : Nat) (ht : Tryf.prog.underlying t = some (.slice e)) (hi : (Tryf.prog.info? e).map (fun i => (i.zero.isSome, i.size, i.bytes)) = some (true, size, bytes)) (hb : bytes ≤ 4096) :
    ∃ Z : Nat → Array Value, (∀ n, (Z n).size = n * size) ∧ ∀ (n : Nat) (w : World), n ≤ 4096 → (Instr.makeSlice t (.int .i64 (n : Int)) (.int .i64 (n : Int))).run Tryf.prog w = .ok (.slice (some ⟨w.heap.size, 0, none⟩) n n) (w.alloc (.cells (Z n) e)) := by
  obtain ⟨i, hi', hz⟩ := Option.map_eq_some_iff.1 hi
  simp only [Prod.mk.injEq] at hz
  obtain ⟨hz, hs, hbb⟩ := hz
  obtain ⟨z, hz⟩ := Option.isSome_iff_exists.1 hz
  refine ⟨fun n => madeCells z.cells (n * size), fun n => size_madeCells _ _, fun n w hn => ?_⟩
  have h1 : (i.bytes : Int) * (n : Int) ≤ 281474976710656 := by
    have h : ((i.bytes * n : Nat) : Int) ≤ 281474976710656 := by
      have : i.bytes * n ≤ 4096 * 4096 := Nat.mul_le_mul (by omega) hn
      omega
    rwa [Int.natCast_mul] at h
  have hr := run_make (P := Tryf.prog) w t e i z ht hi' hz .i64 .i64 n n (by omega) (Int.le_refl _) h1 (by omega)
  simp only [Int.toNat_natCast, hs] at hr
  exact hr
theorem make50 : ∃ Z : Nat → Array Value, (∀ n, (Z n).size = n * 3) ∧ ∀ (n : Nat) (w : World), n ≤ 4096 → (Instr.makeSlice 50 (.int .i64 (n : Int)) (.int .i64 (n : Int))).run Tryf.prog w = .ok (.slice (some ⟨w.heap.size, 0, none⟩) n n) (w.alloc (.cells (Z n) 59)) :=
  make_rows 50 59 3 32 Tryf.underlying50 (by kernel_rfl) (by omega)
theorem make54 : ∃ Z : Nat → Array Value, (∀ n, (Z n).size = n * 34) ∧ ∀ (n : Nat) (w : World), n ≤ 4096 → (Instr.makeSlice 54 (.int .i64 (n : Int)) (.int .i64 (n : Int))).run Tryf.prog w = .ok (.slice (some ⟨w.heap.size, 0, none⟩) n n) (w.alloc (.cells (Z n) 63)) :=
  make_rows 54 63 34 72 Tryf.underlying54 (by kernel_rfl) (by omega)

end Go.Proofs.Qxb6616194aFmt
