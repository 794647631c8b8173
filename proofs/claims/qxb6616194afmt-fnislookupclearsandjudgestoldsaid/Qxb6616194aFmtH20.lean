/- lookupMessage: the region that clones. -/
import Derived.Test.Qxb6616194aFmtH19
set_option linter.unusedVariables false
set_option linter.unusedSimpArgs false
set_option linter.unnecessarySimpa false
namespace Go.Proofs.Qxb6616194aFmt
open Go.RowKit Go.Deep
attribute [local go_sem] A32_size

theorem add_spot (a : Addr) (m : Nat) (h : a.spot = none) : (a.add m).spot = none := by
  unfold Addr.add
  split
  · exact h
  · rfl

theorem rowOfAlloc (w : World) (c : Array Value) (t n : Nat) (h : c.size = n) : (w.alloc (.cells c t)).rowIs w.heap.size t n (fun i => c.getD i undef) := by
  subst h
  exact World.rowIs_alloc w c t _ (fun i hi => by simp [hi])

section
variable {C0 C1 : World → Prop} {c : Nat} {K : Act → Prop} {k : Nat} {o : Oper} {rest : List Oper} {a : Act}
theorem wpMove_stepv (v : Value) (hk : k ≠ c) (hv : ∀ w, C0 w ∨ C1 w → (execOp a.eval o).run Tryf.prog w = .ok (.value v) w) (h : ∀ K' : Act → Prop, (∀ a, wpMove Tryf.prog C0 C1 c K (k + 1) rest a → K' a) → K' (a.put o.dst v)) : wpMove Tryf.prog C0 C1 c K k (o :: rest) a :=
  wpMove_val v hk hv (h _ fun _ h => h)
theorem wpMove_stepc (v : Value) (hk : k = c) (f : FuncId) (args : Array Value) (hr : ∀ w, (execOp a.eval o).run Tryf.prog w = .ok (.enter f args) w) (hv : ∀ w, C0 w → Calls Tryf.prog f args w fun e w' => e = .returned v ∧ C1 w')
    (h : ∀ K' : Act → Prop, (∀ a, wpMove Tryf.prog C0 C1 c K (k + 1) rest a → K' a) → K' (a.put o.dst v)) : wpMove Tryf.prog C0 C1 c K k (o :: rest) a :=
  wpMove_call v hk f args hr hv (h _ fun _ h => h)
theorem exec_load {w : World} (t : TypeId) (p : Operand) (ho : o.op = .load t p) (ad : Addr) (v : Value) (hp : a.eval p = .pointer (some ad)) (hv : (Instr.loadAt t (.pointer (some ad))).run Tryf.prog w = .ok v w) : (execOp a.eval o).run Tryf.prog w = .ok (.value v) w := by
  unfold execOp
  simp only [ho, hp, Sem.run_bind, hv, Result.andThen_ok, Sem.run_pure]
theorem exec_build {w : World} (t : TypeId) (ps : Array (Nat × Operand)) (ho : o.op = .build t ps) (vs : Array (Nat × Value)) (v : Value) (hp : (ps.map fun (i, x) => (i, a.eval x)) = vs) (hv : (Instr.build t vs).run Tryf.prog w = .ok v w) : (execOp a.eval o).run Tryf.prog w = .ok (.value v) w := by
  unfold execOp
  simp only [ho, hp, Sem.run_bind, hv, Result.andThen_ok, Sem.run_pure]
end

theorem c34_of (y : Nat → Int) (s : ByteArray) (v : Value) (base : Array Value) (hb : base.size = 34) :
    ((Array.foldl (fun cs (x : Value × Nat) => cs.setIfInBounds x.snd x.fst) base (A32 y).zipIdx 0 32).setIfInBounds 32 (.string s)).setIfInBounds 33 v = C34 y s v := by
  have h1 := foldSet_get0 (A32 y) base (by rw [A32_size, hb]; omega)
  have h2 := foldSet_size0 (A32 y) base
  simp only [A32_size, Array.size_zipIdx] at h1 h2
  apply Array.ext_getElem?
  intro j
  rw [Array.getElem?_setIfInBounds, Array.getElem?_setIfInBounds, Array.size_setIfInBounds, h2, hb, h1]
  by_cases a1 : j < 32
  · rw [if_neg (by omega), if_neg (by omega), if_pos a1, C34_pos y s v j a1, A32_get y j a1]
  · by_cases a2 : j = 32
    · subst a2; rw [if_neg (by omega), if_pos rfl, if_pos (by omega), C34_name]
    · by_cases a3 : j = 33
      · subst a3; rw [if_pos rfl, if_pos (by omega), C34_val]
      · rw [if_neg (by omega), if_neg (by omega), if_neg a1, Array.getElem?_eq_none (by omega), Array.getElem?_eq_none (by rw [C34_size]; omega)]

theorem build63 (y : Nat → Int) (s : ByteArray) (p : Option Addr) (n c : Nat) (w : World) : (Instr.build 63 #[(0, .agg (A32 y)), (1, .string s), (2, .slice p n c)]).run Tryf.prog w = .ok (.agg (C34 y s (.slice p n c))) w := by
  have h2 := fun base => foldSet_size0 (A32 y) base
  simp only [A32_size, Array.size_zipIdx] at h2
  go_simp
  exact c34_of y s _ _ rfl

end Go.Proofs.Qxb6616194aFmt
