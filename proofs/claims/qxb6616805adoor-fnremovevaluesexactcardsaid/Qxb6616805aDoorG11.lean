/- Rows that the laws make: make, copy, whole values stored. -/
import Derived.Test.Qxb6616805aDoorG10
import Derived.Laws.CopyRow
import Derived.StillTailTactics
set_option linter.unusedVariables false
set_option linter.unusedSimpArgs false
set_option linter.unnecessarySimpa false
namespace Go.Proofs.Qxb6616805aDoor
open Go.RowKit Go.Deep

theorem eql22 (a : Option Addr) (l c : Nat) (w : World) : (binOp .eql 22 (.slice a l c) (.slice none 0 0)).run Tryd.prog w = .ok (.bool a.isNone) w := by cases a <;> kernel_rfl
theorem eql29 (a : Option Addr) (l c : Nat) (w : World) : (binOp .eql 29 (.slice a l c) (.slice none 0 0)).run Tryd.prog w = .ok (.bool a.isNone) w := by cases a <;> kernel_rfl
attribute [local go_sem] eql22 eql29

/-- All but block b is as it was. -/
structure Fr (b : Nat) (w w' : World) : Prop where
  os : w'.os = w.os
  tape : w'.tape = w.tape
  output : w'.output = w.output
  size : w.heap.size ≤ w'.heap.size
  block : ∀ k, k < w.heap.size → k ≠ b → w'.heap[k]? = w.heap[k]?
theorem Fr.belowOf {b B : Nat} {w w1 w2 : World} (h : Fr b w1 w2) (hb : Below B w w1) (hle : B ≤ b) (hB : B ≤ w.heap.size) : Below B w w2 :=
  ⟨h.os.trans hb.os, h.tape.trans hb.tape, h.output.trans hb.output, Nat.le_trans hb.size h.size, fun k hk => (h.block k (by have := hb.size; omega) (by omega)).trans (hb.block k hk)⟩

theorem fr_setRow (w : World) (g : Nat) (c : Array Value) : Fr g w (w.setRow g c) := ⟨rfl, rfl, rfl, by simp [World.setRow], fun k _ hk => setRow_other' w g c k hk⟩

/-- A whole value into a row. -/
theorem storeRow (t T : TypeId) (b off N : Nat) (f g : Nat → Value) (vs : Array Value) (w : World) (hr : w.rowIs b T N f) (hs : (Tryd.prog.info? t).map (·.size) = some vs.size) (hfit : off + vs.size ≤ N)
    (h1 : ∀ v ∈ vs, v.oneCell' = true) (hg : ∀ j, j < vs.size → vs[j]? = some (g j)) :
    ∃ w2, (Instr.storeAt t (.pointer (some ⟨b, off, none⟩)) (.agg vs)).run Tryd.prog w = .ok () w2 ∧ w2.rowIs b T N (fun j => if off ≤ j ∧ j < off + vs.size then g (j - off) else f j) ∧ Fr b w w2 ∧ w2.heap.size = w.heap.size := by
  obtain ⟨c, hb, hn, hc⟩ := hr
  have hst := run_storeCells_at Tryd.prog b off T vs.toList 0 c w hb (by simp; omega) (fun v hv => h1 v (by simpa using hv))
  refine ⟨w.setRow b (c.toList.take (off + 0) ++ vs.toList ++ c.toList.drop (off + 0 + vs.toList.length)).toArray, ?_, ⟨_, setRow_heap w b c _ T _ hb, ?_, fun j hj => ?_⟩, ⟨rfl, rfl, rfl, ?_, fun k _ hk => setRow_other' w b _ k hk⟩, ?_⟩
  · cases hq : Tryd.prog.info? t with
    | none => simp [hq] at hs
    | some i =>
      have hs' : i.size = vs.size := by simpa [hq] using hs
      simp only [Instr.storeAt, Instr.sureAddr, storeVar, sizeOf, typeInfo, hq, Value.cells, Sem.run_bind, Sem.run_pure, Result.andThen_ok]
      simpa [hs', hq] using hst
  · simp; omega
  · simp only [List.getElem?_toArray, List.getElem?_append, List.length_append, List.length_take, List.getElem?_take, List.getElem?_drop, Nat.add_zero, Array.length_toList, Array.getElem?_toList, Nat.min_eq_left (show off ≤ c.size by omega)]
    by_cases h : off ≤ j ∧ j < off + vs.size
    · rw [if_pos h, if_pos h.2, if_neg (by omega)]
      exact hg _ (by omega)
    · rw [if_neg h]
      by_cases h2 : j < off
      · rw [if_pos (by omega), if_pos h2, if_pos h2]; exact hc j hj
      · rw [if_neg (by omega)]
        rw [show off + vs.size + (j - (off + vs.size)) = j by omega]; exact hc j hj
  · simp [World.setRow]
  · simp [World.setRow]

section
variable {ops : Array Oper} {rest : List Oper} {o : Oper} {a : Act} {Q : Exit → Act → World → Prop}
theorem wpList_store {w w2 : World} (t : TypeId) (p v : Operand) (ho : o.op = .store t p v) (hgd : o.guard = none) (pv vv : Value) (hp : a.eval p = pv) (hv : a.eval v = vv)
    (hr : (Instr.storeAt t pv vv).run Tryd.prog w = .ok () w2) (h : wpList Tryd.prog ops Q rest (a.put o.dst undef) w2) : wpList Tryd.prog ops Q (o :: rest) a w :=
  wpList_plain hgd fun K hK => by
    unfold Oper.wp execOp
    simp only [ho, hp, hv, Sem.run_bind, hr, Result.andThen_ok, Sem.run_pure]
    exact hK _ _ h
theorem wpList_storeRow {w : World} (t T b off N m : Nat) (f g : Nat → Value) (vs : Array Value) (p v : Operand) (ho : o.op = .store t p v) (hgd : o.guard = none) (hp : a.eval p = .pointer (some ⟨b, off, none⟩)) (hv : a.eval v = .agg vs)
    (hr : w.rowIs b T N f) (hsz : vs.size = m) (hs : (Tryd.prog.info? t).map (·.size) = some m) (hfit : off + m ≤ N) (hg : ∀ j, j < m → vs[j]? = some (g j)) (h1 : ∀ j, j < m → (g j).oneCell' = true)
    (h : ∀ w2 : World, w2.rowIs b T N (fun j => if off ≤ j ∧ j < off + m then g (j - off) else f j) → Fr b w w2 → w2.heap.size = w.heap.size → wpList Tryd.prog ops Q rest (a.put o.dst undef) w2) : wpList Tryd.prog ops Q (o :: rest) a w := by
  subst hsz
  obtain ⟨w2, k1, k2, k3, k4⟩ := storeRow t T b off N f g vs w hr hs hfit (fun v hv => by
    obtain ⟨j, hj⟩ := Array.mem_iff_getElem?.1 hv
    have hlt : j < vs.size := (Array.getElem?_eq_some_iff.1 hj).1
    have := hg j hlt
    rw [hj] at this
    have e : v = g j := Option.some.inj this
    rw [e]; exact h1 j hlt) hg
  exact wpList_store t p v ho hgd _ _ hp hv k1 (h w2 k2 k3 k4)

/-- copy over a whole row, elements of several cells. -/
theorem run_copy_wide (w : World) (dT sT ty elem : TypeId) (k g n c : Nat) (a : Addr) (sc : Nat) (cur : Array Value) (t : TypeId) (cs : List Value)
    (hu : Tryd.prog.underlying dT = some (.slice elem)) (hs : (Tryd.prog.info? elem).map (·.size) = some k)
    (hg : w.heap[g]? = some (.cells cur t (0, 0))) (hn : cs.length = n * k)
    (hsrc : ∀ j v, cs[j]? = some v → w.cell? (a.add j) = some v) (hfit : cs.length = cur.size) (h1 : ∀ v ∈ cs, v.oneCell' = true) :
    (Builtin.copy_ #[dT, sT] ty #[.slice (some ⟨g, 0, none⟩) n c, .slice (some a) n sc]).run Tryd.prog w = .ok (goInt n) (w.setRow g cs.toArray) := by
  have hl := run_loadCells_list (P := Tryd.prog) w a cs hsrc
  have hst := run_storeCells_at Tryd.prog g 0 t cs 0 cur w hg (by omega) h1
  have e1 : cur.toList.drop (0 + 0 + cs.length) = [] := List.drop_eq_nil_of_le (by simp; omega)
  rw [e1, List.append_nil, List.take_zero, List.nil_append] at hst
  cases hq : Tryd.prog.info? elem with
  | none => simp [hq] at hs
  | some i =>
    have hi : i.size = k := by simpa [hq] using hs
    simp [Builtin.copy_, run_underlying hu, Builtin.lenOf, Builtin.firstCells, sizeOf, typeInfo, hq, hi, ← hn, hl, hst]
theorem wpList_copy_wide {w : World} (hgd : o.guard = none) (d s : Operand) (dT sT : TypeId)
    (ho : o.op = .call { callee := .builtin .copy, args := #[d, s], argTypes := #[dT, sT] }) (elem : TypeId) (k : Nat) (hu : Tryd.prog.underlying dT = some (.slice elem)) (hsz : (Tryd.prog.info? elem).map (·.size) = some k)
    (g n c : Nat) (ad : Addr) (sc : Nat) (hd : a.eval d = .slice (some ⟨g, 0, none⟩) n c) (hs : a.eval s = .slice (some ad) n sc)
    (cur : Array Value) (t : TypeId) (hg : w.heap[g]? = some (.cells cur t (0, 0))) (cs : List Value) (hn : cs.length = n * k)
    (hsrc : ∀ j v, cs[j]? = some v → w.cell? (ad.add j) = some v) (hfit : cs.length = cur.size) (h1 : ∀ v ∈ cs, v.oneCell' = true)
    (h : wpList Tryd.prog ops Q rest (a.put o.dst (goInt n)) (w.setRow g cs.toArray)) : wpList Tryd.prog ops Q (o :: rest) a w := by
  refine wpList_plain hgd fun K hK => ?_
  have hrun := run_copy_wide w dT sT o.type elem k g n c ad sc cur t cs hu hsz hg hn hsrc hfit h1
  unfold Oper.wp
  simp [execOp, ho, resolve, invoke, builtin, hd, hs, hrun, Result.andThen]
  exact hK _ _ h
end

/-- make of elements of several cells. -/
theorem make_rows (t e size bytes : Nat) (ht : Tryd.prog.underlying t = some (.slice e)) (hi : (Tryd.prog.info? e).map (fun i => (i.zero.isSome, i.size, i.bytes)) = some (true, size, bytes)) (hb : bytes ≤ 4096) :
    ∃ Z : Nat → Array Value, (∀ n, (Z n).size = n * size) ∧ ∀ (n : Nat) (w : World), n ≤ 4194304 → (Instr.makeSlice t (.int .i64 (n : Int)) (.int .i64 (n : Int))).run Tryd.prog w = .ok (.slice (some ⟨w.heap.size, 0, none⟩) n n) (w.alloc (.cells (Z n) e)) := by
  obtain ⟨i, hi', hz⟩ := Option.map_eq_some_iff.1 hi
  simp only [Prod.mk.injEq] at hz
  obtain ⟨hz, hs, hbb⟩ := hz
  obtain ⟨z, hz⟩ := Option.isSome_iff_exists.1 hz
  refine ⟨fun n => madeCells z.cells (n * size), fun n => size_madeCells _ _, fun n w hn => ?_⟩
  have h1 : (i.bytes : Int) * (n : Int) ≤ 281474976710656 := by
    have h : ((i.bytes * n : Nat) : Int) ≤ 281474976710656 := by
      have : i.bytes * n ≤ 4096 * 4194304 := Nat.mul_le_mul (by omega) hn
      omega
    rwa [Int.natCast_mul] at h
  have hr := run_make (P := Tryd.prog) w t e i z ht hi' hz .i64 .i64 n n (by omega) (Int.le_refl _) h1 (by omega)
  simp only [Int.toNat_natCast, hs] at hr
  exact hr
theorem make22 : ∃ Z : Nat → Array Value, (∀ n, (Z n).size = n * 2) ∧ ∀ (n : Nat) (w : World), n ≤ 4194304 → (Instr.makeSlice 22 (.int .i64 (n : Int)) (.int .i64 (n : Int))).run Tryd.prog w = .ok (.slice (some ⟨w.heap.size, 0, none⟩) n n) (w.alloc (.cells (Z n) 32)) :=
  make_rows 22 32 2 32 Tryd.underlying22 (by kernel_rfl) (by omega)
theorem make29 : ∃ Z : Nat → Array Value, (∀ n, (Z n).size = n * 3) ∧ ∀ (n : Nat) (w : World), n ≤ 4194304 → (Instr.makeSlice 29 (.int .i64 (n : Int)) (.int .i64 (n : Int))).run Tryd.prog w = .ok (.slice (some ⟨w.heap.size, 0, none⟩) n n) (w.alloc (.cells (Z n) 34)) :=
  make_rows 29 34 3 48 Tryd.underlying29 (by kernel_rfl) (by omega)

/-- The cells of handed fields. -/
def nvCells (fs : List FB) : List Value := fs.flatMap fun f => [.string f.1, .string f.2]
theorem nvCells_len (fs : List FB) : (nvCells fs).length = fs.length * 2 := by
  induction fs with
  | nil => rfl
  | cons f fs ih => unfold nvCells at *; rw [List.flatMap_cons, List.length_append, ih, List.length_cons]; simp; omega
theorem nvCells_at : ∀ (fs : List FB) (j : Nat) (h : j < fs.length), (nvCells fs)[j * 2]? = some (.string fs[j].1) ∧ (nvCells fs)[j * 2 + 1]? = some (.string fs[j].2)
  | f :: fs, 0, _ => ⟨rfl, rfl⟩
  | f :: fs, j + 1, h => by
    have := nvCells_at fs j (by simpa using h)
    unfold nvCells at *
    rw [List.flatMap_cons, List.getElem?_append_right (by simp; omega), List.getElem?_append_right (by simp; omega)]
    simpa [show (j + 1) * 2 - 2 = j * 2 by omega, show (j + 1) * 2 + 1 - 2 = j * 2 + 1 by omega] using this
theorem nvCells_one (fs : List FB) : ∀ v ∈ nvCells fs, v.oneCell' = true := by
  intro v hv
  unfold nvCells at hv
  obtain ⟨f, -, hf⟩ := List.mem_flatMap.1 hv
  simp at hf
  rcases hf with rfl | rfl <;> rfl
theorem add_two (p : Addr) (j : Nat) : p.add (j + 1) = { block := (p.add j).block, off := (p.add j).off + 1 } := by
  unfold Addr.add
  by_cases h0 : j = 0 <;> simp [h0] <;> omega
theorem NV.cells {w : World} {p : Addr} {fs : List FB} (h : NV w p fs) : ∀ j v, (nvCells fs)[j]? = some v → w.cell? (p.add j) = some v := by
  intro j v hv
  have hj : j < fs.length * 2 := by rw [← nvCells_len]; exact (List.getElem?_eq_some_iff.1 hv).1
  have hc := nvCells_at fs (j / 2) (by omega)
  have hw := h (j / 2) (by omega)
  by_cases he : j % 2 = 0
  · have e : j = j / 2 * 2 := by omega
    rw [e] at hv ⊢
    rw [hc.1] at hv
    rw [← hv]; exact hw.1
  · have e : j = j / 2 * 2 + 1 := by omega
    rw [e] at hv ⊢
    rw [hc.2] at hv
    rw [← hv, add_two]; exact hw.2
theorem NV.ofRow {w : World} {b : Nat} {fs : List FB} {t : TypeId} (h : w.heap[b]? = some (.cells (nvCells fs).toArray t (0, 0))) : NV w ⟨b, 0, none⟩ fs := by
  intro j hj
  have hc := nvCells_at fs j hj
  have e : (Addr.add ⟨b, 0, none⟩ (j * 2)) = ⟨b, j * 2, none⟩ := by rw [Addr.add_lit, Nat.zero_add]
  rw [e]
  constructor
  · simp only [World.cell?, h, List.getElem?_toArray]
    exact hc.1
  · simp only [World.cell?, h, List.getElem?_toArray]
    exact hc.2

theorem zzClone_any (q : Option Addr) (n c : Nat) (fs : List FB) (w : World) (h : NVV w q n c fs) (hn : n ≤ 4194304) :
    Calls Tryd.prog 10 #[.slice q n c] w fun e w' => (∃ q' c', e = .returned (.slice q' n c') ∧ NVV w' q' n c' fs) ∧ Below w.heap.size w w' := by
  cases q with
  | none =>
    obtain ⟨rfl, rfl⟩ := h.nil rfl
    have HV : Hid (NVV w none 0 0 fs) := h
    clear h
    go_enter Tryd.func10, Tryd.ntmps10
    go_wp2_with fail
    go_ret
    exact ⟨⟨none, 0, rfl, HV.out⟩, Below.refl _ _⟩
  | some p =>
    have HV : Hid (NVV w (some p) n c fs) := h
    clear h
    obtain ⟨Z, hZ, hmk⟩ := make22
    have hmk' := fun w => hmk n w hn
    have HZ : Hid ((Z n).size = n * 2) := hZ n
    clear hmk hZ
    go_enter Tryd.func10, Tryd.ntmps10
    go_upto_region 4 with fail
    apply wp_region_lit
    iterate 2 (refine wpList_plain rfl fun K0 hK0 => ?_; go_simp; refine hK0 _ _ ?_; clear hK0 K0)
    have HB1 : Hid (Below w.heap.size w (w.alloc (.cells (Z n) 32))) := (Below.refl _ w).alloc (Nat.le_refl _) _
    have HG1 : Hid ((w.alloc (.cells (Z n) 32)).heap[w.heap.size]? = some (.cells (Z n) 32 (0, 0))) := heap_alloc_new _ _
    generalize w.alloc (.cells (Z n) 32) = w1 at *
    refine wpList_copy_wide rfl _ _ 22 22 rfl 32 2 Tryd.underlying22 (by kernel_rfl) w.heap.size n n p c rfl rfl (Z n) 32 HG1.out (nvCells fs) (by rw [nvCells_len, HV.out.len]) ((HV.out.below HB1.out).at' p rfl).cells (by rw [nvCells_len, HZ.out, HV.out.len]) (nvCells_one fs) ?_
    have HB2 : Hid (Below w.heap.size w (w1.setRow w.heap.size (nvCells fs).toArray)) := (fr_setRow w1 w.heap.size _).belowOf HB1.out (Nat.le_refl _) (Nat.le_refl _)
    have HG2 : Hid ((w1.setRow w.heap.size (nvCells fs).toArray).heap[w.heap.size]? = some (.cells (nvCells fs).toArray 32 (0, 0))) := setRow_heap w1 _ _ _ 32 _ HG1.out
    generalize w1.setRow w.heap.size (nvCells fs).toArray = w2 at *
    go_wp2_with fail
    go_ret
    exact ⟨⟨_, _, rfl, HV.out.len, fun h => (by cases h), Nat.le_refl _, fun p' hp' => by cases hp'; exact NV.ofRow HG2.out⟩, HB2.out⟩

/-- Fields in a row of c fields. -/
structure FRow (w : World) (b c : Nat) (fs : List FB) : Prop where
  le : fs.length ≤ c
  row : ∃ g, w.rowIs b 34 (c * 3) g ∧ ∀ j (h : j < fs.length), FA g j fs[j]
/-- A slice of fields, nil or over a row. -/
def FV (w : World) (v : Value) (fs : List FB) : Prop := (v = .slice none 0 0 ∧ fs = []) ∨ ∃ b c, v = .slice (some ⟨b, 0, none⟩) fs.length c ∧ FRow w b c fs
theorem FRow.below {w w' : World} {b c : Nat} {fs : List FB} (h : FRow w b c fs) (hb : Below w.heap.size w w') : FRow w' b c fs := by
  obtain ⟨g, hg, hf⟩ := h.row
  exact ⟨h.le, g, hg.of_block (hb.block _ hg.lt), hf⟩
theorem FRow.same {w w' : World} {b c : Nat} {fs : List FB} (h : FRow w b c fs) (hb : w'.heap[b]? = w.heap[b]?) : FRow w' b c fs := by
  obtain ⟨g, hg, hf⟩ := h.row
  exact ⟨h.le, g, hg.of_block hb, hf⟩
theorem FRow.lt {w : World} {b c : Nat} {fs : List FB} (h : FRow w b c fs) : b < w.heap.size := by
  obtain ⟨g, hg, hf⟩ := h.row
  exact hg.lt
theorem FV.below {w w' : World} {v : Value} {fs : List FB} (h : FV w v fs) (hb : Below w.heap.size w w') : FV w' v fs := by
  rcases h with h | ⟨b, c, e, h⟩
  · exact Or.inl h
  · exact Or.inr ⟨b, c, e, h.below hb⟩

theorem zzBuild_nil (w : World) : Calls Tryd.prog 13 #[.slice none 0 0] w fun e w' => e = .returned (.slice none 0 0) ∧ w' = w := by
  go_enter Tryd.func13, Tryd.ntmps13
  go_wp2_with fail
  go_ret
  exact ⟨rfl, rfl⟩
set_option maxRecDepth 100000 in
set_option maxHeartbeats 1000000 in
theorem zzBuild_some (p : Addr) (n c : Nat) (fs : List FB) (w : World) (h : NVV w (some p) n c fs) (hn : n ≤ 4194304) :
    Calls Tryd.prog 13 #[.slice (some p) n c] w fun e w' => e = .returned (.slice (some ⟨w.heap.size, 0, none⟩) n n) ∧ FRow w' w.heap.size n fs ∧ Below w.heap.size w w' := by
  have HV : Hid (NVV w (some p) n c fs) := h
  clear h
  obtain ⟨Z, hZ, hmk⟩ := make29
  have hmk' := fun w => hmk n w hn
  have HZ : Hid ((Z n).size = n * 3) := hZ n
  clear hmk hZ
  go_enter Tryd.func13, Tryd.ntmps13
  go_wp2_with fail
  go_loopg [4] n (fun g v wr => ∃ k : Nat, g = n - k ∧ k ≤ n ∧ v = .int .i64 (k : Int) ∧ Hid (∃ f, wr.rowIs w.heap.size 34 (n * 3) f ∧ ∀ j (h : j < fs.length), j < k → FA f j fs[j]) ∧ Hid (Below w.heap.size w wr))
  case atStart =>
    refine ⟨0, rfl, Nat.zero_le _, rfl, ⟨fun i => (Z n).getD i undef, ?_, fun j _ h => absurd h (Nat.not_lt_zero _)⟩, (Below.refl _ w).alloc (Nat.le_refl _) _⟩
    have := World.rowIs_alloc w (Z n) 34 (fun i => (Z n).getD i undef) (fun i hi => by simp [hi])
    rw [HZ.out] at this
    exact this
  case round =>
    obtain ⟨k, hg, hk, rfl, HR, HB⟩ := hrel
    have HG : Hid (gk = n - k) := hg
    clear hg
    by_cases hlt : k < n
    · have hlt' : (k : Int) < (n : Int) := by omega
      have hfi : k < fs.length := by have := HV.out.len; omega
      go_wp2_with fail
      refine wp_region_still_tail 14 (by kernel_rfl) (by kernel_rfl) ?_
      simp only [List.take_succ_cons, List.take_zero, List.drop_succ_cons, List.drop_zero]
      have HB' : Hid (Below w.heap.size w { wr with drawn := wr.drawn + 1 }) := HB.out.trans ⟨rfl, rfl, rfl, Nat.le_refl _, fun _ _ => rfl⟩
      have HR' : Hid (∃ f, World.rowIs { wr with drawn := wr.drawn + 1 } w.heap.size 34 (n * 3) f ∧ ∀ j (h : j < fs.length), j < k → FA f j fs[j]) := HR.out
      clear HB HR
      generalize ({ heap := wr.heap, tape := wr.tape, drawn := wr.drawn + 1, os := wr.os, output := wr.output } : World) = wd at *
      obtain ⟨q1, q2⟩ := (HV.out.below HB'.out).at' p rfl k hfi
      iterate 14 still_step
      refine wpStill_nil ?_
      obtain ⟨f, hf, hfa⟩ := HR'.out
      refine wpList_storeRow 34 34 w.heap.size (k * 3) (n * 3) 3 f (fun j => if j = 0 then .string fs[k].1 else if j = 1 then .string fs[k].2 else .string ⟨#[]⟩) _ _ _ rfl rfl rfl rfl hf (by rfl) (by kernel_rfl) (by omega) (fun j hj => ?_) (fun j hj => by split <;> (try split) <;> rfl) ?_
      · match j, hj with
        | 0, _ => rfl
        | 1, _ => rfl
        | 2, _ => rfl
      · intro w2 r1 r2 r3
        have HR2 : Hid (∃ f, w2.rowIs w.heap.size 34 (n * 3) f ∧ ∀ j (h : j < fs.length), j < k + 1 → FA f j fs[j]) := by
          refine ⟨_, r1, fun j hj hjk => ?_⟩
          by_cases hjk2 : j = k
          · subst hjk2
            refine ⟨?_, ?_, ?_⟩
            · simp only []; rw [if_pos (by omega), if_pos (by omega)]
            · simp only []; rw [if_pos (by omega), if_neg (by omega), if_pos (by omega)]
            · simp only []; rw [if_pos (by omega), if_neg (by omega), if_neg (by omega)]
          · obtain ⟨a1, a2, a3⟩ := hfa j hj (by omega)
            refine ⟨?_, ?_, ?_⟩
            · simp only []; rw [if_neg (by omega)]; exact a1
            · simp only []; rw [if_neg (by omega)]; exact a2
            · simp only []; rw [if_neg (by omega)]; exact a3
        have HB2 : Hid (Below w.heap.size w w2) := r2.belowOf HB'.out (Nat.le_refl _) (Nat.le_refl _)
        clear r1 r2 r3 hf hfa q1 q2 HR' HB'
        go_wp2_with fail
        go_roundg (n - (k + 1))
        case measure => rw [HG.out]; omega
        case rel => exact ⟨k + 1, rfl, hlt, by go_num, HR2, HB2⟩
    · have hlt' : ¬ (k : Int) < (n : Int) := by omega
      go_wp2_with fail
      go_ret
      refine ⟨rfl, ⟨?_, ?_⟩, HB.out⟩
      · have := HV.out.len; omega
      · obtain ⟨f, hf, hfa⟩ := HR.out
        exact ⟨f, hf, fun j hj => hfa j hj (by have := HV.out.len; omega)⟩
end Go.Proofs.Qxb6616805aDoor
