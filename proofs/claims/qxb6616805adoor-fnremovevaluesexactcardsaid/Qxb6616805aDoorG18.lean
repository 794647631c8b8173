/- The join; the bound on all lengths. -/
import Derived.Test.Qxb6616805aDoorG17
set_option linter.unusedVariables false
set_option linter.unusedSimpArgs false
set_option linter.unnecessarySimpa false
namespace Go.Proofs.Qxb6616805aDoor
open Go.RowKit Go.Shelf Go.Deep

/-- Bytes that the call made itself. -/
def BR (w : World) (B : Nat) (v : Value) (l : List UInt8) : Prop := w.ownsRow B 5 1 v l.length (l.map fun b => Value.int .u8 (b.toNat : Int))
theorem BR.nil (w : World) (B : Nat) : BR w B (.slice none 0 0) [] := World.ownsRow_nil _ _ _ _
theorem info5 : ∃ i0, Tryd.prog.info? 5 = some i0 ∧ i0.zero = some (.int .u8 0) ∧ i0.size = 1 ∧ i0.bytes = 1 := by
  have h : (Tryd.prog.info? 5).map (fun i => (i.zero, i.size, i.bytes)) = some (some (.int .u8 0), 1, 1) := by kernel_rfl
  cases h9 : Tryd.prog.info? 5 with
  | none => rw [h9] at h; cases h
  | some i =>
    rw [h9] at h
    have hz := Option.some.inj h
    exact ⟨i, rfl, congrArg Prod.fst hz, congrArg (fun p => p.2.1) hz, congrArg (fun p => p.2.2) hz⟩
section
variable {ops : Array Oper} {rest : List Oper} {a : Act} {Q : Exit → Act → World → Prop} {dst : Option Nat} {ty : TypeId} {ps : String} {aft : Array Edge}
/-- append of a string's bytes. -/
theorem br_push (s x : Operand) (v : Value) (l : List UInt8) (z : ByteArray) (hs : a.eval s = v) (B : Nat) (w0 : World) (hb : BR w0 B v l) (hB : B ≤ w0.heap.size) (hx : a.eval x = .string z) (hlen : l.length + z.size ≤ 33554432)
    (h : ∀ v' w', BR w' B v' (l ++ z.data.toList) → Below B w0 w' → wpList Tryd.prog ops Q rest (a.put dst v') w') :
    wpList Tryd.prog ops Q ({ dst := dst, op := .call { callee := .builtin .append, args := #[s, x], argTypes := #[23, 9] }, type := ty, pos := ps, after := aft, guard := none } :: rest) a w0 := by
  obtain ⟨i0, hi, hz0, hz1, hz2⟩ := info5
  refine Lib.wpList_append_own_string _ rfl s x 23 9 rfl B 5 i0 Tryd.underlying23 Tryd.underlying9 hi hz0 hz1 hz2 v _ _ hs hb z hx (by unfold maxLen; omega) (by omega) hB ?_
  intro v' w' h1 h2 h3
  refine h v' w' ?_ (Below.grown (Below.refl B w0) h2 hB (fun k hk => (hb.lt k hk).1))
  unfold BR
  rw [List.map_append, List.length_append]
  exact h1
end
theorem BR.text {w : World} {B : Nat} {v : Value} {l : List UInt8} (h : BR w B v l) : ∃ q n c, v = .slice q n c ∧ ∀ w' : World, w' = w → (convert 23 9 (.slice q n c)).run Tryd.prog w' = .ok (.string (bs l)) w' := by
  have h0 : w.ownsRow B 5 1 v l.length (l.map fun b => Value.int .u8 (b.toNat : Int)) := h
  rcases h0.2 with ⟨rfl, hn⟩ | ⟨g, cap, cur, rfl, hb, hg, hcap, hm, hs, ht⟩
  · have : l = [] := List.eq_nil_of_length_eq_zero hn
    subst this
    exact ⟨none, 0, 0, rfl, fun w' _ => run_convert_bytes_nil w' 23 5 Tryd.underlying23 Tryd.underlying5 0 0 9 Tryd.underlying9⟩
  · refine ⟨_, _, cap, rfl, fun w' e => ?_⟩
    subst e
    refine run_convert_bytes_back w' 23 9 5 ⟨g, 0, none⟩ cap l Tryd.underlying23 Tryd.underlying5 Tryd.underlying9 fun j hj => ?_
    rw [Addr.add_lit, Nat.zero_add, World.ownsRow.cellAt h0 j (by omega), List.getElem?_map, List.getElem?_eq_getElem hj]
    rfl

theorem join_snoc (xs : List (List UInt8)) (x : List UInt8) : I.join (xs ++ [x]) = if xs = [] then x else I.join xs ++ [44, 32] ++ x := by
  induction xs with
  | nil => rfl
  | cons y ys ih =>
    cases ys with
    | nil => simp [I.join]
    | cons z zs =>
      rw [if_neg (by simp)] at ih ⊢
      have e1 : I.join (y :: z :: zs ++ [x]) = y ++ 44 :: 32 :: I.join (z :: zs ++ [x]) := rfl
      have e2 : I.join (y :: z :: zs) = y ++ 44 :: 32 :: I.join (z :: zs) := rfl
      rw [e1, e2, ih]
      simp
def tl (x : ByteArray) : List UInt8 := x.data.toList
theorem sum_take (xs : List ByteArray) (i : Nat) : ((xs.take i).map fun x => (tl x).length).sum ≤ (xs.map fun x => (tl x).length).sum := by
  conv => rhs; rw [← List.take_append_drop i xs, List.map_append, List.sum_append]
  omega
theorem join_take (xs : List ByteArray) (i : Nat) (h : (xs.map fun x => (tl x).length).sum + 2 * xs.length ≤ 8388608) : (I.join ((xs.take i).map tl)).length ≤ 8388608 := by
  have h1 := join_sum ((xs.take i).map tl)
  have h2 := sum_take xs i
  have h3 : (xs.take i).length ≤ xs.length := List.length_take_le' _ _
  rw [List.map_map, List.length_map] at h1
  have e : (List.length ∘ tl) = fun x => (tl x).length := rfl
  rw [e] at h1
  omega
theorem mem_sum (xs : List ByteArray) (i : Nat) (h : i < xs.length) : xs[i].size ≤ (xs.map fun x => (tl x).length).sum := by
  induction xs generalizing i with
  | nil => exact absurd h (by simp)
  | cons x xs ih =>
    rw [List.map_cons, List.sum_cons]
    cases i with
    | zero =>
      have : (x :: xs)[0].size = (tl x).length := rfl
      omega
    | succ i =>
      have := ih i (by simpa using h)
      simp only [List.getElem_cons_succ]
      omega

set_option maxHeartbeats 1000000 in
theorem zzJoin_any (q : Option Addr) (n c : Nat) (xs : List ByteArray) (w : World) (h : SV w (.slice q n c) xs) (hl : (xs.map fun x => (tl x).length).sum + 2 * xs.length ≤ 8388608) :
    Calls Tryd.prog 21 #[.slice q n c] w fun e w' => e = .returned (.string (bs (I.join (xs.map tl)))) ∧ Below w.heap.size w w' := by
  have HV : Hid (SV w (.slice q n c) xs) := h
  have HS : Hid ((xs.map fun x => (tl x).length).sum + 2 * xs.length ≤ 8388608) := hl
  have HN : Hid (n = xs.length) := by
    obtain ⟨q', c', e, -⟩ := h
    simp only [Value.slice.injEq] at e
    exact e.2.1
  have hn : n ≤ 4194304 := by have := HN.out; omega
  clear h hl
  go_enter Tryd.func21, Tryd.ntmps21
  go_wp2_with fail
  go_loopg [3, 4] n (fun g v3 v4 wr => ∃ i : Nat, g = n - i ∧ i ≤ n ∧ v4 = .int .i64 (i : Int) ∧ Hid (BR wr w.heap.size v3 (I.join ((xs.take i).map tl)) ∧ Below w.heap.size w wr))
  case atStart => exact ⟨0, by omega, by omega, rfl, BR.nil _ _, Below.refl _ _⟩
  case round =>
    obtain ⟨i, hg, hi, rfl, HL⟩ := hrel
    have HG : Hid (gk = n - i) := hg
    clear hg
    by_cases hlt : i < n
    · have hlt' : (i : Int) < (n : Int) := by omega
      have hix : i < xs.length := by have := HN.out; omega
      have HX : Hid (xs[i].size ≤ 8388608) := by have h1 := mem_sum xs i hix; have := HS.out; show _ ≤ _; omega
      have HJ : Hid ((I.join ((xs.take i).map tl)).length ≤ 8388608) := join_take xs i HS.out
      have HT : Hid (I.join ((xs.take (i + 1)).map tl) = if i = 0 then tl xs[i] else I.join ((xs.take i).map tl) ++ [44, 32] ++ tl xs[i]) := by
        show _ = _
        rw [List.take_succ_eq_append_getElem hix, List.map_append, List.map_cons, List.map_nil, join_snoc]
        by_cases h0 : i = 0
        · subst h0; simp
        · rw [if_neg h0, if_neg (by simp; exact ⟨h0, fun e => by subst e; simp at hix⟩)]
      obtain ⟨q', c', e, h2⟩ := HV.out
      simp only [Value.slice.injEq] at e
      obtain ⟨b, eb, hc⟩ := h2 (by omega)
      obtain ⟨rfl, -, rfl⟩ := e
      subst eb
      have HC : Hid (∀ w' : World, Below w.heap.size w w' → w'.cell? ⟨b, i, none⟩ = some (.string xs[i])) := fun w' hb => cell_below hb (hc i hix)
      clear h2 hc
      by_cases h0 : i = 0
      · have HT2 : Hid (I.join ((xs.take (i + 1)).map tl) = I.join ((xs.take i).map tl) ++ xs[i].data.toList) := by
          show _ = _
          rw [HT.out, if_pos h0]
          have : xs.take i = [] := by rw [h0]; rfl
          rw [this]
          rfl
        have h0' : ¬ ((0 : Int) < (i : Int)) := by omega
        have c0 : wr.cell? ⟨b, i, none⟩ = some (.string xs[i]) := HC.out wr HL.out.2
        clear HT h0
        go_upto_region 7 with fail
        apply wp_region_lit
        iterate 5 (refine wpList_plain rfl fun K0 hK0 => ?_; go_simp; refine hK0 _ _ ?_; clear hK0 K0)
        refine br_push _ _ u3 _ xs[i] rfl w.heap.size wr HL.out.1 HL.out.2.size rfl (by have := HX.out; have := HJ.out; omega) ?_
        intro v' wa hS hBe
        rw [← HT2.out] at hS
        have HS2 : Hid (BR wa w.heap.size v' (I.join ((xs.take (i + 1)).map tl)) ∧ Below w.heap.size w wa) := ⟨hS, HL.out.2.trans hBe⟩
        clear hS hBe c0
        go_wp2_with fail
        go_roundg (n - (i + 1))
        case measure => rw [HG.out]; omega
        case rel => exact ⟨i + 1, rfl, by omega, by go_num, HS2.out⟩
      · have HT2 : Hid (I.join ((xs.take (i + 1)).map tl) = (I.join ((xs.take i).map tl) ++ (⟨#[44, 32]⟩ : ByteArray).data.toList) ++ xs[i].data.toList) := by
          show _ = _
          rw [HT.out, if_neg h0]
          rfl
        have h0' : (0 : Int) < (i : Int) := by omega
        clear HT h0
        go_upto_region 6 with fail
        apply wp_region_lit
        iterate 1 (refine wpList_plain rfl fun K0 hK0 => ?_; go_simp; refine hK0 _ _ ?_; clear hK0 K0)
        refine br_push _ _ u3 _ ⟨#[44, 32]⟩ rfl w.heap.size wr HL.out.1 HL.out.2.size rfl (by have := HJ.out; have e : (⟨#[44, 32]⟩ : ByteArray).size = 2 := rfl; rw [e]; omega) ?_
        intro v1 w1 hS1 hBe1
        have HL1 : Hid (BR w1 w.heap.size v1 (I.join ((xs.take i).map tl) ++ (⟨#[44, 32]⟩ : ByteArray).data.toList) ∧ Below w.heap.size w w1) := ⟨hS1, HL.out.2.trans hBe1⟩
        have c0 : w1.cell? ⟨b, i, none⟩ = some (.string xs[i]) := HC.out w1 HL1.out.2
        clear hS1 hBe1
        go_upto_region 7 with fail
        apply wp_region_lit
        iterate 5 (refine wpList_plain rfl fun K0 hK0 => ?_; go_simp; refine hK0 _ _ ?_; clear hK0 K0)
        refine br_push _ _ v1 _ xs[i] rfl w.heap.size w1 HL1.out.1 HL1.out.2.size rfl (by have := HX.out; have := HJ.out; have e : (⟨#[44, 32]⟩ : ByteArray).data.toList.length = 2 := rfl; rw [List.length_append, e]; omega) ?_
        intro v' wa hS hBe
        rw [← HT2.out] at hS
        have HS2 : Hid (BR wa w.heap.size v' (I.join ((xs.take (i + 1)).map tl)) ∧ Below w.heap.size w wa) := ⟨hS, HL1.out.2.trans hBe⟩
        clear hS hBe c0
        go_wp2_with fail
        go_roundg (n - (i + 1))
        case measure => rw [HG.out]; omega
        case rel => exact ⟨i + 1, rfl, by omega, by go_num, HS2.out⟩
    · have hlt' : ¬ (i : Int) < (n : Int) := by omega
      have HE : Hid (BR wr w.heap.size u3 (I.join (xs.map tl)) ∧ Below w.heap.size w wr) := by
        have h1 := HL.out
        rw [show xs.take i = xs from List.take_of_length_le (by have := HN.out; omega)] at h1
        exact h1
      clear HL
      obtain ⟨q3, n3, c3, hv, hcv⟩ := HE.out.1.text
      have hcv' := hcv wr rfl
      subst hv
      go_wp2_with fail
      go_ret
      exact ⟨rfl, HE.out.2⟩
end Go.Proofs.Qxb6616805aDoor
