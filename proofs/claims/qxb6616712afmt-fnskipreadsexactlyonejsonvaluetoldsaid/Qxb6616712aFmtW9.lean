/- The builder's methods in one word; strings by their bytes; two functions of utf16. -/
import Derived.Test.Qxb6616712aFmtW8
import Derived.Test.Qxb6616712aFmtShelf
set_option linter.unusedVariables false
set_option linter.unusedSimpArgs false
set_option linter.unnecessarySimpa false
namespace Go.Proofs.Qxb6616712aFmt
open Go.Extern.Stop Go.Stop Go.Extern
open Go.RowKit

/-- A builder in block B that holds at most n bytes. -/
def Bd (B n : Nat) (w : World) : Prop := ∃ l : List UInt8, Lib.IsBuilderF 55 5 B B (Lib.byteCells l) w ∧ l.length ≤ n

theorem ownsRowF_fr {w w' : World} {B e size : Nat} {v : Value} {n : Nat} {xs : List Value} (h : w.ownsRowF B e size v n xs) (hk : ∀ k, B ≤ k → k < w.heap.size → w'.heap[k]? = w.heap[k]?) : w'.ownsRowF B e size v n xs := by
  refine ⟨h.1, ?_⟩
  rcases h.2 with h | ⟨g, cap, cur, fz, hv, hB, hg, r⟩
  · exact Or.inl h
  · exact Or.inr ⟨g, cap, cur, fz, hv, hB, by rw [hk g hB (Array.getElem?_eq_some_iff.1 hg).1]; exact hg, r⟩

theorem BuilderAtF_fr {T e B b : Nat} {p : Value} {bs : List Value} {w w' : World} (h : Lib.BuilderAtF T e B b p bs w) (hk : ∀ k, B ≤ k → k < w.heap.size → w'.heap[k]? = w.heap[k]?) : Lib.BuilderAtF T e B b p bs w' := by
  obtain ⟨hB, v, hb, ho, hne⟩ := h
  exact ⟨hB, v, by rw [hk b hB (Array.getElem?_eq_some_iff.1 hb).1]; exact hb, ownsRowF_fr ho hk, hne⟩

theorem Bd.keep {B n : Nat} {w w' : World} (h : Bd B n w) (hk : ∀ k, B ≤ k → k < w.heap.size → w'.heap[k]? = w.heap[k]?) : Bd B n w' := by
  obtain ⟨l, hb, hl⟩ := h
  exact ⟨l, hb.elim (fun x => Or.inl (BuilderAtF_fr x hk)) (fun x => Or.inr (BuilderAtF_fr x hk)), hl⟩
theorem Bd.fr {B n b : Nat} {w w' : World} (h : Bd B n w) (hb : b < B) (hf : Fr b w w') : Bd B n w' := h.keep fun k hk hlt => hf.block k hlt (by omega)
theorem Bd.drewN {B n : Nat} {w : World} (h : Bd B n w) (q : Nat) : Bd B n (w.drewN q) := h
theorem Bd.mono {B n m : Nat} {w : World} (h : Bd B n w) (hm : n ≤ m) : Bd B m w := by
  obtain ⟨l, hb, hl⟩ := h; exact ⟨l, hb, by omega⟩
theorem Bd.le {B n : Nat} {w : World} (h : Bd B n w) : B ≤ w.heap.size := by
  obtain ⟨l, hb, _⟩ := h
  rcases hb with hb | hb <;> exact Nat.le_of_lt hb.lt

theorem byteCells_append (l m : List UInt8) : Lib.byteCells (l ++ m) = Lib.byteCells l ++ Lib.byteCells m := by simp [Lib.byteCells]

theorem bd_WriteByte (B n : Nat) (c : Int) (w : World) (h : Bd B n w) (hn : n + 1 ≤ 140737488355328) (h0 : 0 ≤ c) (h1 : c ≤ 255) :
    Calls Tryf.prog 51 #[.pointer (some ⟨B, 0, none⟩), .int .u8 c] w fun e w' => e = .returned .nilIface ∧ Bd B (n + 1) w' ∧ Below B w w' := by
  have hB := h.le
  obtain ⟨l, hb, hl⟩ := h
  refine (Tryf.Builder_WriteByte_k B B _ c w hb (by rw [Lib.byteCells_length]; omega) hB).mono fun e w' ⟨h1', h2, h3, _⟩ => ⟨h1', ⟨l ++ [UInt8.ofNat c.toNat], Or.inr ?_, by simp; omega⟩, h3⟩
  rw [byteCells_append]
  have e : Lib.byteCells [UInt8.ofNat c.toNat] = [.int .u8 c] := by
    simp only [Lib.byteCells, List.map_cons, List.map_nil, UInt8.toNat_ofNat']
    rw [Nat.mod_eq_of_lt (by omega)]
    simp; omega
  rw [e]; exact h2
theorem bd_WriteString (B n : Nat) (x : ByteArray) (w : World) (h : Bd B n w) (hn : n + x.size ≤ 140737488355328) :
    Calls Tryf.prog 49 #[.pointer (some ⟨B, 0, none⟩), .string x] w fun e w' => e = .returned (.tuple #[.int .i64 x.size, .nilIface]) ∧ Bd B (n + x.size) w' ∧ Below B w w' := by
  have hB := h.le
  obtain ⟨l, hb, hl⟩ := h
  refine (Tryf.Builder_WriteString_k B B _ x w hb (by rw [Lib.byteCells_length]; omega) hB).mono fun e w' ⟨h1', h2, h3, _⟩ => ⟨h1', ⟨l ++ x.data.toList, Or.inr ?_, by simp; omega⟩, h3⟩
  rw [byteCells_append]; exact h2
theorem bd_WriteRune (B n : Nat) (r : Int) (w : World) (h : Bd B n w) (hn : n + 4 ≤ 140737488355328) (h0 : -2147483648 ≤ r) (h1 : r ≤ 2147483647) :
    Calls Tryf.prog 57 #[.pointer (some ⟨B, 0, none⟩), .int .i32 r] w fun e w' => (∃ m, e = .returned (.tuple #[.int .i64 m, .nilIface])) ∧ Bd B (n + 4) w' ∧ Below B w w' := by
  have hB := h.le
  obtain ⟨l, hb, hl⟩ := h
  refine (Tryf.Builder_WriteRune_k B B _ r h0 h1 w hb (by rw [Lib.byteCells_length]; omega) hB).mono fun e w' ⟨h1', h2, h3, _⟩ => ⟨⟨_, h1'⟩, ⟨l ++ Lib.encodeRune r, Or.inr ?_, ?_⟩, h3⟩
  · rw [byteCells_append, Lib.byteCells_encodeRune]; exact h2
  · rw [List.length_append]
    have : (Lib.encodeRune r).length ≤ 4 := by
      unfold Lib.encodeRune
      rw [List.length_map]
      unfold Lib.encodeRuneZ
      repeat' split
      all_goals simp
    omega
theorem bd_String (B n : Nat) (w : World) (h : Bd B n w) :
    Calls Tryf.prog 50 #[.pointer (some ⟨B, 0, none⟩)] w fun e w' => (∃ x, e = .returned (.string x)) ∧ Below B w w' := by
  have hB := h.le
  obtain ⟨l, hb, hl⟩ := h
  exact (Tryf.Builder_String_any_k B B l w hb hB).mono fun e w' ⟨h1, _, h3, _⟩ => ⟨⟨_, h1⟩, h3⟩

/-- A new builder. -/
theorem Bd.new (w : World) : Bd w.heap.size 0 (w.alloc (.cells #[.pointer none, .slice none 0 0] 55)) := by
  refine ⟨[], Or.inl ⟨Nat.le_refl _, .slice none 0 0, heap_alloc_new _ _, ⟨rfl, Or.inl ⟨rfl, rfl⟩⟩, by simp [Value.ownBlock]⟩, Nat.le_refl _⟩

/-- Is c a surrogate? -/
def surB (c : Int) : Bool := decide (55296 ≤ c) && decide (c < 57344)

theorem IsSurrogate_any (c : Int) (w : World) : Calls Tryf.prog 54 #[.int .i32 c] w fun e w' => e = .returned (.bool (surB c)) ∧ w' = w := by
  by_cases h1 : 55296 ≤ c
  · by_cases h2 : c < 57344
    · go_enter Tryf.func54, Tryf.ntmps54
      go_wp2
      go_ret
      exact ⟨by unfold surB; simp [h1, h2], rfl⟩
    · go_enter Tryf.func54, Tryf.ntmps54
      go_wp2
      go_ret
      refine ⟨?_, rfl⟩
      have : surB c = false := by unfold surB; simp; omega
      rw [this]
      simp
  · go_enter Tryf.func54, Tryf.ntmps54
    go_wp2
    go_ret
    refine ⟨?_, rfl⟩
    have : surB c = false := by unfold surB; simp; omega
    rw [this]
    simp

theorem wrap32_bd (x : Int) : -2147483648 ≤ wrap32 x ∧ wrap32 x ≤ 2147483647 := by unfold wrap32; omega

set_option maxHeartbeats 400000 in
theorem DecodeRune_any (c1 c2 : Int) (w : World) : Calls Tryf.prog 56 #[.int .i32 c1, .int .i32 c2] w fun e w' => (∃ r : Int, -2147483648 ≤ r ∧ r ≤ 2147483647 ∧ e = .returned (.int .i32 r)) ∧ w' = w := by
  by_cases h : 55296 ≤ c1 ∧ c1 < 56320 ∧ 56320 ≤ c2 ∧ c2 < 57344
  · obtain ⟨h1, h2, h3, h4⟩ := h
    go_enter Tryf.func56, Tryf.ntmps56
    go_wp2
    go_ret
    exact ⟨⟨_, (wrap32_bd _).1, (wrap32_bd _).2, rfl⟩, rfl⟩
  · have hh : c1 < 55296 ∨ (55296 ≤ c1 ∧ 56320 ≤ c1) ∨ (55296 ≤ c1 ∧ c1 < 56320 ∧ c2 < 56320) ∨ (55296 ≤ c1 ∧ c1 < 56320 ∧ 56320 ≤ c2 ∧ 57344 ≤ c2) := by omega
    clear h
    rcases hh with h1 | ⟨h1, h2⟩ | ⟨h1, h2, h3⟩ | ⟨h1, h2, h3, h4⟩
    all_goals
      go_enter Tryf.func56, Tryf.ntmps56
      go_wp2
      go_ret
      exact ⟨⟨65533, by omega, by omega, rfl⟩, rfl⟩

/-! Strings by their bytes. -/

theorem st_end {s : ByteArray} {k : Nat} (h : ¬ k < s.size) : J.str (s.data.toList.drop k) = none := by rw [drop_none s k h]; rfl
theorem st_quote {s : ByteArray} {k : Nat} (h : k < s.size) (hc : (s[k].toNat : Int) = 34) : J.str (s.data.toList.drop k) = some (s.data.toList.drop (k + 1)) := by
  rw [drop_cons s k h]; unfold J.str
  rw [if_pos (by rw [show (s[k] == 34) = _ from u8_int s[k] 34 (by omega)]; simpa using hc)]
theorem st_ctl {s : ByteArray} {k : Nat} (h : k < s.size) (hc : (s[k].toNat : Int) < 32) : J.str (s.data.toList.drop k) = none := by
  rw [drop_cons s k h]; unfold J.str
  rw [if_neg (by rw [show (s[k] == 34) = _ from u8_int s[k] 34 (by omega)]; simp; omega), if_pos (by omega)]
theorem st_plain {s : ByteArray} {k : Nat} (h : k < s.size) (h1 : (32 : Int) ≤ s[k].toNat) (h2 : (s[k].toNat : Int) ≠ 34) (h3 : (s[k].toNat : Int) ≠ 92) : J.str (s.data.toList.drop k) = J.str (s.data.toList.drop (k + 1)) := by
  rw [drop_cons s k h]; conv => lhs; unfold J.str
  rw [if_neg (by rw [show (s[k] == 34) = _ from u8_int s[k] 34 (by omega)]; simpa using h2), if_neg (by omega), if_pos (by rw [bne, show (s[k] == 92) = _ from u8_int s[k] 92 (by omega)]; simpa using h3)]
theorem st_bs {s : ByteArray} {k : Nat} (h : k < s.size) (hc : (s[k].toNat : Int) = 92) : J.str (s.data.toList.drop k) = (match s.data.toList.drop (k + 1) with
    | [] => none
    | e :: t1 => if J.isEsc e then J.str t1 else if e != 117 then none else match hex4L t1 with | none => none | some t2 => J.str t2) := by
  rw [drop_cons s k h]; conv => lhs; unfold J.str
  rw [if_neg (by rw [show (s[k] == 34) = _ from u8_int s[k] 34 (by omega)]; simp; omega), if_neg (by omega), if_neg (by rw [bne, show (s[k] == 92) = _ from u8_int s[k] 92 (by omega)]; simp; omega)]
  cases s.data.toList.drop (k + 1) with
  | nil => rfl
  | cons e t1 =>
    simp only
    split
    · rfl
    · split
      · rfl
      · match t1 with
        | [] => rfl
        | [_] => rfl
        | [_, _] => rfl
        | [_, _, _] => rfl
        | a :: b :: x :: y :: t2 =>
          simp only [hex4L]
          split <;> rfl
theorem st_bs_end {s : ByteArray} {k : Nat} (h : k < s.size) (hc : (s[k].toNat : Int) = 92) (h1 : ¬ k + 1 < s.size) : J.str (s.data.toList.drop k) = none := by
  rw [st_bs h hc, drop_none s _ h1]
theorem st_esc {s : ByteArray} {k : Nat} (h : k < s.size) (hc : (s[k].toNat : Int) = 92) (h1 : k + 1 < s.size) (he : J.isEsc s[k + 1] = true) : J.str (s.data.toList.drop k) = J.str (s.data.toList.drop (k + 2)) := by
  rw [st_bs h hc, drop_cons s _ h1]; simp only; rw [if_pos he]
theorem st_bad {s : ByteArray} {k : Nat} (h : k < s.size) (hc : (s[k].toNat : Int) = 92) (h1 : k + 1 < s.size) (he : J.isEsc s[k + 1] = false) (hu : (s[k + 1].toNat : Int) ≠ 117) : J.str (s.data.toList.drop k) = none := by
  rw [st_bs h hc, drop_cons s _ h1]; simp only
  rw [he, if_neg (by simp), if_pos (by rw [bne, show (s[k + 1] == 117) = _ from u8_int s[k + 1] 117 (by omega)]; simpa using hu)]
theorem st_u {s : ByteArray} {k : Nat} (h : k < s.size) (hc : (s[k].toNat : Int) = 92) (h1 : k + 1 < s.size) (hu : (s[k + 1].toNat : Int) = 117) :
    J.str (s.data.toList.drop k) = (match hex4L (s.data.toList.drop (k + 2)) with | none => none | some t2 => J.str t2) := by
  rw [st_bs h hc, drop_cons s _ h1]; simp only
  have e : s[k + 1] = 117 := by
    have := u8_int s[k + 1] 117 (by omega)
    rw [hu] at this
    simpa using this
  rw [e]; rfl

/-- Which letter follows a backslash. -/
theorem esc_index (c : UInt8) : (J.isEsc c = true → 0 ≤ Lib.indexByte [34, 92, 47, 98, 102, 110, 114, 116] c ∧ Lib.indexByte [34, 92, 47, 98, 102, 110, 114, 116] c < 8) ∧ (J.isEsc c = false → Lib.indexByte [34, 92, 47, 98, 102, 110, 114, 116] c = -1) := by
  have h : ∀ x : Fin 256, (J.isEsc (UInt8.ofNat x.val) = true → 0 ≤ Lib.indexByte [34, 92, 47, 98, 102, 110, 114, 116] (UInt8.ofNat x.val) ∧ Lib.indexByte [34, 92, 47, 98, 102, 110, 114, 116] (UInt8.ofNat x.val) < 8) ∧ (J.isEsc (UInt8.ofNat x.val) = false → Lib.indexByte [34, 92, 47, 98, 102, 110, 114, 116] (UInt8.ofNat x.val) = -1) := by decide +kernel
  have := h ⟨c.toNat, c.toNat_lt⟩
  simpa using this

end Go.Proofs.Qxb6616712aFmt
