/- strconv.QuoteRune at every rune; syntaxError. -/
import Derived.Test.Qxb6616712aFmtS2
import Derived.Test.Qxb6616712aFmtFx
import Derived.Laws.BytesArg
import Derived.Deep.RegionWith
set_option linter.unusedVariables false
set_option linter.unusedSimpArgs false
set_option linter.unnecessarySimpa false
namespace Go.Proofs.Qxb6616712aFmt
open Go.Extern.Stop Go.Stop Go.Extern
open Go.RowKit

theorem validRune_bd {r : Int} (h : Lib.validRune r = true) : 0 ≤ r ∧ r ≤ 1114111 := by
  unfold Lib.validRune at h
  simp at h
  omega

theorem esc_all (B n : Nat) (v : Value) (r : Int) (W0 w : World) (T : Lib.PrintTabs) (hb : Bf B n v W0 w) (hn : n + 20 ≤ 140737488355328) (hT : Lib.PrintTabsAt 3 4 5 6 T w) (hv : Lib.validRune r = true) :
    Calls Tryf.prog 70 #[v, .int .i32 r, .int .u8 39, .bool false, .bool false] w fun e w' => EscPost B n W0 e w' := by
  obtain ⟨h0, h1⟩ := validRune_bd hv
  by_cases hq : r = 39 ∨ r = 92
  · exact esc_quoted B n v r W0 w hb hn hq
  · cases hp : Lib.isPrintR T r with
    | true => exact esc_print B n v r W0 w T hb hn hT h0 h1 (by simp; omega) (by simp; omega) hp
    | false =>
      by_cases hnm : r = 7 ∨ r = 8 ∨ r = 12 ∨ r = 10 ∨ r = 13 ∨ r = 9 ∨ r = 11
      · exact esc_named B n v r W0 w T hb hn hT hp hnm
      · by_cases hx : r < 32 ∨ r = 127
        · exact esc_hex2 B n v r W0 w T hb hn hT h0 hp hx (by simp; omega) (by simp; omega) (by simp; omega) (by simp; omega) (by simp; omega) (by simp; omega) (by simp; omega)
        · by_cases hlo : r < 128
          · -- a printable byte of ASCII
            exfalso
            have : Lib.isPrintR T r = true := by
              unfold Lib.isPrintR
              rw [if_pos (by omega)]
              unfold Lib.isPrintLatin
              simp
              omega
            rw [this] at hp; cases hp
          · by_cases h16 : r < 65536
            · exact esc_u4 B n v r W0 w T hb hn hT (by omega) h16 hp hv
            · exact esc_u8 B n v r W0 w T hb hn hT (by omega) h1 hp hv

theorem TabSlice_below {g : Nat} {k : IntKind} {t : List Nat} {w w' : World} (h : Lib.TabSlice g k t w) (h0 : 0 < t.length) (hb : Below w.heap.size w w') : Lib.TabSlice g k t w' := by
  obtain ⟨R, o, c, h1, h2⟩ := h
  have lt : ∀ {a : Addr} {x : Value}, w.cell? a = some x → a.block < w.heap.size := by
    intro a x hx
    rcases Nat.lt_or_ge a.block w.heap.size with h | h
    · exact h
    · have : w.heap[a.block]? = none := by simp; omega
      simp [World.cell?, this] at hx
  refine ⟨R, o, c, ?_, fun j hj => ?_⟩
  · rw [hb.cell (lt h1)]; exact h1
  · rw [hb.cell (p := ⟨R, o + j, none⟩) (lt (h2 j hj))]; exact h2 j hj
theorem PrintTabsAt_below {a b c d : Nat} {T : Lib.PrintTabs} {w w' : World} (h : Lib.PrintTabsAt a b c d T w) (hb : Below w.heap.size w w') : Lib.PrintTabsAt a b c d T w' := by
  obtain ⟨h1, h2, h3, h4, hp, r⟩ := h
  exact ⟨TabSlice_below h1 hp.1 hb, TabSlice_below h2 hp.2.1 hb, TabSlice_below h3 hp.2.2.1 hb, TabSlice_below h4 hp.2.2.2 hb, hp, r⟩
theorem Utf8Tabs_below {a b : Nat} {w w' : World} (h : Lib.Utf8Tabs a b w) (hb : Below w.heap.size w w') : Lib.Utf8Tabs a b w' := by
  have lt : ∀ {p : Addr} {x : Value}, w.cell? p = some x → p.block < w.heap.size := by
    intro a x hx
    rcases Nat.lt_or_ge a.block w.heap.size with h | h
    · exact h
    · have : w.heap[a.block]? = none := by simp; omega
      simp [World.cell?, this] at hx
  refine ⟨fun c hc => ?_, fun i hi => ⟨?_, ?_⟩⟩
  · rw [hb.cell (lt (h.1 c hc))]; exact h.1 c hc
  · rw [hb.cell (lt (h.2 i hi).1)]; exact (h.2 i hi).1
  · rw [hb.cell (lt (h.2 i hi).2)]; exact (h.2 i hi).2

theorem Bf.below {B n : Nat} {v : Value} {W0 w : World} (h : Bf B n v W0 w) : Below B W0 w := by
  obtain ⟨m, zs, h1, _⟩ := h; exact h1.2.1

/-- A buffer that holds something. -/
def Bf1 (B : Nat) (v : Value) (W0 w : World) : Prop := ∃ (zs : List Int), 0 < zs.length ∧ Lib.OwnBuf B 5 v zs.length (Lib.intCells zs) W0 w
section
variable {ops : Array Oper} {rest : List Oper} {o : Oper} {a : Act} {Q : Exit → Act → World → Prop}
theorem bf_byte1 (hgd : o.guard = none) (s x : Operand) (ho : o.op = .call { callee := .builtin .append, args := #[s, x], argTypes := #[35, 35] })
    (B n : Nat) (v : Value) (hs : a.eval s = v) (W0 w0 : World) (c : Int) (hb : Bf B n v W0 w0)
    (hx : a.eval x = .slice (some ⟨w0.heap.size, 0, none⟩) 1 1) (hlen : n + 1 ≤ 140737488355328)
    (h : ∀ v' w', Bf1 B v' W0 w' → wpList Tryf.prog ops Q rest (a.put o.dst v') w') : wpList Tryf.prog ops Q (o :: rest) a (w0.alloc (.cells #[.int .u8 c] 5)) := by
  obtain ⟨i0, hi, hz0, hz1, hz2⟩ := info_parts infoByte
  obtain ⟨m, zs, h1, h2⟩ := hb
  refine Lib.wpList_append_byte hgd s x 35 ho B 5 i0 Tryf.underlying35 hi hz0 hz1 hz2 v m _ hs W0 w0 c h1 hx (by omega) ?_
  intro v' w' h3
  have hm : m = zs.length := by have := h1.1.1; simp [Lib.intCells] at this; omega
  refine h v' w' ⟨zs ++ [c], by simp, ?_⟩
  rw [intCells_append, List.length_append, ← hm]; exact h3
end

set_option maxHeartbeats 1000000 in
theorem appendQuoted (v0 : Value) (r : Int) (w : World) (T : Lib.PrintTabs) (hT : Lib.PrintTabsAt 3 4 5 6 T w) (hb0 : Bf w.heap.size 0 v0 w w) :
    Calls Tryf.prog 65 #[v0, .int .i32 r, .int .u8 39, .bool false, .bool false] w fun e w' => ∃ v', e = .returned v' ∧ Bf1 w.heap.size v' w w' := by
  have HT : Hid (Lib.PrintTabsAt 3 4 5 6 T w) := hT
  clear hT
  go_enter Tryf.func65, Tryf.ntmps65
  go_wp2_with (at_builtin; refine bf_byte rfl _ _ rfl w.heap.size 0 _ rfl w w _ (by exact hb0) rfl (by omega) ?_; intro v1 w1 hb1)
  refine (Tryf.utf8_ValidRune r _).mono ?_
  rintro e w2 ⟨rfl, rfl⟩
  have hT1 := PrintTabsAt_below HT.out hb1.below
  have HT1 : Hid (Lib.PrintTabsAt 3 4 5 6 T w2) := hT1
  clear hT1
  cases hv : Lib.validRune r with
  | true =>
    have HV : Hid (Lib.validRune r = true) := hv
    clear hv
    go_wp2_with fail
    refine (esc_all w.heap.size 1 v1 r w _ T (hb1.mono (by omega)) (by omega) HT1.out HV.out).mono ?_
    rintro e w3 ⟨v3, rfl, hb3⟩
    go_wp2_with (at_builtin; refine bf_byte1 rfl _ _ rfl w.heap.size _ _ rfl w _ _ (by exact hb3) rfl (by omega) ?_; intro v4 w4 hb4)
    go_ret
    exact ⟨_, rfl, hb4⟩
  | false =>
    have HV : Hid (Lib.validRune r = false) := hv
    clear hv
    go_wp2_with fail
    refine (esc_all w.heap.size 1 v1 65533 w _ T (hb1.mono (by omega)) (by omega) HT1.out (by decide)).mono ?_
    rintro e w3 ⟨v3, rfl, hb3⟩
    go_wp2_with (at_builtin; refine bf_byte1 rfl _ _ rfl w.heap.size _ _ rfl w _ _ (by exact hb3) rfl (by omega) ?_; intro v4 w4 hb4)
    go_ret
    exact ⟨_, rfl, hb4⟩

theorem bf1_cells {B : Nat} {v : Value} {W0 w : World} (h : Bf1 B v W0 w) : ∃ (g cap : Nat) (zs : List Int), v = .slice (some ⟨g, 0, none⟩) zs.length cap ∧ (∀ i, i < zs.length → w.cell? ⟨g, 0 + i, none⟩ = some (.int .u8 (zs.getD i 0))) := by
  obtain ⟨zs, h0, hb⟩ := h
  have hb' := hb
  rcases hb.1.2 with ⟨_, hz⟩ | ⟨g, cap, cur, fz, rfl, _⟩
  · omega
  · refine ⟨g, cap, zs, rfl, fun i hi => ?_⟩
    have := hb'.1.cells (g := g) (by simp [Value.ownBlock]) i (.int .u8 (zs.getD i 0)) (by simp [Lib.intCells, List.getD, List.getElem?_eq_getElem hi])
    by_cases hi0 : i = 0 <;> simpa [Addr.add, hi0] using this

set_option maxHeartbeats 1000000 in
theorem quoteRuneWith_any (r : Int) (w : World) (T : Lib.PrintTabs) (hT : Lib.PrintTabsAt 3 4 5 6 T w) :
    Calls Tryf.prog 60 #[.int .i32 r, .int .u8 39, .bool false, .bool false] w fun e w' => (∃ x, e = .returned (.string x)) ∧ Below w.heap.size w w' := by
  have HT : Hid (Lib.PrintTabsAt 3 4 5 6 T w) := hT
  clear hT
  go_enter Tryf.func60, Tryf.ntmps60
  go_wp2_with fail
  have hb0 : Bf w.heap.size 0 (.slice none 0 0) w w := ⟨0, [], ⟨⟨rfl, Or.inl ⟨rfl, rfl⟩⟩, Below.refl _ _, Nat.le_refl _⟩, Nat.le_refl _⟩
  refine (appendQuoted _ r w T HT.out hb0).mono ?_
  rintro e w1 ⟨v1, rfl, hb1⟩
  obtain ⟨g, cap, zs, rfl, hc⟩ := bf1_cells hb1
  have hcv := run_convert_bytes_arg (P := Tryf.prog) (w := w1) 35 5 Tryf.underlying35 Tryf.underlying5 g 0 zs.length cap zs rfl hc 9 Tryf.underlying9
  have hbel : Below w.heap.size w w1 := by obtain ⟨zs', _, hb⟩ := hb1; exact hb.2.1
  clear hc
  go_wp2_with fail
  go_ret
  exact ⟨⟨_, rfl⟩, hbel⟩

theorem QuoteRune_any (r : Int) (w : World) (T : Lib.PrintTabs) (hT : Lib.PrintTabsAt 3 4 5 6 T w) :
    Calls Tryf.prog 44 #[.int .i32 r] w fun e w' => (∃ x, e = .returned (.string x)) ∧ Below w.heap.size w w' := by
  have HT : Hid (Lib.PrintTabsAt 3 4 5 6 T w) := hT
  clear hT
  go_enter Tryf.func44, Tryf.ntmps44
  go_wp2_with fail
  refine (quoteRuneWith_any r w T HT.out).mono ?_
  rintro e w1 ⟨⟨x, rfl⟩, hb1⟩
  go_wp2_with fail
  go_ret
  exact ⟨⟨_, rfl⟩, hb1⟩

end Go.Proofs.Qxb6616712aFmt
