/- strings.EqualFold against an ASCII name. -/
import Derived.Test.Qxb6616805aDoorG6
import Derived.Laws.RangeAny
import Derived.ScopeJumps
import Derived.WalkMore
import Derived.LoopTactic
import Derived.Laws.RangeString
import Derived.Lib.Walk
import Derived.Laws.Strings3
import Derived.Lib.Strings
import Derived.Shelf.RegionOpen
set_option linter.unusedVariables false
set_option linter.unusedSimpArgs false
set_option linter.unnecessarySimpa false
namespace Go.Proofs.Qxb6616805aDoor
open Go.RowKit

/-- unicode.asciiFold. -/
def foldT (c : Nat) : Nat := if 65 ≤ c ∧ c ≤ 90 then c + 32 else if c = 107 then 8490 else if c = 115 then 383 else if 97 ≤ c ∧ c ≤ 122 then c - 32 else c
/-- unicode.caseOrbit, its first and its second column. -/
def fromL : List Nat := [75, 83, 107, 115, 181, 197, 223, 229, 304, 305, 383, 452, 453, 454, 455, 456, 457, 458, 459, 460, 497, 498, 499, 837, 912, 914, 917, 920, 921, 922, 924, 928, 929, 931, 934, 937, 944, 946, 949, 952, 953, 954, 956, 960, 961, 962, 963, 966, 969, 976, 977, 981, 982, 1008, 1009, 1012, 1013, 1042, 1044, 1054, 1057, 1058, 1066, 1074, 1076, 1086, 1089, 1090, 1098, 1122, 1123, 7296, 7297, 7298, 7299, 7300, 7301, 7302, 7303, 7304, 7776, 7777, 7835, 7838, 8126, 8147, 8163, 8486, 8490, 8491, 42570, 42571, 64261, 64262]
def toL : List Nat := [107, 115, 8490, 383, 924, 229, 7838, 8491, 304, 305, 83, 453, 454, 452, 456, 457, 455, 459, 460, 458, 498, 499, 497, 921, 8147, 946, 949, 952, 953, 954, 956, 960, 961, 962, 966, 969, 8163, 976, 1013, 977, 8126, 1008, 181, 982, 1009, 963, 931, 981, 8486, 914, 1012, 934, 928, 922, 929, 920, 917, 1074, 1076, 1086, 1089, 1090, 1098, 7296, 7297, 7298, 7299, 7300, 7302, 1123, 7303, 1042, 1044, 1054, 1057, 7301, 1058, 1066, 1122, 42570, 7777, 7835, 7776, 223, 837, 912, 944, 937, 75, 197, 42571, 7304, 64262, 64261]
/-- The two tables, as the text lays them. -/
structure Tb (w : World) : Prop where
  fold : ∀ c, c < 128 → w.cell? ⟨0, c, none⟩ = some (.int .u16 (foldT c))
  orb : ∃ (a : Addr) (cap : Nat), w.cell? ⟨1, 0, none⟩ = some (.slice (some a) 94 cap) ∧ ∀ i, i < 94 → w.cell? (a.add (i * 2)) = some (.int .u16 (fromL.getD i 0)) ∧ w.cell? (a.add (i * 2 + 1)) = some (.int .u16 (toL.getD i 0))
/-- The next rune of the orbit, on ASCII and the two runes that ASCII letters fold to. -/
def sf (r : Nat) : Nat := if r = 383 then 83 else if r = 8490 then 75 else foldT r

theorem sfold_asc (r : Nat) (hr : r < 128) (w : World) (T : Tb w) : Calls Tryd.prog 41 #[.int .i32 (r : Int)] w fun e w' => e = .returned (.int .i32 (sf r : Int)) ∧ w' = w := by
  have e : sf r = foldT r := by unfold sf; rw [if_neg (by omega), if_neg (by omega)]
  have h0 : ¬ ((r : Int) < 0) := by omega
  have h1 : ¬ (1114111 < (r : Int)) := by omega
  have h2 : (r : Int) < 128 := by omega
  have hc : w.cell? ⟨0, r, none⟩ = some (.int .u16 (foldT r)) := T.fold r hr
  rw [e]
  have hf : (foldT r : Int) ≤ 65535 := by unfold foldT; repeat' split
                                          all_goals omega
  generalize foldT r = f at *
  clear e
  go_enter Tryd.func41, Tryd.ntmps41
  go_wp2_with fail
  go_ret
  exact ⟨rfl, rfl⟩

set_option maxHeartbeats 1000000 in
theorem sfold_two (r k0 v0 : Nat) (hr : 128 ≤ r ∧ r ≤ 65535) (hk : k0 < 94) (hlo : ∀ i, i < 94 → ((fromL.getD i 0 : Int) < (r : Int)) = (i < k0)) (hat : fromL.getD k0 0 = r) (hto : toL.getD k0 0 = v0) (hv : v0 ≤ 65535) (w : World) (T : Tb w) : Calls Tryd.prog 41 #[.int .i32 (r : Int)] w fun e w' => e = .returned (.int .i32 (v0 : Int)) ∧ w' = w := by
  have h0 : ¬ ((r : Int) < 0) := by omega
  have h1 : ¬ (1114111 < (r : Int)) := by omega
  have h2 : ¬ ((r : Int) < 128) := by omega
  obtain ⟨a, cap, hs, hcs⟩ := T.orb
  have HC : Hid (∀ i, i < 94 → w.cell? (a.add (i * 2)) = some (.int .u16 (fromL.getD i 0)) ∧ w.cell? (a.add (i * 2 + 1)) = some (.int .u16 (toL.getD i 0))) := hcs
  have HL : Hid (∀ i, i < 94 → ((fromL.getD i 0 : Int) < (r : Int)) = (i < k0)) := hlo
  have HF : Hid (∀ i, i < 94 → fromL.getD i 0 ≤ 65535) := show ∀ i, i < 94 → fromL.getD i 0 ≤ 65535 by decide
  have HA : Hid (fromL.getD k0 0 = r ∧ toL.getD k0 0 = v0) := ⟨hat, hto⟩
  clear hcs T hat hto hlo
  go_enter Tryd.func41, Tryd.ntmps41
  go_wp2_with fail
  go_loopg [3, 4] 94 (fun g v3 v4 wr => wr = w ∧ ∃ lo hi : Nat, hi ≤ lo + g ∧ v3 = .int .i64 lo ∧ v4 = .int .i64 hi ∧ lo ≤ k0 ∧ k0 ≤ hi ∧ hi ≤ 94)
  case atStart => exact ⟨rfl, 0, 94, by omega, rfl, rfl, by omega, by omega, by omega⟩
  case round =>
    obtain ⟨hw, lo, hi, hg, rfl, rfl, hl, hh, h94⟩ := hrel
    have hw' := hw.symm
    subst hw'
    clear hw
    by_cases hlt : (lo : Int) < (hi : Int)
    · have hm : (lo + hi) / 2 < 94 := by omega
      have hc := (HC.out _ hm).1
      have hf := HF.out _ hm
      have HLm : Hid (((fromL.getD ((lo + hi) / 2) 0 : Int) < (r : Int)) = ((lo + hi) / 2 < k0)) := HL.out _ hm
      generalize hx : fromL.getD ((lo + hi) / 2) 0 = x at *
      clear hx
      by_cases hxr : (x : Int) < (r : Int)
      · have HN : Hid ((lo + hi) / 2 < k0) := HLm.out ▸ hxr
        go_wp2_with fail
        go_roundg (gk - 1)
        case measure => omega
        case rel => exact ⟨rfl, (lo + hi) / 2 + 1, hi, by omega, by first | rfl | simp, rfl, by have := HN.out; omega, hh, h94⟩
      · have HN : Hid (¬ ((lo + hi) / 2 < k0)) := HLm.out ▸ hxr
        go_wp2_with fail
        go_roundg (gk - 1)
        case measure => omega
        case rel => exact ⟨rfl, lo, (lo + hi) / 2, by omega, rfl, by first | rfl | simp, hl, by have := HN.out; omega, by omega⟩
    · obtain rfl : lo = k0 := by omega
      obtain rfl : hi = lo := by omega
      have hc := (HC.out _ hk).1
      have hc2 : w.cell? { block := (a.add (hi * 2)).block, off := (a.add (hi * 2)).off + 1 } = some (.int .u16 (toL.getD hi 0)) := by
        have := (HC.out _ hk).2
        rw [show a.add (hi * 2 + 1) = { block := (a.add (hi * 2)).block, off := (a.add (hi * 2)).off + 1 } by unfold Addr.add; by_cases h0 : hi * 2 = 0 <;> simp [h0] <;> omega] at this
        exact this
      rw [HA.out.1] at hc
      rw [HA.out.2] at hc2
      have hhi : (hi : Int) < 94 := by omega
      go_wp2_with fail
      go_ret
      exact ⟨rfl, rfl⟩

theorem sfold_any (r : Nat) (hr : r < 128 ∨ r = 383 ∨ r = 8490) (w : World) (T : Tb w) : Calls Tryd.prog 41 #[.int .i32 (r : Int)] w fun e w' => e = .returned (.int .i32 (sf r : Int)) ∧ w' = w := by
  rcases hr with hr | rfl | rfl
  · exact sfold_asc r hr w T
  · exact sfold_two 383 10 83 (by omega) (by omega) (fun i hi => propext (by revert i; decide)) rfl rfl (by omega) w T
  · exact sfold_two 8490 88 75 (by omega) (by omega) (fun i hi => propext (by revert i; decide)) rfl rfl (by omega) w T

theorem Tb.below {w w' : World} (h : Tb w) (hb : Below w.heap.size w w') : Tb w' := by
  have lt : ∀ {a : Addr} {v : Value}, w.cell? a = some v → a.block < w.heap.size := fun {a v} hc => by
    rcases Nat.lt_or_ge a.block w.heap.size with h' | h'
    · exact h'
    · simp [World.cell?, Array.getElem?_eq_none h'] at hc
  have tr : ∀ {a : Addr} {v : Value}, w.cell? a = some v → w'.cell? a = some v := fun {a v} hc => (hb.cell (lt hc)).trans hc
  obtain ⟨a, cap, hs, hcs⟩ := h.orb
  exact ⟨fun c hc => tr (h.fold c hc), a, cap, tr hs, fun i hi => ⟨tr (hcs i hi).1, tr (hcs i hi).2⟩⟩
theorem below_iter (w : World) (s : ByteArray) (p : Nat) : Below w.heap.size w (w.iter s p) := (Below.refl _ w).alloc (Nat.le_refl _) _
theorem decode_wide (s : ByteArray) (pos : Nat) (h : pos < s.size) (ha : 128 ≤ (s[pos]'h).toNat) (hx : (Utf8.decode s pos).1 ≠ 65533) : 2 ≤ (Utf8.decode s pos).2 ∧ pos + (Utf8.decode s pos).2 ≤ s.size := by
  have hn : ¬ (s[pos]'h).toNat < 128 := by omega
  revert hx
  simp only [Utf8.decode, get_at s pos h, hn, if_false]
  repeat' split
  all_goals simp_all [Utf8.runeError]
  all_goals omega
theorem decode_pos (s : ByteArray) (pos : Nat) (h : pos < s.size) : 1 ≤ (Utf8.decode s pos).2 := by
  by_cases ha : (s[pos]'h).toNat < 128
  · rw [decode_ascii s pos h ha]; exact Nat.le_refl _
  · exact (decode_high s pos h (by omega)).2
theorem asc_cons {c : UInt8} {l : List UInt8} (h : asc (c :: l) = true) : c.toNat < 128 ∧ asc l = true := by
  unfold asc at h ⊢
  simpa using h
theorem asc_get {s : ByteArray} {i : Nat} (h : asc s.data.toList = true) (hi : i < s.size) : s[i].toNat < 128 := by
  unfold asc at h
  rw [List.all_eq_true] at h
  have hm : s[i] ∈ s.data.toList := by
    have := get_list s i hi
    exact List.mem_of_getElem? this
  simpa using h _ hm
theorem asc_drop {l : List UInt8} (h : asc l = true) (k : Nat) : asc (l.drop k) = true := by
  unfold asc at *
  rw [List.all_eq_true] at *
  exact fun x hx => h x (List.mem_of_mem_drop hx)
theorem dec_any (u : ByteArray) (h : 0 < u.size) (ha : (u[0].toNat : Int) < 128) (w : World) : Calls Tryd.prog 40 #[.string u] w fun e w' => e = .returned (.tuple #[.int .i32 (u[0].toNat : Int), .int .i64 1]) ∧ w' = w := by
  have he : (u.toList == []) = false := by rw [beq_nil]; exact decide_eq_false (by omega)
  go_enter Tryd.func40, Tryd.ntmps40
  go_wp2_with fail
  go_ret2
  exact ⟨rfl, rfl⟩
theorem low_128 (x y : UInt8) (hx : 128 ≤ x.toNat) (hy : y.toNat < 128) : (low x == low y) = false := by
  rw [low_beq, low_int, low_int]
  apply beq_eq_false_iff_ne.2
  split <;> split <;> omega
theorem fe_at (s t : List UInt8) : ∀ (i : Nat) (hi : i < s.length) (hj : i < t.length), (low s[i] == low t[i]) = false → fe s t = false := by
  intro i hi hj h
  unfold fe
  apply beq_eq_false_iff_ne.2
  intro e
  have := congrArg (·[i]?) e
  simp only [List.getElem?_map, List.getElem?_eq_getElem hi, List.getElem?_eq_getElem hj, Option.map_some, Option.some.injEq] at this
  rw [this] at h
  simp at h

/-- r lies on y's orbit, g steps ahead of it. -/
def Orb (y : Nat) : Nat → Nat → Prop
  | 0, r => r = y ∧ y < 128
  | g + 1, r => (r < 128 ∨ r = 383 ∨ r = 8490) ∧ Orb y g (sf r)
theorem Orb.dom {y : Nat} : ∀ {g r : Nat}, Orb y g r → r < 128 ∨ r = 383 ∨ r = 8490
  | 0, r, h => Or.inl (by rw [h.1]; exact h.2)
  | g + 1, r, h => h.1
theorem Orb.le {y g r : Nat} (h : Orb y g r) : r ≤ 65535 := by
  rcases h.dom with h | h | h <;> omega
theorem orbit_all : ∀ y : Fin 128, sf y.val = y.val ∨ ((sf y.val < 128 ∨ sf y.val = 383 ∨ sf y.val = 8490) ∧ (sf (sf y.val) = y.val ∨ ((sf (sf y.val) < 128 ∨ sf (sf y.val) = 383 ∨ sf (sf y.val) = 8490) ∧ sf (sf (sf y.val)) = y.val))) := by decide
theorem orbit (y : Nat) (hy : y < 128) : ∃ G, Orb y G (sf y) := by
  rcases orbit_all ⟨y, hy⟩ with h | ⟨h1, h | ⟨h2, h⟩⟩
  · exact ⟨0, h, hy⟩
  · exact ⟨1, h1, h, hy⟩
  · exact ⟨2, h1, h2, h, hy⟩

set_option maxHeartbeats 4000000 in
set_option maxRecDepth 100000 in
theorem equalFold_any (s t : ByteArray) (w : World) (hs : s.size ≤ 4194304) (ht : t.size ≤ 4194304) (hta : asc t.data.toList = true) (hsa : asc s.data.toList = true ∨ s.size = t.size) (T : Tb w) :
    Calls Tryd.prog 35 #[.string s, .string t] w fun e w' => e = .returned (.bool (fe s.data.toList t.data.toList)) ∧ Below w.heap.size w w' := by
  have HA : Hid (asc t.data.toList = true ∧ (asc s.data.toList = true ∨ s.size = t.size) ∧ Tb w) := ⟨hta, hsa, T⟩
  clear hta hsa T
  obtain ⟨M, hM⟩ : ∃ M : Nat, min (s.size : Int) (t.size : Int) = (M : Int) := ⟨min s.size t.size, by omega⟩
  have HM : Hid (M ≤ s.size ∧ M ≤ t.size ∧ (M = s.size ∨ M = t.size)) := ⟨by omega, by omega, by omega⟩
  go_enter Tryd.func35, Tryd.ntmps35
  go_wp2_with fail
  refine wp_scope_jumps 0 (fun a' w' => w' = w ∧ ∃ (i : Nat) (hi : i < s.size) (hit : i < t.size), 128 ≤ s[i].toNat ∧ s.size = t.size ∧ ∃ (u4 u6 u7 u8 u9 u10 u11 u12 u13 u14 u15 u16 u17 u18 u19 u20 u21 u22 u23 u24 u25 u26 u27 u28 u29 u30 u31 u32 u33 u34 u35 u36 u37 u38 u39 u40 u41 u42 u43 u44 u45 u46 u47 u48 u49 u50 u51 u52 u53 u54 : Value), a' = { tmps := #[.string s, .string t, undef, undef, u4, .int .i64 (i : Int), u6, u7, u8, u9, u10, u11, u12, u13, u14, u15, u16, u17, u18, u19, u20, u21, u22, u23, u24, u25, u26, u27, u28, u29, u30, u31, u32, u33, u34, u35, u36, u37, u38, u39, u40, u41, u42, u43, u44, u45, u46, u47, u48, u49, u50, u51, u52, u53, u54, undef, undef, undef, undef, undef, undef, undef, undef, undef, undef, undef, undef, undef, undef, undef, undef, undef, undef, undef, undef, undef, undef, undef, undef, undef, undef, undef, undef, undef, undef, undef, undef, undef, undef, undef, undef, undef, undef, undef, undef, undef, undef, undef, undef, undef, undef, undef, undef, undef, undef, undef, undef, undef, undef, undef, undef, undef, undef, undef, undef, undef, undef, undef, undef, undef, undef, undef, undef], defers := [] }) (fun _ _ => 0) rfl ?_ ?_
  · go_wp2_with fail
    go_loopg [5] M (fun g v5 wr => wr = w ∧ ∃ i : Nat, i + g = M ∧ v5 = .int .i64 i ∧ Hid (fe (s.data.toList.drop i) (t.data.toList.drop i) = fe s.data.toList t.data.toList))
    case atStart => exact ⟨rfl, 0, by omega, rfl, rfl⟩
    case round =>
      obtain ⟨hw, i, hig, rfl, HQ⟩ := hrel
      have hw' := hw.symm
      subst hw'
      clear hw
      clear hM
      cases gk with
      | zero =>
        have hiM : ¬ ((i : Int) < (M : Int)) := by omega
        obtain rfl : i = M := by omega
        have HE : Hid (fe s.data.toList t.data.toList = decide (s.size = t.size)) := by
          show _ = _
          rw [← HQ.out]
          have := HM.out
          by_cases hst : s.size = t.size
          · rw [drop_none s i (by omega), drop_none t i (by omega), decide_eq_true hst]
            rfl
          · rw [decide_eq_false hst]
            exact fe_len _ _ (by rw [List.length_drop, List.length_drop, ← size_list, ← size_list]; omega)
        by_cases hst : s.size = t.size
        · have hb : ((s.size : Int) == (t.size : Int)) = true := beq_iff_eq.2 (by omega)
          go_wp2_with fail
          simp only [Exit.jump]
          go_ret
          exact ⟨by rw [HE.out, decide_eq_true hst]; rfl, Below.refl _ _⟩
        · have hb : ((s.size : Int) == (t.size : Int)) = false := beq_eq_false_iff_ne.2 (by omega)
          go_wp2_with fail
          simp only [Exit.jump]
          go_ret
          exact ⟨by rw [HE.out, decide_eq_false hst]; rfl, Below.refl _ _⟩
      | succ g =>
        have hiM : (i : Int) < (M : Int) := by omega
        have hin : i < s.size := by have := HM.out; omega
        have hitn : i < t.size := by have := HM.out; omega
        have hisz : (i : Int) < (s.size : Int) := by omega
        have hitz : (i : Int) < (t.size : Int) := by omega
        have hy128 : t[i].toNat < 128 := asc_get HA.out.1 hitn
        have HQ2 : Hid (fe s.data.toList t.data.toList = ((low s[i] == low t[i]) && fe (s.data.toList.drop (i+1)) (t.data.toList.drop (i+1)))) := by
          show _ = _
          rw [← HQ.out, drop_cons s i hin, drop_cons t i hitn, fe_cons]
        clear HQ
        have hor : bits .or .u8 (s[i].toNat : Int) (t[i].toNat : Int) = ((s[i].toNat ||| t[i].toNat : Nat) : Int) := u8_or_nat _ _ (by have := s[i].toNat_lt; omega) (by omega)
        by_cases hx : 128 ≤ s[i].toNat
        · have hor128 : ((128 : Int) ≤ ((s[i].toNat ||| t[i].toNat : Nat) : Int)) := by have := Nat.left_le_or (n := s[i].toNat) (m := t[i].toNat); omega
          have HX : Hid (128 ≤ s[i].toNat) := hx
          have HS : Hid (s.size = t.size) := by
            rcases HA.out.2.1 with h | h
            · have := asc_get h hin; exact absurd hx (by omega)
            · exact h
          clear hx
          go_wp2_with fail
          go_step3
          exact ⟨rfl, rfl, i, hin, hitn, HX.out, HS.out, _, _, _, _, _, _, _, _, _, _, _, _, _, _, _, _, _, _, _, _, _, _, _, _, _, _, _, _, _, _, _, _, _, _, _, _, _, _, _, _, _, _, _, _, _, _, _, _, _, _, rfl⟩
        · have hx128 : s[i].toNat < 128 := by omega
          have hor128 : ¬ ((128 : Int) ≤ ((s[i].toNat ||| t[i].toNat : Nat) : Int)) := by have := Nat.or_lt_two_pow (n := 7) hx128 hy128; omega
          have HLB : Hid ((low s[i] == low t[i]) = (((low s[i]).toNat : Int) == ((low t[i]).toNat : Int))) := low_beq s[i] t[i]
          rw [low_int, low_int] at HLB
          clear hx
          go_wp2_with fail
          all_goals (try simp only [beq_iff_eq, beq_eq_false_iff_ne, ne_eq] at *)
          all_goals first
            | (go_roundg g
               case measure => omega
               case rel =>
                 refine ⟨rfl, i + 1, by omega, by first | rfl | simp, ?_⟩
                 show _ = _
                 rw [HQ2.out, HLB.out, beq_iff_eq.2 (by split <;> split <;> omega), Bool.true_and])
            | (try simp only [Exit.jump]
               go_ret
               refine ⟨?_, Below.refl _ _⟩
               rw [HQ2.out, HLB.out, beq_eq_false_iff_ne.2 (by split <;> split <;> omega), Bool.false_and]
               rfl)
  · rintro a' w' ⟨rfl, i, hi, hit, hhi, hsz, u4, u6, u7, u8, u9, u10, u11, u12, u13, u14, u15, u16, u17, u18, u19, u20, u21, u22, u23, u24, u25, u26, u27, u28, u29, u30, u31, u32, u33, u34, u35, u36, u37, u38, u39, u40, u41, u42, u43, u44, u45, u46, u47, u48, u49, u50, u51, u52, u53, u54, rfl⟩
    have HF : Hid (fe s.data.toList t.data.toList = false) := by
      refine fe_at _ _ i hi hit ?_
      have := low_128 s[i] t[i] hhi (asc_get HA.out.1 hit)
      exact this
    have hiz : (i : Int) ≤ (s.size : Int) := by omega
    have hitz : (i : Int) ≤ (t.size : Int) := by omega
    obtain ⟨S, hS⟩ : ∃ S, s.extract i s.size = S := ⟨_, rfl⟩
    obtain ⟨u0, hu0⟩ : ∃ u, t.extract i t.size = u := ⟨_, rfl⟩
    have HS : Hid (S.size = s.size - i ∧ u0.size = s.size - i ∧ ∃ h : 0 < S.size, 128 ≤ S[0].toNat) := by
      have e1 : S.data.toList = s.data.toList.drop i := by rw [← hS, ext_list, List.take_of_length_le (by rw [List.length_drop, ← size_list]; omega)]
      have z1 : S.size = s.size - i := by rw [size_list, e1, List.length_drop, ← size_list]
      have z2 : u0.size = t.size - i := by rw [← hu0, size_list, ext_list, List.length_take, List.length_drop, ← size_list]; omega
      refine ⟨z1, by omega, by omega, ?_⟩
      have e2 := get_list S 0 (by omega)
      rw [e1, List.getElem?_drop, Nat.add_zero, get_list s i hi] at e2
      rw [← Option.some.inj e2]
      exact hhi
    have HU : Hid (asc u0.data.toList = true) := by
      show _ = _
      rw [← hu0, ext_list]
      have := asc_drop HA.out.1 i
      rw [List.take_of_length_le (by rw [List.length_drop, ← size_list]; omega)]
      exact this
    have HT : Hid (Tb w') := HA.out.2.2
    have HH : Hid (128 ≤ s[i].toNat ∧ s.size = t.size) := ⟨hhi, hsz⟩
    clear hhi hsz HA HM hM
    go_wp2_with fail
    go_loopw [1] (fun v1 wr => ∃ (pos : Nat) (u : ByteArray), wr = w'.iter S pos ∧ v1 = .string u ∧ u.size ≤ 4194304 ∧ Hid (asc u.data.toList = true) ∧ ((pos = 0 ∧ u.size = S.size) ∨ S.size - pos < u.size)) (fun _ wr => S.size - wr.iterPos w'.heap.size)
    case atStart =>
      exact ⟨0, u0, rfl, rfl, by have := HS.out; omega, HU, Or.inl ⟨rfl, by have := HS.out; omega⟩⟩
    case round =>
      obtain ⟨pos, u, rfl, rfl, hu, HAu, hlt⟩ := hrel
      by_cases hp : pos < S.size
      · have hnx : ∀ ty, (Instr.next (.pointer (some ⟨w'.heap.size, 0, none⟩)) true ty).run Tryd.prog (w'.iter S pos) = _ := fun ty => run_next_any w' S pos ty hp
        have hk := decode_pos S pos hp
        have hx31 := decode_le S pos
        have HD : Hid (pos = 0 → 128 ≤ (Utf8.decode S pos).1 ∧ ((Utf8.decode S pos).1 ≠ 65533 → 2 ≤ (Utf8.decode S pos).2 ∧ pos + (Utf8.decode S pos).2 ≤ S.size)) := by
          rintro rfl
          obtain ⟨h0, h1⟩ := HS.out.2.2
          exact ⟨(decode_high S 0 h0 h1).1, fun h => decode_wide S 0 h0 h1 h⟩
        generalize hdk : Utf8.decode S pos = dk at *
        obtain ⟨x, kk⟩ := dk
        simp only [] at hnx hk hx31 HD
        have hu0 : 0 < u.size := by omega
        have hue : ¬ ((u.size : Int) = 0) := by omega
        have hub : ((u.size : Int) == 0) = false := beq_eq_false_iff_ne.2 hue
        have h1u : (1 : Int) ≤ (u.size : Int) := by omega
        have hy := asc_get HAu.out hu0
        have hyi : (u[0].toNat : Int) < 128 := by omega
        obtain ⟨u', hu'⟩ : ∃ u', u.extract 1 u.size = u' := ⟨_, rfl⟩
        have HU' : Hid (u'.size = u.size - 1 ∧ u'.size ≤ 4194304 ∧ asc u'.data.toList = true) := by
          have e1 : u'.data.toList = u.data.toList.drop 1 := by rw [← hu', ext_tail u u.size (Nat.le_refl _)]
          have z : u'.size = u.size - 1 := by rw [size_list, e1, List.length_drop, ← size_list]
          exact ⟨z, by omega, by rw [e1]; exact asc_drop HAu.out 1⟩
        have HLT : Hid ((pos = 0 ∧ u.size = S.size) ∨ S.size - pos < u.size) := hlt
        have HR : Hid (((pos = 0 → x ≠ 65533) → ∃ (pos' : Nat) (v : ByteArray), w'.iter S (pos + kk) = w'.iter S pos' ∧ Value.string u' = .string v ∧ v.size ≤ 4194304 ∧ Hid (asc v.data.toList = true) ∧ ((pos' = 0 ∧ v.size = S.size) ∨ S.size - pos' < v.size))) := by
          intro h
          refine ⟨pos + kk, u', rfl, rfl, HU'.out.2.1, HU'.out.2.2, Or.inr ?_⟩
          have z := HU'.out.1
          rcases HLT.out with ⟨h0, h2⟩ | h2
          · have := (HD.out h0).2 (h h0)
            omega
          · omega
        have HE : Hid (0 < kk ∧ pos < S.size) := ⟨hk, hp⟩
        clear hlt hue hk hp
        by_cases hx : x < 128
        · have HP : Hid (pos = 0 → x ≠ 65533) := fun h => by have := (HD.out h).1; omega
          go_wp2_with fail
          refine (dec_any u hu0 hyi _).mono ?_
          rintro e w1 ⟨rfl, rfl⟩
          go_wp2_with fail
          all_goals first
            | (go_roundw
               case rel => exact HR.out HP.out
               case measure => have := HE.out; simp; omega)
            | (try simp only [Exit.jump]
               go_ret
               exact ⟨by rw [HF.out]; rfl, below_iter _ _ _⟩)
        · have hxy : ((u[0].toNat : Int) == (x : Int)) = false := beq_eq_false_iff_ne.2 (by omega)
          have hyx : (u[0].toNat : Int) < (x : Int) := by omega
          have hx2 : ¬ ((x : Int) < 128) := by omega
          go_wp2_with fail
          refine (dec_any u hu0 hyi _).mono ?_
          rintro e w1 ⟨rfl, rfl⟩
          go_wp2_with fail
          have HTb : Hid (Tb (w'.iter S (pos + kk))) := Tb.below HT.out (below_iter _ _ _)
          refine (sfold_any u[0].toNat (Or.inl hy) _ HTb.out).mono ?_
          rintro e w1 ⟨rfl, rfl⟩
          have HY : Hid (u[0].toNat < 128) := hy
          generalize u[0].toNat = y at *
          obtain ⟨G, HG⟩ := orbit y hy
          have HX : Hid (128 ≤ x) := by show 128 ≤ x; omega
          go_wp2_with fail
          go_loopg [13] G (fun g v13 wr => wr = w'.iter S (pos + kk) ∧ ∃ r : Nat, v13 = .int .i32 r ∧ Orb y g r)
          case atStart => exact ⟨rfl, _, rfl, HG⟩
          case round =>
            obtain ⟨rfl, r, rfl, hO⟩ := hrel
            have HO : Hid (Orb y gk r) := hO
            have hr : r ≤ 65535 := hO.le
            clear hO
            by_cases hry : r = y
            · have hb : ((r : Int) == (y : Int)) = true := beq_iff_eq.2 (by omega)
              have hb2 : ((r : Int) == (x : Int)) = false := beq_eq_false_iff_ne.2 (by have := HX.out; omega)
              go_wp2_with fail
              try simp only [Exit.jump]
              go_ret
              exact ⟨by rw [HF.out]; rfl, below_iter _ _ _⟩
            · have hb : ((r : Int) == (y : Int)) = false := beq_eq_false_iff_ne.2 (by omega)
              by_cases hrx : (r : Int) < (x : Int)
              · cases gk with
                | zero => exact absurd HO.out.1 hry
                | succ g =>
                  go_wp2_with fail
                  refine (sfold_any r HO.out.1 _ HTb.out).mono ?_
                  rintro e w1 ⟨rfl, rfl⟩
                  go_wp2_with fail
                  go_roundg g
                  case measure => omega
                  case rel => exact ⟨rfl, _, rfl, HO.out.2⟩
              · by_cases hrq : r = x
                · have hb2 : ((r : Int) == (x : Int)) = true := beq_iff_eq.2 (by omega)
                  have HP : Hid (pos = 0 → x ≠ 65533) := fun _ => by rcases HO.out.dom with h | h | h <;> omega
                  go_wp2_with fail
                  go_roundw
                  case rel => exact HR.out HP.out
                  case measure => have := HE.out; simp; omega
                · have hb2 : ((r : Int) == (x : Int)) = false := beq_eq_false_iff_ne.2 (by omega)
                  go_wp2_with fail
                  try simp only [Exit.jump]
                  go_ret
                  exact ⟨by rw [HF.out]; rfl, below_iter _ _ _⟩
      · have hnx : ∀ ty, (Instr.next (.pointer (some ⟨w'.heap.size, 0, none⟩)) true ty).run Tryd.prog (w'.iter S pos) = _ := fun ty => run_next_end w' S pos ty hp
        have hub : ((u.size : Int) == 0) = false := beq_eq_false_iff_ne.2 (by have := HS.out; rcases hlt with h | h <;> omega)
        clear hp hlt
        go_wp2_with fail
        try simp only [Exit.jump]
        go_ret
        exact ⟨by rw [HF.out]; rfl, below_iter _ _ _⟩
end Go.Proofs.Qxb6616805aDoor
