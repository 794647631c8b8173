/- Names: lower case, the fold, the compact forms, the laws' own look at a name. -/
import Derived.Test.Qxb6616805aDoorG2
set_option linter.unusedVariables false
set_option linter.unusedSimpArgs false
set_option linter.unnecessarySimpa false
namespace Go.Proofs.Qxb6616805aDoor
open Go.RowKit

theorem bdN {B : Nat} {a w : World} (h : Below B a w) (n : Nat) : Below B a (w.drewN n) := h.trans ⟨rfl, rfl, rfl, Nat.le_refl _, fun _ _ => rfl⟩
/-- Lower case of one byte. -/
def low (c : UInt8) : UInt8 := if 65 ≤ c.toNat ∧ c.toNat ≤ 90 then c + 32 else c
/-- Equal up to ASCII case. -/
def fe (a b : List UInt8) : Bool := a.map low == b.map low
theorem fe_cons (x y : UInt8) (a b : List UInt8) : fe (x :: a) (y :: b) = ((low x == low y) && fe a b) := by
  unfold fe
  rw [List.map_cons, List.map_cons]
  rfl
theorem fe_len (a b : List UInt8) (h : a.length ≠ b.length) : fe a b = false := by
  unfold fe
  apply beq_eq_false_iff_ne.2
  intro h2
  apply h
  have := congrArg List.length h2
  simpa using this
theorem low_int (c : UInt8) : ((low c).toNat : Int) = if 65 ≤ (c.toNat : Int) ∧ (c.toNat : Int) ≤ 90 then (c.toNat : Int) + 32 else (c.toNat : Int) := by
  unfold low
  by_cases h : 65 ≤ c.toNat ∧ c.toNat ≤ 90
  · rw [if_pos h, if_pos (by omega), UInt8.toNat_add]
    have : (32 : UInt8).toNat = 32 := rfl
    omega
  · rw [if_neg h, if_neg (by omega)]
theorem low_beq (x y : UInt8) : (low x == low y) = (((low x).toNat : Int) == ((low y).toNat : Int)) := by
  rw [Bool.eq_iff_iff]
  simp only [beq_iff_eq]
  constructor
  · intro h; rw [h]
  · intro h
    exact UInt8.toNat_inj.1 (by omega)

theorem zzLower_any (c : UInt8) (w : World) : Calls Tryd.prog 33 #[.int .u8 (c.toNat : Int)] w fun e w' => e = .returned (.int .u8 ((low c).toNat : Int)) ∧ w' = w := by
  have hc := c.toNat_lt
  rw [low_int]
  generalize (c.toNat : Int) = x at *
  by_cases h1 : 65 ≤ x
  · by_cases h2 : x ≤ 90
    · have h3 : x + 32 ≤ 255 := by omega
      go_enter Tryd.func33, Tryd.ntmps33
      go_wp2_with fail
      go_ret
      exact ⟨rfl, rfl⟩
    · go_enter Tryd.func33, Tryd.ntmps33
      go_wp2_with fail
      go_ret
      exact ⟨rfl, rfl⟩
  · go_enter Tryd.func33, Tryd.ntmps33
    go_wp2_with fail
    go_ret
    exact ⟨rfl, rfl⟩

theorem zzFoldEq_any (s t : ByteArray) (w : World) (hs : s.size ≤ 4194304) : Calls Tryd.prog 25 #[.string s, .string t] w fun e w' => e = .returned (.bool (fe s.data.toList t.data.toList)) ∧ Below w.heap.size w w' := by
  by_cases hl : s.size = t.size
  · have hb : ((s.size : Int) == (t.size : Int)) = true := beq_iff_eq.2 (by omega)
    have HL : Hid (s.size = t.size) := hl
    clear hl
    go_enter Tryd.func25, Tryd.ntmps25
    go_wp2_with fail
    go_loopg [5] s.size (fun g v wr => Below w.heap.size w wr ∧ ∃ i : Nat, i + g = s.size ∧ v = .int .i64 i ∧ Hid (fe (s.data.toList.drop i) (t.data.toList.drop i) = fe s.data.toList t.data.toList))
    case atStart => exact ⟨Below.refl _ _, 0, by omega, rfl, rfl⟩
    case round =>
      obtain ⟨HB', i, hig, rfl, HQ⟩ := hrel
      have HB : Hid (Below w.heap.size w wr) := HB'
      clear HB'
      cases gk with
      | zero =>
        have hi : ¬ ((i : Int) < (s.size : Int)) := by omega
        have HI : Hid (i = s.size) := by show i = s.size; omega
        clear hig
        go_wp2_with fail
        go_ret
        refine ⟨?_, HB.out⟩
        rw [← HQ.out, drop_none s i (by have := HI.out; omega), drop_none t i (by have := HI.out; have := HL.out; omega)]
        rfl
      | succ g =>
        have hi : ((i : Int) < (s.size : Int)) := by omega
        have hit : ((i : Int) < (t.size : Int)) := by have := HL.out; omega
        have hin : i < s.size := by omega
        have hitn : i < t.size := by omega
        have HQ2 : Hid (fe s.data.toList t.data.toList = ((low s[i] == low t[i]) && fe (s.data.toList.drop (i+1)) (t.data.toList.drop (i+1)))) := by
          show _ = _
          rw [← HQ.out, drop_cons s i hin, drop_cons t i hitn, fe_cons]
        clear HQ
        have HLB := low_beq s[i] t[i]
        cases hc : (low s[i] == low t[i]) with
        | true =>
          have hc2 : (((low s[i]).toNat : Int) == ((low t[i]).toNat : Int)) = true := by rw [← HLB, hc]
          have HC : Hid ((low s[i] == low t[i]) = true) := hc
          clear HLB hc
          go_wp2_with fail
          go_quiet (first | exact Calls.quiet_of_same (zzLower_any _ _))
          go_wp2_with fail
          go_roundg g
          case measure => omega
          case rel => exact ⟨bdN HB.out _, i + 1, by omega, by first | rfl | simp, by show _ = _; rw [HQ2.out, HC.out, Bool.true_and]⟩
        | false =>
          have hc2 : (((low s[i]).toNat : Int) == ((low t[i]).toNat : Int)) = false := by rw [← HLB, hc]
          have HC : Hid ((low s[i] == low t[i]) = false) := hc
          clear HLB hc
          go_wp2_with fail
          go_quiet (first | exact Calls.quiet_of_same (zzLower_any _ _))
          go_wp2_with fail
          go_ret
          refine ⟨?_, bdN HB.out _⟩
          rw [HQ2.out, HC.out, Bool.false_and]
          rfl
  · have hb : ((s.size : Int) == (t.size : Int)) = false := beq_eq_false_iff_ne.2 (by omega)
    have HF : Hid (fe s.data.toList t.data.toList = false) := fe_len _ _ hl
    clear hl
    go_enter Tryd.func25, Tryd.ntmps25
    go_wp2_with fail
    go_ret
    exact ⟨by rw [HF.out]; rfl, Below.refl _ _⟩

/-- The compact forms. -/
def tab (v : Int) : ByteArray := if (v == 97) = true then ⟨#[65, 99, 99, 101, 112, 116, 45, 67, 111, 110, 116, 97, 99, 116]⟩ else if (v == 98) = true then ⟨#[82, 101, 102, 101, 114, 114, 101, 100, 45, 66, 121]⟩ else if (v == 99) = true then ⟨#[67, 111, 110, 116, 101, 110, 116, 45, 84, 121, 112, 101]⟩ else if (v == 100) = true then ⟨#[82, 101, 113, 117, 101, 115, 116, 45, 68, 105, 115, 112, 111, 115, 105, 116, 105, 111, 110]⟩ else if (v == 101) = true then ⟨#[67, 111, 110, 116, 101, 110, 116, 45, 69, 110, 99, 111, 100, 105, 110, 103]⟩ else if (v == 102) = true then ⟨#[70, 114, 111, 109]⟩ else if (v == 105) = true then ⟨#[67, 97, 108, 108, 45, 73, 68]⟩ else if (v == 106) = true then ⟨#[82, 101, 106, 101, 99, 116, 45, 67, 111, 110, 116, 97, 99, 116]⟩ else if (v == 107) = true then ⟨#[83, 117, 112, 112, 111, 114, 116, 101, 100]⟩ else if (v == 108) = true then ⟨#[67, 111, 110, 116, 101, 110, 116, 45, 76, 101, 110, 103, 116, 104]⟩ else if (v == 109) = true then ⟨#[67, 111, 110, 116, 97, 99, 116]⟩ else if (v == 110) = true then ⟨#[73, 100, 101, 110, 116, 105, 116, 121, 45, 73, 110, 102, 111]⟩ else if (v == 111) = true then ⟨#[69, 118, 101, 110, 116]⟩ else if (v == 114) = true then ⟨#[82, 101, 102, 101, 114, 45, 84, 111]⟩ else if (v == 115) = true then ⟨#[83, 117, 98, 106, 101, 99, 116]⟩ else if (v == 116) = true then ⟨#[84, 111]⟩ else if (v == 117) = true then ⟨#[65, 108, 108, 111, 119, 45, 69, 118, 101, 110, 116, 115]⟩ else if (v == 118) = true then ⟨#[86, 105, 97]⟩ else if (v == 120) = true then ⟨#[83, 101, 115, 115, 105, 111, 110, 45, 69, 120, 112, 105, 114, 101, 115]⟩ else if (v == 121) = true then ⟨#[73, 100, 101, 110, 116, 105, 116, 121]⟩ else ⟨#[]⟩
theorem or32 (c : UInt8) : (bits .or .u8 (c.toNat : Int) 32) = ((c.toNat ||| 32 : Nat) : Int) := u8_or_nat _ 32 (by have := c.toNat_lt; omega) (by omega)
theorem tab_out (v : Nat) (h : v < 97 ∨ 122 < v) : tab (v : Int) = ⟨#[]⟩ := by
  have e : ∀ k : Int, 97 ≤ k → k ≤ 122 → ((v : Int) == k) = false := fun k h1 h2 => beq_eq_false_iff_ne.2 (by omega)
  unfold tab
  rw [if_neg (by rw [e 97 (by omega) (by omega)]; simp)]
  rw [if_neg (by rw [e 98 (by omega) (by omega)]; simp)]
  rw [if_neg (by rw [e 99 (by omega) (by omega)]; simp)]
  rw [if_neg (by rw [e 100 (by omega) (by omega)]; simp)]
  rw [if_neg (by rw [e 101 (by omega) (by omega)]; simp)]
  rw [if_neg (by rw [e 102 (by omega) (by omega)]; simp)]
  rw [if_neg (by rw [e 105 (by omega) (by omega)]; simp)]
  rw [if_neg (by rw [e 106 (by omega) (by omega)]; simp)]
  rw [if_neg (by rw [e 107 (by omega) (by omega)]; simp)]
  rw [if_neg (by rw [e 108 (by omega) (by omega)]; simp)]
  rw [if_neg (by rw [e 109 (by omega) (by omega)]; simp)]
  rw [if_neg (by rw [e 110 (by omega) (by omega)]; simp)]
  rw [if_neg (by rw [e 111 (by omega) (by omega)]; simp)]
  rw [if_neg (by rw [e 114 (by omega) (by omega)]; simp)]
  rw [if_neg (by rw [e 115 (by omega) (by omega)]; simp)]
  rw [if_neg (by rw [e 116 (by omega) (by omega)]; simp)]
  rw [if_neg (by rw [e 117 (by omega) (by omega)]; simp)]
  rw [if_neg (by rw [e 118 (by omega) (by omega)]; simp)]
  rw [if_neg (by rw [e 120 (by omega) (by omega)]; simp)]
  rw [if_neg (by rw [e 121 (by omega) (by omega)]; simp)]
set_option maxRecDepth 100000 in
theorem low_or : ∀ n : Fin 256, (if 65 ≤ n.val ∧ n.val ≤ 90 then n.val + 32 else n.val) = n.val ||| 32 ∨ (((if 65 ≤ n.val ∧ n.val ≤ 90 then n.val + 32 else n.val) < 97 ∨ 122 < (if 65 ≤ n.val ∧ n.val ≤ 90 then n.val + 32 else n.val)) ∧ (n.val ||| 32 < 97 ∨ 122 < n.val ||| 32)) := by decide
theorem tab_or (c : UInt8) : tab ((c.toNat ||| 32 : Nat) : Int) = tab ((low c).toNat : Int) := by
  have hc := c.toNat_lt
  have h := low_or ⟨c.toNat, hc⟩
  have e : (low c).toNat = if 65 ≤ c.toNat ∧ c.toNat ≤ 90 then c.toNat + 32 else c.toNat := by
    have := low_int c
    split at this <;> split <;> omega
  simp only [] at h
  rw [← e] at h
  rcases h with h | ⟨h1, h2⟩
  · rw [← h]
  · rw [tab_out _ h1, tab_out _ h2]

set_option maxHeartbeats 1000000 in
theorem zzCompact_any (c : UInt8) (w : World) : Calls Tryd.prog 26 #[.int .u8 (c.toNat : Int)] w fun e w' => e = .returned (.string (tab ((low c).toNat : Int))) ∧ w' = w := by
  have HL : Hid (∀ w, Calls Tryd.prog 33 #[.int .u8 (c.toNat : Int)] w fun e w' => e = .returned (.int .u8 ((low c).toNat : Int)) ∧ w' = w) := fun w => zzLower_any c w
  generalize ((low c).toNat : Int) = v at *
  go_enter Tryd.func26, Tryd.ntmps26
  go_wp2_with fail
  refine (HL.out _).mono ?_
  rintro e w1 ⟨rfl, rfl⟩
  go_wp2_with fail
  all_goals go_ret
  all_goals (unfold tab; simp only [*, if_true, if_false, Bool.false_eq_true]; exact ⟨rfl, trivial⟩)
set_option maxHeartbeats 1000000 in
theorem longForm_any (c : UInt8) (w : World) : Calls Tryd.prog 36 #[.int .u8 (c.toNat : Int)] w fun e w' => e = .returned (.string (tab ((low c).toNat : Int))) ∧ w' = w := by
  rw [← tab_or]
  have ho := or32 c
  generalize hv : ((c.toNat ||| 32 : Nat) : Int) = v at *
  clear hv
  go_enter Tryd.func36, Tryd.ntmps36
  go_wp2_with fail
  all_goals go_ret
  all_goals (unfold tab; simp only [*, if_true, if_false, Bool.false_eq_true]; exact ⟨rfl, trivial⟩)
theorem tab_size (v : Int) : (tab v).size ≤ 4194304 := by
  unfold tab
  by_cases h : (v == 97) = true
  · rw [if_pos h]; decide
  rw [if_neg h]; clear h
  by_cases h : (v == 98) = true
  · rw [if_pos h]; decide
  rw [if_neg h]; clear h
  by_cases h : (v == 99) = true
  · rw [if_pos h]; decide
  rw [if_neg h]; clear h
  by_cases h : (v == 100) = true
  · rw [if_pos h]; decide
  rw [if_neg h]; clear h
  by_cases h : (v == 101) = true
  · rw [if_pos h]; decide
  rw [if_neg h]; clear h
  by_cases h : (v == 102) = true
  · rw [if_pos h]; decide
  rw [if_neg h]; clear h
  by_cases h : (v == 105) = true
  · rw [if_pos h]; decide
  rw [if_neg h]; clear h
  by_cases h : (v == 106) = true
  · rw [if_pos h]; decide
  rw [if_neg h]; clear h
  by_cases h : (v == 107) = true
  · rw [if_pos h]; decide
  rw [if_neg h]; clear h
  by_cases h : (v == 108) = true
  · rw [if_pos h]; decide
  rw [if_neg h]; clear h
  by_cases h : (v == 109) = true
  · rw [if_pos h]; decide
  rw [if_neg h]; clear h
  by_cases h : (v == 110) = true
  · rw [if_pos h]; decide
  rw [if_neg h]; clear h
  by_cases h : (v == 111) = true
  · rw [if_pos h]; decide
  rw [if_neg h]; clear h
  by_cases h : (v == 114) = true
  · rw [if_pos h]; decide
  rw [if_neg h]; clear h
  by_cases h : (v == 115) = true
  · rw [if_pos h]; decide
  rw [if_neg h]; clear h
  by_cases h : (v == 116) = true
  · rw [if_pos h]; decide
  rw [if_neg h]; clear h
  by_cases h : (v == 117) = true
  · rw [if_pos h]; decide
  rw [if_neg h]; clear h
  by_cases h : (v == 118) = true
  · rw [if_pos h]; decide
  rw [if_neg h]; clear h
  by_cases h : (v == 120) = true
  · rw [if_pos h]; decide
  rw [if_neg h]; clear h
  by_cases h : (v == 121) = true
  · rw [if_pos h]; decide
  rw [if_neg h]; clear h
  decide
theorem tab_asc (v : Int) : ∀ b ∈ (tab v).data.toList, b.toNat < 128 := by
  unfold tab
  by_cases h : (v == 97) = true
  · rw [if_pos h]; decide
  rw [if_neg h]; clear h
  by_cases h : (v == 98) = true
  · rw [if_pos h]; decide
  rw [if_neg h]; clear h
  by_cases h : (v == 99) = true
  · rw [if_pos h]; decide
  rw [if_neg h]; clear h
  by_cases h : (v == 100) = true
  · rw [if_pos h]; decide
  rw [if_neg h]; clear h
  by_cases h : (v == 101) = true
  · rw [if_pos h]; decide
  rw [if_neg h]; clear h
  by_cases h : (v == 102) = true
  · rw [if_pos h]; decide
  rw [if_neg h]; clear h
  by_cases h : (v == 105) = true
  · rw [if_pos h]; decide
  rw [if_neg h]; clear h
  by_cases h : (v == 106) = true
  · rw [if_pos h]; decide
  rw [if_neg h]; clear h
  by_cases h : (v == 107) = true
  · rw [if_pos h]; decide
  rw [if_neg h]; clear h
  by_cases h : (v == 108) = true
  · rw [if_pos h]; decide
  rw [if_neg h]; clear h
  by_cases h : (v == 109) = true
  · rw [if_pos h]; decide
  rw [if_neg h]; clear h
  by_cases h : (v == 110) = true
  · rw [if_pos h]; decide
  rw [if_neg h]; clear h
  by_cases h : (v == 111) = true
  · rw [if_pos h]; decide
  rw [if_neg h]; clear h
  by_cases h : (v == 114) = true
  · rw [if_pos h]; decide
  rw [if_neg h]; clear h
  by_cases h : (v == 115) = true
  · rw [if_pos h]; decide
  rw [if_neg h]; clear h
  by_cases h : (v == 116) = true
  · rw [if_pos h]; decide
  rw [if_neg h]; clear h
  by_cases h : (v == 117) = true
  · rw [if_pos h]; decide
  rw [if_neg h]; clear h
  by_cases h : (v == 118) = true
  · rw [if_pos h]; decide
  rw [if_neg h]; clear h
  by_cases h : (v == 120) = true
  · rw [if_pos h]; decide
  rw [if_neg h]; clear h
  by_cases h : (v == 121) = true
  · rw [if_pos h]; decide
  rw [if_neg h]; clear h
  decide
/-- Is a field so named the field of that name? -/
def nmd (name : ByteArray) (x : List UInt8) : Bool := match x with
  | [c] => fe (tab ((low c).toNat : Int)).data.toList name.data.toList
  | x => fe x name.data.toList
theorem nmd_one (name x : ByteArray) (h : x.size = 1) : nmd name x.data.toList = fe (tab ((low (x[0]'(by omega))).toNat : Int)).data.toList name.data.toList := by
  have e := drop_cons x 0 (by omega)
  rw [List.drop_zero, drop_none x 1 (by omega)] at e
  rw [e]
  rfl
theorem nmd_not (name x : ByteArray) (h : x.size ≠ 1) : nmd name x.data.toList = fe x.data.toList name.data.toList := by
  rw [size_list] at h
  generalize x.data.toList = l at *
  cases l with
  | nil => rfl
  | cons a l => cases l with
    | nil => exact absurd rfl h
    | cons b l => rfl
theorem zzNamed_any (x name : ByteArray) (w : World) (hx : x.size ≤ 4194304) : Calls Tryd.prog 12 #[.string x, .string name] w fun e w' => e = .returned (.bool (nmd name x.data.toList)) ∧ Below w.heap.size w w' := by
  by_cases h1 : x.size = 1
  · have hb : ((x.size : Int) == 1) = true := beq_iff_eq.2 (by omega)
    have h0 : 0 < x.size := by omega
    rw [nmd_one name x h1]
    have HX : Hid (x.size ≤ 4194304) := hx
    go_enter Tryd.func12, Tryd.ntmps12
    go_wp2_with fail
    refine (zzCompact_any x[0] _).mono ?_
    rintro e w1 ⟨rfl, rfl⟩
    go_wp2_with fail
    refine (zzFoldEq_any _ name _ (tab_size _)).mono ?_
    rintro e w2 ⟨rfl, hB⟩
    have HB : Hid (Below w1.heap.size w1 w2) := hB
    clear hB
    go_wp2_with fail
    go_ret
    exact ⟨rfl, HB.out⟩
  · have hb : ((x.size : Int) == 1) = false := beq_eq_false_iff_ne.2 (by omega)
    rw [nmd_not name x h1]
    clear h1
    go_enter Tryd.func12, Tryd.ntmps12
    go_wp2_with fail
    refine (zzFoldEq_any x name _ hx).mono ?_
    rintro e w2 ⟨rfl, hB⟩
    have HB : Hid (Below w.heap.size w w2) := hB
    clear hB
    go_wp2_with fail
    go_ret
    exact ⟨rfl, HB.out⟩
/-- All bytes below 128. -/
def asc (l : List UInt8) : Bool := l.all fun b => decide (b.toNat < 128)
theorem zzIsASCII_any (s : ByteArray) (w : World) (hs : s.size ≤ 4194304) : Calls Tryd.prog 9 #[.string s] w fun e w' => e = .returned (.bool (asc s.data.toList)) ∧ w' = w := by
  go_enter Tryd.func9, Tryd.ntmps9
  go_wp2_with fail
  go_loopg [3] s.size (fun g v wr => wr = w ∧ ∃ i : Nat, i + g = s.size ∧ v = .int .i64 i ∧ Hid (asc (s.data.toList.drop i) = asc s.data.toList))
  case atStart => exact ⟨rfl, 0, by omega, rfl, rfl⟩
  case round =>
    obtain ⟨hw, i, hig, rfl, HQ⟩ := hrel
    have hw' := hw.symm
    subst hw'
    clear hw
    cases gk with
    | zero =>
      have hi : ¬ ((i : Int) < (s.size : Int)) := by omega
      have HI : Hid (i = s.size) := by show i = s.size; omega
      clear hig
      go_wp2_with fail
      go_ret
      refine ⟨?_, rfl⟩
      rw [← HQ.out, drop_none s i (by have := HI.out; omega)]
      rfl
    | succ g =>
      have hi : ((i : Int) < (s.size : Int)) := by omega
      have hin : i < s.size := by omega
      have HQ2 : Hid (asc s.data.toList = (decide (s[i].toNat < 128) && asc (s.data.toList.drop (i+1)))) := by
        show _ = _
        rw [← HQ.out, drop_cons s i hin]
        rfl
      clear HQ
      by_cases hc : 128 ≤ (s[i].toNat : Int)
      · have HC : Hid (decide (s[i].toNat < 128) = false) := decide_eq_false (by omega)
        go_wp2_with fail
        go_ret
        refine ⟨?_, rfl⟩
        rw [HQ2.out, HC.out, Bool.false_and]
        rfl
      · have HC : Hid (decide (s[i].toNat < 128) = true) := decide_eq_true (by omega)
        go_wp2_with fail
        go_roundg g
        case measure => omega
        case rel => exact ⟨rfl, i + 1, by omega, by first | rfl | simp, by show _ = _; rw [HQ2.out, HC.out, Bool.true_and]⟩
end Go.Proofs.Qxb6616805aDoor
