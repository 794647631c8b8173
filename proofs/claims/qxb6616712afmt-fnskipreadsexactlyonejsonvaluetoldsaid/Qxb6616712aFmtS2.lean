/- strconv.appendEscapedRune, its quote an apostrophe. -/
import Derived.Test.Qxb6616712aFmtS1
set_option linter.unusedVariables false
set_option linter.unusedSimpArgs false
set_option linter.unnecessarySimpa false
namespace Go.Proofs.Qxb6616712aFmt
open Go.RowKit

def EscPost (B n : Nat) (W0 : World) (e : Ending) (w' : World) : Prop := ∃ v', e = .returned v' ∧ Bf B (n + 12) v' W0 w'

set_option maxRecDepth 100000 in
set_option maxHeartbeats 1000000 in
theorem esc_quoted (B n : Nat) (v : Value) (r : Int) (W0 w : World) (hb : Bf B n v W0 w) (hn : n + 20 ≤ 140737488355328) (hq : r = 39 ∨ r = 92) :
    Calls Tryf.prog 70 #[v, .int .i32 r, .int .u8 39, .bool false, .bool false] w fun e w' => EscPost B n W0 e w' := by
  rcases hq with rfl | rfl
  all_goals
    go_enter Tryf.func70, Tryf.ntmps70
    go_wp2_with (at_builtin; first
      | (refine bf_byte rfl _ _ rfl B _ _ rfl W0 _ _ (by assumption) rfl (by omega) ?_; intro _ _ hb)
      | (refine bf_text rfl _ _ rfl B _ _ rfl W0 (by assumption) _ rfl (by first | omega | (simp only [Lib.size_two]; omega)) ?_; intro _ _ hb))
    go_ret
    exact ⟨_, rfl, hb.mono (by omega)⟩

set_option maxRecDepth 100000 in
set_option maxHeartbeats 1000000 in
theorem esc_print (B n : Nat) (v : Value) (r : Int) (W0 w : World) (T : Lib.PrintTabs) (hb : Bf B n v W0 w) (hn : n + 20 ≤ 140737488355328) (hT : Lib.PrintTabsAt 3 4 5 6 T w) (hr0 : 0 ≤ r) (hr1 : r ≤ 1114111) (h39 : (r == 39) = false) (h92 : (r == 92) = false) (hp : Lib.isPrintR T r = true) :
    Calls Tryf.prog 70 #[v, .int .i32 r, .int .u8 39, .bool false, .bool false] w fun e w' => EscPost B n W0 e w' := by
  have HT : Hid (Lib.PrintTabsAt 3 4 5 6 T w) := hT
  have HP : Hid (Lib.isPrintR T r = true) := hp
  clear hT hp
  go_enter Tryf.func70, Tryf.ntmps70
  go_wp2_with fail
  refine (Tryf.strconv_IsPrint T r w (by omega) (by omega) HT.out).mono ?_
  rintro e w1 ⟨rfl, q, rfl⟩
  rw [HP.out]
  go_wp2_with fail
  refine (bf_AppendRune B n v r W0 _ (hb.drewN q) (by omega) (by omega) (by omega)).mono ?_
  rintro e w2 ⟨v2, rfl, hb2⟩
  go_wp2_with fail
  go_ret
  exact ⟨_, rfl, hb2.mono (by omega)⟩

set_option maxRecDepth 100000 in
set_option maxHeartbeats 1000000 in
theorem esc_named (B n : Nat) (v : Value) (r : Int) (W0 w : World) (T : Lib.PrintTabs) (hb : Bf B n v W0 w) (hn : n + 20 ≤ 140737488355328) (hT : Lib.PrintTabsAt 3 4 5 6 T w) (hp : Lib.isPrintR T r = false) (hr : r = 7 ∨ r = 8 ∨ r = 12 ∨ r = 10 ∨ r = 13 ∨ r = 9 ∨ r = 11) :
    Calls Tryf.prog 70 #[v, .int .i32 r, .int .u8 39, .bool false, .bool false] w fun e w' => EscPost B n W0 e w' := by
  have HT : Hid (Lib.PrintTabsAt 3 4 5 6 T w) := hT
  have HP : Hid (Lib.isPrintR T r = false) := hp
  clear hT hp
  rcases hr with rfl | rfl | rfl | rfl | rfl | rfl | rfl
  all_goals
    go_enter Tryf.func70, Tryf.ntmps70
    go_wp2_with fail
    refine (Tryf.strconv_IsPrint T _ w (by omega) (by omega) HT.out).mono ?_
    rintro e w1 ⟨rfl, q, rfl⟩
    rw [HP.out]
    have hbq := hb.drewN q
    go_wp2_with (at_builtin; refine bf_text rfl _ _ rfl B _ _ rfl W0 hbq _ rfl (by first | omega | (simp only [Lib.size_two]; omega)) ?_; intro _ _ hb2)
    go_ret
    exact ⟨_, rfl, hb2.mono (by simp only [Lib.size_two]; omega)⟩

set_option maxRecDepth 100000 in
set_option maxHeartbeats 1000000 in
theorem esc_hex2 (B n : Nat) (v : Value) (r : Int) (W0 w : World) (T : Lib.PrintTabs) (hb : Bf B n v W0 w) (hn : n + 20 ≤ 140737488355328) (hT : Lib.PrintTabsAt 3 4 5 6 T w) (hr0 : 0 ≤ r) (hp : Lib.isPrintR T r = false) (hx : r < 32 ∨ r = 127)
    (h7 : (r == 7) = false) (h8 : (r == 8) = false) (h12 : (r == 12) = false) (h10 : (r == 10) = false) (h13 : (r == 13) = false) (h9 : (r == 9) = false) (h11 : (r == 11) = false) :
    Calls Tryf.prog 70 #[v, .int .i32 r, .int .u8 39, .bool false, .bool false] w fun e w' => EscPost B n W0 e w' := by
  have HT : Hid (Lib.PrintTabsAt 3 4 5 6 T w) := hT
  have HP : Hid (Lib.isPrintR T r = false) := hp
  clear hT hp
  rcases hx with hx | rfl
  · obtain ⟨k, rfl⟩ := Int.eq_ofNat_of_zero_le hr0
    have hk : k < 128 := by omega
    have h39 : ((k : Int) == 39) = false := by simp; omega
    have h92 : ((k : Int) == 92) = false := by simp; omega
    have hw8 : IntKind.u8.wrap (k : Int) = (k : Int) := by
      have e : (k : Int) % 256 = k := Int.emod_eq_of_lt (by omega) (by omega)
      simp [IntKind.wrap, IntKind.bits, IntKind.signed, e]
    go_enter Tryf.func70, Tryf.ntmps70
    go_wp2_with fail
    refine (Tryf.strconv_IsPrint T _ w (by omega) (by omega) HT.out).mono ?_
    rintro e w1 ⟨rfl, q, rfl⟩
    rw [HP.out]
    have hbq := hb.drewN q
    go_wp2_with (at_builtin; first
      | (refine bf_byte rfl _ _ rfl B _ _ rfl W0 _ _ (by assumption) rfl (by first | omega | (simp only [Lib.size_two]; omega)) ?_; intro _ _ hb2)
      | (refine bf_text rfl _ _ rfl B _ _ rfl W0 hbq _ rfl (by first | omega | (simp only [Lib.size_two]; omega)) ?_; intro _ _ hb2))
    go_ret
    exact ⟨_, rfl, hb2.mono (by simp only [Lib.size_two]; omega)⟩
  · have hw8 : IntKind.u8.wrap 127 = 127 := by decide
    go_enter Tryf.func70, Tryf.ntmps70
    go_wp2_with fail
    refine (Tryf.strconv_IsPrint T _ w (by omega) (by omega) HT.out).mono ?_
    rintro e w1 ⟨rfl, q, rfl⟩
    rw [HP.out]
    have hbq := hb.drewN q
    go_wp2_with (at_builtin; first
      | (refine bf_byte rfl _ _ rfl B _ _ rfl W0 _ _ (by assumption) rfl (by first | omega | (simp only [Lib.size_two]; omega)) ?_; intro _ _ hb2)
      | (refine bf_text rfl _ _ rfl B _ _ rfl W0 hbq _ rfl (by first | omega | (simp only [Lib.size_two]; omega)) ?_; intro _ _ hb2))
    go_ret
    exact ⟨_, rfl, hb2.mono (by simp only [Lib.size_two]; omega)⟩

set_option maxRecDepth 100000 in
set_option maxHeartbeats 1000000 in
theorem esc_u4 (B n : Nat) (v : Value) (r : Int) (W0 w : World) (T : Lib.PrintTabs) (hb : Bf B n v W0 w) (hn : n + 20 ≤ 140737488355328) (hT : Lib.PrintTabsAt 3 4 5 6 T w) (h80 : 128 ≤ r) (hlt : r < 65536) (hp : Lib.isPrintR T r = false) (hv : Lib.validRune r = true) :
    Calls Tryf.prog 70 #[v, .int .i32 r, .int .u8 39, .bool false, .bool false] w fun e w' => EscPost B n W0 e w' := by
  have HT : Hid (Lib.PrintTabsAt 3 4 5 6 T w) := hT
  have HP : Hid (Lib.isPrintR T r = false) := hp
  have HV : Hid (Lib.validRune r = true) := hv
  clear hT hp hv
  obtain ⟨k, hk⟩ := Int.eq_ofNat_of_zero_le (show 0 ≤ r by omega)
  have hk31 : k < 2147483648 := by omega
  obtain ⟨d0, hd0⟩ : ∃ d, d = k / 4096 % 16 := ⟨_, rfl⟩
  have hD0 : bits .and .i32 (r / 4096) 15 = (d0 : Int) := by
    have e := Lib.and15_shift r k hk hk31 4096
    rw [hd0]; simpa using e
  have hL0 : (d0 : Int) < 16 := by omega
  clear hd0
  obtain ⟨d1, hd1⟩ : ∃ d, d = k / 256 % 16 := ⟨_, rfl⟩
  have hD1 : bits .and .i32 (r / 256) 15 = (d1 : Int) := by
    have e := Lib.and15_shift r k hk hk31 256
    rw [hd1]; simpa using e
  have hL1 : (d1 : Int) < 16 := by omega
  clear hd1
  obtain ⟨d2, hd2⟩ : ∃ d, d = k / 16 % 16 := ⟨_, rfl⟩
  have hD2 : bits .and .i32 (r / 16) 15 = (d2 : Int) := by
    have e := Lib.and15_shift r k hk hk31 16
    rw [hd2]; simpa using e
  have hL2 : (d2 : Int) < 16 := by omega
  clear hd2
  obtain ⟨d3, hd3⟩ : ∃ d, d = k % 16 := ⟨_, rfl⟩
  have hD3 : bits .and .i32 r 15 = (d3 : Int) := by
    have e := Lib.and15_i32 k hk31
    rw [hd3, hk]; exact e
  have hL3 : (d3 : Int) < 16 := by omega
  clear hd3
  have h39 : (r == 39) = false := by simp; omega
  have h92 : (r == 92) = false := by simp; omega
  have h127 : (r == 127) = false := by simp; omega
  have h7 : (r == 7) = false := by simp; omega
  have h8 : (r == 8) = false := by simp; omega
  have h12 : (r == 12) = false := by simp; omega
  have h10 : (r == 10) = false := by simp; omega
  have h13 : (r == 13) = false := by simp; omega
  have h9 : (r == 9) = false := by simp; omega
  have h11 : (r == 11) = false := by simp; omega
  clear hk
  go_enter Tryf.func70, Tryf.ntmps70
  go_wp2_with fail
  refine (Tryf.strconv_IsPrint T r w (by omega) (by omega) HT.out).mono ?_
  rintro e w1 ⟨rfl, q, rfl⟩
  rw [HP.out]
  have hbq := hb.drewN q
  go_wp2_with fail
  refine (Tryf.utf8_ValidRune r _).mono ?_
  rintro e w1 ⟨rfl, rfl⟩
  rw [HV.out]
  go_wp2_with (at_builtin; refine bf_text rfl _ _ rfl B _ _ rfl W0 hbq _ rfl (by first | omega | (simp only [Lib.size_two]; omega)) ?_; intro v1 w1 hb1)
  go_loopg [0, 11] 4 (fun gn s0 sc wr => ∃ (j : Nat) (vv : Value) (sI : Int), gn = 4 - j ∧ s0 = vv ∧ j ≤ 4 ∧ sc = .int .i64 sI ∧ sI = 12 - 4 * j ∧ Bf B (n + 2 + j) vv W0 wr)
  case atStart => exact ⟨0, v1, 12, rfl, rfl, by omega, rfl, rfl, hb1.mono (by simp only [Lib.size_two]; omega)⟩
  case round =>
    obtain ⟨j, vv, sI, hg, rfl, hj, rfl, hsI, hbk⟩ := hrel
    have HG : Hid (gk = 4 - j) := hg
    clear hg
    rcases (by omega : j = 0 ∨ j = 1 ∨ j = 2 ∨ j = 3 ∨ j = 4) with hj0 | hj1 | hj2 | hj3 | hj4
    · subst hj0
      have hs : sI = 12 := by omega
      clear hsI
      subst hs
      go_wp2_with (at_builtin; refine bf_byte rfl _ _ rfl B _ _ rfl W0 _ _ hbk rfl (by omega) ?_; intro v2 w2 hb2)
      go_roundg (4 - 1)
      case measure => rw [HG.out]; omega
      case rel => exact ⟨1, _, _, rfl, rfl, by omega, rfl, rfl, hb2⟩
    · subst hj1
      have hs : sI = 8 := by omega
      clear hsI
      subst hs
      go_wp2_with (at_builtin; refine bf_byte rfl _ _ rfl B _ _ rfl W0 _ _ hbk rfl (by omega) ?_; intro v2 w2 hb2)
      go_roundg (4 - 2)
      case measure => rw [HG.out]; omega
      case rel => exact ⟨2, _, _, rfl, rfl, by omega, rfl, rfl, hb2⟩
    · subst hj2
      have hs : sI = 4 := by omega
      clear hsI
      subst hs
      go_wp2_with (at_builtin; refine bf_byte rfl _ _ rfl B _ _ rfl W0 _ _ hbk rfl (by omega) ?_; intro v2 w2 hb2)
      go_roundg (4 - 3)
      case measure => rw [HG.out]; omega
      case rel => exact ⟨3, _, _, rfl, rfl, by omega, rfl, rfl, hb2⟩
    · subst hj3
      have hs : sI = 0 := by omega
      clear hsI
      subst hs
      go_wp2_with (at_builtin; refine bf_byte rfl _ _ rfl B _ _ rfl W0 _ _ hbk rfl (by omega) ?_; intro v2 w2 hb2)
      go_roundg (4 - 4)
      case measure => rw [HG.out]; omega
      case rel => exact ⟨4, _, _, rfl, rfl, by omega, rfl, rfl, hb2⟩
    · subst hj4
      have hs : sI = -4 := by omega
      clear hsI
      subst hs
      go_wp2_with fail
      go_ret
      exact ⟨_, rfl, hbk.mono (by omega)⟩

set_option maxRecDepth 100000 in
set_option maxHeartbeats 1000000 in
theorem esc_u8 (B n : Nat) (v : Value) (r : Int) (W0 w : World) (T : Lib.PrintTabs) (hb : Bf B n v W0 w) (hn : n + 20 ≤ 140737488355328) (hT : Lib.PrintTabsAt 3 4 5 6 T w) (h80 : 65536 ≤ r) (hlt : r ≤ 1114111) (hp : Lib.isPrintR T r = false) (hv : Lib.validRune r = true) :
    Calls Tryf.prog 70 #[v, .int .i32 r, .int .u8 39, .bool false, .bool false] w fun e w' => EscPost B n W0 e w' := by
  have HT : Hid (Lib.PrintTabsAt 3 4 5 6 T w) := hT
  have HP : Hid (Lib.isPrintR T r = false) := hp
  have HV : Hid (Lib.validRune r = true) := hv
  clear hT hp hv
  obtain ⟨k, hk⟩ := Int.eq_ofNat_of_zero_le (show 0 ≤ r by omega)
  have hk31 : k < 2147483648 := by omega
  obtain ⟨d0, hd0⟩ : ∃ d, d = k / 268435456 % 16 := ⟨_, rfl⟩
  have hD0 : bits .and .i32 (r / 268435456) 15 = (d0 : Int) := by
    have e := Lib.and15_shift r k hk hk31 268435456
    rw [hd0]; simpa using e
  have hL0 : (d0 : Int) < 16 := by omega
  clear hd0
  obtain ⟨d1, hd1⟩ : ∃ d, d = k / 16777216 % 16 := ⟨_, rfl⟩
  have hD1 : bits .and .i32 (r / 16777216) 15 = (d1 : Int) := by
    have e := Lib.and15_shift r k hk hk31 16777216
    rw [hd1]; simpa using e
  have hL1 : (d1 : Int) < 16 := by omega
  clear hd1
  obtain ⟨d2, hd2⟩ : ∃ d, d = k / 1048576 % 16 := ⟨_, rfl⟩
  have hD2 : bits .and .i32 (r / 1048576) 15 = (d2 : Int) := by
    have e := Lib.and15_shift r k hk hk31 1048576
    rw [hd2]; simpa using e
  have hL2 : (d2 : Int) < 16 := by omega
  clear hd2
  obtain ⟨d3, hd3⟩ : ∃ d, d = k / 65536 % 16 := ⟨_, rfl⟩
  have hD3 : bits .and .i32 (r / 65536) 15 = (d3 : Int) := by
    have e := Lib.and15_shift r k hk hk31 65536
    rw [hd3]; simpa using e
  have hL3 : (d3 : Int) < 16 := by omega
  clear hd3
  obtain ⟨d4, hd4⟩ : ∃ d, d = k / 4096 % 16 := ⟨_, rfl⟩
  have hD4 : bits .and .i32 (r / 4096) 15 = (d4 : Int) := by
    have e := Lib.and15_shift r k hk hk31 4096
    rw [hd4]; simpa using e
  have hL4 : (d4 : Int) < 16 := by omega
  clear hd4
  obtain ⟨d5, hd5⟩ : ∃ d, d = k / 256 % 16 := ⟨_, rfl⟩
  have hD5 : bits .and .i32 (r / 256) 15 = (d5 : Int) := by
    have e := Lib.and15_shift r k hk hk31 256
    rw [hd5]; simpa using e
  have hL5 : (d5 : Int) < 16 := by omega
  clear hd5
  obtain ⟨d6, hd6⟩ : ∃ d, d = k / 16 % 16 := ⟨_, rfl⟩
  have hD6 : bits .and .i32 (r / 16) 15 = (d6 : Int) := by
    have e := Lib.and15_shift r k hk hk31 16
    rw [hd6]; simpa using e
  have hL6 : (d6 : Int) < 16 := by omega
  clear hd6
  obtain ⟨d7, hd7⟩ : ∃ d, d = k % 16 := ⟨_, rfl⟩
  have hD7 : bits .and .i32 r 15 = (d7 : Int) := by
    have e := Lib.and15_i32 k hk31
    rw [hd7, hk]; exact e
  have hL7 : (d7 : Int) < 16 := by omega
  clear hd7
  have h39 : (r == 39) = false := by simp; omega
  have h92 : (r == 92) = false := by simp; omega
  have h127 : (r == 127) = false := by simp; omega
  have h7 : (r == 7) = false := by simp; omega
  have h8 : (r == 8) = false := by simp; omega
  have h12 : (r == 12) = false := by simp; omega
  have h10 : (r == 10) = false := by simp; omega
  have h13 : (r == 13) = false := by simp; omega
  have h9 : (r == 9) = false := by simp; omega
  have h11 : (r == 11) = false := by simp; omega
  clear hk
  go_enter Tryf.func70, Tryf.ntmps70
  go_wp2_with fail
  refine (Tryf.strconv_IsPrint T r w (by omega) (by omega) HT.out).mono ?_
  rintro e w1 ⟨rfl, q, rfl⟩
  rw [HP.out]
  have hbq := hb.drewN q
  go_wp2_with fail
  refine (Tryf.utf8_ValidRune r _).mono ?_
  rintro e w1 ⟨rfl, rfl⟩
  rw [HV.out]
  go_wp2_with (at_builtin; refine bf_text rfl _ _ rfl B _ _ rfl W0 hbq _ rfl (by first | omega | (simp only [Lib.size_two]; omega)) ?_; intro v1 w1 hb1)
  go_loopg [0, 12] 8 (fun gn s0 sc wr => ∃ (j : Nat) (vv : Value) (sI : Int), gn = 8 - j ∧ s0 = vv ∧ j ≤ 8 ∧ sc = .int .i64 sI ∧ sI = 28 - 4 * j ∧ Bf B (n + 2 + j) vv W0 wr)
  case atStart => exact ⟨0, v1, 28, rfl, rfl, by omega, rfl, rfl, hb1.mono (by simp only [Lib.size_two]; omega)⟩
  case round =>
    obtain ⟨j, vv, sI, hg, rfl, hj, rfl, hsI, hbk⟩ := hrel
    have HG : Hid (gk = 8 - j) := hg
    clear hg
    rcases (by omega : j = 0 ∨ j = 1 ∨ j = 2 ∨ j = 3 ∨ j = 4 ∨ j = 5 ∨ j = 6 ∨ j = 7 ∨ j = 8) with hj0 | hj1 | hj2 | hj3 | hj4 | hj5 | hj6 | hj7 | hj8
    · subst hj0
      have hs : sI = 28 := by omega
      clear hsI
      subst hs
      go_wp2_with (at_builtin; refine bf_byte rfl _ _ rfl B _ _ rfl W0 _ _ hbk rfl (by omega) ?_; intro v2 w2 hb2)
      go_roundg (8 - 1)
      case measure => rw [HG.out]; omega
      case rel => exact ⟨1, _, _, rfl, rfl, by omega, rfl, rfl, hb2⟩
    · subst hj1
      have hs : sI = 24 := by omega
      clear hsI
      subst hs
      go_wp2_with (at_builtin; refine bf_byte rfl _ _ rfl B _ _ rfl W0 _ _ hbk rfl (by omega) ?_; intro v2 w2 hb2)
      go_roundg (8 - 2)
      case measure => rw [HG.out]; omega
      case rel => exact ⟨2, _, _, rfl, rfl, by omega, rfl, rfl, hb2⟩
    · subst hj2
      have hs : sI = 20 := by omega
      clear hsI
      subst hs
      go_wp2_with (at_builtin; refine bf_byte rfl _ _ rfl B _ _ rfl W0 _ _ hbk rfl (by omega) ?_; intro v2 w2 hb2)
      go_roundg (8 - 3)
      case measure => rw [HG.out]; omega
      case rel => exact ⟨3, _, _, rfl, rfl, by omega, rfl, rfl, hb2⟩
    · subst hj3
      have hs : sI = 16 := by omega
      clear hsI
      subst hs
      go_wp2_with (at_builtin; refine bf_byte rfl _ _ rfl B _ _ rfl W0 _ _ hbk rfl (by omega) ?_; intro v2 w2 hb2)
      go_roundg (8 - 4)
      case measure => rw [HG.out]; omega
      case rel => exact ⟨4, _, _, rfl, rfl, by omega, rfl, rfl, hb2⟩
    · subst hj4
      have hs : sI = 12 := by omega
      clear hsI
      subst hs
      go_wp2_with (at_builtin; refine bf_byte rfl _ _ rfl B _ _ rfl W0 _ _ hbk rfl (by omega) ?_; intro v2 w2 hb2)
      go_roundg (8 - 5)
      case measure => rw [HG.out]; omega
      case rel => exact ⟨5, _, _, rfl, rfl, by omega, rfl, rfl, hb2⟩
    · subst hj5
      have hs : sI = 8 := by omega
      clear hsI
      subst hs
      go_wp2_with (at_builtin; refine bf_byte rfl _ _ rfl B _ _ rfl W0 _ _ hbk rfl (by omega) ?_; intro v2 w2 hb2)
      go_roundg (8 - 6)
      case measure => rw [HG.out]; omega
      case rel => exact ⟨6, _, _, rfl, rfl, by omega, rfl, rfl, hb2⟩
    · subst hj6
      have hs : sI = 4 := by omega
      clear hsI
      subst hs
      go_wp2_with (at_builtin; refine bf_byte rfl _ _ rfl B _ _ rfl W0 _ _ hbk rfl (by omega) ?_; intro v2 w2 hb2)
      go_roundg (8 - 7)
      case measure => rw [HG.out]; omega
      case rel => exact ⟨7, _, _, rfl, rfl, by omega, rfl, rfl, hb2⟩
    · subst hj7
      have hs : sI = 0 := by omega
      clear hsI
      subst hs
      go_wp2_with (at_builtin; refine bf_byte rfl _ _ rfl B _ _ rfl W0 _ _ hbk rfl (by omega) ?_; intro v2 w2 hb2)
      go_roundg (8 - 8)
      case measure => rw [HG.out]; omega
      case rel => exact ⟨8, _, _, rfl, rfl, by omega, rfl, rfl, hb2⟩
    · subst hj8
      have hs : sI = -4 := by omega
      clear hsI
      subst hs
      go_wp2_with fail
      go_ret
      exact ⟨_, rfl, hbk.mono (by omega)⟩

end Go.Proofs.Qxb6616712aFmt
