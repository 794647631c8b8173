/- CheckItem: fmt's front, errors.New, the contract. -/
import Derived.Test.Qxb6616194aFmtH4
import Derived.Test.Qxb6616194aFmtShelf
import Derived.Stop.CallBack
import Derived.Stop.IfaceNil
import GoSem.ClaimData
set_option linter.unusedVariables false
set_option linter.unusedSimpArgs false
set_option linter.unnecessarySimpa false
namespace Go.Proofs.Qxb6616194aFmt
open Go.Extern.Stop Go.Stop Go.Extern

theorem Fx.call20 (args : Array Value) (w : World) : (callFunc 20 args).run Tryf.prog w = ((FmtStop.errorf #[9, 79] #[67] args).run Tryf.prog w).andThen fun v w' => .ok (.value v) w' :=
  run_callFunc_extern Tryf.func20 (by kernel_rfl) (by kernel_rfl) (by kernel_rfl) (by kernel_rfl) args w
theorem Fx.guard (name : String) (w : World) : (FmtStop.guard name).run Tryf.prog w = .ok () w := by kernel_rfl
theorem Fx.fmt0 : FmtStop.printed? ⟨#[116, 104, 101, 32, 110, 97, 109, 101, 32, 105, 115, 32, 108, 111, 110, 103, 101, 114, 32, 116, 104, 97, 110, 32, 37, 100, 32, 98, 121, 116, 101, 115]⟩ 1 = some [(0, 100, false)] := by kernel_rfl
theorem Fx.fmt0r (w : World) : (FmtDoors.printed ⟨#[116, 104, 101, 32, 110, 97, 109, 101, 32, 105, 115, 32, 108, 111, 110, 103, 101, 114, 32, 116, 104, 97, 110, 32, 37, 100, 32, 98, 121, 116, 101, 115]⟩ 1).run Tryf.prog w = .ok [(0, 100, false)] w := by kernel_rfl
theorem Fx.fmt1 : FmtStop.printed? ⟨#[116, 104, 101, 32, 118, 97, 108, 117, 101, 32, 105, 115, 32, 108, 111, 110, 103, 101, 114, 32, 116, 104, 97, 110, 32, 37, 100, 32, 98, 121, 116, 101, 115]⟩ 1 = some [(0, 100, false)] := by kernel_rfl
theorem Fx.fmt1r (w : World) : (FmtDoors.printed ⟨#[116, 104, 101, 32, 118, 97, 108, 117, 101, 32, 105, 115, 32, 108, 111, 110, 103, 101, 114, 32, 116, 104, 97, 110, 32, 37, 100, 32, 98, 121, 116, 101, 115]⟩ 1).run Tryf.prog w = .ok [(0, 100, false)] w := by kernel_rfl
def Fx.shape3 : List UInt8 := [5, 3, 0, 0, 0, 0, 0, 0, 0, 105, 110, 116]
theorem Fx.op3_100 (name : String) (x : Int) (w : World) : (FmtStop.operand name false 100 false (.iface 3 (.int .i64 x))).run Tryf.prog w = .ok (Fx.shape3, Go.Extern.Stop.digits 8 (x % 2 ^ 64).toNat) w := by kernel_rfl
theorem Fx.op3_100w (name : String) (x : Int) (w : World) : (FmtStop.operand name true 100 false (.iface 3 (.int .i64 x))).run Tryf.prog w = .ok (Fx.shape3, Go.Extern.Stop.digits 8 (x % 2 ^ 64).toNat) w := by kernel_rfl
theorem Fx.ptr76 (w : World) : (FmtStop.ptrTo "errors.errorString").run Tryf.prog w = .ok 76 w := by kernel_rfl
theorem Fx.elem76 (w : World) : (elemOf 76).run Tryf.prog w = .ok 78 w := by kernel_rfl
theorem Fx.isError76 (w : World) : (FmtDoors.textMethod 76 "Error").run Tryf.prog w = .ok true w := by kernel_rfl

attribute [local go_sem] Fx.call20 Fx.guard Fx.fmt0 Fx.fmt0r Fx.fmt1 Fx.fmt1r Fx.op3_100 Fx.op3_100w Fx.ptr76 Fx.elem76 Fx.isError76
open Go.RowKit

set_option maxHeartbeats 400000 in
theorem errorfA (F : Interp) (n : Int) (k : Nat) (w : World) (hF : F.answers w.tape) (h0 : w.cell? ⟨k, 0, none⟩ = some (.iface 3 (.int .i64 n))) :
    Calls Tryf.prog 18 #[.string ⟨#[116, 104, 101, 32, 110, 97, 109, 101, 32, 105, 115, 32, 108, 111, 110, 103, 101, 114, 32, 116, 104, 97, 110, 32, 37, 100, 32, 98, 121, 116, 101, 115]⟩, .slice (some ⟨k, 0, none⟩) 1 1] w fun e w' => (∃ T v, e = .returned (.iface T v)) ∧ Below w.heap.size w w' := by
  have hF' := answers_open hF
  go_enter Tryf.func18, Tryf.ntmps18
  go_wp2
  go_ret
  exact ⟨⟨_, _, rfl⟩, ((Below.refl _ _).alloc (Nat.le_refl _) _).drew⟩
set_option maxHeartbeats 400000 in
theorem errorfB (F : Interp) (n : Int) (k : Nat) (w : World) (hF : F.answers w.tape) (h0 : w.cell? ⟨k, 0, none⟩ = some (.iface 3 (.int .i64 n))) :
    Calls Tryf.prog 18 #[.string ⟨#[116, 104, 101, 32, 118, 97, 108, 117, 101, 32, 105, 115, 32, 108, 111, 110, 103, 101, 114, 32, 116, 104, 97, 110, 32, 37, 100, 32, 98, 121, 116, 101, 115]⟩, .slice (some ⟨k, 0, none⟩) 1 1] w fun e w' => (∃ T v, e = .returned (.iface T v)) ∧ Below w.heap.size w w' := by
  have hF' := answers_open hF
  go_enter Tryf.func18, Tryf.ntmps18
  go_wp2
  go_ret
  exact ⟨⟨_, _, rfl⟩, ((Below.refl _ _).alloc (Nat.le_refl _) _).drew⟩

theorem errors_New (x : ByteArray) (w : World) :
    Calls Tryf.prog 17 #[.string x] w fun e w' => (∃ T v, e = .returned (.iface T v)) ∧ Below w.heap.size w w' := by
  go_enter Tryf.func17, Tryf.ntmps17
  go_wp2
  go_ret
  exact ⟨⟨_, _, rfl⟩, (Below.refl _ _).alloc (Nat.le_refl _) _⟩

/-- What CheckItem accepts. -/
def okItem (s : ByteArray) (n : Nat) : Bool := !(s.toList == []) && !decide (1024 < s.size) && Lib.validD s.data.toList && !decide (32768 < n)

theorem Utf8Tabs_below {a b : Nat} {w w' : World} (h : Lib.Utf8Tabs a b w) (hb : Below w.heap.size w w') : Lib.Utf8Tabs a b w' := by
  refine ⟨fun c hc => ?_, fun i hi => ⟨?_, ?_⟩⟩
  · rw [hb.cell (cell_lt (h.1 c hc))]; exact h.1 c hc
  · rw [hb.cell (cell_lt (h.2 i hi).1)]; exact (h.2 i hi).1
  · rw [hb.cell (cell_lt (h.2 i hi).2)]; exact (h.2 i hi).2

set_option maxRecDepth 100000 in
set_option maxHeartbeats 1000000 in
theorem checkItem_any (F : Interp) (W0 : World) (hF : F.answers W0.tape) (hU : Lib.Utf8Tabs 0 1 W0) : CI okItem W0 := by
  intro w s a n c hb hs hn
  have hU' : Lib.Utf8Tabs 0 1 w := Utf8Tabs_below hU hb
  have hF' : F.answers w.tape := by rw [hb.tape]; exact hF
  have cV : Calls Tryf.prog 19 #[.string s] w fun e w' => e = .returned (.bool (Lib.validD s.data.toList)) ∧ Below w.heap.size w w' := Any.utf8_ValidString Tryf.lays196 s w (by omega) hU'
  have HV : Hid (Calls Tryf.prog 19 #[.string s] w fun e w' => e = .returned (.bool (Lib.validD s.data.toList)) ∧ Below w.heap.size w w') := cV
  clear cV hU hU' hF
  have HF : Hid (F.answers w.tape) := hF'
  clear hF'
  unfold okItem
  rcases Bool.eq_false_or_eq_true (s.toList == []) with h1 | h1
  · go_enter Tryf.func14, Tryf.ntmps14
    go_wp2_with fail
    refine (errors_New _ _).mono ?_
    rintro e w1 ⟨⟨T, v, rfl⟩, hb1⟩
    go_wp2_with fail
    go_ret
    exact ⟨.inr ⟨by simp [h1], T, v, rfl⟩, hb1⟩
  · by_cases h2 : 1024 < s.size
    · have h2' : (1024 : Int) < (s.size : Int) := by omega
      go_enter Tryf.func14, Tryf.ntmps14
      go_wp2_with fail
      refine (errorfA F 1024 w.heap.size _ (by exact HF.out) (by go_simp)).mono ?_
      rintro e w1 ⟨⟨T, v, rfl⟩, hb1⟩
      go_wp2_with fail
      go_ret
      exact ⟨.inr ⟨by simp [h2], T, v, rfl⟩, ((Below.refl _ _).alloc (Nat.le_refl _) _).trans (hb1.mono (by simp))⟩
    · have h2' : ¬ (1024 : Int) < (s.size : Int) := by omega
      cases hV : Lib.validD s.data.toList with
      | false =>
        rw [hV] at HV
        clear hV
        go_enter Tryf.func14, Tryf.ntmps14
        go_wp2_with fail
        refine HV.out.mono ?_
        rintro e w1 ⟨rfl, hb1⟩
        go_wp2_with fail
        refine (errors_New _ _).mono ?_
        rintro e w2 ⟨⟨T, v, rfl⟩, hb2⟩
        go_wp2_with fail
        go_ret
        exact ⟨.inr ⟨by simp, T, v, rfl⟩, hb1.trans (hb2.mono hb1.size)⟩
      | true =>
        rw [hV] at HV
        clear hV
        by_cases h3 : 32768 < n
        · have h3' : (32768 : Int) < (n : Int) := by omega
          go_enter Tryf.func14, Tryf.ntmps14
          go_wp2_with fail
          refine HV.out.mono ?_
          rintro e w1 ⟨rfl, hb1⟩
          have hF1 : F.answers w1.tape := by rw [hb1.tape]; exact HF.out
          have HF1 : Hid (F.answers w1.tape) := hF1
          clear hF1
          go_wp2_with fail
          refine (errorfB F 32768 w1.heap.size _ (by exact HF1.out) (by go_simp)).mono ?_
          rintro e w2 ⟨⟨T, v, rfl⟩, hb2⟩
          go_wp2_with fail
          go_ret
          exact ⟨.inr ⟨by simp [h3], T, v, rfl⟩, hb1.trans ((((Below.refl _ w1).alloc (Nat.le_refl _) _).trans (hb2.mono (by simp))).mono hb1.size)⟩
        · have h3' : ¬ (32768 : Int) < (n : Int) := by omega
          go_enter Tryf.func14, Tryf.ntmps14
          go_wp2_with fail
          refine HV.out.mono ?_
          rintro e w1 ⟨rfl, hb1⟩
          go_wp2_with fail
          go_ret
          exact ⟨.inl ⟨by simp [h1, h2, h3], rfl⟩, hb1⟩

end Go.Proofs.Qxb6616194aFmt
