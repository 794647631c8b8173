/- The bound on all lengths, law 5's. -/
import Derived.Test.Qxb6616805aDoorG18
set_option linter.unusedVariables false
set_option linter.unusedSimpArgs false
set_option linter.unnecessarySimpa false
namespace Go.Proofs.Qxb6616805aDoor
open Go.RowKit Go.Shelf Go.Deep

set_option maxRecDepth 100000 in
set_option maxHeartbeats 4000000 in
theorem zzBytes5_any (me ur : ByteArray) (sc : Int) (re : ByteArray) (q : Option Addr) (n c : Nat) (fs : List FB) (bq : Option Addr) (bn bc : Nat) (name d : ByteArray) (w : World) (h : NVV w q n c fs) :
    Calls Tryd.prog 19 #[.string me, .string ur, .int .i64 sc, .string re, .slice q n c, .slice bq bn bc, .string name, .string d] w fun e w' => IsB e ∧ w' = w := by
  have HV : Hid (NVV w q n c fs) := h
  clear h
  go_enter Tryd.func19, Tryd.ntmps19
  go_wp2_with fail
  all_goals try (go_ret; exact ⟨⟨_, rfl⟩, rfl⟩)
  go_loopg [17, 18] n (fun g v17 v18 wr => wr = w ∧ ∃ (z i : Nat), g = n - i ∧ i ≤ n ∧ z ≤ 1048576 ∧ v17 = .int .i64 (z : Int) ∧ v18 = .int .i64 (i : Int))
  case atStart => exact ⟨rfl, me.size + ur.size + re.size + n, 0, by omega, by omega, by omega, by go_num, by go_num⟩
  case round =>
    obtain ⟨hw, z, i, hg, hi, hz, rfl, rfl⟩ := hrel
    have hw' := hw.symm
    subst hw'
    have HG : Hid (gk = n - i) := hg
    clear hw hg
    by_cases hlt : i < n
    · have hlt' : (i : Int) < (n : Int) := by omega
      obtain ⟨p, rfl⟩ := HV.out.ptr (by omega)
      have hfi : i < fs.length := by have := HV.out.len; omega
      obtain ⟨c0, c1⟩ := HV.out.at' p rfl i hfi
      generalize fs[i].1 = x at *
      generalize fs[i].2 = y at *
      go_wp2_with fail
      all_goals first
        | (go_roundg (n - (i + 1))
           case measure => rw [HG.out]; omega
           case rel => exact ⟨rfl, z + x.size + y.size, i + 1, rfl, by omega, by omega, by go_num, by go_num⟩)
        | (go_ret
           exact ⟨⟨_, rfl⟩, rfl⟩)
    · have hlt' : ¬ ((i : Int) < (n : Int)) := by omega
      go_wp2_with fail
      all_goals (go_ret; exact ⟨⟨_, rfl⟩, rfl⟩)
end Go.Proofs.Qxb6616805aDoor
