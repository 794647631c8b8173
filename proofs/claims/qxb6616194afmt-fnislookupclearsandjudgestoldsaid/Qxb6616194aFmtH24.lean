/- The message through isLookup; lookupWant in one sentence. -/
import Derived.Test.Qxb6616194aFmtH21
import Derived.Test.Qxb6616194aFmtH9
import Derived.Test.Qxb6616194aFmtH10
import Derived.Test.Qxb6616194aFmtH11
set_option linter.unusedVariables false
set_option linter.unusedSimpArgs false
set_option linter.unnecessarySimpa false
namespace Go.Proofs.Qxb6616194aFmt
open Go.RowKit Go.Deep

section
variable {w w' : World} {b : Nat} {M : Nat → Value} {kd : Int} {fr : ByteArray} {qy sq bt px : Int} {org : ByteArray} {x : Nat → Int} {pu : Int} {ra ca : Option Addr} {n0 n4 : Nat} {pr : Nat → ByteArray} {lv lk : Nat → Int} {ps : Nat → Nat → Int} {nm : Nat → ByteArray}
  {va : Nat → Option Addr} {vn : Nat → Nat} {vz : Nat → Nat → Int}

theorem Msg.kept (h : Msg w b M kd fr qy sq bt px org x pu ra ca n0 n4 pr lv lk ps nm va vn vz) {M' : Nat → Value} (hM : ∀ j, (j < 39 ∨ j = 42 ∨ j = 43 ∨ j = 45) → M' j = M j) (hr : w'.rowIs b 57 48 M') (hF : Fr b w w')
    (s41 : ∃ a n c, M' 41 = .slice a n c ∧ (a = none → n = 0 ∧ c = 0)) (s44 : ∃ a n c, M' 44 = .slice a n c ∧ (a = none → n = 0 ∧ c = 0)) (s46 : ∃ a n c, M' 46 = .slice a n c ∧ (a = none → n = 0 ∧ c = 0)) : Msg w' b M' kd fr qy sq bt px org x pu ra ca n0 n4 pr lv lk ps nm va vn vz := by
  have hkb : ∀ (q p : Addr), p.block ≠ b → p.block = q.block → q.block ≠ b := fun q p h e => by omega
  obtain ⟨y1, y2, y3, y4, y5, y6⟩ := h.fix
  obtain ⟨ra1, rc1, e1, e2, e3, e4⟩ := h.route
  obtain ⟨ca3, cc3, va3, c1, c2, c3, c4, c5⟩ := h.copies
  refine { row := hr, fix := ⟨?_, ?_, ?_, ?_, fun i hi => ?_, ?_⟩, m38 := ?_, m42 := ?_, m43 := ?_, route := ⟨ra1, rc1, ?_, ?_, e3, e4⟩, copies := ⟨ca3, cc3, va3, ?_, ?_, c3, c4, c5⟩, s41 := s41, s44 := s44, s46 := s46 }
  · rw [hM _ (by omega)]; exact y1
  · rw [hM _ (by omega)]; exact y2
  · rw [hM _ (by omega)]; exact y3
  · rw [hM _ (by omega)]; exact y4
  · rw [hM _ (by omega)]; exact y5 i hi
  · rw [hM _ (by omega)]; exact y6
  · rw [hM _ (by omega)]; exact h.m38
  · rw [hM _ (by omega)]; exact h.m42
  · rw [hM _ (by omega)]; exact h.m43
  · rw [hM _ (by omega)]; exact e1
  · exact e2.kept fun q v hq h => hF.kept (by
      cases ra1 with
      | none => cases hq
      | some p => exact hkb q p (e4 p rfl) (Option.some.inj hq)) h
  · rw [hM _ (by omega)]; exact c1
  · exact c2.kept (fun q v hq h => hF.kept (by
      cases ca3 with
      | none => cases hq
      | some p => exact hkb q p (c5 p rfl) (Option.some.inj hq)) h) (fun i hi q v hq h => hF.kept (by
      cases hv : va3 i with
      | none => rw [hv] at hq; cases hq
      | some p => rw [hv] at hq; exact hkb q p ((c4 i hi).2 p hv) (Option.some.inj hq)) h)

theorem Msg.clear (h : Msg w b M kd fr qy sq bt px org x pu ra ca n0 n4 pr lv lk ps nm va vn vz) (hr : w'.rowIs b 57 48 (Clear M)) (hF : Fr b w w') : Msg w' b (Clear M) kd fr qy sq bt px org x pu ra ca n0 n4 pr lv lk ps nm va vn vz :=
  h.kept (fun j hj => Clear_keeps M j hj) hr hF ⟨none, 0, 0, rfl, fun _ => ⟨rfl, rfl⟩⟩ ⟨none, 0, 0, rfl, fun _ => ⟨rfl, rfl⟩⟩ ⟨none, 0, 0, rfl, fun _ => ⟨rfl, rfl⟩⟩

theorem Msg.below (h : Msg w b M kd fr qy sq bt px org x pu ra ca n0 n4 pr lv lk ps nm va vn vz) (hb : Below w.heap.size w w') : Msg w' b M kd fr qy sq bt px org x pu ra ca n0 n4 pr lv lk ps nm va vn vz :=
  h.kept (fun _ _ => rfl) (h.row.of_block (hb.block _ h.row.lt)) ⟨hb.os, hb.tape, hb.output, hb.size, fun k hk _ => hb.block k hk⟩ h.s41 h.s44 h.s46

theorem isLookup_msg (ok : ByteArray → Nat → Bool) (W0 : World) (hCI : CI ok W0) (hW : Below W0.heap.size W0 w) (hWb : W0.heap.size ≤ b) (h : Msg w b M kd fr qy sq bt px org x pu ra ca n0 n4 pr lv lk ps nm va vn vz) (hnm : ∀ i, i < n4 → (nm i).size ≤ 1048576 ∧ vn i ≤ 1048576) :
    Calls Tryf.prog 13 #[.pointer (some ⟨b, 0, none⟩)] w fun e w' => e = .returned (.bool (wantB ok n0 (pr 0) org pu n4 x (ps 0) (nm 0) (vn 0))) ∧ Msg w' b (Clear M) kd fr qy sq bt px org x pu ra ca n0 n4 pr lv lk ps nm va vn vz ∧ Fr b w w' := by
  obtain ⟨y1, y2, y3, y4, y5, y6⟩ := h.fix
  obtain ⟨ra1, rc1, e1, e2, e3, e4⟩ := h.route
  obtain ⟨ca3, cc3, va3, c1, c2, c3, c4, c5⟩ := h.copies
  obtain ⟨a41, n41, k41, s41, z41⟩ := h.s41
  obtain ⟨a44, n44, k44, s44, z44⟩ := h.s44
  obtain ⟨a46, n46, k46, s46, z46⟩ := h.s46
  refine (isLookup_any ok W0 hCI b M w hW hWb org (pr 0) (nm 0) pu n0 rc1 n4 cc3 (vn 0) (vn 0) ra1 ca3 (va3 0) x (ps 0) y4 y5 y6 e1 c1 ?_ ?_ h.row a41 a44 a46 n41 k41 n44 k44 n46 k46 s41 s44 s46 z41 z44 z46).mono fun e w' ⟨h1, h2, h3⟩ => ⟨h1, h.clear h2 h3, h3⟩
  · intro h0
    cases ra1 with
    | none => have := (e2.1 rfl).1; omega
    | some p =>
      refine ⟨p, rfl, e4 p rfl, ?_⟩
      have hs := (e2.2 p rfl).1 h0
      have := ((e2.2 p rfl).2 0 h0).1
      rw [← cell_add _ _ _ hs] at this
      simpa [Addr.add] using this
  · intro h4
    subst h4
    cases ca3 with
    | none => have := (c2.1 rfl).1; omega
    | some p =>
      have hs := (c2.2 p rfl).1 (by omega)
      obtain ⟨k1, k2, k3, -⟩ := (c2.2 p rfl).2 0 (by omega)
      refine ⟨p, rfl, c5 p rfl, fun i hi => ?_, ?_, ?_, (hnm 0 (by omega)).1, (hnm 0 (by omega)).2⟩
      · rw [cell_add _ _ _ hs]; have := k1 i hi; rwa [Nat.zero_mul, Nat.zero_add] at this
      · rw [cell_add _ _ _ hs]; exact k2
      · rw [cell_add _ _ _ hs]; exact k3

theorem zz_msg (ok : ByteArray → Nat → Bool) (W0 : World) (hCI : CI ok W0) (hW : Below W0.heap.size W0 w) (hWb : W0.heap.size ≤ b) (h : Msg w b M kd fr qy sq bt px org x pu ra ca n0 n4 pr lv lk ps nm va vn vz) (hnm : ∀ i, i < n4 → (nm i).size ≤ 1048576 ∧ vn i ≤ 1048576) :
    Calls Tryf.prog 7 #[.pointer (some ⟨b, 0, none⟩)] w fun e w' => e = .returned (.bool (wantB ok n0 (pr 0) org pu n4 x (ps 0) (nm 0) (vn 0))) ∧ Msg w' b (Clear M) kd fr qy sq bt px org x pu ra ca n0 n4 pr lv lk ps nm va vn vz ∧ Fr b w w' := by
  have hC := isLookup_msg ok W0 hCI hW hWb h hnm
  have HC : Hid (Calls Tryf.prog 13 #[.pointer (some ⟨b, 0, none⟩)] w fun e w' => e = .returned (.bool (wantB ok n0 (pr 0) org pu n4 x (ps 0) (nm 0) (vn 0))) ∧ Msg w' b (Clear M) kd fr qy sq bt px org x pu ra ca n0 n4 pr lv lk ps nm va vn vz ∧ Fr b w w') := hC
  clear hC h hnm hCI hW hWb
  generalize wantB ok n0 (pr 0) org pu n4 x (ps 0) (nm 0) (vn 0) = r at *
  go_enter Tryf.func7, Tryf.ntmps7
  go_wp2_with fail
  refine HC.out.mono ?_
  rintro e w1 ⟨rfl, h2, h3⟩
  have H2 : Hid _ := h2
  have H3 : Hid _ := h3
  clear h2 h3 HC
  go_wp2_with fail
  go_ret
  exact ⟨rfl, H2.out, H3.out⟩
end

theorem want_any (ok : ByteArray → Nat → Bool) (W0 : World) (hCI : CI ok W0) (w : World) (hW : Below W0.heap.size W0 w) (ra ca : Option Addr) (n0 rc n4 cc : Nat) (pr : Nat → ByteArray) (lv lk : Nat → Int) (org : ByteArray) (pu : Int) (x : Nat → Int) (ps : Nat → Nat → Int) (nm : Nat → ByteArray) (va : Nat → Option Addr) (vn vc : Nat → Nat) (vz : Nat → Nat → Int)
    (hRt : RtAt w ra n0 rc pr lv lk) (hCp : CpAt w ca n4 cc ps nm va vn vc vz) (hnm : ∀ i, i < n4 → (nm i).size ≤ 1048576 ∧ vn i ≤ 1048576) :
    Calls Tryf.prog 8 #[.slice ra n0 rc, .string org, .int .u8 pu, .agg (A32 x), .slice ca n4 cc] w fun e w' => e = .returned (.bool (wantB ok n0 (pr 0) org pu n4 x (ps 0) (nm 0) (vn 0))) ∧ Below w.heap.size w w' := by
  by_cases h0 : n0 = 0
  · subst h0
    exact (want_empty x org pu ra rc _ w).mono fun e w' h => h
  · have hp : 0 < n0 := by omega
    cases ra with
    | none => have := (hRt.1 rfl).1; omega
    | some a0 =>
      have hc0 : w.cell? a0 = some (.string (pr 0)) := by
        have hs := (hRt.2 a0 rfl).1 hp
        have := ((hRt.2 a0 rfl).2 0 hp).1
        rw [← cell_add _ _ _ hs] at this
        simpa [Addr.add] using this
      rcases Bool.eq_false_or_eq_true ((pr 0).toList == org.toList) with hpo | hpo
      · rcases Bool.eq_false_or_eq_true (pu != 1) with hpu | hpu
        · have e : wantB ok n0 (pr 0) org pu n4 x (ps 0) (nm 0) (vn 0) = ((n4 : Int) == 0) := by
            unfold wantB
            rw [if_neg h0, hpo, if_neg (by simp), hpu, if_pos rfl]
          rw [e]
          exact want_plain x org (pr 0) pu a0 n0 rc ca n4 cc w hp hc0 hpo hpu
        · by_cases h4 : n4 = 1
          · subst h4
            cases ca with
            | none => have := (hCp.1 rfl).1; omega
            | some p =>
              have hs := (hCp.2 p rfl).1 (by omega)
              obtain ⟨k1, k2, k3, -⟩ := (hCp.2 p rfl).2 0 (by omega)
              have k1' : ∀ i, i < 32 → w.cell? (p.add i) = some (.int .u8 (ps 0 i)) := fun i hi => by
                rw [cell_add _ _ _ hs]; have := k1 i hi; rwa [Nat.zero_mul, Nat.zero_add] at this
              rcases Bool.eq_false_or_eq_true (eq32 (ps 0) x) with heq | heq
              · have e : wantB ok n0 (pr 0) org pu 1 x (ps 0) (nm 0) (vn 0) = ok (nm 0) (vn 0) := by
                  unfold wantB
                  rw [if_neg h0, hpo, if_neg (by simp), hpu, if_neg (by simp), if_neg (by simp), heq, if_neg (by simp)]
                rw [e]
                exact want_item ok W0 hCI x (ps 0) org (pr 0) (nm 0) pu a0 p n0 rc cc (va 0) (vn 0) (vc 0) w hW (hnm 0 (by omega)).1 (hnm 0 (by omega)).2 hp heq hc0 hpu hpo k1' (by rw [cell_add _ _ _ hs]; exact k2) (by rw [cell_add _ _ _ hs]; exact k3)
              · have e : wantB ok n0 (pr 0) org pu 1 x (ps 0) (nm 0) (vn 0) = false := by
                  unfold wantB
                  rw [if_neg h0, hpo, if_neg (by simp), hpu, if_neg (by simp), if_neg (by simp), heq, if_pos rfl]
                rw [e]
                exact want_pos x (ps 0) org (pr 0) pu a0 p n0 rc cc w hp heq hc0 hpu hpo k1'
          · have e : wantB ok n0 (pr 0) org pu n4 x (ps 0) (nm 0) (vn 0) = false := by
              unfold wantB
              rw [if_neg h0, hpo, if_neg (by simp), hpu, if_neg (by simp), if_pos h4]
            rw [e]
            exact want_many x org (pr 0) pu a0 n0 rc ca n4 cc w hp hc0 hpo hpu h4
      · have e : wantB ok n0 (pr 0) org pu n4 x (ps 0) (nm 0) (vn 0) = false := by
          unfold wantB
          rw [if_neg h0, hpo, if_pos rfl]
        rw [e]
        exact want_other x org (pr 0) pu a0 n0 rc _ w hp hc0 hpo

end Go.Proofs.Qxb6616194aFmt
