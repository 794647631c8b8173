/- lawPeers. -/
import Derived.Test.Qxb6616194aFmtH15
import Derived.StillTailTactics
set_option linter.unusedVariables false
set_option linter.unusedSimpArgs false
set_option linter.unnecessarySimpa false
namespace Go.Proofs.Qxb6616194aFmt
open Go.RowKit Go.Deep
attribute [local go_sem] A32_size eql22 eql24 eql25 eql26 eql50 eql53 eql54 eql55 neq22 neq24 neq25 neq27 neq53 neq55

theorem cell_add (w : World) (a : Addr) (m : Nat) (hs : a.spot = none) : w.cell? (a.add m) = w.cell? ⟨a.block, a.off + m, none⟩ := by
  cases a with
  | mk b o s =>
    cases hs
    unfold Addr.add
    split
    · rename_i h; subst h; rfl
    · rfl
theorem cell_add' (w : World) (b o m : Nat) : w.cell? ((⟨b, o, none⟩ : Addr).add m) = w.cell? ⟨b, o + m, none⟩ := cell_add w _ m rfl
/-- What a build lays. -/
theorem fold_list (off : Nat) : ∀ (c : List (Value × Nat)) (base : Array Value), (c.foldl (fun cs x => cs.setIfInBounds (off + x.snd) x.fst) base).size = base.size
  | [], _ => rfl
  | x :: c, base => by simp [fold_list off c]
theorem fold_get (off : Nat) : ∀ (c : List Value) (k : Nat) (base : Array Value), off + k + c.length ≤ base.size → ∀ j, ((c.zipIdx k).foldl (fun cs x => cs.setIfInBounds (off + x.snd) x.fst) base)[j]? = if off + k ≤ j ∧ j < off + k + c.length then c[j - (off + k)]? else base[j]?
  | [], k, base, _, j => by simp; omega
  | v :: c, k, base, h, j => by
    simp only [List.zipIdx_cons, List.foldl_cons, List.length_cons] at h ⊢
    rw [fold_get off c (k + 1) _ (by simp; omega)]
    by_cases h1 : j = off + k
    · subst h1
      rw [if_neg (by omega), if_pos (by omega)]
      have : off + k < base.size := by omega
      simp [this]
    · by_cases h2 : off + (k + 1) ≤ j ∧ j < off + (k + 1) + c.length
      · rw [if_pos h2, if_pos (by omega), show j - (off + k) = (j - (off + (k + 1))) + 1 by omega]
        simp
      · rw [if_neg h2, if_neg (by omega), Array.getElem?_setIfInBounds_ne (by omega)]
theorem foldSet_size (off : Nat) (c : Array Value) (base : Array Value) : (Array.foldl (fun cs (x : Value × Nat) => cs.setIfInBounds (off + x.snd) x.fst) base c.zipIdx).size = base.size := by
  rw [← Array.foldl_toList]; exact fold_list off _ _
theorem foldSet_get (off : Nat) (c : Array Value) (base : Array Value) (h : off + c.size ≤ base.size) (j : Nat) : (Array.foldl (fun cs (x : Value × Nat) => cs.setIfInBounds (off + x.snd) x.fst) base c.zipIdx)[j]? = if off ≤ j ∧ j < off + c.size then c[j - off]? else base[j]? := by
  rw [← Array.foldl_toList]
  have := fold_get off c.toList 0 base (by simpa using h) j
  simpa using this
theorem foldSet_size0 (c : Array Value) (base : Array Value) : (Array.foldl (fun cs (x : Value × Nat) => cs.setIfInBounds x.snd x.fst) base c.zipIdx).size = base.size := by
  have := foldSet_size 0 c base; simpa using this
theorem foldSet_get0 (c : Array Value) (base : Array Value) (h : c.size ≤ base.size) (j : Nat) : (Array.foldl (fun cs (x : Value × Nat) => cs.setIfInBounds x.snd x.fst) base c.zipIdx)[j]? = if j < c.size then c[j]? else base[j]? := by
  have := foldSet_get 0 c base (by omega) j
  simpa using this
theorem add_off (a : Addr) (m : Nat) : (a.add m).off = a.off + m := by
  unfold Addr.add
  split
  · rename_i h; subst h; rfl
  · rfl
/-- The world of a walk behind a draw. -/
theorem drawn_below {B : Nat} {w wr : World} (h : Below B w wr) (d : Nat) : Below B w { wr with drawn := d } := ⟨h.os, h.tape, h.output, h.size, h.block⟩

/-- The peers that came in. -/
def PeAt (w : World) (a : Addr) (n : Nat) (ad : Nat → ByteArray) (id : Nat → Nat → Int) : Prop :=
  (0 < n → a.spot = none) ∧ ∀ i, i < n → w.cell? ⟨a.block, a.off + i * 33, none⟩ = some (.string (ad i)) ∧ ∀ j, j < 32 → w.cell? ⟨a.block, a.off + (i * 33 + (1 + j)), none⟩ = some (.int .u8 (id i j))

section
variable {ops : Array Oper} {w : World} {Q : Act → Prop} {a : Act} {o : Oper} {rest : List Oper}
theorem wpStill_load (t : TypeId) (p : Operand) (ad : Addr) (v : Value) (ho : o.op = .load t p) (hw : Region.wanted o (yielded ops a.tmps) = true) (hp : a.eval p = .pointer (some ad))
    (hv : (Instr.loadAt t (.pointer (some ad))).run Tryf.prog w = .ok v w) (h : wpStill Tryf.prog ops w Q rest (a.put o.dst v)) : wpStill Tryf.prog ops w Q (o :: rest) a := by
  unfold wpStill
  rw [if_pos hw]
  unfold Oper.still execOp
  simp only [ho, hp, Sem.run_bind, hv, Result.andThen_ok, Sem.run_pure, Oper.stillUpon]
  exact ⟨trivial, h⟩
end

section
variable {ops : Array Oper} {rest : List Oper} {o : Oper} {a : Act} {Q : Exit → Act → World → Prop}
theorem wpList_storeRow {w : World} (t T b off N m : Nat) (f g : Nat → Value) (vs : Array Value) (p v : Operand) (ho : o.op = .store t p v) (hgd : o.guard = none) (hp : a.eval p = .pointer (some ⟨b, off, none⟩)) (hv : a.eval v = .agg vs)
    (hr : w.rowIs b T N f) (hsz : vs.size = m) (hs : (Tryf.prog.info? t).map (·.size) = some m) (hfit : off + m ≤ N) (hg : ∀ j, j < m → vs[j]? = some (g j)) (h1 : ∀ j, j < m → (g j).oneCell' = true)
    (h : ∀ w2 : World, w2.rowIs b T N (fun j => if off ≤ j ∧ j < off + m then g (j - off) else f j) → Fr b w w2 → w2.heap.size = w.heap.size → wpList Tryf.prog ops Q rest (a.put o.dst undef) w2) : wpList Tryf.prog ops Q (o :: rest) a w := by
  subst hsz
  obtain ⟨w2, k1, k2, k3, k4⟩ := storeRow t T b off N f g vs w hr hs hfit (fun v hv => by
    obtain ⟨j, hj⟩ := Array.mem_iff_getElem?.1 hv
    have hlt : j < vs.size := (Array.getElem?_eq_some_iff.1 hj).1
    have := hg j hlt
    rw [hj] at this
    have e : v = g j := Option.some.inj this
    rw [e]; exact h1 j hlt) hg
  exact wpList_store t p v ho hgd _ _ hp hv k1 (h w2 k2 k3 k4)
end
theorem Fr.belowOf {b : Nat} {w w1 w2 : World} (h : Fr b w1 w2) (hb : Below w.heap.size w w1) (hle : w.heap.size ≤ b) : Below w.heap.size w w2 :=
  ⟨h.os.trans hb.os, h.tape.trans hb.tape, h.output.trans hb.output, Nat.le_trans hb.size h.size, fun k hk => (h.block k (Nat.lt_of_lt_of_le hk hb.size) (by omega)).trans (hb.block k hk)⟩
theorem foldSet_size32 (off : Nat) (y : Nat → Int) (base : Array Value) : (Array.foldl (fun cs (x : Value × Nat) => cs.setIfInBounds (off + x.snd) x.fst) base (A32 y).zipIdx 0 32).size = base.size := by
  have := foldSet_size off (A32 y) base
  simpa [A32_size] using this
theorem foldSet_get32 (off : Nat) (y : Nat → Int) (base : Array Value) (h : off + 32 ≤ base.size) (j : Nat) : (Array.foldl (fun cs (x : Value × Nat) => cs.setIfInBounds (off + x.snd) x.fst) base (A32 y).zipIdx 0 32)[j]? = if off ≤ j ∧ j < off + 32 then some (.int .u8 (y (j - off))) else base[j]? := by
  have := foldSet_get off (A32 y) base (by rw [A32_size]; exact h) j
  simp only [A32_size, Array.size_zipIdx] at this
  rw [this]
  split
  · rw [A32_get]; omega
  · rfl

theorem make53 : ∃ Z : Nat → Array Value, (∀ n, (Z n).size = n * 33) ∧ ∀ (n : Nat) (w : World), n ≤ 4096 → (Instr.makeSlice 53 (.int .i64 (n : Int)) (.int .i64 (n : Int))).run Tryf.prog w = .ok (.slice (some ⟨w.heap.size, 0, none⟩) n n) (w.alloc (.cells (Z n) 71)) :=
  make_rows 53 71 33 48 Tryf.underlying53 (by kernel_rfl) (by omega)

theorem peers_nil (w : World) : Calls Tryf.prog 12 #[.slice none 0 0] w fun e w' => e = .returned (.slice none 0 0) ∧ w' = w := by
  go_enter Tryf.func12, Tryf.ntmps12
  go_wp2_with fail
  go_ret
  exact ⟨rfl, rfl⟩

set_option maxRecDepth 100000 in
set_option maxHeartbeats 1000000 in
theorem peers_some (a : Addr) (n cap : Nat) (ad : Nat → ByteArray) (id : Nat → Nat → Int) (w : World) (hn : n ≤ 4096) (hc : PeAt w a n ad id) :
    Calls Tryf.prog 12 #[.slice (some a) n cap] w fun e w' => e = .returned (.slice (some ⟨w.heap.size, 0, none⟩) n n) ∧ Below w.heap.size w w' := by
  obtain ⟨Z, hZ, hmk⟩ := make53
  have hmk' := fun w => hmk n w hn
  have HZ : Hid ((Z n).size = n * 33) := hZ n
  have HC : Hid (PeAt w a n ad id) := hc
  clear hmk hZ hc
  go_enter Tryf.func12, Tryf.ntmps12
  go_wp2_with fail
  go_loopg [4] n (fun g v wr => ∃ k : Nat, g = n - k ∧ k ≤ n ∧ v = .int .i64 (k : Int) ∧ Hid (∃ f, wr.rowIs w.heap.size 71 (n * 33) f) ∧ Hid (Below w.heap.size w wr))
  case atStart =>
    refine ⟨0, rfl, Nat.zero_le _, rfl, ⟨fun i => (Z n).getD i undef, ?_⟩, (Below.refl _ w).alloc (Nat.le_refl _) _⟩
    have := World.rowIs_alloc w (Z n) 71 (fun i => (Z n).getD i undef) (fun i hi => by simp [hi])
    rw [HZ.out] at this
    exact this
  case round =>
    obtain ⟨k, hg, hk, rfl, HR, HB⟩ := hrel
    have HG : Hid (gk = n - k) := hg
    clear hg
    by_cases hlt : k < n
    · have hlt' : (k : Int) < (n : Int) := by omega
      go_wp2_with fail
      refine wp_region_still_tail 13 (by kernel_rfl) (by kernel_rfl) ?_
      simp only [List.take_succ_cons, List.take_zero, List.drop_succ_cons, List.drop_zero]
      have HB' : Hid (Below w.heap.size w { wr with drawn := wr.drawn + 1 }) := drawn_below HB.out _
      have HR' : Hid (∃ f, World.rowIs { wr with drawn := wr.drawn + 1 } w.heap.size 71 (n * 33) f) := HR.out
      clear HB HR
      generalize ({ heap := wr.heap, tape := wr.tape, drawn := wr.drawn + 1, os := wr.os, output := wr.output } : World) = wd at *
      have q1 : wd.cell? (a.add (k * 33)) = some (.string (ad k)) := by rw [cell_add _ _ _ (HC.out.1 (by omega))]; exact below_kept HB'.out (Nat.le_refl _) (HC.out.2 k hlt).1
      have q2 : (Instr.loadAt 23 (.pointer (some ⟨(a.add (k * 33)).block, (a.add (k * 33)).off + 1, none⟩))).run Tryf.prog wd = .ok (.agg (A32 (id k))) wd := loadAt23 _ (id k) _ fun j hj => by
        rw [cell_add', add_block, add_off, Nat.add_assoc, Nat.add_assoc]
        exact below_kept HB'.out (Nat.le_refl _) ((HC.out.2 k hlt).2 j hj)
      iterate 11 still_step
      refine wpStill_load 23 _ _ _ rfl rfl rfl q2 ?_
      iterate 1 still_step
      refine wpStill_nil ?_
      refine wpList_plain rfl fun K hK => ?_
      go_simp
      refine hK _ _ ?_
      clear hK K
      obtain ⟨f, hf⟩ := HR'.out
      refine wpList_storeRow 71 71 _ _ (n * 33) 33 f (fun j => if j = 0 then .string (ad k) else .int .u8 (id k (j - 1))) _ _ _ rfl rfl rfl rfl hf (by rw [foldSet_size32]; rfl) (by kernel_rfl) (by omega) (fun j hj => ?_) (fun j hj => by split <;> rfl) ?_
      · rw [foldSet_get32 1 _ _ (by exact Nat.le_refl 33)]
        by_cases h0 : j = 0
        · subst h0; rfl
        · rw [if_pos (by omega), if_neg h0]
      · intro w2 r1 r2 r3
        have HR2 : Hid (∃ f, w2.rowIs w.heap.size 71 (n * 33) f) := ⟨_, r1⟩
        have HB2 : Hid (Below w.heap.size w w2) := r2.belowOf HB'.out (Nat.le_refl _)
        clear r1 r2 r3 hf q1 q2 HR' HB'
        go_wp2_with fail
        go_roundg (n - (k + 1))
        case measure => rw [HG.out]; omega
        case rel => exact ⟨k + 1, rfl, hlt, by go_num, HR2, HB2⟩
    · have hlt' : ¬ (k : Int) < (n : Int) := by omega
      go_wp2_with fail
      go_ret
      exact ⟨rfl, HB.out⟩

end Go.Proofs.Qxb6616194aFmt
