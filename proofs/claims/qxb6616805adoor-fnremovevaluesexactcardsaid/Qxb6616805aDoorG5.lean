/- RemoveValues. -/
import Derived.Test.Qxb6616805aDoorG4
import Derived.Deep.RegionWith
set_option linter.unusedVariables false
set_option linter.unusedSimpArgs false
set_option linter.unnecessarySimpa false
namespace Go.Proofs.Qxb6616805aDoor
open Go.RowKit Go.Shelf Go.Deep
attribute [local go_sem] Oper.semAt_some

abbrev FB := ByteArray × ByteArray
def FA (g : Nat → Value) (k : Nat) (f : FB) : Prop := g (k * 3) = .string f.1 ∧ g (k * 3 + 1) = .string f.2 ∧ g (k * 3 + 2) = .string ⟨#[]⟩
def eqd (d x : ByteArray) : Bool := x.toList == d.toList
def rB (d : ByteArray) (xs : List ByteArray) : List ByteArray := xs.filter fun x => !eqd d x
def remOneB (nmd : List UInt8 → Bool) (d : ByteArray) (f : FB) : List FB :=
  if nmd f.1.data.toList = false then [f] else if (its f.2.data.toList).any (eqd d) = false then [f] else if rB d (its f.2.data.toList) = [] then [] else [(f.1, bs (I.join ((rB d (its f.2.data.toList)).map fun x => x.data.toList)))]
def remB (nmd : List UInt8 → Bool) (d : ByteArray) (fs : List FB) : List FB := fs.flatMap (remOneB nmd d)

theorem drop_any (x d : ByteArray) (db : Nat) (w : World) (h : w.cell? ⟨db, 0, none⟩ = some (.string d)) : Calls Tryd.prog 32 #[.string x, .pointer (some ⟨db, 0, none⟩)] w fun e w' => e = .returned (.bool (eqd d x)) ∧ w' = w := by
  go_enter Tryd.func32, Tryd.ntmps32
  go_wp2_with fail
  go_ret
  exact ⟨rfl, rfl⟩

theorem wp_then_mono {c : Code} {K K' : Act → World → Prop} {Q : Exit → Act → World → Prop} {a : Act} {w : World} (hK : ∀ a w, K a w → K' a w) (h : c.wp Tryd.prog (Exit.then K Q) a w) : c.wp Tryd.prog (Exit.then K' Q) a w :=
  Code.wp_mono (fun e a' w' h' => by
    cases e with
    | normal => exact hK a' w' h'
    | exit id => exact h'
    | goto l => exact h'
    | ret => exact h'
    | panic c => exact h'
    | outgrown => exact h') h
theorem go_len : ∀ (l cur : List UInt8) (s : I.St), (I.go cur s l).length ≤ l.length + 1
  | [], cur, s => by
    unfold I.go I.keep
    split <;> simp
  | c :: l, cur, s => by
    unfold I.go
    cases I.stp s c with
    | none =>
      have h1 := go_len l [] I.s0
      have h2 : (I.keep cur).length ≤ 1 := by unfold I.keep; split <;> simp
      simp only [List.length_append, List.length_cons]
      omega
    | some t =>
      have h1 := go_len l (cur ++ [c]) t
      simp only [List.length_cons]
      omega
theorem its_len (l : List UInt8) : (its l).length ≤ l.length + 1 := by
  unfold its I.items
  rw [List.length_map]
  exact go_len l [] I.s0
theorem go_item : ∀ (l cur : List UInt8) (s : I.St), ∀ x ∈ I.go cur s l, x.length ≤ cur.length + l.length
  | [], cur, s => by
    intro x hx
    unfold I.go I.keep at hx
    split at hx
    · cases hx
    · rw [List.mem_singleton] at hx
      have := trim_len cur
      rw [hx]
      simpa using this
  | c :: l, cur, s => by
    intro x hx
    unfold I.go at hx
    cases hs : I.stp s c with
    | none =>
      rw [hs] at hx
      simp only [List.mem_append] at hx
      rcases hx with hx | hx
      · unfold I.keep at hx
        split at hx
        · cases hx
        · rw [List.mem_singleton] at hx
          have := trim_len cur
          rw [hx]
          omega
      · have := go_item l [] I.s0 x hx
        simp only [List.length_nil, List.length_cons] at *
        omega
    | some t =>
      rw [hs] at hx
      have := go_item l (cur ++ [c]) t x hx
      simp only [List.length_append, List.length_cons, List.length_nil] at *
      omega
theorem join_len (M : Nat) : ∀ xs : List (List UInt8), (∀ x ∈ xs, x.length ≤ M) → (I.join xs).length ≤ xs.length * (M + 2)
  | [], _ => by simp [I.join]
  | [x], h => by
    have := h x (by simp)
    simp only [I.join, List.length_cons, List.length_nil]
    omega
  | x :: y :: r, h => by
    have h1 := h x (by simp)
    have h2 := join_len M (y :: r) (fun z hz => h z (by simp [hz]))
    simp only [I.join, List.length_append, List.length_cons] at *
    rw [Nat.add_mul (r.length + 1) 1]
    omega
theorem rB_len (d y : ByteArray) (hy : y.size ≤ 4194304) : (rB d (its y.data.toList)).length ≤ 8388608 ∧ (I.join ((rB d (its y.data.toList)).map fun x => x.data.toList)).length ≤ 140737488355328 := by
  have h1 := its_len y.data.toList
  have h2 : (rB d (its y.data.toList)).length ≤ (its y.data.toList).length := List.length_filter_le _ _
  rw [← size_list] at h1
  refine ⟨by omega, ?_⟩
  have h3 := join_len 4194304 ((rB d (its y.data.toList)).map fun x => x.data.toList) (fun x hx => by
    obtain ⟨b, hb, rfl⟩ := List.mem_map.1 hx
    have hb2 := (List.mem_filter.1 hb).1
    unfold its at hb2
    obtain ⟨l, hl, rfl⟩ := List.mem_map.1 hb2
    have := go_item y.data.toList [] I.s0 l hl
    rw [List.length_nil, ← size_list] at this
    rw [bs_list]
    omega)
  rw [List.length_map] at h3
  have h4 : (rB d (its y.data.toList)).length * (4194304 + 2) ≤ 4194305 * (4194304 + 2) := Nat.mul_le_mul_right _ (by omega)
  omega
def onlyN (Q : Exit → Act → World → Prop) : Exit → Act → World → Prop
  | .normal, a, w => Q .normal a w
  | _, _, _ => False
theorem wp_onlyN {c : Code} {Q : Exit → Act → World → Prop} {a : Act} {w : World} (h : c.wp Tryd.prog (onlyN Q) a w) : c.wp Tryd.prog Q a w :=
  Code.wp_mono (fun e a' w' h' => by cases e <;> first | exact h' | exact h'.elim) h
theorem info9 : (Tryd.prog.info? 9).map (fun i => (i.zero, i.size, i.bytes)) = some (some (.string ⟨#[]⟩), 1, 16) := by kernel_rfl
theorem rB_hit (d : ByteArray) (pre : List ByteArray) {z : ByteArray} (h : eqd d z = false) : rB d (pre ++ [z]) = rB d pre ++ [z] := by simp [rB, h]
theorem rB_miss (d : ByteArray) (pre : List ByteArray) {z : ByteArray} (h : eqd d z = true) : rB d (pre ++ [z]) = rB d pre := by simp [rB, h]
theorem any_hit (d : ByteArray) (pre : List ByteArray) {z : ByteArray} (h : eqd d z = true) : (pre ++ [z]).any (eqd d) = true := by simp [h]
theorem any_miss (d : ByteArray) (pre : List ByteArray) {z : ByteArray} (h : eqd d z = false) : (pre ++ [z]).any (eqd d) = pre.any (eqd d) := by simp [h]
theorem remB_len (nmd : List UInt8 → Bool) (d : ByteArray) : ∀ fs : List FB, (remB nmd d fs).length ≤ fs.length
  | [] => Nat.le_refl _
  | f :: fs => by
    have ih := remB_len nmd d fs
    unfold remB at ih ⊢
    rw [List.flatMap_cons, List.length_append, List.length_cons]
    have : (remOneB nmd d f).length ≤ 1 := by
      unfold remOneB
      split
      · simp
      · split
        · simp
        · split <;> simp
    omega
theorem remB_take (nmd : List UInt8 → Bool) (d : ByteArray) (fs : List FB) (i : Nat) (h : i < fs.length) : remB nmd d (fs.take (i + 1)) = remB nmd d (fs.take i) ++ remOneB nmd d fs[i] := by
  unfold remB
  rw [List.take_succ_eq_append_getElem h, List.flatMap_append]
  simp
theorem fld_app {g : Nat → Value} {ks fs : List FB} {i k : Nat} (hk : k = ks.length) (hki : k ≤ i) (h1 : ∀ j (h : j < ks.length), FA g j ks[j]) (h2 : ∀ j (h : j < fs.length), i ≤ j → FA g j fs[j]) (f : FB) :
    (∀ j (h : j < (ks ++ [f]).length), FA (fun j => if j = k * 3 then .string f.1 else if j = k * 3 + 1 then .string f.2 else if j = k * 3 + 2 then .string ⟨#[]⟩ else g j) j (ks ++ [f])[j]) ∧
    (∀ j (h : j < fs.length), i + 1 ≤ j → FA (fun j => if j = k * 3 then .string f.1 else if j = k * 3 + 1 then .string f.2 else if j = k * 3 + 2 then .string ⟨#[]⟩ else g j) j fs[j]) := by
  have other : ∀ j (f' : FB), j ≠ k → FA g j f' → FA (fun j => if j = k * 3 then .string f.1 else if j = k * 3 + 1 then .string f.2 else if j = k * 3 + 2 then .string ⟨#[]⟩ else g j) j f' := fun j f' hj ⟨a1, a2, a3⟩ => by
    refine ⟨?_, ?_, ?_⟩
    · simp only []; rw [if_neg (by omega), if_neg (by omega), if_neg (by omega)]; exact a1
    · simp only []; rw [if_neg (by omega), if_neg (by omega), if_neg (by omega)]; exact a2
    · simp only []; rw [if_neg (by omega), if_neg (by omega), if_neg (by omega)]; exact a3
  refine ⟨fun j h => ?_, fun j h hij => other j _ (by omega) (h2 j h (by omega))⟩
  by_cases hj : j < ks.length
  · rw [List.getElem_append_left hj]
    exact other j _ (by omega) (h1 j hj)
  · have hjk : j = k := by simp at h; omega
    rw [List.getElem_append_right (by omega)]
    simp only [List.getElem_singleton]
    subst hjk
    refine ⟨?_, ?_, ?_⟩
    · simp only []; rw [if_pos trivial]
    · simp only []; rw [if_neg (by omega), if_pos trivial]
    · simp only []; rw [if_neg (by omega), if_neg (by omega), if_pos trivial]

/-- What stands between two rounds. -/
structure LF (T : World → Prop) (nmd : List UInt8 → Bool) (d : ByteArray) (mb fb db B5 c : Nat) (fs : List FB) (MV : Nat → Value) (w1 W : World) (i k : Nat) (ds : List Nat) : Prop where
  le : i ≤ fs.length
  kk : k = (remB nmd d (fs.take i)).length
  row : W.rowIs mb 38 6 MV
  fld : ∃ g, W.rowIs fb 34 (c * 3) g ∧ (∀ j (h : j < (remB nmd d (fs.take i)).length), FA g j (remB nmd d (fs.take i))[j]) ∧ ∀ j (h : j < fs.length), i ≤ j → FA g j fs[j]
  box : Boxed W B5 26 (.func (.func 32) #[] #[.pointer (some ⟨db, 0, none⟩)])
  fr : Fr2 mb fb w1 W
  nd : ds.Nodup
  dm : ∀ D ∈ ds, W.heap[D]? = some (.deferred (some [])) ∧ w1.heap.size ≤ D
  tt : T W
  dd : W.cell? ⟨db, 0, none⟩ = some (.string d)

section
variable {T : World → Prop} {nmd : List UInt8 → Bool} {d : ByteArray} {mb fb db B5 c : Nat} {fs : List FB} {MV : Nat → Value} {w1 W W5 : World} {i k : Nat} {ds ds' : List Nat} {g : Nat → Value}
theorem LF.app (hL : LF T nmd d mb fb db B5 c fs MV w1 W i k ds) (hif : i < fs.length) (hki : k ≤ i) {f : FB} (hrem : remOneB nmd d fs[i] = [f])
    (h1 : ∀ j (h : j < (remB nmd d (fs.take i)).length), FA g j (remB nmd d (fs.take i))[j]) (h2 : ∀ j (h : j < fs.length), i ≤ j → FA g j fs[j])
    (s1 : W5.rowIs fb 34 (c * 3) (fun j => if j = k * 3 then .string f.1 else if j = k * 3 + 1 then .string f.2 else if j = k * 3 + 2 then .string ⟨#[]⟩ else g j))
    (hF : Fr2 mb fb W W5) (hsame : ∀ j, j < W.heap.size → j ≠ fb → W5.heap[j]? = W.heap[j]?) (hT : ∀ u u' : World, T u → Fr2 mb fb u u' → T u') (hmf : mb ≠ fb) (hdf : db ≠ fb) (hB : B5 ≠ fb) (hnd : ds'.Nodup)
    (hdm : ∀ D ∈ ds', W5.heap[D]? = some (.deferred (some [])) ∧ w1.heap.size ≤ D) : LF T nmd d mb fb db B5 c fs MV w1 W5 (i + 1) (k + 1) ds' := by
  have hr2 := remB_take nmd d fs i hif
  rw [hrem] at hr2
  have hfa := fld_app hL.kk hki h1 h2 f
  exact { le := hif, kk := by rw [hr2, List.length_append, ← hL.kk]; rfl, row := hL.row.of_block (hsame _ hL.row.lt hmf),
          fld := ⟨_, s1, by rw [hr2]; exact hfa.1, hfa.2⟩,
          box := (hsame _ hL.box.lt hB).trans hL.box, fr := hL.fr.trans hF, nd := hnd, dm := hdm,
          tt := hT _ _ hL.tt hF, dd := (World.cell?_of_block (w := W) (hsame _ (cell_lt hL.dd) hdf)).trans hL.dd }
theorem LF.skip (hL : LF T nmd d mb fb db B5 c fs MV w1 W i k ds) (hif : i < fs.length) (hrem : remOneB nmd d fs[i] = [])
    (hb : Below W.heap.size W W5) (hT : ∀ u u' : World, T u → Fr2 mb fb u u' → T u') (hnd : ds'.Nodup)
    (hdm : ∀ D ∈ ds', W5.heap[D]? = some (.deferred (some [])) ∧ w1.heap.size ≤ D) : LF T nmd d mb fb db B5 c fs MV w1 W5 (i + 1) k ds' := by
  have hr2 := remB_take nmd d fs i hif
  rw [hrem, List.append_nil] at hr2
  obtain ⟨g, hg, h1, h2⟩ := hL.fld
  exact { le := hif, kk := by rw [hr2]; exact hL.kk, row := hL.row.of_block (hb.block _ hL.row.lt),
          fld := ⟨g, hg.of_block (hb.block _ hg.lt), by rw [hr2]; exact h1, fun j h hij => h2 j h (by omega)⟩,
          box := (hb.block _ hL.box.lt).trans hL.box, fr := hL.fr.grown hb, nd := hnd, dm := hdm,
          tt := hT _ _ hL.tt ((Fr2.refl mb fb W).grown hb), dd := (hb.cell (p := ⟨db, 0, none⟩) (cell_lt hL.dd)).trans hL.dd }
end

def slot22 (a : Act) : Nat := match a.tmps.getD 22 undef with
  | .int _ z => z.toNat
  | _ => 0

set_option maxRecDepth 100000 in
set_option maxHeartbeats 4000000 in
theorem removeValues_any (T : World → Prop) (nmd : List UInt8 → Bool) (name d : ByteArray) (mb fb db n c : Nat) (fs : List FB) (MV g0 : Nat → Value) (w : World)
    (hrow : w.rowIs mb 38 6 MV) (hMV : MV 4 = .slice (some ⟨fb, 0, none⟩) n c) (hfr : w.rowIs fb 34 (c * 3) g0) (hne : mb ≠ fb) (hfs : fs.length = n) (hnc : n ≤ c) (hn : n ≤ 4194304)
    (hT : ∀ u u' : World, T u → Fr2 mb fb u u' → T u') (hTw : T w) (hg0 : ∀ j (h : j < fs.length), FA g0 j fs[j]) (hsz : ∀ f ∈ fs, f.1.size ≤ 4194304 ∧ f.2.size ≤ 4194304) (hdd : w.cell? ⟨db, 0, none⟩ = some (.string d)) (hdm : db ≠ mb) (hdf : db ≠ fb)
    (hIs : ∀ (u : World) (x y z : ByteArray), T u → x.size ≤ 4194304 → Calls Tryd.prog 29 #[.agg #[.string x, .string y, .string z], .string name] u fun e w' => e = .returned (.bool (nmd x.data.toList)) ∧ Below u.heap.size u w')
    (hJo : ∀ (u : World) (bk cap : Nat) (xs : List ByteArray), (∀ (j : Nat) x, xs[j]? = some x → u.cell? ⟨bk, j, none⟩ = some (.string x)) → bk < u.heap.size → xs.length ≤ cap → xs.length ≤ 8388608 → (I.join (xs.map fun x => x.data.toList)).length ≤ 140737488355328 →
      Calls Tryd.prog 39 #[.slice (some ⟨bk, 0, none⟩) xs.length cap, .string ⟨#[44, 32]⟩] u fun e w' => e = .returned (.string (bs (I.join (xs.map fun x => x.data.toList)))) ∧ Below u.heap.size u w') :
    Calls Tryd.prog 31 #[.pointer (some ⟨mb, 0, none⟩), .string name, .func (.func 32) #[] #[.pointer (some ⟨db, 0, none⟩)]] w fun e w' => (∃ v, e = .returned v) ∧
      (∃ g, w'.rowIs fb 34 (c * 3) g ∧ ∀ j (h : j < (remB nmd d fs).length), FA g j (remB nmd d fs)[j]) ∧ w'.rowIs mb 38 6 (fun j => if j = 4 then .slice (some ⟨fb, 0, none⟩) (remB nmd d fs).length c else MV j) ∧ Fr2 mb fb w w' := by
  refine (callsIn_wide (n := 3)).1 (callsIn_of_wp_marks Tryd.func31 rfl trivial (wpIn_wide.2 ?_) rfl)
  simp only [Tryd.ntmps31, List.size_toArray, List.length_cons, List.length_nil, Nat.reduceAdd, Nat.reduceSub, Array.replicate_succ, Array.replicate_zero, List.push_toArray, List.append_toArray, List.nil_append, List.cons_append]
  generalize hQ : bodyPostM Fence.wide 3 Tryd.prog Tryd.f31 _ = Q
  have HQ : Hid (_ = Q) := hQ
  clear hQ
  go_upto_region 1 with fail
  have HBx : Hid (Boxed (w.alloc (.cells #[.func (.func 32) #[] #[.pointer (some ⟨db, 0, none⟩)]] 26)) w.heap.size 26 (.func (.func 32) #[] #[.pointer (some ⟨db, 0, none⟩)])) := Boxed.new w 26 _
  have HB1 : Hid (Below w.heap.size w (w.alloc (.cells #[.func (.func 32) #[] #[.pointer (some ⟨db, 0, none⟩)]] 26))) := (Below.refl _ w).alloc (Nat.le_refl _) _
  generalize w.alloc (.cells #[.func (.func 32) #[] #[.pointer (some ⟨db, 0, none⟩)]] 26) = w1 at *
  have HR1 : Hid (w1.rowIs mb 38 6 MV) := hrow.of_block (HB1.out.block _ hrow.lt)
  have HG1 : Hid (w1.rowIs fb 34 (c * 3) g0) := hfr.of_block (HB1.out.block _ hfr.lt)
  have c4 : w1.cell? ⟨mb, 4, none⟩ = some (.slice (some ⟨fb, 0, none⟩) n c) := by rw [HR1.out.cell (i := 4) (by omega), hMV]
  have HS : Hid (mb < w.heap.size ∧ fb < w.heap.size) := ⟨hrow.lt, hfr.lt⟩
  clear hrow hfr
  generalize hB5 : w.heap.size = B5 at *
  have HT : Hid (∀ u u' : World, T u → Fr2 mb fb u u' → T u') := hT
  have HI : Hid (∀ (u : World) (x y z : ByteArray), T u → x.size ≤ 4194304 → Calls Tryd.prog 29 #[.agg #[.string x, .string y, .string z], .string name] u fun e w' => e = .returned (.bool (nmd x.data.toList)) ∧ Below u.heap.size u w') := hIs
  have HJo : Hid (∀ (u : World) (bk cap : Nat) (xs : List ByteArray), (∀ (j : Nat) x, xs[j]? = some x → u.cell? ⟨bk, j, none⟩ = some (.string x)) → bk < u.heap.size → xs.length ≤ cap → xs.length ≤ 8388608 → (I.join (xs.map fun x => x.data.toList)).length ≤ 140737488355328 →
      Calls Tryd.prog 39 #[.slice (some ⟨bk, 0, none⟩) xs.length cap, .string ⟨#[44, 32]⟩] u fun e w' => e = .returned (.string (bs (I.join (xs.map fun x => x.data.toList)))) ∧ Below u.heap.size u w') := hJo
  have HZ : Hid ((∀ f ∈ fs, f.1.size ≤ 4194304 ∧ f.2.size ≤ 4194304) ∧ fs.length = n ∧ db ≠ mb ∧ db ≠ fb ∧ mb ≠ fb) := ⟨hsz, hfs, hdm, hdf, hne⟩
  have HF1 : Hid (Fr2 mb fb w w1) := ⟨HB1.out.os, HB1.out.tape, HB1.out.output, HB1.out.size, fun k hk _ _ => HB1.out.block k (by rw [← hB5]; exact hk)⟩
  have HL0 : Hid (LF T nmd d mb fb db B5 c fs MV w1 w1 0 0 []) :=
    { le := Nat.zero_le _, kk := rfl, row := HR1.out, fld := ⟨g0, HG1.out, fun j h => absurd h (by simp [remB]), fun j h _ => hg0 j h⟩, box := HBx.out, fr := Fr2.refl _ _ _, nd := List.nodup_nil, dm := fun D hD => (by cases hD),
      tt := hT _ _ hTw HF1.out, dd := (HB1.out.cell (p := ⟨db, 0, none⟩) (by rw [← hB5]; exact cell_lt hdd)).trans hdd }
  clear hT hTw hg0 hsz hdd hdm hdf hIs hfs hMV hJo
  go_wp2_with fail
  refine wp_loop (fun a W => ∃ u8 u9 u10 u23 u24 u25 u26 u27 u28 u29 u30 u31 u32 u33 u34 u35 u36 u45 u46 u47 u48 u49 u50 u51 u52 u53 u54 u55 u56 u57 u58 u59 u60 u61 u62 u63 u64 : Value, ∃ (i k : Nat) (ds : List Nat), a = { tmps := #[.pointer (some ⟨mb, 0, none⟩), .string name, .func (.func 32) #[] #[.pointer (some ⟨db, 0, none⟩)], undef, undef, .pointer (some ⟨B5, 0, none⟩), .slice (some ⟨fb, 0, none⟩) k c, undef, u8, u9, u10, undef, .pointer (some ⟨mb, 0, none⟩), .pointer (some ⟨mb, 0, none⟩), .pointer (some ⟨mb, 4, none⟩), .slice (some ⟨fb, 0, none⟩) n c, .slice (some ⟨fb, 0, none⟩) 0 c, .pointer (some ⟨mb, 0, none⟩), .pointer (some ⟨mb, 0, none⟩), .pointer (some ⟨mb, 4, none⟩), .slice (some ⟨fb, 0, none⟩) n c, .int .i64 (n : Int), .int .i64 (i : Int), u23, u24, u25, u26, u27, u28, u29, u30, u31, u32, u33, u34, u35, u36, undef, undef, undef, undef, undef, undef, undef, undef, u45, u46, u47, u48, u49, u50, u51, u52, u53, u54, u55, u56, u57, u58, u59, u60, u61, u62, u63, u64, undef, undef, undef, undef], defers := ds.map mk } ∧ LF T nmd d mb fb db B5 c fs MV w1 W i k ds) (fun a W => n - slot22 a) ?_ (fun a W hI => ?_)
  · (repeat apply Exists.intro)
    refine ⟨?_, HL0.out⟩
    rfl
  · obtain ⟨u8, u9, u10, u23, u24, u25, u26, u27, u28, u29, u30, u31, u32, u33, u34, u35, u36, u45, u46, u47, u48, u49, u50, u51, u52, u53, u54, u55, u56, u57, u58, u59, u60, u61, u62, u63, u64, i, k, ds, rfl, hL⟩ := hI
    have HL : Hid (LF T nmd d mb fb db B5 c fs MV w1 W i k ds) := hL
    clear hL
    dsimp only
    obtain ⟨K, hK⟩ : ∃ K : Act → World → Prop, ∀ a' W', K a' W' = ((∃ u8 u9 u10 u23 u24 u25 u26 u27 u28 u29 u30 u31 u32 u33 u34 u35 u36 u45 u46 u47 u48 u49 u50 u51 u52 u53 u54 u55 u56 u57 u58 u59 u60 u61 u62 u63 u64 : Value, ∃ (i k : Nat) (ds : List Nat), a' = { tmps := #[.pointer (some ⟨mb, 0, none⟩), .string name, .func (.func 32) #[] #[.pointer (some ⟨db, 0, none⟩)], undef, undef, .pointer (some ⟨B5, 0, none⟩), .slice (some ⟨fb, 0, none⟩) k c, undef, u8, u9, u10, undef, .pointer (some ⟨mb, 0, none⟩), .pointer (some ⟨mb, 0, none⟩), .pointer (some ⟨mb, 4, none⟩), .slice (some ⟨fb, 0, none⟩) n c, .slice (some ⟨fb, 0, none⟩) 0 c, .pointer (some ⟨mb, 0, none⟩), .pointer (some ⟨mb, 0, none⟩), .pointer (some ⟨mb, 4, none⟩), .slice (some ⟨fb, 0, none⟩) n c, .int .i64 (n : Int), .int .i64 (i : Int), u23, u24, u25, u26, u27, u28, u29, u30, u31, u32, u33, u34, u35, u36, undef, undef, undef, undef, undef, undef, undef, undef, u45, u46, u47, u48, u49, u50, u51, u52, u53, u54, u55, u56, u57, u58, u59, u60, u61, u62, u63, u64, undef, undef, undef, undef], defers := ds.map mk } ∧ LF T nmd d mb fb db B5 c fs MV w1 W' i k ds) ∧ n - slot22 a' < n - i) := ⟨_, fun _ _ => rfl⟩
    have HK : Hid (∀ a' W', ((∃ u8 u9 u10 u23 u24 u25 u26 u27 u28 u29 u30 u31 u32 u33 u34 u35 u36 u45 u46 u47 u48 u49 u50 u51 u52 u53 u54 u55 u56 u57 u58 u59 u60 u61 u62 u63 u64 : Value, ∃ (i k : Nat) (ds : List Nat), a' = { tmps := #[.pointer (some ⟨mb, 0, none⟩), .string name, .func (.func 32) #[] #[.pointer (some ⟨db, 0, none⟩)], undef, undef, .pointer (some ⟨B5, 0, none⟩), .slice (some ⟨fb, 0, none⟩) k c, undef, u8, u9, u10, undef, .pointer (some ⟨mb, 0, none⟩), .pointer (some ⟨mb, 0, none⟩), .pointer (some ⟨mb, 4, none⟩), .slice (some ⟨fb, 0, none⟩) n c, .slice (some ⟨fb, 0, none⟩) 0 c, .pointer (some ⟨mb, 0, none⟩), .pointer (some ⟨mb, 0, none⟩), .pointer (some ⟨mb, 4, none⟩), .slice (some ⟨fb, 0, none⟩) n c, .int .i64 (n : Int), .int .i64 (i : Int), u23, u24, u25, u26, u27, u28, u29, u30, u31, u32, u33, u34, u35, u36, undef, undef, undef, undef, undef, undef, undef, undef, u45, u46, u47, u48, u49, u50, u51, u52, u53, u54, u55, u56, u57, u58, u59, u60, u61, u62, u63, u64, undef, undef, undef, undef], defers := ds.map mk } ∧ LF T nmd d mb fb db B5 c fs MV w1 W' i k ds) ∧ n - slot22 a' < n - i) → K a' W') := fun a' W' h => (hK a' W') ▸ h
    refine wp_then_mono (K := K) (fun a' W' h => (hK a' W').mp h) ?_
    clear hK
    by_cases hlt : i < n
    · have hlt' : (i : Int) < (n : Int) := by omega
      have hif : i < fs.length := by have := HZ.out.2.1; omega
      obtain ⟨g, hg, hkept, hrest⟩ := HL.out.fld
      obtain ⟨x, y, hxy⟩ : ∃ x y, fs[i] = (x, y) := ⟨_, _, rfl⟩
      have hFA := hrest i hif (Nat.le_refl _)
      rw [hxy] at hFA
      obtain ⟨e0, e1, e2⟩ := hFA
      have q0 : W.cell? ⟨fb, i * 3, none⟩ = some (.string x) := by rw [hg.cell (i := i * 3) (by omega), e0]
      have q1 : W.cell? ⟨fb, i * 3 + 1, none⟩ = some (.string y) := by rw [hg.cell (i := i * 3 + 1) (by omega), e1]
      have q2 : W.cell? ⟨fb, i * 3 + 2, none⟩ = some (.string ⟨#[]⟩) := by rw [hg.cell (i := i * 3 + 2) (by omega), e2]
      have HG : Hid (W.rowIs fb 34 (c * 3) g ∧ (∀ j (h : j < (remB nmd d (fs.take i)).length), FA g j (remB nmd d (fs.take i))[j]) ∧ ∀ j (h : j < fs.length), i ≤ j → FA g j fs[j]) := ⟨hg, hkept, hrest⟩
      have HXY : Hid (fs[i] = (x, y)) := hxy
      have hxs : x.size ≤ 4194304 ∧ y.size ≤ 4194304 := by have := HZ.out.1 fs[i] (List.getElem_mem _); rw [hxy] at this; exact this
      clear hg hkept hrest hxy e0 e1 e2
      go_upto_region 5 with fail
      have HA2 : Hid ((W.alloc (.cells #[.string x, .string y, .string ⟨#[]⟩] 34)).heap[W.heap.size]? = some (.cells #[.string x, .string y, .string ⟨#[]⟩] 34)) := World.alloc_heap_new W _
      have HB2 : Hid (Below W.heap.size W (W.alloc (.cells #[.string x, .string y, .string ⟨#[]⟩] 34))) := (Below.refl _ W).alloc (Nat.le_refl _) _
      generalize W.alloc (.cells #[.string x, .string y, .string ⟨#[]⟩] 34) = W2 at *
      have b0 : W2.cell? ⟨W.heap.size, 0, none⟩ = some (.string x) := by rw [cell_of_row _ _ 0 _ 34 (0, 0) HA2.out]; rfl
      have b1 : W2.cell? ⟨W.heap.size, 1, none⟩ = some (.string y) := by rw [cell_of_row _ _ 1 _ 34 (0, 0) HA2.out]; rfl
      have b2 : W2.cell? ⟨W.heap.size, 2, none⟩ = some (.string ⟨#[]⟩) := by rw [cell_of_row _ _ 2 _ 34 (0, 0) HA2.out]; rfl
      have HT2 : Hid (T W2) := HT.out _ _ HL.out.tt ((Fr2.refl mb fb W).grown HB2.out)
      have HX : Hid (W.heap.size < W2.heap.size) := (Array.getElem?_eq_some_iff.1 HA2.out).1
      clear q0 q1 q2
      generalize hFB : W.heap.size = fx at *
      go_wp2_with fail
      refine (HI.out W2 x y ⟨#[]⟩ HT2.out hxs.1).mono ?_
      rintro e W3 ⟨rfl, hb3⟩
      have HB3 : Hid (Below W2.heap.size W2 W3) := hb3
      have d0 : W3.cell? ⟨fx, 0, none⟩ = some (.string x) := (hb3.cell (p := ⟨fx, 0, none⟩) HX.out).trans b0
      have d1 : W3.cell? ⟨fx, 1, none⟩ = some (.string y) := (hb3.cell (p := ⟨fx, 1, none⟩) HX.out).trans b1
      have d2 : W3.cell? ⟨fx, 2, none⟩ = some (.string ⟨#[]⟩) := (hb3.cell (p := ⟨fx, 2, none⟩) HX.out).trans b2
      have HB03 : Hid (Below fx W W3) := HB2.out.trans (hb3.mono (by have := HB2.out.size; omega))
      clear b0 b1 b2 hb3 HT2
      have hki : k ≤ i := by
        have := remB_len nmd d (fs.take i)
        rw [← HL.out.kk, List.length_take] at this
        omega
      cases hN : nmd x.data.toList with
      | false =>
        have HN : Hid (nmd x.data.toList = false) := hN
        clear hN
        go_upto_region 6 with fail
        have hfb3 : W3.rowIs fb 34 (c * 3) g := HG.out.1.of_block (HB03.out.block _ (by rw [← hFB]; exact HG.out.1.lt))
        have t0 : (W3.alloc (.cells #[.string x, .string y, .string ⟨#[]⟩] 34)).cell? ((⟨W3.heap.size, 0, none⟩ : Addr).add 0) = some (.string x) := by
          show World.cell? _ ⟨W3.heap.size, 0, none⟩ = _
          rw [cell_of_row _ _ 0 _ 34 (0, 0) (World.alloc_heap_new W3 _)]; rfl
        have t1 : (W3.alloc (.cells #[.string x, .string y, .string ⟨#[]⟩] 34)).cell? ((⟨W3.heap.size, 0, none⟩ : Addr).add 1) = some (.string y) := by
          show World.cell? _ ⟨W3.heap.size, 1, none⟩ = _
          rw [cell_of_row _ _ 1 _ 34 (0, 0) (World.alloc_heap_new W3 _)]; rfl
        have t2 : (W3.alloc (.cells #[.string x, .string y, .string ⟨#[]⟩] 34)).cell? ((⟨W3.heap.size, 0, none⟩ : Addr).add 2) = some (.string ⟨#[]⟩) := by
          show World.cell? _ ⟨W3.heap.size, 2, none⟩ = _
          rw [cell_of_row _ _ 2 _ 34 (0, 0) (World.alloc_heap_new W3 _)]; rfl
        have hfb4 := hfb3.alloc (.cells #[.string x, .string y, .string ⟨#[]⟩] 34)
        apply wp_region_lit
        iterate 3 (refine wpList_plain rfl fun K0 hK0 => ?_; go_simp; refine hK0 _ _ ?_; clear hK0 K0)
        refine wpList_append_field _ _ rfl rfl fb c k g ⟨W3.heap.size, 0, none⟩ (.string x) (.string y) (.string ⟨#[]⟩) rfl rfl hfb4 (by omega) t0 t1 t2 rfl rfl rfl ?_
        intro W5 s1 s2 s3 s4 s5 s6
        have HF5 : Hid (Fr2 mb fb W W5) := ⟨s4.trans HB03.out.os, s5.trans HB03.out.tape, s6.trans HB03.out.output, by rw [s2, nblk_alloc]; have := HB03.out.size; omega, fun j hj h1 h2 => by
          rw [s3 j h2, blk_alloc_lt _ _ _ (by have := HB03.out.size; omega)]; exact HB03.out.block j (by omega)⟩
        have hsame : ∀ j, j < W.heap.size → j ≠ fb → W5.heap[j]? = W.heap[j]? := fun j hj h2 => by
          rw [s3 j h2, blk_alloc_lt _ _ _ (by have := HB03.out.size; omega)]; exact HB03.out.block j (by omega)
        have hz := HZ.out
        have HL5 : Hid (LF T nmd d mb fb db B5 c fs MV w1 W5 (i + 1) (k + 1) ds) := by
          have hL := HL.out
          have hr1 : remOneB nmd d fs[i] = [(x, y)] := by rw [HXY.out]; unfold remOneB; rw [if_pos HN.out]
          have hr2 := remB_take nmd d fs i hif
          rw [hr1] at hr2
          have hfa := fld_app hL.kk hki HG.out.2.1 HG.out.2.2 (x, y)
          exact { le := hif, kk := by rw [hr2, List.length_append, ← hL.kk]; rfl, row := hL.row.of_block (hsame _ hL.row.lt hz.2.2.2.2),
                  fld := ⟨_, s1, by rw [hr2]; exact hfa.1, hfa.2⟩,
                  box := (hsame _ hL.box.lt (fun e => by have := HS.out.2; omega)).trans hL.box, fr := hL.fr.trans HF5.out, nd := hL.nd,
                  dm := fun D hD => ⟨(hsame _ (Array.getElem?_eq_some_iff.1 (hL.dm D hD).1).1 (fun e => by have := (hL.dm D hD).2; have := HB1.out.size; have := HS.out.2; omega)).trans (hL.dm D hD).1, (hL.dm D hD).2⟩,
                  tt := HT.out _ _ hL.tt HF5.out, dd := (World.cell?_of_block (w := W) (hsame _ (cell_lt hL.dd) hz.2.2.2.1)).trans hL.dd }
        clear s1 s2 s3 s4 s5 s6 hfb3 hfb4 t0 t1 t2 d0 d1 d2 hsame hz HF5
        go_wp2_with fail
        refine HK.out _ _ ⟨?_, ?_⟩
        · (repeat apply Exists.intro)
          refine ⟨?_, HL5.out⟩
          rfl
        · show n - (i + 1) < n - i
          omega
      | true =>
        have HN : Hid (nmd x.data.toList = true) := hN
        clear hN
        go_upto_region 9 with fail
        have HV4 : Hid (Boxed ((W3.alloc (.cells #[.slice none 0 0] 45)).alloc (.cells #[.bool false] 4)) W3.heap.size 45 (.slice none 0 0)) := (Boxed.new W3 45 _).alloc _
        have HD4 : Hid (Boxed ((W3.alloc (.cells #[.slice none 0 0] 45)).alloc (.cells #[.bool false] 4)) (W3.heap.size + 1) 4 (.bool false)) := by
          have := Boxed.new (W3.alloc (.cells #[.slice none 0 0] 45)) 4 (.bool false)
          rwa [nblk_alloc] at this
        have HB4 : Hid (Below W3.heap.size W3 ((W3.alloc (.cells #[.slice none 0 0] 45)).alloc (.cells #[.bool false] 4))) := ((Below.refl _ W3).alloc (Nat.le_refl _) _).alloc (by rw [nblk_alloc]; omega) _
        have HS4 : Hid (((W3.alloc (.cells #[.slice none 0 0] 45)).alloc (.cells #[.bool false] 4)).heap.size = W3.heap.size + 2) := by
          show _ = W3.heap.size + 2
          rw [nblk_alloc, nblk_alloc]
        generalize (W3.alloc (.cells #[.slice none 0 0] 45)).alloc (.cells #[.bool false] 4) = W4 at *
        have f1 : W4.cell? ⟨fx, 1, none⟩ = some (.string y) := (HB4.out.cell (p := ⟨fx, 1, none⟩) (cell_lt d1)).trans d1
        go_wp2_with fail
        refine ((callsIn_wide (n := 3)).1 (listOf_in 3 y _)).mono ?_
        rintro e W5 ⟨rfl, hW5⟩
        subst hW5
        go_wp2_with fail
        rw [HS4.out]
        have HY5 : Hid (Boxed (W4.alloc (.cells #[.string y] 9)) W4.heap.size 9 (.string y)) := Boxed.new W4 9 _
        have HS5 : Hid ((W4.alloc (.cells #[.string y] 9)).heap.size = W4.heap.size + 1) := nblk_alloc _ _
        have HV5 : Hid (Boxed (W4.alloc (.cells #[.string y] 9)) W3.heap.size 45 (.slice none 0 0)) := HV4.out.alloc _
        have HD5 : Hid (Boxed (W4.alloc (.cells #[.string y] 9)) (W3.heap.size + 1) 4 (.bool false)) := HD4.out.alloc _
        have HB5 : Hid (Below W3.heap.size W3 (W4.alloc (.cells #[.string y] 9))) := HB4.out.alloc (by rw [HS4.out]; omega) _
        rw [HS4.out] at HY5 HS5
        generalize W4.alloc (.cells #[.string y] 9) = WL at *
        have HBx3 : Hid (Boxed W3 B5 26 (.func (.func 32) #[] #[.pointer (some ⟨db, 0, none⟩)])) := (HB03.out.block _ (by rw [← hFB]; exact HL.out.box.lt)).trans HL.out.box
        have HDd3 : Hid (W3.cell? ⟨db, 0, none⟩ = some (.string d)) := (HB03.out.cell (p := ⟨db, 0, none⟩) (by rw [← hFB]; exact cell_lt HL.out.dd)).trans HL.out.dd
        clear f1 HV4 HD4 HB4 HS4
        generalize hn3 : W3.heap.size = n3 at *
        obtain ⟨i0, hi0, hz0, hz1, hz2⟩ := info_parts info9
        have hys : (its y.data.toList).length ≤ 4194305 := by have := its_len y.data.toList; rw [← size_list] at this; omega
        refine (wpIn_wide (n := 3)).1 ?_
        refine wpIn_rangeFunc_ownG (F := Fence.wide) rfl (by omega) (gf := 43) (lb := #[.pointer (some ⟨n3 + 2, 0, none⟩)]) rfl trivial (enters_of Tryd.func43 (by kernel_rfl) rfl)
          (listOf_stops 2 (by omega) (n3 + 2) n3 y hxs.2 WL (by rw [HS5.out]; omega) HY5.out.cell) belowK_t (belowK_b (by rw [HS5.out]; omega)) (Below.refl _ _) (fun _ => rfl)
          (fun pre W => ((∃ v, Boxed W n3 45 v ∧ W.ownsRow n3 9 1 v (rB d pre).length ((rB d pre).map Value.string) ∧ (v = .slice none 0 0 ↔ rB d pre = [])) ∧ Boxed W (n3 + 1) 4 (.bool (pre.any (eqd d)))) ∧ Below n3 W3 W)
          (fun _ _ _ => False)
          (OwnFrom.and (OwnFrom.and (Own.from (holdsRow_own n3 n3 45 9 1 (fun pre => (rB d pre).length) (fun pre => (rB d pre).map Value.string) (fun pre v => v = .slice none 0 0 ↔ rB d pre = [])) _) (Own.from (boxed_own (n3 + 1) 4 (fun pre : List ByteArray => .bool (pre.any (eqd d)))) _)) (ownFrom_below (by omega) (by rw [HS5.out]; omega)))
          (fun _ _ _ _ _ hs _ _ => hs)
          ⟨⟨⟨_, HV5.out, World.ownsRow_nil _ _ _ _, by simp [rB]⟩, HD5.out⟩, HB5.out⟩
          (fun z => { tmps := #[.pointer (some ⟨mb, 0, none⟩), .string name, .func (.func 32) #[] #[.pointer (some ⟨db, 0, none⟩)], undef, undef, .pointer (some ⟨B5, 0, none⟩), .slice (some ⟨fb, 0, none⟩) k c, undef, .pointer (some ⟨fx, 0, none⟩), .pointer (some ⟨n3, 0, none⟩), .pointer (some ⟨n3 + 1, 0, none⟩), .string z, .pointer (some ⟨mb, 0, none⟩), .pointer (some ⟨mb, 0, none⟩), .pointer (some ⟨mb, 4, none⟩), .slice (some ⟨fb, 0, none⟩) n c, .slice (some ⟨fb, 0, none⟩) 0 c, .pointer (some ⟨mb, 0, none⟩), .pointer (some ⟨mb, 0, none⟩), .pointer (some ⟨mb, 4, none⟩), .slice (some ⟨fb, 0, none⟩) n c, .int .i64 (n : Int), .int .i64 (i : Int), .bool true, .pointer (some ⟨fb, i * 3, none⟩), .agg #[.string x, .string y, .string ⟨#[]⟩], .agg #[.string x, .string y, .string ⟨#[]⟩], .string name, .bool true, .bool false, u30, u31, u32, u33, .pointer (some ⟨fx, 1, none⟩), .string y, .func (.func 43) #[] #[.pointer (some ⟨n3 + 2, 0, none⟩)], .string z, undef, undef, undef, undef, undef, undef, undef, u45, u46, u47, u48, u49, u50, u51, u52, u53, u54, u55, u56, u57, u58, u59, u60, u61, u62, u63, u64, undef, undef, undef, undef], defers := [] }) ?assign ?body ?done ?stop
        case assign =>
          intro l z W' K0 hK0
          gi_wp2
          exact hK0
        case body =>
          rintro l pre z W' ⟨⟨⟨v, hv, hrow, hnil⟩, hD⟩, hB⟩ hlt2
          have cb : W'.cell? ⟨B5, 0, none⟩ = some (.func (.func 32) #[] #[.pointer (some ⟨db, 0, none⟩)]) := (hB.cell (p := ⟨B5, 0, none⟩) (by rw [← hn3]; exact HBx3.out.lt)).trans HBx3.out.cell
          have cd : W'.cell? ⟨db, 0, none⟩ = some (.string d) := (hB.cell (p := ⟨db, 0, none⟩) (by rw [← hn3]; exact cell_lt HDd3.out)).trans HDd3.out
          have hc := hv.cell
          have hcD := hD.cell
          have hfD := hD.frozen
          have hpl : (rB d pre).length ≤ pre.length := List.length_filter_le _ _
          cases hE : eqd d z with
          | true =>
            have HE : Hid (eqd d z = true) := hE
            clear hE
            gi_wp2
            refine ⟨trivial, ?_⟩
            refine (CallsIn.inRound l (callsIn_wide.2 (drop_any z d db W' cd))).mono ?_
            rintro e w' ⟨rfl, hw'⟩
            have hw'' := hw'.symm
            subst hw''
            clear hw'
            rw [HE.out]
            gi_wp2
            have hne3 : n3 ≠ n3 + 1 := by omega
            exact ⟨(KeepsOthers.setCell _ _ _).from _, (Below.refl n3 W').setCell (p := ⟨n3 + 1, 0, none⟩) (by show n3 ≤ n3 + 1; omega) _,
              ⟨⟨v, hv.other hne3 _, by rw [rB_miss d pre HE.out]; exact hrow.kept (grownBy_setCell' W' (n3 + 1) _) (.inr (hD.not_row (by decide) hrow).symm), by rw [rB_miss d pre HE.out]; exact hnil⟩, by rw [any_hit d pre HE.out]; exact hD.set _⟩, hB.setCell (p := ⟨n3 + 1, 0, none⟩) (by show n3 ≤ n3 + 1; omega) _⟩
          | false =>
            have HE : Hid (eqd d z = false) := hE
            clear hE
            gi_wp2
            refine ⟨trivial, ?_⟩
            refine (CallsIn.inRound l (callsIn_wide.2 (drop_any z d db W' cd))).mono ?_
            rintro e w' ⟨rfl, hw'⟩
            have hw'' := hw'.symm
            subst hw''
            clear hw'
            rw [HE.out]
            gi_wp2_with (gi_at_builtin; refine wpListIn_append_own _ rfl _ _ 45 rfl n3 9 i0 (.string ⟨#[]⟩) 1 16 Tryd.underlying45 hi0 hz0 hz1 hz2 rfl (by decide) _ _ _ rfl (hrow.alloc _) ⟨W'.heap.size, 0, none⟩ 1 1 [.string z] rfl rfl (cell_one_new _ _ _) (by simp [Value.oneCell']) (by unfold maxLen; omega) (by omega) (by have := hB.size; simp; omega) ?_; intro v' wa hown' hgrow _; obtain ⟨g', cap', rfl⟩ := ownsRow_succ hown'; obtain ⟨hv1, hv2, hr2, hk2, hb2⟩ := hv.appended (by decide) hrow (by have := hB.size; omega) (Nat.le_refl _) hown' hgrow; have hc1 := hv1.cell; have hf1 := hv1.frozen)
            have hD2 : Boxed (wa.setCell ⟨n3, 0, none⟩ (.slice (some ⟨g', 0, none⟩) ((rB d pre).length + 1) cap')) (n3 + 1) 4 (.bool (pre.any (eqd d))) := ((hD.alloc _).kept hgrow (hD.not_row (by decide) hrow)).other (by omega) _
            exact ⟨hk2.from _, hb2, ⟨⟨_, hv2, by rw [rB_hit d pre HE.out]; simpa using hr2, by rw [rB_hit d pre HE.out]; simp⟩, by rw [any_miss d pre HE.out]; exact hD2⟩, hB.trans hb2⟩
        case done =>
          rintro D ys W6 hD6 hys6 ⟨⟨⟨v, hv, hrow, hnil⟩, hDx⟩, hB6⟩ hKd
          subst hys6
          have g0' : W6.cell? ⟨fx, 0, none⟩ = some (.string x) := (hB6.cell (p := ⟨fx, 0, none⟩) (by rw [← hn3]; exact cell_lt d0)).trans d0
          have g1' : W6.cell? ⟨fx, 1, none⟩ = some (.string y) := (hB6.cell (p := ⟨fx, 1, none⟩) (by rw [← hn3]; exact cell_lt d1)).trans d1
          have g2' : W6.cell? ⟨fx, 2, none⟩ = some (.string ⟨#[]⟩) := (hB6.cell (p := ⟨fx, 2, none⟩) (by rw [← hn3]; exact cell_lt d2)).trans d2
          have cD := hDx.cell
          have cV := hv.cell
          have HRow : Hid (W6.ownsRow n3 9 1 v (rB d (its y.data.toList)).length ((rB d (its y.data.toList)).map Value.string) ∧ (v = .slice none 0 0 ↔ rB d (its y.data.toList) = [])) := ⟨hrow, hnil⟩
          have HKd : Hid (W6.heap[D]? = some (.deferred (some []))) := hKd
          have HB6 : Hid (Below fx W W6) := HB03.out.trans (hB6.mono (by have := HB03.out.size; omega))
          have HD6 : Hid (n3 + 3 ≤ D ∧ fx ≤ n3) := ⟨by rw [HS5.out] at hD6; omega, by have := HB03.out.size; omega⟩
          have hfb6 : W6.rowIs fb 34 (c * 3) g := HG.out.1.of_block (HB6.out.block _ (by rw [← hFB]; exact HG.out.1.lt))
          have HFB6 : Hid (W6.rowIs fb 34 (c * 3) g) := hfb6
          clear hrow hnil hKd hB6 hD6 d0 d1 d2 hfb6 HV5 HD5 HB5 HY5 HS5
          cases hany : (its y.data.toList).any (eqd d) with
          | false =>
            have HAny : Hid ((its y.data.toList).any (eqd d) = false) := hany
            rw [hany] at cD hDx
            clear hany
            go_upto_region 15 with fail
            have t0 : (W6.alloc (.cells #[.string x, .string y, .string ⟨#[]⟩] 34)).cell? ((⟨W6.heap.size, 0, none⟩ : Addr).add 0) = some (.string x) := by
              show World.cell? _ ⟨W6.heap.size, 0, none⟩ = _
              rw [cell_of_row _ _ 0 _ 34 (0, 0) (World.alloc_heap_new W6 _)]; rfl
            have t1 : (W6.alloc (.cells #[.string x, .string y, .string ⟨#[]⟩] 34)).cell? ((⟨W6.heap.size, 0, none⟩ : Addr).add 1) = some (.string y) := by
              show World.cell? _ ⟨W6.heap.size, 1, none⟩ = _
              rw [cell_of_row _ _ 1 _ 34 (0, 0) (World.alloc_heap_new W6 _)]; rfl
            have t2 : (W6.alloc (.cells #[.string x, .string y, .string ⟨#[]⟩] 34)).cell? ((⟨W6.heap.size, 0, none⟩ : Addr).add 2) = some (.string ⟨#[]⟩) := by
              show World.cell? _ ⟨W6.heap.size, 2, none⟩ = _
              rw [cell_of_row _ _ 2 _ 34 (0, 0) (World.alloc_heap_new W6 _)]; rfl
            have hfb7 := HFB6.out.alloc (.cells #[.string x, .string y, .string ⟨#[]⟩] 34)
            apply wp_region_lit
            iterate 3 (refine wpList_plain rfl fun K0 hK0 => ?_; go_simp; refine hK0 _ _ ?_; clear hK0 K0)
            refine wpList_append_field _ _ rfl rfl fb c k g ⟨W6.heap.size, 0, none⟩ (.string x) (.string y) (.string ⟨#[]⟩) rfl rfl hfb7 (by omega) t0 t1 t2 rfl rfl rfl ?_
            intro W8 s1 s2 s3 s4 s5 s6
            have hsame : ∀ j, j < W.heap.size → j ≠ fb → W8.heap[j]? = W.heap[j]? := fun j hj h2 => by
              rw [s3 j h2, blk_alloc_lt _ _ _ (by have := HB6.out.size; omega)]; exact HB6.out.block j (by omega)
            have HF8 : Hid (Fr2 mb fb W W8) := ⟨s4.trans HB6.out.os, s5.trans HB6.out.tape, s6.trans HB6.out.output, by rw [s2, nblk_alloc]; have := HB6.out.size; omega, fun j hj h1 h2 => hsame j hj h2⟩
            have HL8 : Hid (LF T nmd d mb fb db B5 c fs MV w1 W8 (i + 1) (k + 1) (D :: ds)) := by
              have hL := HL.out
              refine hL.app hif hki (f := (x, y)) ?_ HG.out.2.1 HG.out.2.2 s1 HF8.out hsame HT.out HZ.out.2.2.2.2 HZ.out.2.2.2.1 (by have := HS.out.2; omega) ?_ ?_
              · rw [HXY.out]; unfold remOneB; rw [if_neg (by rw [HN.out]; simp), if_pos HAny.out]
              · refine List.nodup_cons.2 ⟨fun hD => ?_, hL.nd⟩
                have h1 := (Array.getElem?_eq_some_iff.1 (hL.dm D hD).1).1
                have h2 := HD6.out
                omega
              · intro E hE
                rcases List.mem_cons.1 hE with rfl | hE
                · refine ⟨?_, by have h1 := HD6.out; have h2 := hL.fr.size; omega⟩
                  rw [s3 E (by have h1 := HD6.out; have := HG.out.1.lt; omega), blk_alloc_lt _ _ _ (Array.getElem?_eq_some_iff.1 HKd.out).1]
                  exact HKd.out
                · have h1 := hL.dm E hE
                  exact ⟨(hsame E (Array.getElem?_eq_some_iff.1 h1.1).1 (by have := HG1.out.lt; omega)).trans h1.1, h1.2⟩
            clear s1 s2 s3 s4 s5 s6 hfb7 t0 t1 t2 hsame HF8
            go_wp2_with fail
            refine HK.out _ _ ⟨?_, ?_⟩
            · (repeat apply Exists.intro)
              refine ⟨?_, HL8.out⟩
              rfl
            · show n - (i + 1) < n - i
              omega
          | true =>
            have HAny : Hid ((its y.data.toList).any (eqd d) = true) := hany
            rw [hany] at cD hDx
            clear hany
            have HDs : Hid (∀ W8 : World, Below W6.heap.size W6 W8 → (D :: ds).Nodup ∧ ∀ E ∈ D :: ds, W8.heap[E]? = some (.deferred (some [])) ∧ w1.heap.size ≤ E) := fun W8 hb => by
              have hL := HL.out
              refine ⟨List.nodup_cons.2 ⟨fun hD => ?_, hL.nd⟩, fun E hE => ?_⟩
              · have h1 := (Array.getElem?_eq_some_iff.1 (hL.dm D hD).1).1
                have h2 := HD6.out
                omega
              · rcases List.mem_cons.1 hE with rfl | hE
                · exact ⟨(hb.block _ (Array.getElem?_eq_some_iff.1 HKd.out).1).trans HKd.out, by have h1 := HD6.out; have h2 := hL.fr.size; omega⟩
                · have h1 := hL.dm E hE
                  have h2 := (Array.getElem?_eq_some_iff.1 h1.1).1
                  exact ⟨((hb.block _ (by have := HB6.out.size; omega)).trans (HB6.out.block _ (by omega))).trans h1.1, h1.2⟩
            by_cases hr0 : rB d (its y.data.toList) = []
            · have hv0 : v = .slice none 0 0 := HRow.out.2.2 hr0
              subst hv0
              have HL8 : Hid (LF T nmd d mb fb db B5 c fs MV w1 W6 (i + 1) k (D :: ds)) := by
                have hds := HDs.out W6 (Below.refl _ _)
                refine HL.out.skip hif ?_ (by rw [hFB]; exact HB6.out) HT.out hds.1 hds.2
                rw [HXY.out]; unfold remOneB; rw [if_neg (by rw [HN.out]; simp), if_neg (by rw [HAny.out]; simp), if_pos hr0]
              go_wp2_with fail
              refine HK.out _ _ ⟨?_, ?_⟩
              · (repeat apply Exists.intro)
                refine ⟨?_, HL8.out⟩
                rfl
              · show n - (i + 1) < n - i
                omega
            · have hne0 : 0 < (rB d (its y.data.toList)).length := List.length_pos_iff.2 hr0
              obtain ⟨g', cap', cur, hveq, hbg, hgh, hncap, hcells⟩ : ∃ (g' cap' : Nat) (cur : Array Value), v = .slice (some ⟨g', 0, none⟩) (rB d (its y.data.toList)).length cap' ∧ n3 ≤ g' ∧ W6.heap[g']? = some (.cells cur 9) ∧ (rB d (its y.data.toList)).length ≤ cap' ∧ cur.toList.take ((rB d (its y.data.toList)).length * 1) = (rB d (its y.data.toList)).map Value.string := by
                have hrw := HRow.out.1
                rcases hrw.2 with ⟨-, h0⟩ | ⟨g', cap', cur, k1, k2, k3, k4, k5, k6, k7⟩
                · omega
                · exact ⟨g', cap', cur, k1, k2, k3, k4, k7⟩
              subst hveq
              have HJ : Hid (∀ u : World, Below W6.heap.size W6 u → Calls Tryd.prog 39 #[.slice (some ⟨g', 0, none⟩) (rB d (its y.data.toList)).length cap', .string ⟨#[44, 32]⟩] u fun e w' => e = .returned (.string (bs (I.join ((rB d (its y.data.toList)).map fun x => x.data.toList)))) ∧ Below u.heap.size u w') := fun u hu => by
                have hl := rB_len d y hxs.2
                have hgl := (Array.getElem?_eq_some_iff.1 hgh).1
                refine HJo.out u g' cap' _ (fun j z hz => ?_) (Nat.lt_of_lt_of_le hgl hu.size) hncap hl.1 hl.2
                rw [hu.cell (p := ⟨g', j, none⟩) hgl]
                have hj : j < (rB d (its y.data.toList)).length := (List.getElem?_eq_some_iff.1 hz).1
                have e1 : cur[j]? = some (.string z) := by
                  have := congrArg (fun l => l[j]?) hcells
                  simp only [List.getElem?_take, Nat.mul_one, if_pos hj, List.getElem?_map, hz, Option.map_some, Array.getElem?_toList] at this
                  exact this
                simp [World.cell?, hgh, e1]
              have hpos : (0 : Int) < ((rB d (its y.data.toList)).length : Int) := by omega
              generalize hjv : bs (I.join ((rB d (its y.data.toList)).map fun x => x.data.toList)) = jv at *
              have HJV : Hid (bs (I.join ((rB d (its y.data.toList)).map fun x => x.data.toList)) = jv) := hjv
              generalize hrl : (rB d (its y.data.toList)).length = rl at *
              clear hcells hgh hjv
              go_upto_region 17 with fail
              have HFx : Hid (fx < W6.heap.size) := cell_lt g0'
              clear g1' g2' cD hpos
              refine wp_onlyN ?_
              go_region_with (go_at_call 39; refine (HJ.out _ ?_).mono ?_; exact ⟨rfl, rfl, rfl, Nat.le_refl _, fun _ _ => rfl⟩; rintro e wj ⟨rfl, hbj⟩; have hxj : wj.cell? ⟨fx, 0, none⟩ = some (.string x) := (hbj.cell (p := ⟨fx, 0, none⟩) HFx.out).trans g0'; have rj : wj.rowIs fb 34 (c * 3) g := HFB6.out.of_block (hbj.block _ HFB6.out.lt); have ra := rj.alloc (.cells #[.string x, .string jv, .string ⟨#[]⟩] 34); have q0 := ra.cell (i := k * 3) (by omega); have q1 := ra.cell (i := k * 3 + 1) (by omega); have q2 := ra.cell (i := k * 3 + 2) (by omega); have z0 := ra.frozen (k * 3); have z1 := ra.frozen (k * 3 + 1); have z2 := ra.frozen (k * 3 + 2); have hfbn : fb ≠ wj.heap.size := (by have := rj.lt; omega); clear ra; have HRj : Hid (wj.rowIs fb 34 (c * 3) g) := rj; have HBj : Hid (Below W6.heap.size W6 wj) := ⟨hbj.os, hbj.tape, hbj.output, hbj.size, hbj.block⟩; clear rj hbj)
              all_goals
                have HRow8 : Hid (World.rowIs ((((wj.alloc (.cells #[.string x, .string jv, .string ⟨#[]⟩] 34)).setCell ⟨fb, k * 3, none⟩ (.string x)).setCell ⟨fb, k * 3 + 1, none⟩ (.string jv)).setCell ⟨fb, k * 3 + 2, none⟩ (.string ⟨#[]⟩)) fb 34 (c * 3) (fun j => if j = k * 3 then .string x else if j = k * 3 + 1 then .string jv else if j = k * 3 + 2 then .string ⟨#[]⟩ else g j)) :=
                  ((((HRj.out.alloc _).set (k * 3) (.string x)).set (k * 3 + 1) (.string jv)).set (k * 3 + 2) (.string ⟨#[]⟩)).congr fun j _ => by
                    by_cases a1 : j = k * 3
                    · subst a1; rw [if_neg (by omega), if_neg (by omega), if_pos rfl, if_pos rfl]
                    · by_cases a2 : j = k * 3 + 1
                      · subst a2; rw [if_neg (by omega), if_pos rfl, if_neg (by omega), if_pos rfl]
                      · by_cases a3 : j = k * 3 + 2
                        · subst a3; rw [if_pos rfl, if_neg (by omega), if_neg (by omega), if_pos rfl]
                        · rw [if_neg a3, if_neg a2, if_neg a1, if_neg a1, if_neg a2, if_neg a3]
                have hsj : ∀ j, j < wj.heap.size → j ≠ fb → ((((wj.alloc (.cells #[.string x, .string jv, .string ⟨#[]⟩] 34)).setCell ⟨fb, k * 3, none⟩ (.string x)).setCell ⟨fb, k * 3 + 1, none⟩ (.string jv)).setCell ⟨fb, k * 3 + 2, none⟩ (.string ⟨#[]⟩)).heap[j]? = wj.heap[j]? := fun j hj h2 => by
                  rw [blk_setCell_other _ _ _ _ h2, blk_setCell_other _ _ _ _ h2, blk_setCell_other _ _ _ _ h2, blk_alloc_lt _ _ _ hj]
                have HSame : Hid (∀ j, j < W6.heap.size → j ≠ fb → ((((wj.alloc (.cells #[.string x, .string jv, .string ⟨#[]⟩] 34)).setCell ⟨fb, k * 3, none⟩ (.string x)).setCell ⟨fb, k * 3 + 1, none⟩ (.string jv)).setCell ⟨fb, k * 3 + 2, none⟩ (.string ⟨#[]⟩)).heap[j]? = W6.heap[j]?) := fun j hj h2 => (hsj j (Nat.lt_of_lt_of_le hj HBj.out.size) h2).trans (HBj.out.block j hj)
                have hsize : wj.heap.size ≤ ((((wj.alloc (.cells #[.string x, .string jv, .string ⟨#[]⟩] 34)).setCell ⟨fb, k * 3, none⟩ (.string x)).setCell ⟨fb, k * 3 + 1, none⟩ (.string jv)).setCell ⟨fb, k * 3 + 2, none⟩ (.string ⟨#[]⟩)).heap.size := by simp
                have HF8 : Hid (Fr2 mb fb W ((((wj.alloc (.cells #[.string x, .string jv, .string ⟨#[]⟩] 34)).setCell ⟨fb, k * 3, none⟩ (.string x)).setCell ⟨fb, k * 3 + 1, none⟩ (.string jv)).setCell ⟨fb, k * 3 + 2, none⟩ (.string ⟨#[]⟩))) := ⟨(HBj.out.os).trans HB6.out.os, (HBj.out.tape).trans HB6.out.tape, (HBj.out.output).trans HB6.out.output, by have h1 := HB6.out.size; have h2 := HBj.out.size; omega, fun j hj h1 h2 => (HSame.out j (by have := HB6.out.size; omega) h2).trans (HB6.out.block j (by omega))⟩
                generalize ((((wj.alloc (.cells #[.string x, .string jv, .string ⟨#[]⟩] 34)).setCell ⟨fb, k * 3, none⟩ (.string x)).setCell ⟨fb, k * 3 + 1, none⟩ (.string jv)).setCell ⟨fb, k * 3 + 2, none⟩ (.string ⟨#[]⟩)) = W8 at *
                have HL8 : Hid (LF T nmd d mb fb db B5 c fs MV w1 W8 (i + 1) (k + 1) (D :: ds)) := by
                  have hL := HL.out
                  refine hL.app hif hki (f := (x, jv)) ?_ HG.out.2.1 HG.out.2.2 HRow8.out HF8.out (fun j hj h2 => (HSame.out j (by have := HB6.out.size; omega) h2).trans (HB6.out.block j (by omega))) HT.out HZ.out.2.2.2.2 HZ.out.2.2.2.1 (by have := HS.out.2; omega) (HDs.out W6 (Below.refl _ _)).1 ?_
                  · rw [HXY.out, ← HJV.out]; unfold remOneB; rw [if_neg (by rw [HN.out]; simp), if_neg (by rw [HAny.out]; simp), if_neg hr0]
                  · intro E hE
                    have h1 := (HDs.out W6 (Below.refl _ _)).2 E hE
                    exact ⟨(HSame.out E (Array.getElem?_eq_some_iff.1 h1.1).1 (by have := HG1.out.lt; omega)).trans h1.1, h1.2⟩
                clear HRow8 hsj hsize HSame HF8 HRj HBj q0 q1 q2 z0 z1 z2 hfbn
                simp only [onlyN]
                go_wp2_with fail
                refine HK.out _ _ ⟨?_, ?_⟩
                · (repeat apply Exists.intro)
                  refine ⟨?_, HL8.out⟩
                  rfl
                · show n - (i + 1) < n - i
                  omega
        case stop =>
          rintro D c' pre W' _ _ h _
          exact h.elim
    · have hlt' : ¬ (i : Int) < (n : Int) := by omega
      have hin : fs.take i = fs := by
        have h1 := HL.out.le
        have h2 := HZ.out.2.1
        exact List.take_of_length_le (by omega)
      have m4 : W.cell? ⟨mb, 4, none⟩ = some (MV 4) := HL.out.row.cell (i := 4) (by omega)
      have mf := HL.out.row.frozen 4
      go_wp2_with fail
      rw [← HQ.out]
      show LeavesInM _ _ _ _ _ _ _ _ _
      have hL := HL.out
      refine leaves_marks Tryd.f31 _ _ ds _ hL.nd (fun D hD => ?_) (fun W' h1 h2 h3 h4 h5 => ?_)
      · have h1 := hL.dm D hD
        rw [blk_setCell_other _ _ _ _ (by show D ≠ mb; have := HR1.out.lt; omega)]
        exact h1.1
      · have hsame : ∀ j, j < W.heap.size → j ∉ ds → j ≠ mb → W'.heap[j]? = W.heap[j]? := fun j hj hd hm => (h5 j hd).trans (blk_setCell_other _ _ _ _ hm)
        have hnotin : ∀ j, j < w1.heap.size → j ∉ ds := fun j hj hd => by have := (hL.dm j hd).2; omega
        refine ⟨_, results_none rfl _ _ _, ⟨_, rfl⟩, ?_, ?_, ?_⟩
        · obtain ⟨g, hg, k1, -⟩ := hL.fld
          rw [hin] at k1
          exact ⟨g, hg.of_block (hsame fb hg.lt (hnotin fb HG1.out.lt) (Ne.symm hne)), k1⟩
        · have hr := (hL.row.set 4 (.slice (some ⟨fb, 0, none⟩) k c)).of_block (h5 mb (hnotin mb HR1.out.lt))
          have hkk := hL.kk
          rw [hin] at hkk
          rw [← hkk]
          exact hr
        · refine HF1.out.trans ⟨h1.trans hL.fr.os, h2.trans hL.fr.tape, h3.trans hL.fr.output, by rw [h4]; simpa using hL.fr.size, fun j hj b1 b2 => ?_⟩
          rw [hsame j (Nat.lt_of_lt_of_le hj hL.fr.size) (hnotin j hj) b1]
          exact hL.fr.block j hj b1 b2

end Go.Proofs.Qxb6616805aDoor
