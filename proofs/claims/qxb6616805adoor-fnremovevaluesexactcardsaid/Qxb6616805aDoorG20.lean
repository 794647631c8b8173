/- Law 5: removing values, exactly. -/
import Derived.Test.Qxb6616805aDoorG19
import Derived.Test.Qxb6616805aDoorMover
set_option linter.unusedVariables false
set_option linter.unusedSimpArgs false
set_option linter.unnecessarySimpa false
namespace Go.Proofs.Qxb6616805aDoor
open Go.RowKit Go.Shelf Go.Deep
attribute [local go_sem] eql22 eql29 eql23

theorem rB_full {d : ByteArray} {xs : List ByteArray} (h : (rB d xs).length = xs.length) : xs.any (eqd d) = false := by
  rw [List.any_eq_false]
  intro x hx
  have h1 : rB d xs = xs := List.Sublist.eq_of_length List.filter_sublist h
  rw [← h1] at hx
  have := (List.mem_filter.1 hx).2
  simpa using this
theorem rB_some {d : ByteArray} {xs : List ByteArray} (h : (rB d xs).length ≠ xs.length) : xs.any (eqd d) = true := by
  cases he : xs.any (eqd d) with
  | true => rfl
  | false => exact absurd (by rw [rB_all he]) h
theorem rest_sum (d y : ByteArray) (hy : y.size ≤ 1048576) : ((rB d (its y.data.toList)).map fun x => (tl x).length).sum + 2 * (rB d (its y.data.toList)).length ≤ 8388608 := by
  have h0 := rB_map d y.data.toList
  have h2 := filter_sum (fun x => x != d.data.toList) (I.items y.data.toList)
  have h3 := go_sum y.data.toList [] I.s0
  have h4 := its_len y.data.toList
  have h5 : (rB d (its y.data.toList)).length ≤ (its y.data.toList).length := List.length_filter_le _ _
  have h6 := size_list y
  have e : ((rB d (its y.data.toList)).map fun x => (tl x).length) = (I.rest d.data.toList y.data.toList).map List.length := by
    rw [← h0, List.map_map]
    rfl
  rw [e]
  unfold I.rest I.items at *
  simp only [List.length_nil] at h3
  omega
/-- A field of the law's own in a block. -/
def OR (w : World) (ob : Nat) (f : FB) : Prop := w.cell? ⟨ob, 0, none⟩ = some (.string f.1) ∧ w.cell? ⟨ob, 1, none⟩ = some (.string f.2) ∧ w.cell? ⟨ob, 2, none⟩ = some (.string ⟨#[]⟩)
theorem OR.below {w w' : World} {ob : Nat} {f : FB} (h : OR w ob f) (hb : Below w.heap.size w w') : OR w' ob f := ⟨cell_below hb h.1, cell_below hb h.2.1, cell_below hb h.2.2⟩

set_option maxRecDepth 100000 in
set_option maxHeartbeats 8000000 in
theorem law5_any (me ur : ByteArray) (sc : Int) (re : ByteArray) (q : Option Addr) (n c : Nat) (fs : List FB) (bq : Option Addr) (bn bc : Nat) (bz : Nat → Int) (name d : ByteArray) (w : World) (h : NVV w q n c fs) (hy : BY w bq bn bc bz) (hT : Tb w) :
    Calls Tryd.prog 5 #[.string me, .string ur, .int .i64 sc, .string re, .slice q n c, .slice bq bn bc, .string name, .string d] w fun e w' => e = .returned (.bool true) ∧ Below w.heap.size w w' := by
  have HV : Hid (NVV w q n c fs) := h
  have HY : Hid (BY w bq bn bc bz) := hy
  have HT : Hid (Tb w) := hT
  clear h hT hy
  go_enter Tryd.func5, Tryd.ntmps5
  go_wp2_with fail
  refine (zzBytes5_any me ur sc re q n c fs bq bn bc name d w HV.out).mono ?_
  rintro e w1 ⟨⟨r, rfl⟩, rfl⟩
  cases r with
  | false =>
    go_wp2_with fail
    go_ret
    exact ⟨rfl, Below.refl _ _⟩
  | true =>
  by_cases h1 : (1048576 : Int) < (me.size : Int)
  · go_wp2_with fail
    go_ret
    exact ⟨rfl, Below.refl _ _⟩
  by_cases h2 : (1048576 : Int) < (ur.size : Int)
  · go_wp2_with fail
    go_ret
    exact ⟨rfl, Below.refl _ _⟩
  by_cases h3 : (1048576 : Int) < (re.size : Int)
  · go_wp2_with fail
    go_ret
    exact ⟨rfl, Below.refl _ _⟩
  by_cases h4 : (1048576 : Int) < (bn : Int)
  · go_wp2_with fail
    go_ret
    exact ⟨rfl, Below.refl _ _⟩
  by_cases h5 : (1048576 : Int) < (name.size : Int)
  · go_wp2_with fail
    go_ret
    exact ⟨rfl, Below.refl _ _⟩
  by_cases h6 : (1048576 : Int) < (d.size : Int)
  · go_wp2_with fail
    go_ret
    exact ⟨rfl, Below.refl _ _⟩
  go_wp2_with fail
  rw [show ((me.size : Int) + (ur.size : Int) + (re.size : Int) + (bn : Int) + (name.size : Int) + (d.size : Int)) = ((me.size + ur.size + re.size + bn + name.size + d.size : Nat) : Int) from by omega]
  refine (zzOver_any q n c fs (me.size + ur.size + re.size + bn + name.size + d.size) (by omega) w1 HV.out).mono ?_
  rintro e w2 ⟨⟨r, rfl, hr⟩, hb2⟩
  have HB2 : Hid (Below w1.heap.size w1 w2) := hb2
  have HR : Hid (r = false → tot fs ≤ 1048576) := hr
  clear hb2 hr
  cases r with
  | true =>
    go_wp2_with fail
    go_ret
    exact ⟨rfl, HB2.out⟩
  | false =>
  have HK : Hid (tot fs ≤ 1048576) := HR.out rfl
  clear HR
  go_wp2_with fail
  refine (zzIsASCII_any name w2 (by omega)).mono ?_
  rintro e w3 ⟨rfl, rfl⟩
  cases hna : asc name.data.toList with
  | false =>
    go_wp2_with fail
    go_ret
    exact ⟨rfl, HB2.out⟩
  | true =>
  have HA : Hid (asc name.data.toList = true ∧ name.size ≤ 4194304) := ⟨hna, by omega⟩
  clear hna
  have HN : Hid (n = fs.length) := HV.out.len
  have hn : n ≤ 32768 := by have := tot_len fs; have := HK.out; have := HN.out; omega
  have hbn : bn ≤ 1048576 := by omega
  go_wp2_with fail
  refine (zzClone_any q n c fs w3 (HV.out.below HB2.out) (by omega)).mono ?_
  rintro e w4 ⟨⟨q', c', rfl, hV'⟩, hb4⟩
  have HV4 : Hid (NVV w4 q' n c' fs) := hV'
  have HB4 : Hid (Below w1.heap.size w1 w4) := HB2.out.trans (hb4.mono HB2.out.size)
  clear hV' hb4 HV HB2
  go_wp2_with fail
  refine (zzCloneBytes_any bq bn bc bz w4 (HY.out.below HB4.out) (by omega)).mono ?_
  rintro e w5 ⟨⟨bq', bc', rfl, hY', hnn, -⟩, hb5⟩
  have HV5 : Hid (NVV w5 q' n c' fs) := HV4.out.below hb5
  have HY5 : Hid (BY w5 bq' bn bc' bz) := hY'
  have HB5 : Hid (Below w1.heap.size w1 w5) := HB4.out.trans (hb5.mono HB4.out.size)
  clear hY' hb5 HV4 HB4 HY hnn
  go_wp2_with fail
  go_loopg [17, 18] n (fun g v17 v18 wr => ∃ i : Nat, g = n - i ∧ i ≤ n ∧ v18 = .int .i64 (i : Int) ∧ Hid (OF wr w5.heap.size v17 (remB (nmd name) d (fs.take i)) ∧ Below w5.heap.size w5 wr))
  case atStart => exact ⟨0, by omega, by omega, rfl, OF.nil _ _, Below.refl _ _⟩
  case round =>
    obtain ⟨i, hg, hi, rfl, HL⟩ := hrel
    have HG : Hid (gk = n - i) := hg
    clear hg
    by_cases hlt : i < n
    · have hlt' : (i : Int) < (n : Int) := by omega
      have hfi : i < fs.length := by have := HN.out; omega
      obtain ⟨p, rfl⟩ := HV5.out.ptr (by omega)
      have HZ : Hid (fs[i].1.size ≤ 1048576 ∧ fs[i].2.size ≤ 1048576) := tot_sizes HK.out _ (List.getElem_mem hfi)
      have HRM : Hid (remB (nmd name) d (fs.take (i + 1)) = remB (nmd name) d (fs.take i) ++ remOneB (nmd name) d fs[i]) := remB_take (nmd name) d fs i hfi
      have HLen : Hid ((remB (nmd name) d (fs.take i)).length ≤ 1048576) := by
        show _ ≤ _
        have h1 := remB_len (nmd name) d (fs.take i)
        have h2 : (fs.take i).length ≤ fs.length := List.length_take_le' _ _
        have := HN.out
        omega
      go_wp2_with fail
      have HL6 : Hid (OF { wr with drawn := wr.drawn + 1 } w5.heap.size u17 (remB (nmd name) d (fs.take i)) ∧ Below w5.heap.size w5 { wr with drawn := wr.drawn + 1 }) := ⟨HL.out.1.below ⟨rfl, rfl, rfl, Nat.le_refl _, fun _ _ => rfl⟩, HL.out.2.trans ⟨rfl, rfl, rfl, Nat.le_refl _, fun _ _ => rfl⟩⟩
      clear HL
      generalize hwd : ({ wr with drawn := wr.drawn + 1 } : World) = wd at *
      have HC : Hid (NVV wd (some p) n c' fs) := HV5.out.below HL6.out.2
      obtain ⟨x, hx⟩ : ∃ x, x = fs[i].1 := ⟨_, rfl⟩
      obtain ⟨y, hy⟩ : ∃ y, y = fs[i].2 := ⟨_, rfl⟩
      refine wp_region_movers 12 [11] (fun m V w' => (V 0 = .slice (some p) n c' ∧ V 1 = .int .i64 (i : Int) ∧ V 2 = .pointer (some (p.add (i * 2))) ∧ V 3 = .pointer (some (p.add (i * 2))) ∧ V 4 = .string x ∧ V 5 = .slice (some p) n c' ∧ V 6 = .int .i64 (i : Int) ∧ V 7 = .pointer (some (p.add (i * 2))) ∧ V 8 = .pointer (some { block := (p.add (i * 2)).block, off := (p.add (i * 2)).off + 1 }) ∧ V 9 = .string y ∧ V 10 = .agg #[.string x, .string y, .string ⟨#[]⟩] ∧ V 11 = .pointer (some ⟨wd.heap.size, 0, none⟩)) ∧ ((m = 0 ∧ w' = wd) ∨ (m = 1 ∧ w' = wd.alloc (.cells #[.string ⟨#[]⟩, .string ⟨#[]⟩, .string ⟨#[]⟩] 34))))
        (fun k => if k = 0 then .slice (some p) n c' else if k = 1 then .int .i64 (i : Int) else if k = 2 then .pointer (some (p.add (i * 2))) else if k = 3 then .pointer (some (p.add (i * 2))) else if k = 4 then .string x else if k = 5 then .slice (some p) n c' else if k = 6 then .int .i64 (i : Int) else if k = 7 then .pointer (some (p.add (i * 2))) else if k = 8 then .pointer (some { block := (p.add (i * 2)).block, off := (p.add (i * 2)).off + 1 }) else if k = 9 then .string y else if k = 10 then .agg #[.string x, .string y, .string ⟨#[]⟩] else .pointer (some ⟨wd.heap.size, 0, none⟩))
        (by kernel_rfl) (by kernel_rfl) ⟨⟨rfl, rfl, rfl, rfl, rfl, rfl, rfl, rfl, rfl, rfl, rfl, rfl⟩, Or.inl ⟨rfl, hwd⟩⟩ ?_
      simp only [List.take_succ_cons, List.take_zero, List.drop_succ_cons, List.drop_zero]
      have HCC : Hid (∀ w', (w' = wd ∨ w' = wd.alloc (.cells #[.string ⟨#[]⟩, .string ⟨#[]⟩, .string ⟨#[]⟩] 34)) → w'.cell? (p.add (i * 2)) = some (.string x) ∧ w'.cell? { block := (p.add (i * 2)).block, off := (p.add (i * 2)).off + 1 } = some (.string y)) := by
        intro w' hw'
        have hb : Below wd.heap.size wd w' := by
          rcases hw' with rfl | rfl
          · exact Below.refl _ _
          · exact (Below.refl _ wd).alloc (Nat.le_refl _) _
        have := (HC.out.below hb).at' p rfl i hfi
        rw [hx, hy]
        exact this
      clear hwd
      iterate 11
        refine obs_pure (by decide) (by
          rintro m V w' ⟨⟨e0, e1, e2, e3, e4, e5, e6, e7, e8, e9, e10, e11⟩, hw'⟩
          obtain ⟨k0, k1⟩ := HCC.out w' (by rcases hw' with ⟨_, h⟩ | ⟨_, h⟩ <;> simp [h])
          clear hw'
          go_simp) (fun K0 hK0 => ?_)
        go_simp
        refine hK0 _ ?_
        clear hK0 K0
      refine obs_make 0 (by decide) (by decide) (by
        rintro V w' ⟨⟨e0, e1, e2, e3, e4, e5, e6, e7, e8, e9, e10, e11⟩, hw'⟩
        have hw2 : w' = wd := by rcases hw' with ⟨_, h⟩ | ⟨h, _⟩; exact h; cases h
        subst hw2
        exact ⟨_, by go_simp, ⟨⟨e0, e1, e2, e3, e4, e5, e6, e7, e8, e9, e10, e11⟩, Or.inr ⟨rfl, rfl⟩⟩⟩) (fun K0 hK0 => ?_)
      go_simp
      refine hK0 _ ?_
      clear hK0 K0
      refine obs_nil ?_
      rintro V w' ⟨⟨e0, e1, e2, e3, e4, e5, e6, e7, e8, e9, e10, e11⟩, hw'⟩
      have hw2 : w' = wd.alloc (.cells #[.string ⟨#[]⟩, .string ⟨#[]⟩, .string ⟨#[]⟩] 34) := by rcases hw' with ⟨h, _⟩ | ⟨_, h⟩; cases h; exact h
      subst hw2
      clear hw'
      simp only [e0, e1, e2, e3, e4, e5, e6, e7, e8, e9, e10, e11]
      clear e0 e1 e2 e3 e4 e5 e6 e7 e8 e9 e10 e11
      have HB6 : Hid (Below wd.heap.size wd (wd.alloc (.cells #[.string ⟨#[]⟩, .string ⟨#[]⟩, .string ⟨#[]⟩] 34))) := (Below.refl _ wd).alloc (Nat.le_refl _) _
      have HW6 : Hid ((wd.alloc (.cells #[.string ⟨#[]⟩, .string ⟨#[]⟩, .string ⟨#[]⟩] 34)).rowIs wd.heap.size 34 3 (fun j => #[Value.string ⟨#[]⟩, .string ⟨#[]⟩, .string ⟨#[]⟩].getD j undef)) := row_new wd _ 34 3 rfl
      generalize wd.alloc (.cells #[.string ⟨#[]⟩, .string ⟨#[]⟩, .string ⟨#[]⟩] 34) = wo at *
      refine wpList_storeRow 34 34 wd.heap.size 0 3 3 _ (fun j => if j = 0 then .string x else if j = 1 then .string y else .string ⟨#[]⟩) _ _ _ rfl rfl rfl rfl HW6.out (by rfl) (by kernel_rfl) (by omega) (fun j hj => ?_) (fun j hj => by split <;> (try split) <;> rfl) ?_
      · match j, hj with
        | 0, _ => rfl
        | 1, _ => rfl
        | 2, _ => rfl
      intro w6 r1 r2 r3
      obtain ⟨ob, hob⟩ : ∃ ob, ob = wd.heap.size := ⟨_, rfl⟩
      rw [← hob] at r1 ⊢
      have HO6 : Hid (OR w6 ob fs[i] ∧ Below wd.heap.size wd w6) := by
        refine ⟨⟨?_, ?_, ?_⟩, r2.belowOf HB6.out (Nat.le_refl _) (Nat.le_refl _)⟩
        · rw [r1.cell (i := 0) (by omega), ← hx]; rfl
        · rw [r1.cell (i := 1) (by omega), ← hy]; rfl
        · rw [r1.cell (i := 2) (by omega)]; rfl
      clear r1 r2 r3 hob HW6 HB6 HCC
      subst hx
      subst hy
      have HL7 : Hid (OF w6 w5.heap.size u17 (remB (nmd name) d (fs.take i)) ∧ Below w5.heap.size w5 w6 ∧ NVV w6 (some p) n c' fs) := ⟨HL6.out.1.below HO6.out.2, HL6.out.2.trans (HO6.out.2.mono HL6.out.2.size), HC.out.below HO6.out.2⟩
      have HO7 : Hid (OR w6 ob fs[i]) := HO6.out.1
      clear HL6 HO6 HC
      obtain ⟨c0, c1⟩ := HL7.out.2.2.at' p rfl i hfi
      go_wp2_with fail
      refine (zzNamed_any fs[i].1 name w6 (by have := HZ.out; omega)).mono ?_
      rintro e w7 ⟨rfl, hb7⟩
      have HL8 : Hid (OF w7 w5.heap.size u17 (remB (nmd name) d (fs.take i)) ∧ Below w5.heap.size w5 w7 ∧ NVV w7 (some p) n c' fs ∧ OR w7 ob fs[i]) := ⟨HL7.out.1.below hb7, HL7.out.2.1.trans (hb7.mono HL7.out.2.1.size), HL7.out.2.2.below hb7, HO7.out.below hb7⟩
      clear HL7 HO7 hb7 c0 c1
      cases hnm : nmd name fs[i].1.data.toList with
      | false =>
        have HRM2 : Hid (remB (nmd name) d (fs.take (i + 1)) = remB (nmd name) d (fs.take i) ++ [fs[i]]) := by
          show _ = _
          rw [HRM.out]
          unfold remOneB
          rw [if_pos hnm]
        clear hnm HRM
        obtain ⟨o0, o1, o2⟩ := HL8.out.2.2.2
        go_upto_region 17 with fail
        apply wp_region_lit
        iterate 3 (refine wpList_plain rfl fun K0 hK0 => ?_; go_simp; refine hK0 _ _ ?_; clear hK0 K0)
        refine of_push _ _ u17 (remB (nmd name) d (fs.take i)) fs[i] rfl _ w7 HL8.out.1 HL8.out.2.1.size rfl (by have := HLen.out; omega) ?_
        intro g cap wa hS hBe hGr
        rw [← HRM2.out] at hS
        have HL9 : Hid (OF wa w5.heap.size (.slice (some ⟨g, 0, none⟩) ((remB (nmd name) d (fs.take i)).length + 1) cap) (remB (nmd name) d (fs.take (i + 1))) ∧ Below w5.heap.size w5 wa) := ⟨hS, HL8.out.2.1.trans hBe⟩
        clear hS hBe hGr HL8 o0 o1 o2
        generalize (remB (nmd name) d (fs.take i)).length + 1 = L at *
        go_wp2_with fail
        go_roundg (n - (i + 1))
        case measure => rw [HG.out]; omega
        case rel => exact ⟨i + 1, rfl, by omega, by go_num, HL9⟩
      | true =>
        obtain ⟨c0, c1⟩ := HL8.out.2.2.1.at' p rfl i hfi
        go_wp2_with fail
        refine (zzItems_any fs[i].2 w7 (by have := HZ.out; omega)).mono ?_
        rintro e w8 ⟨⟨v, rfl, hS⟩, hb8⟩
        have HI8 : Hid (LI w7.heap.size w7 [] [] (its fs[i].2.data.toList) (.slice none 0 0) (.slice none 0 0) v w8) := LI.start ⟨SR.nil _ _, OF.nil _ _, Below.refl _ _, Nat.le_refl _⟩ hb8 hS
        obtain ⟨q2, c2, hv⟩ := hS.slice
        have HM : Hid ((its fs[i].2.data.toList).length ≤ 1048577) := by
          show _ ≤ _
          have h1 := its_len fs[i].2.data.toList
          rw [← size_list] at h1
          have := HZ.out
          omega
        clear hS hb8 c0 c1
        subst hv
        obtain ⟨xs, hxs⟩ : ∃ xs, xs = its fs[i].2.data.toList := ⟨_, rfl⟩
        rw [← hxs] at HI8 HM ⊢
        have HXS : Hid (xs = its fs[i].2.data.toList) := hxs
        clear hxs
        obtain ⟨m, HMM⟩ : ∃ m, Hid (xs.length = m) := ⟨_, rfl⟩
        rw [HMM.out] at HI8 ⊢
        have hm : m ≤ 1048577 := by have := HM.out; have := HMM.out; omega
        have HNM : Hid (nmd name fs[i].1.data.toList = true) := hnm
        clear hnm
        go_wp2_with fail
        go_loopg [21, 22] m (fun g v21 v22 wr => ∃ j : Nat, g = m - j ∧ j ≤ m ∧ v22 = .int .i64 (j : Int) ∧ Hid (LI w7.heap.size w7 (rB d (xs.take j)) [] xs v21 (.slice none 0 0) (.slice q2 m c2) wr))
        case atStart =>
          refine ⟨0, by omega, by omega, rfl, ?_⟩
          show LI _ _ _ _ _ _ _ _ _
          rw [List.take_zero, show rB d [] = [] from rfl]
          exact HI8.out
        case round =>
          obtain ⟨j, hg, hj, rfl, HJ⟩ := hrel
          have HGj : Hid (gk = m - j) := hg
          clear hg
          by_cases hjlt : j < m
          · have hjlt' : (j : Int) < (m : Int) := by omega
            have hjx : j < xs.length := by have := HMM.out; omega
            obtain ⟨b, hq2, hc⟩ := HJ.out.it.at' j hjx
            have HTK : Hid (rB d (xs.take (j + 1)) = rB d (xs.take j) ++ (if eqd d xs[j] = true then [] else [xs[j]])) := take_rB d xs j hjx
            have HRl : Hid ((rB d (xs.take j)).length ≤ 1048577) := by
              show _ ≤ _
              refine Nat.le_trans (List.length_filter_le _ _) (Nat.le_trans (List.length_take_le' _ _) ?_)
              have := HMM.out
              omega
            subst hq2
            generalize xs[j] = z at *
            cases he : eqd d z with
            | true =>
              have he' : (z.toList == d.toList) = true := he
              have HTK2 : Hid (rB d (xs.take (j + 1)) = rB d (xs.take j)) := by
                show _ = _
                rw [HTK.out, if_pos he, List.append_nil]
              clear he HTK
              go_wp2_with fail
              go_roundg (m - (j + 1))
              case measure => rw [HGj.out]; omega
              case rel => exact ⟨j + 1, rfl, by omega, by go_num, by show LI _ _ _ _ _ _ _ _ _; rw [HTK2.out]; exact HJ.out⟩
            | false =>
              have he' : (z.toList == d.toList) = false := he
              have HTK2 : Hid (rB d (xs.take (j + 1)) = rB d (xs.take j) ++ [z]) := by
                show _ = _
                rw [HTK.out, if_neg (by rw [he]; simp)]
              clear he HTK
              go_upto_region 24 with fail
              apply wp_region_lit
              iterate 6 (refine wpList_plain rfl fun K0 hK0 => ?_; go_simp; refine hK0 _ _ ?_; clear hK0 K0)
              refine sr_push_at _ _ u21 (rB d (xs.take j)) z rfl _ wr HJ.out.ll.wi (Nat.le_trans HJ.out.ll.le HJ.out.ll.be.size) rfl (by have := HRl.out; omega) ?_
              intro g cap wa hS hBe hGr hAt
              have HJ2 := HJ.out.push hS hBe hGr hAt
              rw [← HTK2.out] at HJ2
              have HJ3 : Hid _ := HJ2
              clear HJ2 hS hBe hGr hAt HTK2 HJ hc
              generalize (rB d (xs.take j)).length + 1 = L at *
              go_wp2_with fail
              go_roundg (m - (j + 1))
              case measure => rw [HGj.out]; omega
              case rel => exact ⟨j + 1, rfl, by omega, by go_num, HJ3⟩
          · have hjlt' : ¬ (j : Int) < (m : Int) := by omega
            have HJ2 : Hid (LI w7.heap.size w7 (rB d xs) [] xs u21 (.slice none 0 0) (.slice q2 m c2) wr) := by
              show LI _ _ _ _ _ _ _ _ _
              have h1 := HJ.out
              rw [show xs.take j = xs from List.take_of_length_le (by have := HMM.out; omega)] at h1
              exact h1
            clear HJ
            obtain ⟨q21, c21, hv21⟩ := HJ2.out.ll.wi.slice
            obtain ⟨m2, HM2⟩ : ∃ m2, Hid ((rB d xs).length = m2) := ⟨_, rfl⟩
            rw [HM2.out] at hv21
            subst hv21
            have hm2 : m2 ≤ m := by
              have h1 : (rB d xs).length ≤ xs.length := List.length_filter_le _ _
              have := HM2.out
              have := HMM.out
              omega
            have HL9 : Hid (OF wr w5.heap.size u17 (remB (nmd name) d (fs.take i)) ∧ Below w5.heap.size w5 wr ∧ NVV wr (some p) n c' fs ∧ OR wr ob fs[i] ∧ SR wr w7.heap.size (.slice q21 m2 c21) (rB d xs)) := ⟨HL8.out.1.below HJ2.out.ll.be, HL8.out.2.1.trans (HJ2.out.ll.be.mono HL8.out.2.1.size), HL8.out.2.2.1.below HJ2.out.ll.be, HL8.out.2.2.2.below HJ2.out.ll.be, HJ2.out.ll.wi⟩
            clear HL8 HJ2 HI8
            by_cases hme : m2 = m
            · have HRM2 : Hid (remB (nmd name) d (fs.take (i + 1)) = remB (nmd name) d (fs.take i) ++ [fs[i]]) := by
                show _ = _
                rw [HRM.out]
                unfold remOneB
                rw [if_neg (by rw [HNM.out]; simp), if_pos]
                rw [← HXS.out]
                exact rB_full (by have := HM2.out; have := HMM.out; omega)
              have hme' : ((m2 : Int) == (m : Int)) = true := by simp; omega
              obtain ⟨o0, o1, o2⟩ := HL9.out.2.2.2.1
              go_upto_region 26 with fail
              apply wp_region_lit
              iterate 3 (refine wpList_plain rfl fun K0 hK0 => ?_; go_simp; refine hK0 _ _ ?_; clear hK0 K0)
              refine of_push _ _ u17 (remB (nmd name) d (fs.take i)) fs[i] rfl _ wr HL9.out.1 HL9.out.2.1.size rfl (by have := HLen.out; omega) ?_
              intro g cap wa hS hBe hGr
              rw [← HRM2.out] at hS
              have HL10 : Hid (OF wa w5.heap.size (.slice (some ⟨g, 0, none⟩) ((remB (nmd name) d (fs.take i)).length + 1) cap) (remB (nmd name) d (fs.take (i + 1))) ∧ Below w5.heap.size w5 wa) := ⟨hS, HL9.out.2.1.trans hBe⟩
              clear hS hBe hGr HL9 o0 o1 o2
              generalize (remB (nmd name) d (fs.take i)).length + 1 = L at *
              go_wp2_with fail
              go_roundg (n - (i + 1))
              case measure => rw [HG.out]; omega
              case rel => exact ⟨i + 1, rfl, by omega, by go_num, HL10⟩
            · have hme' : ((m2 : Int) == (m : Int)) = false := by simp; omega
              by_cases hm0 : m2 = 0
              · have HRM2 : Hid (remB (nmd name) d (fs.take (i + 1)) = remB (nmd name) d (fs.take i)) := by
                  show _ = _
                  rw [HRM.out]
                  unfold remOneB
                  rw [if_neg (by rw [HNM.out]; simp), if_neg, if_pos, List.append_nil]
                  · rw [← HXS.out]
                    exact List.eq_nil_of_length_eq_zero (by have := HM2.out; omega)
                  · rw [← HXS.out, rB_some (by have := HM2.out; have := HMM.out; omega)]
                    simp
                have hm0' : ¬ ((0 : Int) < (m2 : Int)) := by omega
                have HL10 : Hid (OF wr w5.heap.size u17 (remB (nmd name) d (fs.take (i + 1))) ∧ Below w5.heap.size w5 wr) := ⟨by rw [HRM2.out]; exact HL9.out.1, HL9.out.2.1⟩
                clear HL9
                go_wp2_with fail
                go_roundg (n - (i + 1))
                case measure => rw [HG.out]; omega
                case rel => exact ⟨i + 1, rfl, by omega, by go_num, HL10⟩
              · have hm0' : (0 : Int) < (m2 : Int) := by omega
                have HRM2 : Hid (remB (nmd name) d (fs.take (i + 1)) = remB (nmd name) d (fs.take i) ++ [(fs[i].1, bs (I.join ((rB d xs).map tl)))]) := by
                  show _ = _
                  rw [HRM.out]
                  unfold remOneB
                  rw [if_neg (by rw [HNM.out]; simp), if_neg, if_neg, HXS.out]
                  · rfl
                  · rw [← HXS.out]
                    intro e
                    have h1 := HM2.out
                    rw [e] at h1
                    exact hm0 h1.symm
                  · rw [← HXS.out, rB_some (by have := HM2.out; have := HMM.out; omega)]
                    simp
                go_wp2_with fail
                have HL10 : Hid (OF { wr with drawn := wr.drawn + 1 } w5.heap.size u17 (remB (nmd name) d (fs.take i)) ∧ Below w5.heap.size w5 { wr with drawn := wr.drawn + 1 } ∧ NVV { wr with drawn := wr.drawn + 1 } (some p) n c' fs ∧ SR { wr with drawn := wr.drawn + 1 } w7.heap.size (.slice q21 m2 c21) (rB d xs)) := by
                  have hb : Below wr.heap.size wr { wr with drawn := wr.drawn + 1 } := ⟨rfl, rfl, rfl, Nat.le_refl _, fun _ _ => rfl⟩
                  exact ⟨HL9.out.1.below hb, HL9.out.2.1.trans (hb.mono HL9.out.2.1.size), HL9.out.2.2.1.below hb, HL9.out.2.2.2.2.below hb⟩
                clear HL9
                generalize hwd : ({ wr with drawn := wr.drawn + 1 } : World) = wd at *
                have HJN : Hid (∀ w', w' = wd → Calls Tryd.prog 21 #[.slice q21 m2 c21] w' fun e w'' => e = .returned (.string (bs (I.join ((rB d xs).map tl)))) ∧ Below w'.heap.size w' w'') := by
                  rintro w' rfl
                  exact zzJoin_any q21 m2 c21 (rB d xs) w' HL10.out.2.2.2.sv (by rw [HXS.out]; exact rest_sum d fs[i].2 HZ.out.2)
                obtain ⟨J, hJ⟩ : ∃ J, J = bs (I.join ((rB d xs).map tl)) := ⟨_, rfl⟩
                rw [← hJ] at HJN HRM2
                clear hJ
                have HCC : Hid (∀ w', Below wd.heap.size wd w' → w'.cell? (p.add (i * 2)) = some (.string fs[i].1)) := fun w' hb => ((HL10.out.2.2.1.below hb).at' p rfl i hfi).1
                obtain ⟨x, hx⟩ : ∃ x, x = fs[i].1 := ⟨_, rfl⟩
                rw [← hx] at HCC
                refine wp_region_movers 10 [7, 9] (fun m V w' => (V 0 = u17 ∧ V 1 = .slice (some p) n c' ∧ V 2 = .int .i64 (i : Int) ∧ V 3 = .pointer (some (p.add (i * 2))) ∧ V 4 = .pointer (some (p.add (i * 2))) ∧ V 5 = .string x ∧ V 6 = .slice q21 m2 c21 ∧ V 7 = .string J ∧ V 8 = .agg #[.string x, .string J, .string ⟨#[]⟩]) ∧ Below wd.heap.size wd w' ∧
                    ((m = 0 ∧ w' = wd) ∨ (m = 1 ∧ V 9 = .slice (some ⟨w'.heap.size, 0, none⟩) 1 1) ∨ (m = 2 ∧ ∃ g, Below wd.heap.size wd g ∧ w' = g.alloc (.cells #[.string x, .string J, .string ⟨#[]⟩] 34) ∧ V 9 = .slice (some ⟨g.heap.size, 0, none⟩) 1 1)))
                  (fun k => if k = 0 then u17 else if k = 1 then .slice (some p) n c' else if k = 2 then .int .i64 (i : Int) else if k = 3 then .pointer (some (p.add (i * 2))) else if k = 4 then .pointer (some (p.add (i * 2))) else if k = 5 then .string x else if k = 6 then .slice q21 m2 c21 else if k = 7 then .string J else .agg #[.string x, .string J, .string ⟨#[]⟩])
                  (by kernel_rfl) (by kernel_rfl) ⟨⟨rfl, rfl, rfl, rfl, rfl, rfl, rfl, rfl, rfl⟩, by rw [hwd]; exact Below.refl _ _, Or.inl ⟨rfl, hwd⟩⟩ ?_
                simp only [List.take_succ_cons, List.take_zero, List.drop_succ_cons, List.drop_zero]
                clear hwd
                iterate 7
                  refine obs_pure (by decide) (by
                    rintro m V w' ⟨⟨e0, e1, e2, e3, e4, e5, e6, e7, e8⟩, hb', hw'⟩
                    have k0 := HCC.out w' hb'
                    clear hw' hb'
                    go_simp) (fun K0 hK0 => ?_)
                  go_simp
                  refine hK0 _ ?_
                  clear hK0 K0
                refine obs_call 0 (by decide) (by decide) (by
                  rintro V w' ⟨⟨e0, e1, e2, e3, e4, e5, e6, e7, e8⟩, hb', hw'⟩
                  have hw2 : w' = wd := by
                    rcases hw' with ⟨_, h⟩ | ⟨h, _⟩ | ⟨h, _⟩
                    · exact h
                    · cases h
                    · cases h
                  clear hw'
                  refine ⟨21, #[.slice q21 m2 c21], by go_simp, ?_⟩
                  refine (HJN.out w' hw2).mono ?_
                  rintro e w'' ⟨rfl, hb''⟩
                  refine ⟨fun j => if j = 9 then .slice (some ⟨w''.heap.size, 0, none⟩) 1 1 else V j, ?_, ⟨⟨e0, e1, e2, e3, e4, e5, e6, e7, e8⟩, ?_, Or.inr (Or.inl ⟨rfl, rfl⟩)⟩, fun j hj hr => if_neg (fun ej => ?_)⟩
                  · show _ = Ending.returned (V 7)
                    rw [e7]
                  · exact hb'.trans (hb''.mono hb'.size)
                  · subst ej
                    exact absurd (Eq.trans (Eq.symm (by kernel_rfl)) hr : true = false) (by decide)) (fun K0 hK0 => ?_)
                go_simp
                refine hK0 _ ?_
                clear hK0 K0
                refine obs_pure (by decide) (by
                  rintro m V w' ⟨⟨e0, e1, e2, e3, e4, e5, e6, e7, e8⟩, hb', hw'⟩
                  clear hw' hb'
                  go_simp) (fun K0 hK0 => ?_)
                go_simp
                refine hK0 _ ?_
                clear hK0 K0
                refine obs_make 1 (by decide) (by decide) (by
                  rintro V w' ⟨⟨e0, e1, e2, e3, e4, e5, e6, e7, e8⟩, hb', hw'⟩
                  have e9 : V 9 = .slice (some ⟨w'.heap.size, 0, none⟩) 1 1 := by
                    rcases hw' with ⟨h, _⟩ | ⟨_, h⟩ | ⟨h, _⟩
                    · cases h
                    · exact h
                    · cases h
                  clear hw'
                  exact ⟨w'.alloc (.cells #[.string x, .string J, .string ⟨#[]⟩] 34), by go_simp, ⟨⟨e0, e1, e2, e3, e4, e5, e6, e7, e8⟩, hb'.alloc hb'.size _, Or.inr (Or.inr ⟨rfl, w', hb', rfl, e9⟩)⟩⟩) (fun K0 hK0 => ?_)
                go_simp
                refine hK0 _ ?_
                clear hK0 K0
                refine obs_nil ?_
                rintro V w' ⟨⟨e0, e1, e2, e3, e4, e5, e6, e7, e8⟩, hb', hw'⟩
                obtain ⟨g0, hg0, hw2, e9⟩ : ∃ g, Below wd.heap.size wd g ∧ w' = g.alloc (.cells #[.string x, .string J, .string ⟨#[]⟩] 34) ∧ V 9 = .slice (some ⟨g.heap.size, 0, none⟩) 1 1 := by
                  rcases hw' with ⟨h, _⟩ | ⟨h, _⟩ | ⟨_, h⟩
                  · cases h
                  · cases h
                  · exact h
                clear hw'
                subst hw2
                simp only [e0, e1, e2, e3, e4, e5, e6, e7, e8, e9]
                clear e0 e1 e2 e3 e4 e5 e6 e7 e8 e9
                subst hx
                have HLg : Hid (OF g0 w5.heap.size u17 (remB (nmd name) d (fs.take i)) ∧ Below w5.heap.size w5 g0) := ⟨HL10.out.1.below hg0, HL10.out.2.1.trans (hg0.mono HL10.out.2.1.size)⟩
                clear hg0 hb' HL10
                refine of_push _ _ u17 (remB (nmd name) d (fs.take i)) (fs[i].1, J) rfl _ g0 HLg.out.1 HLg.out.2.size rfl (by have := HLen.out; omega) ?_
                intro g cap wa hS hBe hGr
                rw [← HRM2.out] at hS
                have HL11 : Hid (OF wa w5.heap.size (.slice (some ⟨g, 0, none⟩) ((remB (nmd name) d (fs.take i)).length + 1) cap) (remB (nmd name) d (fs.take (i + 1))) ∧ Below w5.heap.size w5 wa) := ⟨hS, HLg.out.2.trans hBe⟩
                clear hS hBe hGr HLg HCC HJN
                generalize (remB (nmd name) d (fs.take i)).length + 1 = L at *
                go_wp2_with fail
                go_roundg (n - (i + 1))
                case measure => rw [HG.out]; omega
                case rel => exact ⟨i + 1, rfl, by omega, by go_num, HL11⟩
    · have hlt' : ¬ (i : Int) < (n : Int) := by omega
      have HE : Hid (OF wr w5.heap.size u17 (remB (nmd name) d fs) ∧ Below w5.heap.size w5 wr) := by
        have h1 := HL.out
        rw [show fs.take i = fs from List.take_of_length_le (by have := HN.out; omega)] at h1
        exact h1
      clear HL HG hlt
      have HY0 : Hid (BY wr bq' bn bc' bz) := HY5.out.below HE.out.2
      have HZ : Hid (∀ f ∈ fs, f.1.size ≤ 1048576 ∧ f.2.size ≤ 1048576) := tot_sizes HK.out
      have HBr : Hid (Below w1.heap.size w1 wr) := HB5.out.trans (HE.out.2.mono HB5.out.size)
      go_wp2_with fail
      refine (zzBuild_any q' n c' fs wr (HV5.out.below HE.out.2) (by omega)).mono ?_
      rintro e w6 ⟨⟨v, rfl, hF6, hO6⟩, hb6⟩
      obtain ⟨q6, c6, hv6, -⟩ := hF6.slice
      have HF6 : Hid (FV w6 v fs ∧ (∀ b, v.ownBlock = some b → wr.heap.size ≤ b ∧ b < w6.heap.size) ∧ Below wr.heap.size wr w6) := ⟨hF6, fun b hb => ⟨hO6 b hb, hF6.lt b hb⟩, hb6⟩
      have HN6 : Hid (fs.length = n) := HN.out.symm
      rw [HN6.out] at hv6
      subst hv6
      clear hF6 hO6 hb6
      have HY6 : Hid (BY w6 bq' bn bc' bz) := (HY5.out.below HE.out.2).below HF6.out.2.2
      go_wp2_with fail
      refine (zzCloneBytes_any bq' bn bc' bz w6 HY6.out (by omega)).mono ?_
      rintro e w7 ⟨⟨bq2, bc2, rfl, hY7, hnn, hpl⟩, hb7⟩
      have HY7 : Hid (BY w7 bq2 bn bc2 bz ∧ bq2.isNone = bq'.isNone ∧ (∀ p, bq2 = some p → p.block = w6.heap.size ∧ w6.heap.size < w7.heap.size) ∧ BY w7 bq' bn bc' bz) := ⟨hY7, hnn, hpl, HY6.out.below hb7⟩
      have HF7 : Hid (FV w7 (.slice q6 n c6) fs ∧ Below wr.heap.size wr w7 ∧ w6.heap.size ≤ w7.heap.size) := ⟨HF6.out.1.below hb7, HF6.out.2.2.trans (hb7.mono HF6.out.2.2.size), hb7.size⟩
      clear hY7 hnn hpl hb7 HY6 HY5
      go_upto_region 30 with fail
      have HB8 : Hid (Below w7.heap.size w7 (w7.alloc (.cells #[.string me, .string ur, .int .i64 sc, .string re, .slice q6 n c6, .slice bq2 bn bc2] 38))) := (Below.refl _ w7).alloc (Nat.le_refl _) _
      have HR8 : Hid ((w7.alloc (.cells #[.string me, .string ur, .int .i64 sc, .string re, .slice q6 n c6, .slice bq2 bn bc2] 38)).rowIs w7.heap.size 38 6 (fun j => #[Value.string me, .string ur, .int .i64 sc, .string re, .slice q6 n c6, .slice bq2 bn bc2].getD j undef)) := row_new w7 _ 38 6 rfl
      generalize w7.alloc (.cells #[.string me, .string ur, .int .i64 sc, .string re, .slice q6 n c6, .slice bq2 bn bc2] 38) = w8 at *
      obtain ⟨MV, HMV⟩ : ∃ MV : Nat → Value, Hid (w8.rowIs w7.heap.size 38 6 MV ∧ MV 4 = .slice q6 n c6 ∧ MV 0 = .string me ∧ MV 1 = .string ur ∧ MV 2 = .int .i64 sc ∧ MV 3 = .string re ∧ MV 5 = .slice bq2 bn bc2) := ⟨_, HR8.out, rfl, rfl, rfl, rfl, rfl, rfl⟩
      clear HR8
      obtain ⟨mb, hmb⟩ : ∃ mb, mb = w7.heap.size := ⟨_, rfl⟩
      rw [← hmb] at HMV ⊢
      have HM : Hid (mb = w7.heap.size) := hmb
      clear hmb
      have HS8 : Hid (wr.heap.size ≤ mb ∧ w1.heap.size ≤ wr.heap.size ∧ mb < w8.heap.size ∧ (∀ b, (Value.slice q6 n c6).ownBlock = some b → wr.heap.size ≤ b ∧ w1.heap.size ≤ b ∧ b ≠ mb)) := by
        refine ⟨by rw [HM.out]; exact HF7.out.2.1.size, HBr.out.size, HMV.out.1.lt, fun b hb => ?_⟩
        have h1 := HF6.out.2.1 b hb
        have h2 := HBr.out.size
        have h3 := HM.out
        have h4 := HF7.out.2.2
        exact ⟨h1.1, by omega, by omega⟩
      have HO8 : Hid (Below w1.heap.size w1 w8 ∧ Below wr.heap.size wr w8) := by
        have h6 := HF7.out.2.1.trans (HB8.out.mono HF7.out.2.1.size)
        exact ⟨HBr.out.trans (h6.mono HBr.out.size), h6⟩
      go_wp2_with fail
      refine (zzRemove_any w1 mb MV (.slice q6 n c6) fs name d w8 HT.out ⟨HO8.out.1.size, HO8.out.1.block⟩ HMV.out.1 HMV.out.2.1 (HF7.out.1.below HB8.out) (by have := HS8.out.1; have := HS8.out.2.1; omega) (fun b hb => (HS8.out.2.2.2 b hb).2) (by have := HN.out; omega) (fun f hf => by have := HZ.out f hf; omega) HA.out.1 HA.out.2).mono ?_
      rintro e w9 ⟨⟨u, rfl⟩, hM9⟩
      have HB9 : Hid (Below w1.heap.size w1 w9 ∧ Below wr.heap.size wr w9) := by
        refine ⟨hM9.belowOf HO8.out.1 ?_ (fun b hb => (HS8.out.2.2.2 b hb).2.1) (Nat.le_refl _), hM9.belowOf HO8.out.2 HS8.out.1 (fun b hb => (HS8.out.2.2.2 b hb).1) (Nat.le_refl _)⟩
        have := HS8.out.1; have := HS8.out.2.1; omega
      have HY9 : Hid (BY w9 bq2 bn bc2 bz ∧ BY w9 bq' bn bc' bz ∧ bq2.isNone = bq'.isNone) := by
        refine ⟨(HY7.out.1.below HB8.out).same fun p hp => ?_, ?_, HY7.out.2.1⟩
        · have h1 := HY7.out.2.2.1 p hp
          have h2 := HM.out
          refine hM9.block p.block (by have := HB8.out.size; omega) (by omega) (fun hb => ?_)
          have h3 := HF6.out.2.1 p.block hb
          omega
        · have hYr := HY0.out
          exact hYr.below HB9.out.2
      obtain ⟨v9, hr9, hF9, hO9⟩ := hM9.out
      clear hM9
      obtain ⟨os, hos⟩ : ∃ os, os = remB (nmd name) d fs := ⟨_, rfl⟩
      rw [← hos] at hF9
      have HOS : Hid (os = remB (nmd name) d fs) := hos
      clear hos
      have HOL : Hid (os.length ≤ n) := by
        show _ ≤ _
        rw [HOS.out, HN.out]
        exact remB_len _ _ _
      obtain ⟨q9, c9, hv9, -⟩ := hF9.slice
      obtain ⟨n9, HN9⟩ : ∃ n9, Hid (os.length = n9) := ⟨_, rfl⟩
      rw [HN9.out] at hv9
      subst hv9
      have HF9 : Hid (FV w9 (.slice q9 n9 c9) os ∧ FV w9 u17 os) := ⟨hF9, by rw [HOS.out]; exact (HE.out.1.below HB9.out.2).fv⟩
      have HR9 : Hid (w9.rowIs mb 38 6 (fun j => if j = 4 then .slice q9 n9 c9 else MV j)) := hr9
      clear hr9 hF9 hO9
      have c94 : w9.cell? ⟨mb, 4, none⟩ = some (.slice q9 n9 c9) := by rw [HR9.out.cell (i := 4) (by omega), if_pos rfl]
      go_wp2_with fail
      refine (zzSameFields_true (.slice q9 n9 c9) u17 os w9 HF9.out.1 HF9.out.2 (by have := HOL.out; omega)).mono ?_
      rintro e w10 ⟨rfl, hb10⟩
      have HB10 : Hid (Below w9.heap.size w9 w10) := hb10
      clear hb10 c94
      have hrow : w10.rowIs mb 38 6 (fun j => if j = 4 then .slice q9 n9 c9 else MV j) := HR9.out.of_block (HB10.out.block _ HR9.out.lt)
      have d0 : w10.cell? ⟨mb, 0, none⟩ = some (.string me) := by rw [hrow.cell (i := 0) (by omega), if_neg (by omega), HMV.out.2.2.1]
      have d1 : w10.cell? ⟨mb, 1, none⟩ = some (.string ur) := by rw [hrow.cell (i := 1) (by omega), if_neg (by omega), HMV.out.2.2.2.1]
      have d2 : w10.cell? ⟨mb, 2, none⟩ = some (.int .i64 sc) := by rw [hrow.cell (i := 2) (by omega), if_neg (by omega), HMV.out.2.2.2.2.1]
      have d3 : w10.cell? ⟨mb, 3, none⟩ = some (.string re) := by rw [hrow.cell (i := 3) (by omega), if_neg (by omega), HMV.out.2.2.2.2.2.1]
      have d5 : w10.cell? ⟨mb, 5, none⟩ = some (.slice bq2 bn bc2) := by rw [hrow.cell (i := 5) (by omega), if_neg (by omega), HMV.out.2.2.2.2.2.2]
      clear hrow
      go_wp2_with fail
      refine (zzSameBytes_true bq2 bq' bn bc2 bc' bz w10 (HY9.out.1.below HB10.out) (HY9.out.2.1.below HB10.out) HY9.out.2.2 (by omega)).mono ?_
      rintro e w11 ⟨rfl, hb11⟩
      have HB11 : Hid (Below w10.heap.size w10 w11) := hb11
      clear hb11 d0 d1 d2 d3 d5
      go_wp2_with fail
      go_ret
      refine ⟨rfl, ?_⟩
      have h1 := HB9.out.1
      have h2 := h1.trans (HB10.out.mono h1.size)
      exact h2.trans (HB11.out.mono h2.size)
end Go.Proofs.Qxb6616805aDoor
