/- Law 6: removing twice is removing once, and the items flow. -/
import Derived.Test.Qxb6616805aDoorG15
import Derived.Test.Qxb6616805aDoorMover
set_option linter.unusedVariables false
set_option linter.unusedSimpArgs false
set_option linter.unnecessarySimpa false
namespace Go.Proofs.Qxb6616805aDoor
open Go.RowKit Go.Shelf Go.Deep
attribute [local go_sem] eql22 eql29

set_option maxRecDepth 100000 in
set_option maxHeartbeats 8000000 in
theorem law6_any (q : Option Addr) (n c : Nat) (fs : List FB) (name d : ByteArray) (w : World) (h : NVV w q n c fs) (hT : Tb w) :
    Calls Tryd.prog 6 #[.slice q n c, .string name, .string d] w fun e w' => e = .returned (.bool true) ∧ Below w.heap.size w w' := by
  have HV : Hid (NVV w q n c fs) := h
  have HT : Hid (Tb w) := hT
  clear h hT
  go_enter Tryd.func6, Tryd.ntmps6
  go_wp2_with fail
  refine (zzBytes6_any q n c fs name d w HV.out).mono ?_
  rintro e w1 ⟨⟨r, rfl⟩, rfl⟩
  cases r with
  | false =>
    go_wp2_with fail
    go_ret
    exact ⟨rfl, Below.refl _ _⟩
  | true =>
  by_cases h1 : (1048576 : Int) < (name.size : Int)
  · go_wp2_with fail
    go_ret
    exact ⟨rfl, Below.refl _ _⟩
  by_cases h2 : (1048576 : Int) < (d.size : Int)
  · go_wp2_with fail
    go_ret
    exact ⟨rfl, Below.refl _ _⟩
  go_wp2_with fail
  rw [show ((name.size : Int) + (d.size : Int)) = ((name.size + d.size : Nat) : Int) from by omega]
  refine (zzOver_any q n c fs (name.size + d.size) (by omega) w1 HV.out).mono ?_
  rintro e w2 ⟨⟨r, rfl, hr⟩, hb2⟩
  have HB2 : Hid (Below w1.heap.size w1 w2) := hb2
  have HR : Hid (r = false → tot fs ≤ 1048576) := hr
  clear hb2 hr
  cases r with
  | true =>
    go_wp2_with fail
    go_ret
    exact ⟨rfl, HB2.out⟩
  | false =>
  have HK : Hid (tot fs ≤ 1048576) := HR.out rfl
  clear HR
  go_wp2_with fail
  refine (zzIsASCII_any name w2 (by omega)).mono ?_
  rintro e w3 ⟨rfl, rfl⟩
  cases hna : asc name.data.toList with
  | false =>
    go_wp2_with fail
    go_ret
    exact ⟨rfl, HB2.out⟩
  | true =>
  have HA : Hid (asc name.data.toList = true ∧ name.size ≤ 4194304) := ⟨hna, by omega⟩
  clear hna
  have HN : Hid (n = fs.length) := HV.out.len
  have hn : n ≤ 32768 := by have := tot_len fs; have := HK.out; have := HN.out; omega
  go_wp2_with fail
  refine (zzClone_any q n c fs w3 (HV.out.below HB2.out) (by omega)).mono ?_
  rintro e w4 ⟨⟨q', c', rfl, hV'⟩, hb4⟩
  have HV4 : Hid (NVV w4 q' n c' fs) := hV'
  have HB4 : Hid (Below w1.heap.size w1 w4) := HB2.out.trans (hb4.mono HB2.out.size)
  clear hV' hb4 HV HB2
  go_wp2_with fail
  go_loopg [7, 8, 9] n (fun g v7 v8 v9 wr => ∃ i : Nat, g = n - i ∧ i ≤ n ∧ v9 = .int .i64 (i : Int) ∧ Hid (LL w4.heap.size w4 (WI name d (fs.take i)) (WO name (fs.take i)) v7 v8 wr))
  case atStart => exact ⟨0, by omega, by omega, rfl, SR.nil _ _, OF.nil _ _, Below.refl _ _, Nat.le_refl _⟩
  case round =>
    obtain ⟨i, hg, hi, rfl, HL⟩ := hrel
    have HG : Hid (gk = n - i) := hg
    clear hg
    by_cases hlt : i < n
    · have hlt' : (i : Int) < (n : Int) := by omega
      have hfi : i < fs.length := by have := HN.out; omega
      obtain ⟨p, rfl⟩ := HV4.out.ptr (by omega)
      have HZ : Hid (fs[i].1.size ≤ 1048576 ∧ fs[i].2.size ≤ 1048576) := tot_sizes HK.out _ (List.getElem_mem hfi)
      have HC : Hid (NVV wr (some p) n c' fs) := HV4.out.below HL.out.be
      obtain ⟨c0, c1⟩ := HC.out.at' p rfl i hfi
      have HWI : Hid (WI name d (fs.take (i + 1)) = WI name d (fs.take i) ++ wi1 name d fs[i]) := WI_take name d fs i hfi
      have HWO : Hid (WO name (fs.take (i + 1)) = WO name (fs.take i) ++ wo1 name fs[i]) := WO_take name fs i hfi
      have HLen : Hid ((WI name d (fs.take i)).length ≤ 1048576 ∧ (WO name (fs.take i)).length ≤ 1048576) := by
        refine ⟨?_, ?_⟩
        · exact Nat.le_trans (flat_take_le _ _ _) (Nat.le_trans (WI_len name d fs) HK.out)
        · have h1 := WO_len name (fs.take i)
          have h2 : (fs.take i).length ≤ fs.length := List.length_take_le' _ _
          have := HN.out
          omega
      go_wp2_with fail
      refine (zzNamed_any fs[i].1 name wr (by have := HZ.out; omega)).mono ?_
      rintro e w5 ⟨rfl, hb5⟩
      have HL5 : Hid (LL w4.heap.size w4 (WI name d (fs.take i)) (WO name (fs.take i)) u7 u8 w5) := HL.out.below hb5
      have HC5 : Hid (NVV w5 (some p) n c' fs) := HC.out.below hb5
      clear hb5 c0 c1 HL HC
      obtain ⟨c0, c1⟩ := HC5.out.at' p rfl i hfi
      cases hnm : nmd name fs[i].1.data.toList with
      | true =>
        have HWI2 : Hid (WI name d (fs.take (i + 1)) = WI name d (fs.take i) ++ rB d (its fs[i].2.data.toList)) := by
          show _ = _
          rw [HWI.out]
          unfold wi1
          rw [if_pos hnm]
        have HWO2 : Hid (WO name (fs.take (i + 1)) = WO name (fs.take i)) := by
          show _ = _
          rw [HWO.out]
          unfold wo1
          rw [if_pos hnm, List.append_nil]
        clear hnm HWI HWO
        go_wp2_with fail
        refine (zzItems_any fs[i].2 w5 (by have := HZ.out; omega)).mono ?_
        rintro e w6 ⟨⟨v, rfl, hS⟩, hb6⟩
        have HI6 : Hid (LI w4.heap.size w4 (WI name d (fs.take i)) (WO name (fs.take i)) (its fs[i].2.data.toList) u7 u8 v w6) := LI.start HL5.out hb6 hS
        obtain ⟨q2, c2, hv⟩ := hS.slice
        have HM : Hid ((its fs[i].2.data.toList).length ≤ 1048577) := by
          show _ ≤ _
          have h1 := its_len fs[i].2.data.toList
          rw [← size_list] at h1
          have := HZ.out
          omega
        clear hS hb6 HL5 HC5 c0 c1
        subst hv
        generalize its fs[i].2.data.toList = xs at *
        obtain ⟨m, HMM⟩ : ∃ m, Hid (xs.length = m) := ⟨_, rfl⟩
        rw [HMM.out] at HI6 ⊢
        have hm : m ≤ 1048577 := by have := HM.out; have := HMM.out; omega
        go_wp2_with fail
        go_loopg [7, 11] m (fun g v7 v11 wr => ∃ j : Nat, g = m - j ∧ j ≤ m ∧ v11 = .int .i64 (j : Int) ∧ Hid (LI w4.heap.size w4 (WI name d (fs.take i) ++ rB d (xs.take j)) (WO name (fs.take i)) xs v7 u8 (.slice q2 m c2) wr))
        case atStart =>
          refine ⟨0, by omega, by omega, rfl, ?_⟩
          show LI _ _ _ _ _ _ _ _ _
          rw [List.take_zero, show rB d [] = [] from rfl, List.append_nil]
          exact HI6.out
        case round =>
          obtain ⟨j, hg, hj, rfl, HJ⟩ := hrel
          have HGj : Hid (gk = m - j) := hg
          clear hg
          by_cases hjlt : j < m
          · have hjlt' : (j : Int) < (m : Int) := by omega
            have hjx : j < xs.length := by have := HMM.out; omega
            obtain ⟨b, hq2, hc⟩ := HJ.out.it.at' j hjx
            have HTK : Hid (rB d (xs.take (j + 1)) = rB d (xs.take j) ++ (if eqd d xs[j] = true then [] else [xs[j]])) := take_rB d xs j hjx
            have HRl : Hid ((rB d (xs.take j)).length ≤ 1048577) := by
              show _ ≤ _
              refine Nat.le_trans (List.length_filter_le _ _) (Nat.le_trans (List.length_take_le' _ _) ?_)
              have := HMM.out
              omega
            subst hq2
            generalize xs[j] = z at *
            cases he : eqd d z with
            | true =>
              have he' : (z.toList == d.toList) = true := he
              have HTK2 : Hid (rB d (xs.take (j + 1)) = rB d (xs.take j)) := by
                show _ = _
                rw [HTK.out, if_pos he, List.append_nil]
              clear he HTK
              go_wp2_with fail
              go_roundg (m - (j + 1))
              case measure => rw [HGj.out]; omega
              case rel => exact ⟨j + 1, rfl, by omega, by go_num, by show LI _ _ _ _ _ _ _ _ _; rw [HTK2.out]; exact HJ.out⟩
            | false =>
              have he' : (z.toList == d.toList) = false := he
              have HTK2 : Hid (rB d (xs.take (j + 1)) = rB d (xs.take j) ++ [z]) := by
                show _ = _
                rw [HTK.out, if_neg (by rw [he]; simp)]
              clear he HTK
              go_upto_region 21 with fail
              apply wp_region_lit
              iterate 6 (refine wpList_plain rfl fun K0 hK0 => ?_; go_simp; refine hK0 _ _ ?_; clear hK0 K0)
              refine sr_push_at _ _ u7 (WI name d (fs.take i) ++ rB d (xs.take j)) z rfl _ wr HJ.out.ll.wi (Nat.le_trans HJ.out.ll.le HJ.out.ll.be.size) rfl (by rw [List.length_append]; have := HLen.out; have := HRl.out; omega) ?_
              intro g cap wa hS hBe hGr hAt
              have HJ2 := HJ.out.push hS hBe hGr hAt
              rw [List.append_assoc, ← HTK2.out, List.length_append] at HJ2
              have HJ3 : Hid _ := HJ2
              clear HJ2 hS hBe hGr hAt HTK2 HJ hc
              go_wp2_with fail
              go_roundg (m - (j + 1))
              case measure => rw [HGj.out]; omega
              case rel => exact ⟨j + 1, rfl, by omega, by go_num, HJ3⟩
          · have hjlt' : ¬ (j : Int) < (m : Int) := by omega
            have HJ2 : Hid (LL w4.heap.size w4 (WI name d (fs.take (i + 1))) (WO name (fs.take (i + 1))) u7 u8 wr) := by
              show LL _ _ _ _ _ _ _
              have h1 := HJ.out.ll
              rw [show xs.take j = xs from List.take_of_length_le (by have := HMM.out; omega)] at h1
              rw [HWI2.out, HWO2.out]
              exact h1
            go_wp2_with fail
            go_roundg (n - (i + 1))
            case measure => rw [HG.out]; omega
            case rel => exact ⟨i + 1, rfl, by omega, by go_num, HJ2⟩
      | false =>
        have HWI2 : Hid (WI name d (fs.take (i + 1)) = WI name d (fs.take i)) := by
          show _ = _
          rw [HWI.out]
          unfold wi1
          rw [if_neg (by rw [hnm]; simp), List.append_nil]
        have HWO2 : Hid (WO name (fs.take (i + 1)) = WO name (fs.take i) ++ [fs[i]]) := by
          show _ = _
          rw [HWO.out]
          unfold wo1
          rw [if_neg (by rw [hnm]; simp)]
        clear hnm HWI HWO c0 c1
        go_wp2_with fail
        have HL6 : Hid (LL w4.heap.size w4 (WI name d (fs.take i)) (WO name (fs.take i)) u7 u8 { w5 with drawn := w5.drawn + 1 }) := HL5.out.below ⟨rfl, rfl, rfl, Nat.le_refl _, fun _ _ => rfl⟩
        have HC6 : Hid (NVV { w5 with drawn := w5.drawn + 1 } (some p) n c' fs) := HC5.out.below ⟨rfl, rfl, rfl, Nat.le_refl _, fun _ _ => rfl⟩
        clear HL5 HC5
        generalize hwd : ({ w5 with drawn := w5.drawn + 1 } : World) = wd at *
        obtain ⟨x, hx⟩ : ∃ x, x = fs[i].1 := ⟨_, rfl⟩
        obtain ⟨y, hy⟩ : ∃ y, y = fs[i].2 := ⟨_, rfl⟩
        refine wp_region_movers 13 [12] (fun m V w' => (V 0 = u8 ∧ V 1 = .slice (some p) n c' ∧ V 2 = .int .i64 (i : Int) ∧ V 3 = .pointer (some (p.add (i * 2))) ∧ V 4 = .pointer (some (p.add (i * 2))) ∧ V 5 = .string x ∧ V 6 = .slice (some p) n c' ∧ V 7 = .int .i64 (i : Int) ∧ V 8 = .pointer (some (p.add (i * 2))) ∧ V 9 = .pointer (some { block := (p.add (i * 2)).block, off := (p.add (i * 2)).off + 1 }) ∧ V 10 = .string y ∧ V 11 = .agg #[.string x, .string y, .string ⟨#[]⟩] ∧ V 12 = .slice (some ⟨wd.heap.size, 0, none⟩) 1 1) ∧ ((m = 0 ∧ w' = wd) ∨ (m = 1 ∧ w' = wd.alloc (.cells #[.string x, .string y, .string ⟨#[]⟩] 34))))
          (fun k => if k = 0 then u8 else if k = 1 then .slice (some p) n c' else if k = 2 then .int .i64 (i : Int) else if k = 3 then .pointer (some (p.add (i * 2))) else if k = 4 then .pointer (some (p.add (i * 2))) else if k = 5 then .string x else if k = 6 then .slice (some p) n c' else if k = 7 then .int .i64 (i : Int) else if k = 8 then .pointer (some (p.add (i * 2))) else if k = 9 then .pointer (some { block := (p.add (i * 2)).block, off := (p.add (i * 2)).off + 1 }) else if k = 10 then .string y else if k = 11 then .agg #[.string x, .string y, .string ⟨#[]⟩] else .slice (some ⟨wd.heap.size, 0, none⟩) 1 1)
          (by kernel_rfl) (by kernel_rfl) ⟨⟨rfl, rfl, rfl, rfl, rfl, rfl, rfl, rfl, rfl, rfl, rfl, rfl, rfl⟩, Or.inl ⟨rfl, hwd⟩⟩ ?_
        simp only [List.take_succ_cons, List.take_zero, List.drop_succ_cons, List.drop_zero]
        have HCC : Hid (∀ w', (w' = wd ∨ w' = wd.alloc (.cells #[.string x, .string y, .string ⟨#[]⟩] 34)) → w'.cell? (p.add (i * 2)) = some (.string x) ∧ w'.cell? { block := (p.add (i * 2)).block, off := (p.add (i * 2)).off + 1 } = some (.string y)) := by
          intro w' hw'
          have hb : Below wd.heap.size wd w' := by
            rcases hw' with rfl | rfl
            · exact Below.refl _ _
            · exact (Below.refl _ wd).alloc (Nat.le_refl _) _
          have := (HC6.out.below hb).at' p rfl i hfi
          rw [hx, hy]
          exact this
        clear hwd
        iterate 12
          refine obs_pure (by decide) (by
            rintro m V w' ⟨⟨e0, e1, e2, e3, e4, e5, e6, e7, e8, e9, e10, e11, e12⟩, hw'⟩
            obtain ⟨k0, k1⟩ := HCC.out w' (by rcases hw' with ⟨_, h⟩ | ⟨_, h⟩ <;> simp [h])
            clear hw'
            go_simp) (fun K0 hK0 => ?_)
          go_simp
          refine hK0 _ ?_
          clear hK0 K0
        refine obs_make 0 (by decide) (by decide) (by
          rintro V w' ⟨⟨e0, e1, e2, e3, e4, e5, e6, e7, e8, e9, e10, e11, e12⟩, hw'⟩
          have hw2 : w' = wd := by rcases hw' with ⟨_, h⟩ | ⟨h, _⟩; exact h; cases h
          subst hw2
          exact ⟨_, by go_simp, ⟨⟨e0, e1, e2, e3, e4, e5, e6, e7, e8, e9, e10, e11, e12⟩, Or.inr ⟨rfl, rfl⟩⟩⟩) (fun K0 hK0 => ?_)
        go_simp
        refine hK0 _ ?_
        clear hK0 K0
        refine obs_nil ?_
        rintro V w' ⟨⟨e0, e1, e2, e3, e4, e5, e6, e7, e8, e9, e10, e11, e12⟩, hw'⟩
        have hw2 : w' = wd.alloc (.cells #[.string x, .string y, .string ⟨#[]⟩] 34) := by rcases hw' with ⟨h, _⟩ | ⟨_, h⟩; cases h; exact h
        subst hw2
        clear hw'
        simp only [e0, e1, e2, e3, e4, e5, e6, e7, e8, e9, e10, e11, e12]
        clear e0 e1 e2 e3 e4 e5 e6 e7 e8 e9 e10 e11 e12
        subst hx
        subst hy
        refine of_push _ _ u8 (WO name (fs.take i)) fs[i] rfl _ wd HL6.out.wo (Nat.le_trans HL6.out.le HL6.out.be.size) rfl (by have := HLen.out; omega) ?_
        intro g cap wa hS hBe hGr
        have HL7 := HL6.out.pushF hS hBe hGr
        rw [← HWO2.out, ← HWI2.out] at HL7
        have HL8 : Hid _ := HL7
        clear HL7 hS hBe hGr HL6 HC6 HCC
        go_wp2_with fail
        go_roundg (n - (i + 1))
        case measure => rw [HG.out]; omega
        case rel => exact ⟨i + 1, rfl, by omega, by go_num, HL8⟩
    · have hlt' : ¬ (i : Int) < (n : Int) := by omega
      have HLE : Hid (LL w4.heap.size w4 (WI name d fs) (WO name fs) u7 u8 wr) := by
        have h1 := HL.out
        rw [show fs.take i = fs from List.take_of_length_le (by have := HN.out; omega)] at h1
        exact h1
      clear HL HG hlt
      have HZ : Hid (∀ f ∈ fs, f.1.size ≤ 1048576 ∧ f.2.size ≤ 1048576) := tot_sizes HK.out
      have HB5 : Hid (Below w1.heap.size w1 wr) := HB4.out.trans (HLE.out.be.mono HB4.out.size)
      go_wp2_with fail
      refine (zzBuild_any q' n c' fs wr (HV4.out.below HLE.out.be) (by omega)).mono ?_
      rintro e w6 ⟨⟨v, rfl, hF6, hO6⟩, hb6⟩
      obtain ⟨q6, c6, hv6, -⟩ := hF6.slice
      have HF6 : Hid (FV w6 v fs ∧ (∀ b, v.ownBlock = some b → wr.heap.size ≤ b) ∧ Below wr.heap.size wr w6) := ⟨hF6, hO6, hb6⟩
      have HN6 : Hid (fs.length = n) := HN.out.symm
      rw [HN6.out] at hv6
      subst hv6
      clear hF6 hO6 hb6
      go_upto_region 24 with fail
      have HB7 : Hid (Below w6.heap.size w6 (w6.alloc (.cells #[.string ⟨#[]⟩, .string ⟨#[]⟩, .int .i64 0, .string ⟨#[]⟩, .slice q6 n c6, .slice none 0 0] 38))) := (Below.refl _ w6).alloc (Nat.le_refl _) _
      have HR7 : Hid ((w6.alloc (.cells #[.string ⟨#[]⟩, .string ⟨#[]⟩, .int .i64 0, .string ⟨#[]⟩, .slice q6 n c6, .slice none 0 0] 38)).rowIs w6.heap.size 38 6 (fun j => #[Value.string ⟨#[]⟩, .string ⟨#[]⟩, .int .i64 0, .string ⟨#[]⟩, .slice q6 n c6, .slice none 0 0].getD j undef)) := row_new w6 _ 38 6 rfl
      have hMV : (#[Value.string ⟨#[]⟩, .string ⟨#[]⟩, .int .i64 0, .string ⟨#[]⟩, .slice q6 n c6, .slice none 0 0] : Array Value).getD 4 undef = .slice q6 n c6 := rfl
      generalize w6.alloc (.cells #[.string ⟨#[]⟩, .string ⟨#[]⟩, .int .i64 0, .string ⟨#[]⟩, .slice q6 n c6, .slice none 0 0] 38) = w7 at *
      obtain ⟨MV, HMV⟩ : ∃ MV : Nat → Value, Hid (w7.rowIs w6.heap.size 38 6 MV ∧ MV 4 = .slice q6 n c6) := ⟨_, HR7.out, hMV⟩
      clear HR7 hMV
      obtain ⟨mb, hmb⟩ : ∃ mb, mb = w6.heap.size := ⟨_, rfl⟩
      rw [← hmb] at HMV ⊢
      have HM : Hid (mb = w6.heap.size) := hmb
      clear hmb
      go_wp2_with fail
      have HS7 : Hid (wr.heap.size ≤ mb ∧ w1.heap.size ≤ wr.heap.size ∧ mb < w7.heap.size ∧ (∀ b, (Value.slice q6 n c6).ownBlock = some b → w1.heap.size ≤ b ∧ b ≠ mb)) := by
        refine ⟨by rw [HM.out]; exact HF6.out.2.2.size, HB5.out.size, HMV.out.1.lt, fun b hb => ⟨Nat.le_trans HB5.out.size (HF6.out.2.1 b hb), ?_⟩⟩
        have := HF6.out.1.lt b hb
        have := HM.out
        omega
      have HO7 : Hid (Below w1.heap.size w1 w7 ∧ Below wr.heap.size wr w7) := by
        have h6 := HF6.out.2.2.trans (HB7.out.mono HF6.out.2.2.size)
        exact ⟨HB5.out.trans (h6.mono HB5.out.size), h6⟩
      refine (zzRemove_any w1 mb MV (.slice q6 n c6) fs name d w7 HT.out ⟨HO7.out.1.size, HO7.out.1.block⟩ HMV.out.1 HMV.out.2 (HF6.out.1.below HB7.out) (by have := HS7.out.1; have := HS7.out.2.1; omega) HS7.out.2.2.2 (by have := HN.out; omega) (fun f hf => by have := HZ.out f hf; omega) HA.out.1 HA.out.2).mono ?_
      rintro e w8 ⟨⟨u, rfl⟩, hM8⟩
      have HB8 : Hid (Below w1.heap.size w1 w8 ∧ Below wr.heap.size wr w8) := by
        refine ⟨hM8.belowOf HO7.out.1 ?_ (fun b hb => (HS7.out.2.2.2 b hb).1) (Nat.le_refl _), hM8.belowOf HO7.out.2 HS7.out.1 (fun b hb => HF6.out.2.1 b hb) (Nat.le_refl _)⟩
        have := HS7.out.1; have := HS7.out.2.1; omega
      obtain ⟨v8, hr8, hF8, hO8⟩ := hM8.out
      have HM8 : Hid (w7.heap.size ≤ w8.heap.size) := hM8.size
      clear hM8
      obtain ⟨os, hos⟩ : ∃ os, os = remB (nmd name) d fs := ⟨_, rfl⟩
      rw [← hos] at hF8
      have HOS : Hid (os = remB (nmd name) d fs) := hos
      clear hos
      have HOL : Hid (os.length ≤ n ∧ (∀ g ∈ os, g.1.size ≤ 4194304 ∧ g.2.size ≤ 4194304)) := by
        show _ ∧ _
        rw [HOS.out, HN.out]
        exact ⟨remB_len _ _ _, remB_sizes HZ.out⟩
      obtain ⟨q8, c8, hv8, -⟩ := hF8.slice
      have HF8 : Hid (FV w8 v8 os ∧ v8.ownBlock = (Value.slice q6 n c6).ownBlock) := ⟨hF8, hO8⟩
      obtain ⟨n8, HN8⟩ : ∃ n8, Hid (os.length = n8) := ⟨_, rfl⟩
      rw [HN8.out] at hv8
      have hn8 : n8 ≤ n := by have := HOL.out.1; have := HN8.out; omega
      subst hv8
      have HR8 : Hid (w8.rowIs mb 38 6 (fun j => if j = 4 then .slice q8 n8 c8 else MV j)) := hr8
      clear hr8 hF8 hO8
      have c84 : w8.cell? ⟨mb, 4, none⟩ = some (.slice q8 n8 c8) := by rw [HR8.out.cell (i := 4) (by omega), if_pos rfl]
      go_wp2_with fail
      refine (zzCopySip_any (.slice q8 n8 c8) os w8 HF8.out.1 (by have := HOL.out.1; omega)).mono ?_
      rintro e w9 ⟨⟨v9, rfl, hF9, hO9⟩, hb9⟩
      obtain ⟨q9, c9, hv9, -⟩ := hF9.slice
      rw [HN8.out] at hv9
      subst hv9
      have HF9 : Hid (FV w9 (.slice q9 n8 c9) os ∧ (∀ b, (Value.slice q9 n8 c9).ownBlock = some b → w8.heap.size ≤ b) ∧ Below w8.heap.size w8 w9) := ⟨hF9, hO9, hb9⟩
      clear hF9 hO9 hb9 c84
      have HB9 : Hid (Below w1.heap.size w1 w9 ∧ Below wr.heap.size wr w9) := ⟨HB8.out.1.trans (HF9.out.2.2.mono HB8.out.1.size), HB8.out.2.trans (HF9.out.2.2.mono HB8.out.2.size)⟩
      have HO8 : Hid (∀ b, (Value.slice q8 n8 c8).ownBlock = some b → wr.heap.size ≤ b ∧ w1.heap.size ≤ b ∧ b ≠ mb) := fun b hb => by
        rw [HF8.out.2] at hb
        exact ⟨HF6.out.2.1 b hb, HS7.out.2.2.2 b hb⟩
      go_wp2_with fail
      refine (zzRemove_any w1 mb (fun j => if j = 4 then .slice q8 n8 c8 else MV j) (.slice q8 n8 c8) os name d w9 HT.out ⟨HB9.out.1.size, HB9.out.1.block⟩ (HR8.out.of_block (HF9.out.2.2.block _ HR8.out.lt)) (if_pos rfl) (HF8.out.1.below HF9.out.2.2) (by have := HS7.out.1; have := HS7.out.2.1; omega) (fun b hb => (HO8.out b hb).2) (by have := HOL.out.1; omega) HOL.out.2 HA.out.1 HA.out.2).mono ?_
      rintro e w10 ⟨⟨u', rfl⟩, hM10⟩
      rw [show remB (nmd name) d os = os from by rw [HOS.out, remB_again]] at hM10
      have HB10 : Hid (Below w1.heap.size w1 w10 ∧ Below wr.heap.size wr w10) := by
        refine ⟨hM10.belowOf HB9.out.1 ?_ (fun b hb => (HO8.out b hb).2.1) (Nat.le_refl _), hM10.belowOf HB9.out.2 HS7.out.1 (fun b hb => (HO8.out b hb).1) (Nat.le_refl _)⟩
        have := HS7.out.1; have := HS7.out.2.1; omega
      have HF10 : Hid (FV w10 (.slice q9 n8 c9) os) := by
        refine HF9.out.1.same fun b hb => hM10.block b (HF9.out.1.lt b hb) ?_ (fun hb2 => ?_)
        · have h1 := HF9.out.2.1 b hb
          have h2 := HR8.out.lt
          omega
        · have h1 := HF9.out.2.1 b hb
          have h2 := HF8.out.1.lt b hb2
          omega
      obtain ⟨v10, hr10, hG10, hO10⟩ := hM10.out
      obtain ⟨q10, c10, hv10, -⟩ := hG10.slice
      rw [HN8.out] at hv10
      subst hv10
      have c104 : w10.cell? ⟨mb, 4, none⟩ = some (.slice q10 n8 c10) := by rw [hr10.cell (i := 4) (by omega), if_pos rfl]
      have HG10 : Hid (FV w10 (.slice q10 n8 c10) os) := hG10
      clear hr10 hG10 hO10 hM10 HF9 HF8 HR8 HB9 HB8 HO8 HS7 HO7 HMV HB7 HF6 HM8
      go_wp2_with fail
      refine (zzSameFields_true (.slice q10 n8 c10) (.slice q9 n8 c9) os w10 HG10.out HF10.out (by have := HOL.out.1; omega)).mono ?_
      rintro e w11 ⟨rfl, hb11⟩
      have HB11 : Hid (Below w1.heap.size w1 w11 ∧ Below wr.heap.size wr w11 ∧ FV w11 (.slice q9 n8 c9) os) := ⟨HB10.out.1.trans (hb11.mono HB10.out.1.size), HB10.out.2.trans (hb11.mono HB10.out.2.size), HF10.out.below hb11⟩
      clear hb11 HB10 HG10 HF10 c104
      go_wp2_with fail
      go_loopg [14, 15, 16] n8 (fun g v14 v15 v16 wt => ∃ i : Nat, g = n8 - i ∧ i ≤ n8 ∧ v16 = .int .i64 (i : Int) ∧ Hid (LL w11.heap.size w11 (GI name (os.take i)) (WO name (os.take i)) v14 v15 wt))
      case atStart => exact ⟨0, by omega, by omega, rfl, SR.nil _ _, OF.nil _ _, Below.refl _ _, Nat.le_refl _⟩
      case round =>
        obtain ⟨k, hg, hk, rfl, HL⟩ := hrel
        have HG : Hid (gk = n8 - k) := hg
        clear hg
        by_cases hlt : k < n8
        · have hlt' : (k : Int) < (n8 : Int) := by omega
          have hfi : k < os.length := by have := HN8.out; omega
          have HZ2 : Hid (os[k].1.size ≤ 4194304 ∧ os[k].2.size ≤ 4194304) := HOL.out.2 _ (List.getElem_mem hfi)
          have HC : Hid (FV wr (.slice q9 n8 c9) os) := HB11.out.2.2.below HL.out.be
          obtain ⟨b, hq9, c0, c1, c2⟩ := HC.out.at' k hfi
          subst hq9
          have HWI : Hid (GI name (os.take (k + 1)) = GI name (os.take k) ++ gi1 name os[k]) := GI_take name os k hfi
          have HWO : Hid (WO name (os.take (k + 1)) = WO name (os.take k) ++ wo1 name os[k]) := WO_take name os k hfi
          have HLen : Hid ((GI name (os.take k)).length ≤ 1048576 ∧ (WO name (os.take k)).length ≤ 1048576) := by
            refine ⟨?_, ?_⟩
            · refine Nat.le_trans (flat_take_le (gi1 name) os k) ?_
              show (GI name os).length ≤ _
              rw [HOS.out, GI_rem]
              exact Nat.le_trans (WI_len name d fs) HK.out
            · have h1 := WO_len name (os.take k)
              have h2 : (os.take k).length ≤ os.length := List.length_take_le' _ _
              have := HOL.out.1
              omega
          go_wp2_with fail
          refine (zzNamed_any os[k].1 name wr HZ2.out.1).mono ?_
          rintro e w12 ⟨rfl, hb12⟩
          have HL5 : Hid (LL w11.heap.size w11 (GI name (os.take k)) (WO name (os.take k)) u14 u15 w12) := HL.out.below hb12
          have HC5 : Hid (FV w12 (.slice (some ⟨b, 0, none⟩) n8 c9) os) := HC.out.below hb12
          clear hb12 c0 c1 c2 HL HC
          obtain ⟨b', hb', c0, c1, c2⟩ := HC5.out.at' k hfi
          simp only [Option.some.injEq, Addr.mk.injEq, and_true] at hb'
          subst hb'
          cases hnm : nmd name os[k].1.data.toList with
          | true =>
            have HWI2 : Hid (GI name (os.take (k + 1)) = GI name (os.take k) ++ its os[k].2.data.toList) := by
              show _ = _
              rw [HWI.out]
              unfold gi1
              rw [if_pos hnm]
            have HWO2 : Hid (WO name (os.take (k + 1)) = WO name (os.take k)) := by
              show _ = _
              rw [HWO.out]
              unfold wo1
              rw [if_pos hnm, List.append_nil]
            clear hnm HWI HWO
            go_wp2_with fail
            refine (zzItems_any os[k].2 w12 HZ2.out.2).mono ?_
            rintro e w13 ⟨⟨v, rfl, hS⟩, hb13⟩
            have HI6 : Hid (LI w11.heap.size w11 (GI name (os.take k)) (WO name (os.take k)) (its os[k].2.data.toList) u14 u15 v w13) := LI.start HL5.out hb13 hS
            obtain ⟨q2, c2', hv⟩ := hS.slice
            have HM2 : Hid ((its os[k].2.data.toList).length ≤ 4194305) := by
              show _ ≤ _
              have h1 := its_len os[k].2.data.toList
              rw [← size_list] at h1
              have := HZ2.out
              omega
            clear hS hb13 HL5 HC5 c0 c1 c2
            subst hv
            generalize its os[k].2.data.toList = xs at *
            obtain ⟨m, HMM⟩ : ∃ m, Hid (xs.length = m) := ⟨_, rfl⟩
            rw [HMM.out] at HI6 ⊢
            have hm : m ≤ 4194305 := by have := HM2.out; have := HMM.out; omega
            go_wp2_with fail
            go_loopg [14, 18] m (fun g v14 v18 wt => ∃ j : Nat, g = m - j ∧ j ≤ m ∧ v18 = .int .i64 (j : Int) ∧ Hid (LI w11.heap.size w11 (GI name (os.take k) ++ xs.take j) (WO name (os.take k)) xs v14 u15 (.slice q2 m c2') wt))
            case atStart =>
              refine ⟨0, by omega, by omega, rfl, ?_⟩
              show LI _ _ _ _ _ _ _ _ _
              rw [List.take_zero, List.append_nil]
              exact HI6.out
            case round =>
              obtain ⟨j, hg, hj, rfl, HJ⟩ := hrel
              have HGj : Hid (gk = m - j) := hg
              clear hg
              by_cases hjlt : j < m
              · have hjlt' : (j : Int) < (m : Int) := by omega
                have hjx : j < xs.length := by have := HMM.out; omega
                obtain ⟨b2, hq2, hc⟩ := HJ.out.it.at' j hjx
                have HTK2 : Hid (xs.take (j + 1) = xs.take j ++ [xs[j]]) := List.take_succ_eq_append_getElem hjx
                have HRl : Hid ((xs.take j).length ≤ 4194305) := by
                  show _ ≤ _
                  refine Nat.le_trans (List.length_take_le' _ _) ?_
                  have := HMM.out
                  omega
                subst hq2
                generalize xs[j] = z at *
                go_upto_region 39 with fail
                apply wp_region_lit
                iterate 6 (refine wpList_plain rfl fun K0 hK0 => ?_; go_simp; refine hK0 _ _ ?_; clear hK0 K0)
                refine sr_push_at _ _ u14 (GI name (os.take k) ++ xs.take j) z rfl _ wr HJ.out.ll.wi (Nat.le_trans HJ.out.ll.le HJ.out.ll.be.size) rfl (by rw [List.length_append]; have := HLen.out; have := HRl.out; omega) ?_
                intro g cap wa hS hBe hGr hAt
                have HJ2 := HJ.out.push hS hBe hGr hAt
                rw [List.append_assoc, ← HTK2.out, List.length_append] at HJ2
                have HJ3 : Hid _ := HJ2
                clear HJ2 hS hBe hGr hAt HTK2 HJ hc
                rw [List.length_append]
                generalize (GI name (os.take k)).length + (xs.take j).length + 1 = L at *
                go_wp2_with fail
                go_roundg (m - (j + 1))
                case measure => rw [HGj.out]; omega
                case rel => exact ⟨j + 1, rfl, by omega, by go_num, HJ3⟩
              · have hjlt' : ¬ (j : Int) < (m : Int) := by omega
                have HJ2 : Hid (LL w11.heap.size w11 (GI name (os.take (k + 1))) (WO name (os.take (k + 1))) u14 u15 wr) := by
                  show LL _ _ _ _ _ _ _
                  have h1 := HJ.out.ll
                  rw [show xs.take j = xs from List.take_of_length_le (by have := HMM.out; omega)] at h1
                  rw [HWI2.out, HWO2.out]
                  exact h1
                go_wp2_with fail
                go_roundg (n8 - (k + 1))
                case measure => rw [HG.out]; omega
                case rel => exact ⟨k + 1, rfl, by omega, by go_num, HJ2⟩
          | false =>
            have HWI2 : Hid (GI name (os.take (k + 1)) = GI name (os.take k)) := by
              show _ = _
              rw [HWI.out]
              unfold gi1
              rw [if_neg (by rw [hnm]; simp), List.append_nil]
            have HWO2 : Hid (WO name (os.take (k + 1)) = WO name (os.take k) ++ [os[k]]) := by
              show _ = _
              rw [HWO.out]
              unfold wo1
              rw [if_neg (by rw [hnm]; simp)]
            clear hnm HWI HWO
            go_upto_region 40 with fail
            apply wp_region_lit
            iterate 6 (refine wpList_plain rfl fun K0 hK0 => ?_; go_simp; refine hK0 _ _ ?_; clear hK0 K0)
            refine of_push _ _ u15 (WO name (os.take k)) os[k] rfl _ w12 HL5.out.wo (Nat.le_trans HL5.out.le HL5.out.be.size) rfl (by have := HLen.out; omega) ?_
            intro g cap wa hS hBe hGr
            have HL7 := HL5.out.pushF hS hBe hGr
            rw [← HWO2.out, ← HWI2.out] at HL7
            have HL8 : Hid _ := HL7
            clear HL7 hS hBe hGr HL5 HC5 c0 c1 c2
            go_wp2_with fail
            go_roundg (n8 - (k + 1))
            case measure => rw [HG.out]; omega
            case rel => exact ⟨k + 1, rfl, by omega, by go_num, HL8⟩
        · have hlt' : ¬ (k : Int) < (n8 : Int) := by omega
          have HE : Hid (LL w11.heap.size w11 (WI name d fs) (WO name fs) u14 u15 wr) := by
            have h1 := HL.out
            rw [show os.take k = os from List.take_of_length_le (by have := HN8.out; omega), HOS.out, GI_rem, WO_rem] at h1
            exact h1
          have HW : Hid (SV wr u7 (WI name d fs) ∧ FV wr u8 (WO name fs) ∧ (WI name d fs).length ≤ 1048576 ∧ (WO name fs).length ≤ 1048576 ∧ Below w1.heap.size w1 wr) := by
            have hb := HB11.out.2.1.trans (HE.out.be.mono HB11.out.2.1.size)
            refine ⟨(HLE.out.wi.below hb).sv, (HLE.out.wo.below hb).fv, Nat.le_trans (WI_len name d fs) HK.out, ?_, HB11.out.1.trans (HE.out.be.mono HB11.out.1.size)⟩
            have h1 := WO_len name fs
            have := HN.out
            omega
          clear HL HB11 HLE
          go_wp2_with fail
          refine (zzSameStrings_true u14 u7 (WI name d fs) wr HE.out.wi.sv HW.out.1 (by have := HW.out; omega)).mono ?_
          rintro e w12 ⟨rfl, hb12⟩
          have HB12 : Hid (Below wr.heap.size wr w12) := hb12
          clear hb12
          go_wp2_with fail
          refine (zzSameFields_true u15 u8 (WO name fs) w12 (HE.out.wo.fv.below HB12.out) (HW.out.2.1.below HB12.out) (by have := HW.out; omega)).mono ?_
          rintro e w13 ⟨rfl, hb13⟩
          have HB13 : Hid (Below w12.heap.size w12 w13) := hb13
          clear hb13
          go_wp2_with fail
          go_ret
          refine ⟨rfl, ?_⟩
          have h1 := HW.out.2.2.2.2
          have h2 := h1.trans (HB12.out.mono h1.size)
          exact h2.trans (HB13.out.mono h2.size)
end Go.Proofs.Qxb6616805aDoor
