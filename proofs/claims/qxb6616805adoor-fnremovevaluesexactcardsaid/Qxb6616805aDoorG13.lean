/- ZZRemoveValuesEqual on a message that the law made. -/
import Derived.Test.Qxb6616805aDoorG12
import Derived.Test.Qxb6616805aDoorG8
import Derived.Test.Qxb6616805aDoorShelf
set_option linter.unusedVariables false
set_option linter.unusedSimpArgs false
set_option linter.unnecessarySimpa false
namespace Go.Proofs.Qxb6616805aDoor
open Go.RowKit Go.Shelf Go.Deep
attribute [local go_sem] Oper.semAt_some

theorem join_eq : ∀ xs : List (List UInt8), Lib.join xs [44, 32] = I.join xs
  | [] => rfl
  | [x] => Lib.join_one x _
  | x :: y :: r => by
    have ih := join_eq (y :: r)
    rw [Lib.join_cons] at ih ⊢
    simp only [I.join]
    rw [← ih]
    simp [Lib.joinTail]
theorem join_any (u : World) (bk cap : Nat) (xs : List ByteArray) (hc : ∀ (j : Nat) x, xs[j]? = some x → u.cell? ⟨bk, j, none⟩ = some (.string x)) (hb : bk < u.heap.size) (hcap : xs.length ≤ cap) (hn : xs.length ≤ 8388608) (hl : (I.join (xs.map fun x => x.data.toList)).length ≤ 140737488355328) :
    Calls Tryd.prog 39 #[.slice (some ⟨bk, 0, none⟩) xs.length cap, .string ⟨#[44, 32]⟩] u fun e w' => e = .returned (.string (bs (I.join (xs.map fun x => x.data.toList)))) ∧ Below u.heap.size u w' := by
  have e := join_eq (xs.map fun x => x.data.toList)
  have h := Tryd.strings_Join bk 0 cap xs ⟨#[44, 32]⟩ u (fun j x hx => by rw [Nat.zero_add]; exact hc j x hx) hb (by omega) hcap (by
    show (Lib.join (xs.map fun x => x.data.toList) [44, 32]).length ≤ _
    rw [e]; exact hl)
  refine h.mono ?_
  rintro e1 w1 ⟨rfl, hb⟩
  refine ⟨?_, hb⟩
  show Ending.returned (.string ⟨(Lib.join (xs.map fun x => x.data.toList) [44, 32]).toArray⟩) = _
  rw [e]
  rfl

theorem Tb.same {w w' : World} (h : Tb w) (hb : ∀ k, k < w.heap.size → w'.heap[k]? = w.heap[k]?) : Tb w' := by
  have tr : ∀ {a : Addr} {v : Value}, w.cell? a = some v → w'.cell? a = some v := fun {a v} hc => (World.cell?_of_block (hb a.block (cell_lt hc))).trans hc
  obtain ⟨a, cap, hs, hcs⟩ := h.orb
  exact ⟨fun c hc => tr (h.fold c hc), a, cap, tr hs, fun i hi => ⟨tr (hcs i hi).1, tr (hcs i hi).2⟩⟩
/-- What lay in w0 lies still. -/
structure Old (w0 w : World) : Prop where
  size : w0.heap.size ≤ w.heap.size
  block : ∀ k, k < w0.heap.size → w.heap[k]? = w0.heap[k]?
theorem Old.fr {w0 w w' : World} {b c : Nat} (h : Old w0 w) (hf : Fr2 b c w w') (hb : w0.heap.size ≤ b) (hc : w0.heap.size ≤ c) : Old w0 w' :=
  ⟨Nat.le_trans h.size hf.size, fun k hk => (hf.block k (by have := h.size; omega) (by omega) (by omega)).trans (h.block k hk)⟩

theorem removeValues_nil (name d : ByteArray) (mb db : Nat) (MV : Nat → Value) (w : World) (hrow : w.rowIs mb 38 6 MV) (hMV : MV 4 = .slice none 0 0) :
    Calls Tryd.prog 31 #[.pointer (some ⟨mb, 0, none⟩), .string name, .func (.func 32) #[] #[.pointer (some ⟨db, 0, none⟩)]] w fun e w' => (∃ v, e = .returned v) ∧
      w'.rowIs mb 38 6 (fun j => if j = 4 then .slice none 0 0 else MV j) ∧ Fr2 mb mb w w' := by
  refine (callsIn_wide (n := 3)).1 (callsIn_of_wp_marks Tryd.func31 rfl trivial (wpIn_wide.2 ?_) rfl)
  simp only [Tryd.ntmps31, List.size_toArray, List.length_cons, List.length_nil, Nat.reduceAdd, Nat.reduceSub, Array.replicate_succ, Array.replicate_zero, List.push_toArray, List.append_toArray, List.nil_append, List.cons_append]
  generalize hQ : bodyPostM Fence.wide 3 Tryd.prog Tryd.f31 _ = Q
  have HQ : Hid (_ = Q) := hQ
  clear hQ
  go_upto_region 1 with fail
  have HB1 : Hid (Below w.heap.size w (w.alloc (.cells #[.func (.func 32) #[] #[.pointer (some ⟨db, 0, none⟩)]] 26))) := (Below.refl _ w).alloc (Nat.le_refl _) _
  generalize w.alloc (.cells #[.func (.func 32) #[] #[.pointer (some ⟨db, 0, none⟩)]] 26) = w1 at *
  have HR1 : Hid (w1.rowIs mb 38 6 MV) := hrow.of_block (HB1.out.block _ hrow.lt)
  have c4 : w1.cell? ⟨mb, 4, none⟩ = some (.slice none 0 0) := by rw [HR1.out.cell (i := 4) (by omega), hMV]
  have mf := HR1.out.frozen 4
  clear hrow
  go_wp2_with fail
  go_loopg [6, 22] 0 (fun g v6 v22 wr => wr = w1 ∧ v6 = .slice none 0 0 ∧ v22 = .int .i64 0)
  case atStart => exact ⟨rfl, rfl, rfl⟩
  case round =>
    obtain ⟨hw, rfl, rfl⟩ := hrel
    have hw' := hw.symm
    subst hw'
    clear hw
    go_wp2_with fail
    rw [← HQ.out]
    show LeavesInM _ _ _ _ _ _ _ _ _
    refine leaves_marks Tryd.f31 _ _ [] _ List.nodup_nil (fun D hD => by cases hD) (fun W' h1 h2 h3 h4 h5 => ?_)
    refine ⟨_, results_none rfl _ _ _, ⟨_, rfl⟩, ?_, ?_⟩
    · exact (HR1.out.set 4 (.slice none 0 0)).of_block (h5 mb (by simp))
    · refine ⟨h1.trans HB1.out.os, h2.trans HB1.out.tape, h3.trans HB1.out.output, by rw [h4]; simpa using HB1.out.size, fun j hj b1 _ => ?_⟩
      rw [h5 j (by simp), blk_setCell_other _ _ _ _ (by exact b1)]
      exact HB1.out.block j hj

/-- What a call of RemoveValues on the message in block mb leaves. -/
structure MsgOut (mb : Nat) (MV : Nat → Value) (v : Value) (fs : List FB) (w w' : World) : Prop where
  out : ∃ v', w'.rowIs mb 38 6 (fun j => if j = 4 then v' else MV j) ∧ FV w' v' fs ∧ v'.ownBlock = v.ownBlock
  os : w'.os = w.os
  tape : w'.tape = w.tape
  output : w'.output = w.output
  size : w.heap.size ≤ w'.heap.size
  block : ∀ k, k < w.heap.size → k ≠ mb → v.ownBlock ≠ some k → w'.heap[k]? = w.heap[k]?

theorem keep_sum (l : List UInt8) : ((I.keep l).map List.length).sum ≤ l.length := by
  unfold I.keep
  split
  · simp
  · have := trim_len l
    simpa using this
theorem go_sum : ∀ (l cur : List UInt8) (s : I.St), ((I.go cur s l).map List.length).sum ≤ cur.length + l.length
  | [], cur, s => by
    have := keep_sum cur
    simpa [I.go] using this
  | c :: l, cur, s => by
    cases h : I.stp s c with
    | none =>
      have h1 := keep_sum cur
      have h2 := go_sum l [] I.s0
      rw [go_none h, List.map_append, List.sum_append, List.length_cons]
      simp only [List.length_nil] at h2
      omega
    | some t =>
      have h2 := go_sum l (cur ++ [c]) t
      rw [go_some h, List.length_cons]
      simp only [List.length_append, List.length_cons, List.length_nil] at h2
      omega
theorem filter_sum (p : List UInt8 → Bool) (xs : List (List UInt8)) : ((xs.filter p).map List.length).sum ≤ (xs.map List.length).sum := by
  induction xs with
  | nil => exact Nat.le_refl _
  | cons x xs ih =>
    rw [List.filter_cons]
    split
    · simp only [List.map_cons, List.sum_cons]; omega
    · simp only [List.map_cons, List.sum_cons]; omega
theorem join_sum : ∀ xs : List (List UInt8), (I.join xs).length ≤ (xs.map List.length).sum + 2 * xs.length
  | [] => by simp [I.join]
  | [x] => by simp [I.join]
  | x :: y :: r => by
    have ih := join_sum (y :: r)
    simp only [I.join, List.length_append, List.length_cons, List.map_cons, List.sum_cons] at *
    omega
theorem rB_map (d : ByteArray) (l : List UInt8) : (rB d (its l)).map (fun x => x.data.toList) = I.rest d.data.toList l := by
  unfold rB its I.rest
  rw [List.filter_map, List.map_map]
  have : ((fun x : ByteArray => x.data.toList) ∘ bs) = id := rfl
  rw [this, List.map_id]
  congr 1
  funext x
  show (!eqd d (bs x)) = (x != d.data.toList)
  unfold eqd
  rw [ByteArray.toList_eq, ByteArray.toList_eq, bs_list]
  rfl
theorem remB_size {f : FB} {name d : ByteArray} (hf : f.1.size ≤ 1048576 ∧ f.2.size ≤ 1048576) : ∀ g ∈ remOneB (nmd name) d f, g.1.size ≤ 4194304 ∧ g.2.size ≤ 4194304 := by
  intro g hg
  unfold remOneB at hg
  have h0 : f.1.size ≤ 4194304 ∧ f.2.size ≤ 4194304 := by omega
  split at hg
  · rw [List.mem_singleton] at hg; rw [hg]; exact h0
  · split at hg
    · rw [List.mem_singleton] at hg; rw [hg]; exact h0
    · split at hg
      · cases hg
      · rw [List.mem_singleton] at hg
        rw [hg]
        refine ⟨h0.1, ?_⟩
        show (bs _).size ≤ _
        rw [size_list, bs_list, rB_map]
        have h1 := join_sum (I.rest d.data.toList f.2.data.toList)
        have h2 := filter_sum (fun x => x != d.data.toList) (I.items f.2.data.toList)
        have h3 := go_sum f.2.data.toList [] I.s0
        have h4 := go_len f.2.data.toList [] I.s0
        have h5 : (I.rest d.data.toList f.2.data.toList).length ≤ (I.items f.2.data.toList).length := List.length_filter_le _ _
        have h6 := size_list f.2
        unfold I.items at *
        unfold I.rest at *
        unfold I.items at *
        simp only [List.length_nil] at *
        omega

set_option maxHeartbeats 1000000 in
theorem zzRemove_any (w0 : World) (mb : Nat) (MV : Nat → Value) (v : Value) (fs : List FB) (name d : ByteArray) (w : World) (hT0 : Tb w0) (hO : Old w0 w) (hrow : w.rowIs mb 38 6 MV) (hMV : MV 4 = v) (hF : FV w v fs)
    (hmb : w0.heap.size ≤ mb) (hfb : ∀ b, v.ownBlock = some b → w0.heap.size ≤ b ∧ b ≠ mb) (hn : fs.length ≤ 4194304) (hsz : ∀ f ∈ fs, f.1.size ≤ 4194304 ∧ f.2.size ≤ 4194304) (hna : asc name.data.toList = true) (hns : name.size ≤ 4194304) :
    Calls Tryd.prog 22 #[.pointer (some ⟨mb, 0, none⟩), .string name, .string d] w fun e w' => (∃ u, e = .returned u) ∧ MsgOut mb MV v (remB (nmd name) d fs) w w' := by
  rcases hF with ⟨hv, rfl⟩ | ⟨b, c, hv, hR⟩
  · have HR : Hid (w.rowIs mb 38 6 MV ∧ MV 4 = .slice none 0 0) := ⟨hrow, by rw [hMV, hv]⟩
    have HV : Hid (v = .slice none 0 0) := hv
    clear hT0 hO hrow hMV hmb hfb hn hsz hna hns hv
    go_enter Tryd.func22, Tryd.ntmps22
    go_wp2_with fail
    have HB1 : Hid (Below w.heap.size w (w.alloc (.cells #[.string d] 9))) := (Below.refl _ w).alloc (Nat.le_refl _) _
    generalize w.alloc (.cells #[.string d] 9) = w1 at *
    refine (removeValues_nil name d mb w.heap.size MV w1 (HR.out.1.of_block (HB1.out.block _ HR.out.1.lt)) HR.out.2).mono ?_
    rintro e w2 ⟨⟨u, rfl⟩, h1, h2⟩
    have HH : Hid (w2.rowIs mb 38 6 (fun j => if j = 4 then .slice none 0 0 else MV j) ∧ Fr2 mb mb w1 w2) := ⟨h1, h2⟩
    clear h1 h2
    go_wp2_with fail
    refine bodyPost_end (results_none rfl _ _ _) rfl ?_
    refine ⟨⟨_, rfl⟩, ⟨⟨_, HH.out.1, Or.inl ⟨rfl, rfl⟩, by rw [HV.out]⟩, HH.out.2.os.trans HB1.out.os, HH.out.2.tape.trans HB1.out.tape, HH.out.2.output.trans HB1.out.output, Nat.le_trans HB1.out.size HH.out.2.size, fun k hk h1 h2 => ?_⟩⟩
    exact (HH.out.2.block k (by have := HB1.out.size; omega) h1 h1).trans (HB1.out.block k hk)
  · obtain ⟨g0, hg0, hfa⟩ := hR.row
    have hob : v.ownBlock = some b := by rw [hv]; rfl
    have HR : Hid (w.rowIs mb 38 6 MV ∧ MV 4 = .slice (some ⟨b, 0, none⟩) fs.length c ∧ w.rowIs b 34 (c * 3) g0 ∧ (∀ j (h : j < fs.length), FA g0 j fs[j]) ∧ fs.length ≤ c) := ⟨hrow, by rw [hMV, hv], hg0, hfa, hR.le⟩
    have HV : Hid (v.ownBlock = some b) := hob
    have HT : Hid (Tb w0 ∧ Old w0 w ∧ w0.heap.size ≤ mb ∧ w0.heap.size ≤ b ∧ b ≠ mb) := ⟨hT0, hO, hmb, (hfb b hob).1, (hfb b hob).2⟩
    have HZ : Hid (fs.length ≤ 4194304 ∧ (∀ f ∈ fs, f.1.size ≤ 4194304 ∧ f.2.size ≤ 4194304) ∧ asc name.data.toList = true ∧ name.size ≤ 4194304) := ⟨hn, hsz, hna, hns⟩
    clear hT0 hO hrow hMV hmb hfb hn hsz hna hns hv hR hg0 hfa hob
    go_enter Tryd.func22, Tryd.ntmps22
    go_wp2_with fail
    have HB1 : Hid (Below w.heap.size w (w.alloc (.cells #[.string d] 9))) := (Below.refl _ w).alloc (Nat.le_refl _) _
    have HD1 : Hid ((w.alloc (.cells #[.string d] 9)).cell? ⟨w.heap.size, 0, none⟩ = some (.string d)) := World.cell?_alloc_new w _ _ 0
    generalize w.alloc (.cells #[.string d] 9) = w1 at *
    have HO1 : Hid (Old w0 w1) := ⟨Nat.le_trans HT.out.2.1.size HB1.out.size, fun k hk => (HB1.out.block k (by have := HT.out.2.1.size; omega)).trans (HT.out.2.1.block k hk)⟩
    have hlm := HR.out.1.lt
    have hlb := HR.out.2.2.1.lt
    refine (removeValues_any (fun u => Old w0 u) (nmd name) name d mb b w.heap.size fs.length c fs MV g0 w1 (HR.out.1.of_block (HB1.out.block _ hlm)) HR.out.2.1 (HR.out.2.2.1.of_block (HB1.out.block _ hlb)) (Ne.symm HT.out.2.2.2.2) rfl HR.out.2.2.2.2 HZ.out.1
      (fun u u' hu hf => hu.fr hf HT.out.2.2.1 HT.out.2.2.2.1) HO1.out HR.out.2.2.2.1 HZ.out.2.1 HD1.out (by omega) (by omega)
      (fun u x y z hu hx => is_any x y z name u hx HZ.out.2.2.2 HZ.out.2.2.1 (HT.out.1.same hu.block))
      (fun u bk cap xs h1 h2 h3 h4 h5 => join_any u bk cap xs h1 h2 h3 h4 h5)).mono ?_
    rintro e w2 ⟨⟨u, rfl⟩, ⟨g, h1, h2⟩, h3, h4⟩
    have HH : Hid (FRow w2 b c (remB (nmd name) d fs) ∧ w2.rowIs mb 38 6 (fun j => if j = 4 then .slice (some ⟨b, 0, none⟩) (remB (nmd name) d fs).length c else MV j) ∧ Fr2 mb b w1 w2) := ⟨⟨Nat.le_trans (remB_len _ _ _) HR.out.2.2.2.2, g, h1, h2⟩, h3, h4⟩
    clear h1 h2 h3 h4 hlm hlb
    go_wp2_with fail
    refine bodyPost_end (results_none rfl _ _ _) rfl ?_
    refine ⟨⟨_, rfl⟩, ⟨⟨_, HH.out.2.1, Or.inr ⟨b, c, rfl, HH.out.1⟩, by rw [HV.out]; rfl⟩, HH.out.2.2.os.trans HB1.out.os, HH.out.2.2.tape.trans HB1.out.tape, HH.out.2.2.output.trans HB1.out.output, Nat.le_trans HB1.out.size HH.out.2.2.size, fun k hk k1 k2 => ?_⟩⟩
    exact (HH.out.2.2.block k (by have := HB1.out.size; omega) k1 (fun e => k2 (by rw [HV.out, e]))).trans (HB1.out.block k hk)
end Go.Proofs.Qxb6616805aDoor
