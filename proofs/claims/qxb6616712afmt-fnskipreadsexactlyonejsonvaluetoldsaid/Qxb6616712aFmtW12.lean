/- The walks of unescape and quoted. -/
import Derived.Test.Qxb6616712aFmtW9
import Derived.Deep.RegionWith
set_option linter.unusedVariables false
set_option linter.unusedSimpArgs false
set_option linter.unnecessarySimpa false
namespace Go.Proofs.Qxb6616712aFmt
open Go.Extern.Stop Go.Stop Go.Extern
open Go.RowKit

theorem Fr.belowB {b : Nat} {w w1 w2 : World} (h : Fr b w w1) (k : Below w.heap.size w1 w2) : Fr b w w2 :=
  ⟨k.os.trans h.os, k.tape.trans h.tape, k.output.trans h.output, Nat.le_trans h.size k.size, fun i hi hb => (k.block i hi).trans (h.block i hi hb)⟩
theorem Rd.belowB {b B : Nat} {s : ByteArray} {p d : Int} {w w' : World} (h : Rd b s p d w) (hb : b < B) (k : Below B w w') : Rd b s p d w' := by
  unfold Rd at h ⊢; rw [k.block b hb]; exact h

theorem Out2_none {b : Nat} {s : ByteArray} {d : Int} {w w' : World} {r : Option (List UInt8)} {e : Ending} (hR : r = none) (h1 : ∃ x T v, e = .returned (.tuple #[.string x, .iface T v])) (h2 : ∃ q d' : Int, Rd b s q d' w') (h3 : Fr b w w') : Out2 b s d w r e w' := by
  subst hR; exact ⟨h1, h2, h3⟩
theorem Out2_some {b : Nat} {s : ByteArray} {d : Int} {w w' : World} {r : Option (List UInt8)} {l : List UInt8} {e : Ending} (hR : r = some l) (h1 : ∃ x, e = .returned (.tuple #[.string x, .nilIface])) (h2 : ∃ q : Nat, q ≤ s.size ∧ s.data.toList.drop q = l ∧ Rd b s q d w') (h3 : Fr b w w') : Out2 b s d w r e w' := by
  subst hR; exact ⟨h1, h2, h3⟩

theorem u8_le (x : UInt8) : (x.toNat : Int) ≤ 255 := by have := x.toNat_lt; omega

theorem st_u_some {s : ByteArray} {k k1 k2 : Nat} (h : J.str (s.data.toList.drop k) = (match hex4L (s.data.toList.drop (k1 + 1)) with | none => none | some t2 => J.str t2)) (hx : hex4L (s.data.toList.drop (k1 + 1)) = some (s.data.toList.drop k2)) : J.str (s.data.toList.drop k) = J.str (s.data.toList.drop k2) := by
  rw [h, hx]
theorem st_u_none {s : ByteArray} {k k1 : Nat} (h : J.str (s.data.toList.drop k) = (match hex4L (s.data.toList.drop (k1 + 1)) with | none => none | some t2 => J.str t2)) (hx : hex4L (s.data.toList.drop (k1 + 1)) = none) : J.str (s.data.toList.drop k) = none := by
  rw [h, hx]

theorem prefix_u {s : ByteArray} {k : Nat} (h : Lib.hasPrefix (s.data.toList.drop k) [92, 117] = true) : ∃ h1 : k + 1 < s.size, ((s[k]'(by omega)).toNat : Int) = 92 ∧ (s[k + 1].toNat : Int) = 117 := by
  unfold Lib.hasPrefix at h
  obtain ⟨t, ht⟩ := List.isPrefixOf_iff_prefix.1 h
  obtain ⟨h0, e0, r0⟩ := drop_inv ht.symm
  obtain ⟨h1, e1, _⟩ := drop_inv r0
  exact ⟨h1, by rw [e0]; rfl, by rw [e1]; rfl⟩
theorem isSur_is (c : Int) (w : World) (z : Bool) (h : Hid (surB c = z)) : Calls Tryf.prog 54 #[.int .i32 c] w fun e w' => e = .returned (.bool z) ∧ w' = w := by
  have h1 := h.out
  rw [← h1]; exact IsSurrogate_any c w
theorem hasPre_is (x y : ByteArray) (w : World) (z : Bool) (h : Hid (Lib.hasPrefix x.data.toList y.data.toList = z)) : Calls Tryf.prog 55 #[.string x, .string y] w fun e w' => e = .returned (.bool z) ∧ w' = w := by
  have h1 := h.out
  rw [← h1]; exact Tryf.strings_HasPrefix x y w

theorem quiet_at {P : Program} {f : FuncId} {args : Array Value} {w : World} {q n : Nat} {v : Value}
    (h : Calls P f args (w.drewN (q + n)) fun e w' => e = .returned v ∧ w' = w.drewN (q + n)) : Calls P f args (w.drewN (q + n)) fun e w'' => e = .returned v ∧ ∃ m, w'' = w.drewN (q + m) :=
  h.mono fun _ _ ⟨he, hm⟩ => ⟨he, n, hm⟩

set_option maxRecDepth 100000 in
set_option maxHeartbeats 16000000 in
theorem unescape_any (B : Nat) (E : World → Prop) (hSE : SErr B E) (b : Nat) (s : ByteArray) (st p : Nat) (d : Int) (w : World) (hr : Rd b s p d w) (hs : s.size ≤ 1048576) (hst : st ≤ p) (hp : p ≤ s.size) (hb : B ≤ b) (hE : E w) :
    Calls Tryf.prog 39 #[.pointer (some ⟨b, 0, none⟩), .int .i64 st] w fun e w' => Out2 b s d w (J.str (s.data.toList.drop p)) e w' := by
  have hlt0 := hr.lt
  have c0 := hr.cell0
  have c1 := hr.cell1
  have i1 : (st : Int) ≤ (p : Int) := by omega
  have i2 : (p : Int) ≤ (s.size : Int) := by omega
  go_enter Tryf.func39, Tryf.ntmps39
  go_upto_region 2 with fail
  go_cut [] (fun wx => Rd b s p d wx ∧ Fr b w wx ∧ Bd w.heap.size (4 * p) wx)
  case first =>
    as_aux_lemma =>
      have hBn := Bd.new w
      have hxs : (s.extract st p).size ≤ p := by rw [ByteArray.size_extract]; omega
      go_region_with (go_at_call 49; refine (bd_WriteString w.heap.size 0 (s.extract st p) _ (by exact hBn) (by omega)).mono ?_; rintro e w' ⟨rfl, hB1, hb1⟩)
      all_goals
        go_wp2_with fail
        go_meet
        case rel => exact ⟨(hr.alloc _).drew.belowB hlt0 hb1, (((Fr.refl b w).alloc _).drew).belowB hb1, hB1.mono (by omega)⟩
  case rest =>
    obtain ⟨hr1, hf1, hB1⟩ := hcut
    go_wp2_with fail
    go_loopg [] (s.size - p) (fun gn wr => ∃ k : Nat, gn = s.size - k ∧ k ≤ s.size ∧ Rd b s k d wr ∧ Fr b w wr ∧ Bd w.heap.size (4 * k) wr ∧ Hid (J.str (s.data.toList.drop p) = J.str (s.data.toList.drop k)))
    case atStart => exact ⟨p, rfl, hp, hr1, hf1, hB1, rfl⟩
    case round =>
      obtain ⟨k, hgk, hks, hrk, hfk, hBk, HK⟩ := hrel
      have HG : Hid (gk = s.size - k) := hgk
      clear hgk hr1 hf1 hB1 c0 c1 i1 i2
      have g0 := hrk.cell0
      have g1 := hrk.cell1
      have gf := hrk.free 1
      by_cases hlt : k < s.size
      · have hlt' : (k : Int) < (s.size : Int) := by omega
        by_cases hq : (s[k].toNat : Int) = 34
        · skip
          as_aux_lemma =>
            have HE' : Hid (J.str (s.data.toList.drop k) = some (s.data.toList.drop (k + 1))) := st_quote hlt hq
            have hq' : ((s[k].toNat : Int) == 34) = true := by simpa using hq
            clear hq
            go_wp2_with fail
            go_quiet (fail)
            go_wp2_with fail
            go_quiet (fail)
            go_wp2_with fail
            refine (bd_String w.heap.size (4 * k) _ ((hBk.drewN _).fr hlt0 ((Fr.refl b _).setCell _ _))).mono ?_
            rintro e w2 ⟨⟨x, rfl⟩, hb2⟩
            go_wp2_with fail
            go_ret2
            exact Out2_some (HK.out.trans HE'.out) ⟨_, rfl⟩ ⟨k + 1, hlt, rfl, ((hrk.drewN _).set1 _).belowB hlt0 hb2⟩ (((hfk.drewN _).setCell _ _).belowB hb2)
        · have hq' : ((s[k].toNat : Int) == 34) = false := by simpa using hq
          by_cases hc : (s[k].toNat : Int) < 32
          · skip
            as_aux_lemma =>
              have HE : Hid (J.str (s.data.toList.drop k) = none) := st_ctl hlt hc
              go_wp2_with fail
              go_quiet (fail)
              go_wp2_with fail
              go_quiet (fail)
              go_wp2_with fail
              refine (hSE.call _ (hrk.drewN _) hs (hSE.keep hb hE (hfk.drewN _))).mono ?_
              rintro e w2 ⟨⟨T, v, rfl⟩, hr2, hf2⟩
              go_wp2_with fail
              go_ret2
              exact Out2_none (HK.out.trans HE.out) ⟨_, T, v, rfl⟩ ⟨_, _, hr2⟩ ((hfk.drewN _).trans hf2)
          · have hc' : decide ((s[k].toNat : Int) < 32) = false := by simpa using hc
            by_cases h92 : (s[k].toNat : Int) = 92
            · have h92' : ((s[k].toNat : Int) != 92) = false := by simp; omega
              have H92 : Hid ((s[k].toNat : Int) = 92) := h92
              obtain ⟨k1, hk1⟩ : ∃ k1, k1 = k + 1 := ⟨_, rfl⟩
              have HK1 : Hid (k1 = k + 1) := hk1
              have hk1s : k1 ≤ s.size := by omega
              clear hk1 hq hc
              go_wp2_with fail
              go_quiet (fail)
              go_wp2_with fail
              go_quiet (fail)
              go_upto_region 13 with fail
              go_cut [] (fun wx => Rd b s k1 d wx ∧ Fr b w wx ∧ Bd w.heap.size (4 * k) wx)
              case first =>
                go_wp2_with fail
                go_meet
                case rel =>
                  rw [HK1.out]
                  exact ⟨(hrk.drewN _).set1 _, (hfk.drewN _).setCell _ _, (hBk.drewN _).fr hlt0 ((Fr.refl b _).setCell _ _)⟩
              case rest =>
                obtain ⟨hr1, hf1, hB1⟩ := hcut
                clear hrk hfk hBk g0 g1 gf hq' hc' h92' hlt' h92
                have g0 := hr1.cell0
                have g1 := hr1.cell1
                have gf := hr1.free 1
                by_cases hlt1 : k1 < s.size
                · have hne : ((k1 : Int) == (s.size : Int)) = false := by simp; omega
                  have hlt1' : (k1 : Int) < (s.size : Int) := by omega
                  cases hesc : J.isEsc s[k1] with
                  | true =>
                    as_aux_lemma =>
                      have HE : Hid (J.str (s.data.toList.drop k) = J.str (s.data.toList.drop (k1 + 1))) := by
                        have h92 := H92.out
                        have hk1 := HK1.out
                        subst hk1; exact st_esc hlt h92 hlt1 hesc
                      obtain ⟨x1, x2⟩ := (esc_index s[k1]).1 hesc
                      clear hesc
                      go_wp2_with fail
                      go_quiet (fail)
                      go_wp2_with fail
                      go_quiet ((go_at_call 52; exact quiet_at (Tryf.strings_IndexByte _ _ _)))
                      go_wp2_with fail
                      refine (bd_WriteByte w.heap.size (4 * k) _ _ (hB1.drewN _) (by omega) (Int.natCast_nonneg _) (u8_le _)).mono ?_
                      rintro e w2 ⟨rfl, hB2, hb2⟩
                      have hr2 := (hr1.drewN _).belowB hlt0 hb2
                      have e1 := hr2.cell1
                      have ef := hr2.free 1
                      go_wp2_with fail
                      go_roundg (s.size - (k1 + 1))
                      case measure => rw [HG.out]; have := HK1.out; omega
                      case rel =>
                        have := HK1.out
                        exact ⟨k1 + 1, rfl, hlt1, hr2.set1 _, ((hf1.drewN _).belowB hb2).setCell _ _, (hB2.mono (by omega)).fr hlt0 ((Fr.refl b _).setCell _ _), HK.out.trans HE.out⟩
                  | false =>
                    obtain x1 := (esc_index s[k1]).2 hesc
                    by_cases hu : (s[k1].toNat : Int) = 117
                    · have HE : Hid (J.str (s.data.toList.drop k) = (match hex4L (s.data.toList.drop (k1 + 1)) with | none => none | some t2 => J.str t2)) := by
                        have h92 := H92.out
                        have hk1 := HK1.out
                        subst hk1; exact st_u hlt h92 hlt1 hu
                      have hu' : ((s[k1].toNat : Int) != 117) = false := by simpa using hu
                      clear hu hesc
                      go_wp2_with fail
                      go_quiet (fail)
                      go_wp2_with fail
                      go_quiet ((go_at_call 52; exact quiet_at (Tryf.strings_IndexByte _ _ _)))
                      go_wp2_with fail
                      go_quiet (fail)
                      go_wp2_with fail
                      refine (hex4_any B E hSE b s k1 d _ (hr1.drewN _) hs hlt1 hb (hSE.keep hb hE (hf1.drewN _))).mono ?_
                      rintro e w2 (⟨hx, hk5, ⟨cc, hcc1, hcc2, rfl⟩, hr2, hf2⟩ | ⟨hx, ⟨cc, T, v, rfl⟩, ⟨q, hr2⟩, hf2⟩)
                      · obtain ⟨k2, hk2⟩ : ∃ k2, k2 = k1 + 5 := ⟨_, rfl⟩
                        rw [← hk2] at hx hk5 hr2
                        have HX : Hid (J.str (s.data.toList.drop k) = J.str (s.data.toList.drop k2)) := st_u_some HE.out hx
                        have HK2 : Hid (k2 = k1 + 5) := hk2
                        clear hx hk2 HE
                        have hf2' := (hf1.drewN _).trans hf2
                        have hB2 := (hB1.drewN _).fr hlt0 hf2
                        clear hr1 hf1 hB1 g0 g1 gf hf2
                        have g0 := hr2.cell0
                        have g1 := hr2.cell1
                        have gf := hr2.free 1
                        have hk5' : (k2 : Int) ≤ (s.size : Int) := by omega
                        go_upto_region 24 with fail
                        go_cut [145] (fun s145 wx => (s145 = .bool false ∨ s145 = .bool true ∧ Hid (Lib.hasPrefix (s.data.toList.drop k2) [92, 117] = true)) ∧ Rd b s k2 d wx ∧ Fr b w wx ∧ Bd w.heap.size (4 * k) wx)
                        case first =>
                          cases hS : surB cc with
                          | false =>
                            as_aux_lemma =>
                              have HS : Hid (surB cc = false) := hS
                              clear hS
                              go_quiet ((go_at_call 54; exact Calls.quiet_of_same (isSur_is _ _ false HS)))
                              go_wp2_with fail
                              go_meet
                              case rel => exact ⟨Or.inl rfl, hr2.drewN _, hf2'.drewN _, hB2.drewN _⟩
                          | true =>
                            as_aux_lemma =>
                              have HS : Hid (surB cc = true) := hS
                              clear hS
                              cases hP : Lib.hasPrefix (s.extract k2 s.size).data.toList [92, 117] with
                              | false =>
                                have HP : Hid (Lib.hasPrefix (s.extract k2 s.size).data.toList [92, 117] = false) := hP
                                clear hP
                                go_quiet ((first | (go_at_call 54; exact Calls.quiet_of_same (isSur_is _ _ true HS)) | (go_at_call 55; exact Calls.quiet_of_same (hasPre_is _ _ _ false HP))))
                                go_wp2_with fail
                                go_meet
                                case rel => exact ⟨Or.inl rfl, hr2.drewN _, hf2'.drewN _, hB2.drewN _⟩
                              | true =>
                                have HP : Hid (Lib.hasPrefix (s.extract k2 s.size).data.toList [92, 117] = true) := hP
                                clear hP
                                go_quiet ((first | (go_at_call 54; exact Calls.quiet_of_same (isSur_is _ _ true HS)) | (go_at_call 55; exact Calls.quiet_of_same (hasPre_is _ _ _ true HP))))
                                go_wp2_with fail
                                go_meet
                                case rel => exact ⟨Or.inr ⟨rfl, by have := HP.out; rw [Lib.extract_to_end] at this; exact this⟩, hr2.drewN _, hf2'.drewN _, hB2.drewN _⟩
                        case rest =>
                          as_aux_lemma =>
                            obtain ⟨hz, hr3, hf3, hB3⟩ := hcut
                            clear hr2 hf2' hB2 g0 g1 gf hk5'
                            have g0 := hr3.cell0
                            have g1 := hr3.cell1
                            have gf := hr3.free 1
                            go_upto_if 145 with fail
                            go_cut [9] (fun s9 wx => ∃ (c9 : Int) (k3 : Nat), -2147483648 ≤ c9 ∧ c9 ≤ 2147483647 ∧ s9 = .int .i32 c9 ∧ k2 ≤ k3 ∧ k3 ≤ s.size ∧ Rd b s k3 d wx ∧ Fr b w wx ∧ Bd w.heap.size (4 * k) wx ∧ Hid (J.str (s.data.toList.drop k) = J.str (s.data.toList.drop k3)))
                            case first =>
                              rcases hz with rfl | ⟨rfl, HP⟩
                              · go_wp2_with fail
                                go_meet
                                case rel => exact ⟨cc, k2, hcc1, hcc2, rfl, Nat.le_refl _, hk5, hr3, hf3, hB3, HX.out⟩
                              · obtain ⟨hk6, hp1, hp2⟩ := prefix_u HP.out
                                obtain ⟨k6, hk6'⟩ : ∃ k6, k6 = k2 + 1 := ⟨_, rfl⟩
                                rw [← hk6'] at hk6
                                have HK6 : Hid (k6 = k2 + 1) := hk6'
                                have HU : Hid (J.str (s.data.toList.drop k2) = (match hex4L (s.data.toList.drop (k6 + 1)) with | none => none | some t2 => J.str t2)) := by
                                  show _ = _
                                  subst hk6'
                                  exact st_u (by omega) hp1 hk6 hp2
                                clear hp1 hp2 hk6'
                                go_upto_region 26 with fail
                                go_cut [] (fun wx => Rd b s k6 d wx ∧ Fr b w wx ∧ Bd w.heap.size (4 * k) wx)
                                case first =>
                                  go_wp2_with fail
                                  go_meet
                                  case rel =>
                                    rw [HK6.out]
                                    exact ⟨hr3.set1 _, hf3.setCell _ _, hB3.fr hlt0 ((Fr.refl b _).setCell _ _)⟩
                                case rest =>
                                  obtain ⟨hr5, hf5, hB5⟩ := hcut
                                  clear hr3 hf3 hB3 g0 g1 gf
                                  go_wp2_with fail
                                  refine (hex4_any B E hSE b s k6 d _ hr5 hs hk6 hb (hSE.keep hb hE hf5)).mono ?_
                                  rintro e w6 (⟨hx, hk7, ⟨c2, hc21, hc22, rfl⟩, hr6, hf6⟩ | ⟨hx, ⟨c2, T, v, rfl⟩, ⟨q, hr6⟩, hf6⟩)
                                  · obtain ⟨k7, hk7'⟩ : ∃ k7, k7 = k6 + 5 := ⟨_, rfl⟩
                                    rw [← hk7'] at hx hk7 hr6
                                    have HX7 : Hid (J.str (s.data.toList.drop k) = J.str (s.data.toList.drop k7)) := HX.out.trans (st_u_some HU.out hx)
                                    have HK7 : Hid (k7 = k6 + 5) := hk7'
                                    clear hx hk7' HU
                                    have hf6' := hf5.trans hf6
                                    have hB6 := hB5.fr hlt0 hf6
                                    clear hr5 hf5 hB5 hf6
                                    have g1 := hr6.cell1
                                    have gf := hr6.free 1
                                    go_wp2_with fail
                                    refine (DecodeRune_any cc c2 _).mono ?_
                                    rintro e w7 ⟨⟨r7, h71, h72, rfl⟩, rfl⟩
                                    by_cases hr7 : r7 = 65533
                                    · have hne7 : (r7 != 65533) = false := by simpa using hr7
                                      clear hr7
                                      go_wp2_with fail
                                      go_meet
                                      case rel => exact ⟨cc, k2, hcc1, hcc2, rfl, Nat.le_refl _, hk5, hr6.set1 _, hf6'.setCell _ _, hB6.fr hlt0 ((Fr.refl b _).setCell _ _), HX.out⟩
                                    · have hne7 : (r7 != 65533) = true := by simpa using hr7
                                      clear hr7
                                      go_wp2_with fail
                                      go_meet
                                      case rel =>
                                        have := HK6.out
                                        have := HK7.out
                                        exact ⟨r7, k7, h71, h72, rfl, by omega, hk7, hr6, hf6', hB6, HX7.out⟩
                                  · have HX7 : Hid (J.str (s.data.toList.drop k) = none) := HX.out.trans (st_u_none HU.out hx)
                                    clear hx HU
                                    go_wp2_with fail
                                    go_ret2
                                    exact Out2_none (HK.out.trans HX7.out) ⟨_, T, v, rfl⟩ ⟨_, _, hr6⟩ (hf5.trans hf6)
                            case rest =>
                              clear hr3 hf3 hB3 g0 g1 gf hz
                              obtain ⟨c9, k3, h91, h92, rfl, hk3, hk3s, hr4, hf4, hB4, H4⟩ := hcut
                              go_wp2_with fail
                              refine (bd_WriteRune w.heap.size (4 * k) c9 _ hB4 (by omega) h91 h92).mono ?_
                              rintro e w5 ⟨⟨m, rfl⟩, hB5, hb5⟩
                              go_wp2_with fail
                              go_roundg (s.size - k3)
                              case measure => rw [HG.out]; have := HK1.out; have := HK2.out; omega
                              case rel =>
                                have := HK1.out
                                have := HK2.out
                                exact ⟨k3, rfl, hk3s, hr4.belowB hlt0 hb5, hf4.belowB hb5, hB5.mono (by omega), HK.out.trans H4.out⟩
                      · have HX : Hid (J.str (s.data.toList.drop k) = none) := st_u_none HE.out hx
                        clear hx HE
                        as_aux_lemma =>
                          go_wp2_with fail
                          go_ret2
                          exact Out2_none (HK.out.trans HX.out) ⟨_, T, v, rfl⟩ ⟨_, _, hr2⟩ ((hf1.drewN _).trans hf2)
                    · skip
                      as_aux_lemma =>
                        have HE : Hid (J.str (s.data.toList.drop k) = none) := by
                          have h92 := H92.out
                          have hk1 := HK1.out
                          subst hk1; exact st_bad hlt h92 hlt1 hesc hu
                        have hu' : ((s[k1].toNat : Int) != 117) = true := by simpa using hu
                        clear hu hesc
                        go_wp2_with fail
                        go_quiet (fail)
                        go_wp2_with fail
                        go_quiet ((go_at_call 52; exact quiet_at (Tryf.strings_IndexByte _ _ _)))
                        go_wp2_with fail
                        go_quiet (fail)
                        go_wp2_with fail
                        refine (hSE.call _ (hr1.drewN _) hs (hSE.keep hb hE (hf1.drewN _))).mono ?_
                        rintro e w2 ⟨⟨T, v, rfl⟩, hr2, hf2⟩
                        go_wp2_with fail
                        go_ret2
                        exact Out2_none (HK.out.trans HE.out) ⟨_, T, v, rfl⟩ ⟨_, _, hr2⟩ ((hf1.drewN _).trans hf2)
                · skip
                  as_aux_lemma =>
                    have hne : ((k1 : Int) == (s.size : Int)) = true := by simp; omega
                    have HE : Hid (J.str (s.data.toList.drop k) = none) := by
                      have h92 := H92.out
                      have hk1 := HK1.out
                      subst hk1; exact st_bs_end hlt h92 hlt1
                    go_wp2_with fail
                    go_quiet (fail)
                    go_wp2_with fail
                    refine (hSE.call _ (hr1.drewN _) hs (hSE.keep hb hE (hf1.drewN _))).mono ?_
                    rintro e w2 ⟨⟨T, v, rfl⟩, hr2, hf2⟩
                    go_wp2_with fail
                    go_ret2
                    exact Out2_none (HK.out.trans HE.out) ⟨_, T, v, rfl⟩ ⟨_, _, hr2⟩ ((hf1.drewN _).trans hf2)
            · skip
              as_aux_lemma =>
                have HE : Hid (J.str (s.data.toList.drop k) = J.str (s.data.toList.drop (k + 1))) := st_plain hlt (by omega) hq h92
                have h92' : ((s[k].toNat : Int) != 92) = true := by simpa using h92
                have hu8 : (s[k].toNat : Int) ≤ 255 := u8_le _
                clear h92 hc hq
                go_wp2_with fail
                go_quiet (fail)
                go_wp2_with fail
                go_quiet (fail)
                go_wp2_with fail
                refine (bd_WriteByte w.heap.size (4 * k) _ _ (hBk.drewN _) (by omega) (by omega) hu8).mono ?_
                rintro e w2 ⟨rfl, hB2, hb2⟩
                have hr2 := (hrk.drewN _).belowB hlt0 hb2
                have e1 := hr2.cell1
                have ef := hr2.free 1
                go_wp2_with fail
                go_roundg (s.size - (k + 1))
                case measure => rw [HG.out]; omega
                case rel => exact ⟨k + 1, rfl, hlt, hr2.set1 _, ((hfk.drewN _).belowB hb2).setCell _ _, (hB2.mono (by omega)).fr hlt0 ((Fr.refl b _).setCell _ _), HK.out.trans HE.out⟩
      · skip
        as_aux_lemma =>
          have hge : decide ((k : Int) < (s.size : Int)) = false := by simp; omega
          have HE : Hid (J.str (s.data.toList.drop k) = none) := st_end hlt
          go_wp2_with fail
          go_quiet (fail)
          go_wp2_with fail
          refine (hSE.call _ (hrk.drewN _) hs (hSE.keep hb hE (hfk.drewN _))).mono ?_
          rintro e w2 ⟨⟨T, v, rfl⟩, hr2, hf2⟩
          go_wp2_with fail
          go_ret2
          exact Out2_none (HK.out.trans HE.out) ⟨_, T, v, rfl⟩ ⟨_, _, hr2⟩ ((hfk.drewN _).trans hf2)

end Go.Proofs.Qxb6616712aFmt
