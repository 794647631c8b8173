/- The arguments opened; the two tables off the listed variables. -/
import Derived.Test.Qxb6616805aDoorG7
import Derived.Test.Qxb6616805aDoorG10
import Derived.Test.Qxb6616805aDoorG11
import Derived.Test.Qxb6616805aDoorRows
import Derived.ProofKit
import Derived.OpenShut
import Derived.WideKeyArgs
import Derived.Deep.Slices
import Derived.MakeChecks
import Derived.Lib.LaidU8
set_option linter.unusedVariables false
set_option linter.unusedSimpArgs false
set_option linter.unnecessarySimpa false
namespace Go.Proofs.Qxb6616805aDoor
open Go.RowKit Go.Deep

theorem cells32 : Tryd.prog.cellsOf 32 = 2 := by kernel_rfl
theorem cells9 : Tryd.prog.cellsOf 9 = 1 := by kernel_rfl

section
variable {H : Type} {enc : TypeId × Value → H} {w : World} {base : Nat} {spare : Nat → Bool} {held : Bool} {fuel : Nat} {cs : List Value} {x : DataW H × List MemPlace}

theorem take1 (l : List Value) (i : Nat) {v : Value} (h : (l.drop i).take 1 = [v]) : l[i]? = some v := by
  have := congrArg (fun m => m[0]?) h
  simpa [List.getElem?_take, List.getElem?_drop] using this
theorem some_of_len {α : Type} {xs : List α} {n i : Nat} (h : xs.length = n) (hi : i < n) : ∃ y, xs[i]? = some y := ⟨xs[i]'(by omega), by simp [h, hi]⟩

/-- A name and a value. -/
theorem open32 (h : DataW.trod enc Tryd.prog w base spare held fuel 32 cs = some x) : ∃ (s t : ByteArray), cs[0]? = some (.string s) ∧ cs[1]? = some (.string t) := by
  obtain ⟨xs, m, -, -, hl, hxl, hf⟩ := DataW.trod_struct Tryd.underlying32 h
  have hxl' : xs.length = 2 := hxl
  have f0 : DataW.trod enc Tryd.prog w base spare held m 9 ((cs.drop 0).take (Tryd.prog.cellsOf 9)) = xs[0]? := hf 0 _ rfl
  have f1 : DataW.trod enc Tryd.prog w base spare held m 9 ((cs.drop 1).take (Tryd.prog.cellsOf 9)) = xs[1]? := hf 1 _ rfl
  obtain ⟨z0, e0⟩ := some_of_len hxl' (show 0 < 2 by omega)
  obtain ⟨z1, e1⟩ := some_of_len hxl' (show 1 < 2 by omega)
  rw [e0, cells9] at f0
  rw [e1, cells9] at f1
  obtain ⟨s, g0, -⟩ := DataW.trod_string Tryd.underlying9 f0
  obtain ⟨t, g1, -⟩ := DataW.trod_string Tryd.underlying9 f1
  exact ⟨s, t, take1 _ _ g0, take1 _ _ g1⟩

theorem add_zero (p : Addr) : p.add 0 = p := by simp [Addr.add]
theorem add_one (p : Addr) : p.add 1 = { block := p.block, off := p.off + 1 } := by simp [Addr.add]

theorem open22 (h : DataW.trod enc Tryd.prog w base spare held fuel 22 cs = some x) : ∃ (q : Option Addr) (n c : Nat) (fs : List FB), cs = [.slice q n c] ∧ NVV w q n c fs := by
  rcases open_slice Tryd.underlying22 h with ⟨rfl, -⟩ | ⟨a, n, c, m, k, D, Pl, rfl, -, hnc, -, hm, -, hV⟩
  · exact ⟨none, 0, 0, [], rfl, ⟨rfl, fun _ => ⟨rfl, rfl⟩, Nat.le_refl _, fun p hp => by cases hp⟩⟩
  · have hle : n ≤ m := by rw [hm]; split <;> omega
    rw [cells32] at hV
    obtain ⟨t, ht⟩ := choose_lt (α := FB) (n := n) (p := fun i t => w.cell? (a.add (i * 2)) = some (.string t.1) ∧ w.cell? { block := (a.add (i * 2)).block, off := (a.add (i * 2)).off + 1 } = some (.string t.2)) (fun i hi => by
      obtain ⟨cs', h1, h2⟩ := hV i (by omega)
      obtain ⟨s, u, k0, k1⟩ := open32 h2
      have c0 := (World.cells?_some h1).2.2 0 (by omega)
      have c1 := (World.cells?_some h1).2.2 1 (by omega)
      rw [k0, add_zero] at c0
      rw [k1, add_one] at c1
      exact ⟨(s, u), c0, c1⟩)
    refine ⟨some a, n, c, (List.range n).map t, rfl, ⟨by simp, fun h => (by cases h), hnc, fun p hp => ?_⟩⟩
    cases hp
    intro j hj
    have hjn : j < n := by simpa using hj
    simpa using ht j hjn

/-- Bytes. -/
def BY (w : World) (q : Option Addr) (n c : Nat) (z : Nat → Int) : Prop := (q = none → n = 0 ∧ c = 0) ∧ ∀ p, q = some p → ∀ j, j < n → w.cell? (p.add j) = some (.int .u8 (z j))
theorem cells5 : Tryd.prog.cellsOf 5 = 1 := by kernel_rfl
theorem open23 (h : DataW.trod enc Tryd.prog w base spare held fuel 23 cs = some x) : ∃ (a : Option Addr) (n c : Nat) (z : Nat → Int), cs = [.slice a n c] ∧ BY w a n c z := by
  rcases open_slice1 Tryd.underlying23 cells5 h with ⟨rfl, -⟩ | ⟨a, n, c, m, k, V, D, Pl, rfl, -, hnc, -, hm, -, hV⟩
  · exact ⟨none, 0, 0, fun _ => 0, rfl, ⟨fun _ => ⟨rfl, rfl⟩, fun p hp => by cases hp⟩⟩
  · have hle : n ≤ m := by rw [hm]; split <;> omega
    obtain ⟨z, hz⟩ := choose_lt (α := Int) (n := n) (p := fun i v => w.cell? (a.add i) = some (.int .u8 v)) (fun i hi => by
      obtain ⟨h1, h2⟩ := hV i (by omega)
      obtain ⟨v, h3, -⟩ := DataW.trod_int Tryd.underlying5 h2
      have e : V i = .int .u8 v := by simpa using h3
      exact ⟨v, by rw [h1, e]⟩)
    exact ⟨some a, n, c, z, rfl, ⟨fun h => (by cases h), fun p hp j hj => by cases hp; exact hz j hj⟩⟩

theorem cells77 : Tryd.prog.cellsOf 77 = 1 := by kernel_rfl
theorem cells78 : Tryd.prog.cellsOf 78 = 128 := by kernel_rfl
theorem cells82 : Tryd.prog.cellsOf 82 = 2 := by kernel_rfl
/-- A pair of runes. -/
theorem open82 {a b : Int} {p : List MemPlace} (h : DataW.trod enc Tryd.prog w base spare held fuel 82 cs = some (.agg [.lit (.int .u16 a), .lit (.int .u16 b)], p)) : cs[0]? = some (.int .u16 a) ∧ cs[1]? = some (.int .u16 b) := by
  obtain ⟨xs, m, -, hx, hl, hxl, hf⟩ := DataW.trod_struct Tryd.underlying82 h
  have hxl' : xs.length = 2 := hxl
  have f0 : DataW.trod enc Tryd.prog w base spare held m 77 ((cs.drop 0).take (Tryd.prog.cellsOf 77)) = xs[0]? := hf 0 _ rfl
  have f1 : DataW.trod enc Tryd.prog w base spare held m 77 ((cs.drop 1).take (Tryd.prog.cellsOf 77)) = xs[1]? := hf 1 _ rfl
  match xs, hxl' with
  | [z0, z1], _ =>
    rw [cells77] at f0 f1
    simp only [List.getElem?_cons_zero, List.getElem?_cons_succ] at f0 f1
    obtain ⟨n0, g0, k0, -⟩ := DataW.trod_int Tryd.underlying77 f0
    obtain ⟨n1, g1, k1, -⟩ := DataW.trod_int Tryd.underlying77 f1
    subst k0
    subst k1
    simp only [List.map_cons, List.map_nil, Prod.mk.injEq, DataW.agg.injEq, List.cons.injEq, DataW.lit.injEq, Lit.int.injEq, true_and, and_true] at hx
    obtain ⟨⟨rfl, rfl⟩, -⟩ := hx
    exact ⟨take1 _ _ g0, take1 _ _ g1⟩
end

def foldData : DataW Unit := Lib.tabData .u16 ((List.range 128).map fun c => (foldT c : Int))
def orbData : DataW Unit := .slice ((List.range 94).map fun i => .agg [.lit (.int .u16 (fromL.getD i 0 : Int)), .lit (.int .u16 (toL.getD i 0 : Int))]) []
set_option maxRecDepth 100000 in
theorem fold_eq : (Rows.laid_unicode_asciiFold : DataW Unit) = foldData := by kernel_rfl
set_option maxRecDepth 100000 in
theorem orb_eq : (Rows.laid_unicode_caseOrbit : DataW Unit) = orbData := by kernel_rfl
theorem glob0 : Tryd.prog.globalNamed "unicode.asciiFold" = some 0 := by kernel_rfl
theorem glob1 : Tryd.prog.globalNamed "unicode.caseOrbit" = some 1 := by kernel_rfl
theorem globT0 : (Tryd.prog.globals[0]?).map (·.type) = some 78 := by kernel_rfl
theorem globT1 : (Tryd.prog.globals[1]?).map (·.type) = some 79 := by kernel_rfl

theorem tb_of_laid {W : World} {l : List (String × DataW Unit)} (h : laidMet Tryd.prog l W) (h0 : ("unicode.asciiFold", Rows.laid_unicode_asciiFold) ∈ l) (h1 : ("unicode.caseOrbit", Rows.laid_unicode_caseOrbit) ∈ l) : Tb W := by
  refine ⟨fun c hc => ?_, ?_⟩
  · obtain ⟨g, t, cs, fuel, p, hg, hty, hvar, hd⟩ := Lib.laidMet.reads h h0
    obtain rfl := Option.some.inj (glob0.symm.trans hg)
    obtain rfl := Option.some.inj (globT0.symm.trans hty)
    rw [fold_eq] at hd
    have hcs := Lib.cells_of_tab Tryd.underlying78 Tryd.underlying77 cells77 cells78 hd
    have := World.var?_cell hg hvar c
    rw [this, ← Array.getElem?_toList, hcs]
    simp [hc]
  · obtain ⟨g, t, cs, fuel, p, hg, hty, hvar, hd⟩ := Lib.laidMet.reads h h1
    obtain rfl := Option.some.inj (glob1.symm.trans hg)
    obtain rfl := Option.some.inj (globT1.symm.trans hty)
    rw [orb_eq] at hd
    rcases DataW.trod_slice Tryd.underlying79 hd with ⟨-, hx⟩ | ⟨a, len, cap, elems, rest, n, -, hcs, hx, -, -, -, hlen, hel, -⟩
    · simp [orbData] at hx
    · simp only [orbData, Prod.mk.injEq, DataW.slice.injEq] at hx
      have hds := hx.1.1
      have el : len = 94 := by
        have := congrArg List.length hds
        simp at this
        omega
      subst el
      have hc0 := World.var?_cell hg hvar 0
      rw [← Array.getElem?_toList, hcs] at hc0
      refine ⟨a, cap, hc0, fun i hi => ?_⟩
      have hE := hel i hi
      have hi' : i < elems.length := by omega
      rw [List.getElem?_eq_getElem hi', cells82] at hE
      obtain ⟨c1, hc1, hy1⟩ := Option.bind_eq_some_iff.1 hE
      have hd1 : elems[i].1 = .agg [.lit (.int .u16 (fromL.getD i 0 : Int)), .lit (.int .u16 (toL.getD i 0 : Int))] := by
        have := congrArg (fun l => l[i]?) hds
        simpa [hi, hi'] using this.symm
      obtain ⟨k0, k1⟩ := open82 (p := elems[i].2) (a := fromL.getD i 0) (b := toL.getD i 0) (by rw [hy1, ← hd1])
      have z0 := (World.cells?_some hc1).2.2 0 (by omega)
      have z1 := (World.cells?_some hc1).2.2 1 (by omega)
      rw [k0, add_zero] at z0
      rw [k1, add_one, ← add_two] at z1
      exact ⟨z0, z1⟩
end Go.Proofs.Qxb6616805aDoor
