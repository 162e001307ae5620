/-
  Seat b0488aD: what the rows' listed variables give: the table of powers of ten, the two specs.
-/
import Derived.Test.YbulkjbuDoorRows
import Derived.Test.YbulkjbuDoorBuild
import Derived.Test.YbulkjbuDoorLrn
import Derived.ProofKit
import Derived.LaidMore
import Derived.OpenShut
import Derived.Stop.Joined
import Derived.ChangeSame
import Derived.ChangeVars
import Derived.Lib.LaidTab
namespace Go.Proofs.YbulkjbuDoor
open Go.ChangeShapes Go.WideShapes Go.ChangeAt Go.WideMaps Go.WideElems Go.RowKit

theorem own : ownKnob Ybad.prog.godebug = none := by kernel_rfl
theorem gPos : Ybad.prog.globalNamed "example.com/neva/neva.positive" = some 0 := by kernel_rfl
theorem gNeg : Ybad.prog.globalNamed "example.com/neva/neva.negative" = some 1 := by kernel_rfl
theorem tPos : (Ybad.prog.globals[0]?).map (·.type) = some 44 := by kernel_rfl
theorem tNeg : (Ybad.prog.globals[1]?).map (·.type) = some 44 := by kernel_rfl
theorem tPow : (Ybad.prog.globals[4]?).map (·.type) = some 138 := by kernel_rfl
abbrev laid5 : List (String × DataW Unit) := Rows.lawS0488BSettingsRow.laid

theorem int_of_trod {H : Type} {enc : TypeId × Value → H} {P : Program} {w : World} {base : Nat} {sp : Nat → Bool} {held : Bool} {fuel : Nat} {t : TypeId} {k : IntKind} {c : Value} {y : DataW H × List MemPlace}
    (ht : P.underlying t = some (.int k)) (h : DataW.trod enc P w base sp held fuel t [c] = some y) : ∃ n, c = .int k n ∧ y = (.lit (.int k n), []) := by
  cases fuel with
  | zero => simp [DataW.trod] at h
  | succ fuel =>
    cases c <;> simp [DataW.trod, ht] at h
    rename_i k' n
    obtain ⟨⟨rfl, _⟩, rfl⟩ := h
    exact ⟨n, rfl, rfl⟩
theorem string_of_trod {H : Type} {enc : TypeId × Value → H} {P : Program} {w : World} {base : Nat} {sp : Nat → Bool} {held : Bool} {fuel : Nat} {t : TypeId} {c : Value} {y : DataW H × List MemPlace}
    (ht : P.underlying t = some .string) (h : DataW.trod enc P w base sp held fuel t [c] = some y) : ∃ s : ByteArray, c = .string s ∧ y = (.lit (.string s.data.toList), []) := by
  cases fuel with
  | zero => simp [DataW.trod] at h
  | succ fuel =>
    cases c <;> simp [DataW.trod, ht] at h
    rename_i s
    exact ⟨s, rfl, by rw [← h.2]⟩
set_option maxRecDepth 100000 in
theorem cells_of_spec {H : Type} {enc : TypeId × Value → H} {w : World} {base : Nat} {sp : Nat → Bool} {held : Bool} {fuel : Nat} {cs : List Value} {x : DataW H × List MemPlace} (h : DataW.trod enc Ybad.prog w base sp held fuel 44 cs = some x) :
    ∃ (s0 s1 s2 : ByteArray) (i0 i1 : Int), cs = [.string s0, .string s1, .string s2, .int .i64 i0, .int .i64 i1] ∧ x = (.agg [.lit (.string s0.data.toList), .lit (.string s1.data.toList), .lit (.string s2.data.toList), .lit (.int .i64 i0), .lit (.int .i64 i1)], []) := by
  obtain ⟨xs, n, _, rfl, hl, hlen, hf⟩ := DataW.trod_struct Ybad.underlying44 h
  have c44 : Ybad.prog.cellsOf 44 = 5 := by kernel_rfl
  have c9 : Ybad.prog.cellsOf 9 = 1 := by kernel_rfl
  have c42 : Ybad.prog.cellsOf 42 = 1 := by kernel_rfl
  rw [c44] at hl
  match cs, hl, xs, hlen, hf with
  | [k0, k1, k2, k3, k4], _, [y0, y1, y2, y3, y4], _, hf =>
    have f0 : DataW.trod enc Ybad.prog w base sp held n 9 [k0] = some y0 := by have := hf 0 _ rfl; simpa [c9] using this
    have f1 : DataW.trod enc Ybad.prog w base sp held n 9 [k1] = some y1 := by have := hf 1 _ rfl; simpa [c9] using this
    have f2 : DataW.trod enc Ybad.prog w base sp held n 9 [k2] = some y2 := by have := hf 2 _ rfl; simpa [c9] using this
    have f3 : DataW.trod enc Ybad.prog w base sp held n 42 [k3] = some y3 := by have := hf 3 _ rfl; simpa [c42] using this
    have f4 : DataW.trod enc Ybad.prog w base sp held n 42 [k4] = some y4 := by have := hf 4 _ rfl; simpa [c42] using this
    obtain ⟨s0, rfl, rfl⟩ := string_of_trod Ybad.underlying9 f0
    obtain ⟨s1, rfl, rfl⟩ := string_of_trod Ybad.underlying9 f1
    obtain ⟨s2, rfl, rfl⟩ := string_of_trod Ybad.underlying9 f2
    obtain ⟨i0, rfl, rfl⟩ := int_of_trod Ybad.underlying42 f3
    obtain ⟨i1, rfl, rfl⟩ := int_of_trod Ybad.underlying42 f4
    exact ⟨s0, s1, s2, i0, i1, rfl, by simp⟩

/-- The two specs as the program's text lays them. -/
def posCells : List Value := [.string ⟨#[66, 76, 65, 112, 111, 115, 65, 99, 113, 68, 49]⟩, .string ⟨#[66, 76, 65, 112, 111, 115, 69, 120, 116, 68, 50]⟩, .string ⟨#[67, 101, 77, 80, 111, 115]⟩, .int .i64 0, .int .i64 1]
def negCells : List Value := [.string ⟨#[66, 76, 65, 110, 101, 103, 65, 99, 113, 68, 50]⟩, .string ⟨#[66, 76, 65, 110, 101, 103, 69, 120, 116, 68, 49]⟩, .string ⟨#[67, 101, 77, 78, 101, 103]⟩, .int .i64 1, .int .i64 0]
theorem ba_eq {s : ByteArray} {l : List UInt8} (h : s.data.toList = l) : s = ⟨l.toArray⟩ := by
  cases s; subst h; simp
theorem pos_cells {w : World} {base : Nat} {sp : Nat → Bool} {held : Bool} {fuel : Nat} {cs : List Value} {p : List MemPlace} {enc : TypeId × Value → Unit} (h : DataW.trod enc Ybad.prog w base sp held fuel 44 cs = some (Rows.laid_example_com_neva_neva_positive, p)) : cs = posCells := by
  obtain ⟨s0, s1, s2, i0, i1, rfl, hx⟩ := cells_of_spec h
  simp only [Rows.laid_example_com_neva_neva_positive, Prod.mk.injEq, DataW.agg.injEq, List.cons.injEq, DataW.lit.injEq, Lit.string.injEq, Lit.int.injEq, true_and, and_true] at hx
  obtain ⟨⟨h0, h1, h2, h3, h4⟩, _⟩ := hx
  rw [ba_eq h0.symm, ba_eq h1.symm, ba_eq h2.symm, ← h3, ← h4]; rfl
theorem neg_cells {w : World} {base : Nat} {sp : Nat → Bool} {held : Bool} {fuel : Nat} {cs : List Value} {p : List MemPlace} {enc : TypeId × Value → Unit} (h : DataW.trod enc Ybad.prog w base sp held fuel 44 cs = some (Rows.laid_example_com_neva_neva_negative, p)) : cs = negCells := by
  obtain ⟨s0, s1, s2, i0, i1, rfl, hx⟩ := cells_of_spec h
  simp only [Rows.laid_example_com_neva_neva_negative, Prod.mk.injEq, DataW.agg.injEq, List.cons.injEq, DataW.lit.injEq, Lit.string.injEq, Lit.int.injEq, true_and, and_true] at hx
  obtain ⟨⟨h0, h1, h2, h3, h4⟩, _⟩ := hx
  rw [ba_eq h0.symm, ba_eq h1.symm, ba_eq h2.symm, ← h3, ← h4]; rfl
abbrev posH {H : Type} : DataW H := Rows.laid_example_com_neva_neva_positive
abbrev negH {H : Type} : DataW H := Rows.laid_example_com_neva_neva_negative
theorem reads_pos {H : Type} (enc : TypeId × Value → H) (W : World) (sp : Nat → Bool) : DataW.trod enc Ybad.prog W 0 sp true 3 44 posCells = some (posH, []) := by kernel_rfl
theorem reads_neg {H : Type} (enc : TypeId × Value → H) (W : World) (sp : Nat → Bool) : DataW.trod enc Ybad.prog W 0 sp true 3 44 negCells = some (negH, []) := by kernel_rfl

set_option maxRecDepth 100000 in
theorem of_laid {W : World} (h : laidMetH Ybad.prog laid5 W) : Tab W ∧ W.var? Ybad.prog "example.com/neva/neva.positive" = some posCells.toArray ∧ W.var? Ybad.prog "example.com/neva/neva.negative" = some negCells.toArray := by
  rw [MakeChecks.laidMetH_plain _ _ _ (by kernel_rfl)] at h
  obtain ⟨ps, ⟨g0, t0, cs0, f0, p0, q0, hg0, ht0, hv0, hd0, ⟨g1, t1, cs1, f1, p1, q1, hg1, ht1, hv1, hd1, ⟨g2, t2, cs2, f2, p2, q2, hg2, ht2, hv2, hd2, ⟨g3, t3, cs3, f3, p3, q3, hg3, ht3, hv3, hd3, ⟨g4, t4, cs4, f4, p4, q4, hg4, ht4, hv4, hd4, _, _⟩, _⟩, _⟩, _⟩, _⟩, _⟩ := h
  obtain rfl := Option.some.inj (tab_at.symm.trans hg2)
  obtain rfl := Option.some.inj (tPow.symm.trans ht2)
  obtain rfl := Option.some.inj (gPos.symm.trans hg3)
  obtain rfl := Option.some.inj (tPos.symm.trans ht3)
  obtain rfl := Option.some.inj (gNeg.symm.trans hg4)
  obtain rfl := Option.some.inj (tNeg.symm.trans ht4)
  have e3 := pos_cells hd3
  have e4 := neg_cells hd4
  refine ⟨?_, ?_, ?_⟩
  · unfold Tab Lib.TabIs
    rw [hv2, ← Lib.cells_of_tab (k := .u64) (zs := Lib.pow10Tab) Ybad.underlying138 Ybad.underlying24 (by kernel_rfl) (by kernel_rfl) hd2]
  · rw [hv3, ← e3]
  · rw [hv4, ← e4]
theorem spec_of_var {W : World} {n : String} {g : Nat} (s0 s1 s2 : ByteArray) (i0 i1 : Int) (hg : Ybad.prog.globalNamed n = some g) (h : W.var? Ybad.prog n = some (List.toArray [.string s0, .string s1, .string s2, .int .i64 i0, .int .i64 i1])) : Spec W g s0 s1 s2 i0 i1 := by
  intro j v hv
  have := World.var?_cell hg h j
  rw [Nat.zero_add, this]
  simpa using hv
theorem var_keep {W W' : World} {n : String} {g : Nat} {cs : Array Value} (hg : Ybad.prog.globalNamed n = some g) (k : Kept [] W W') (h : W.var? Ybad.prog n = some cs) : W'.var? Ybad.prog n = some cs := by
  unfold World.var? at *
  rw [hg] at *
  simp only [Option.bind_some] at *
  cases hb : W.heap[g]? with
  | none => rw [hb] at h; cases h
  | some o => rw [k.block g (lt_of_heap hb) (by simp), ← h]
theorem vars_of {H : Type} (enc : TypeId × Value → H) {W : World} (h0 : W.var? Ybad.prog "example.com/neva/neva.positive" = some posCells.toArray) (h1 : W.var? Ybad.prog "example.com/neva/neva.negative" = some negCells.toArray) (sp : Nat → Bool) :
    DataW.TrodVars enc Ybad.prog W sp ["example.com/neva/neva.positive", "example.com/neva/neva.negative"] [posH, negH] (MemPlace.row ⟨0, 0, none⟩ posCells.toArray.size ++ [] ++ (MemPlace.row ⟨1, 0, none⟩ negCells.toArray.size ++ [] ++ [])) :=
  ⟨0, 44, posCells.toArray, 3, [], _, gPos, tPos, h0, reads_pos enc W sp, ⟨1, 44, negCells.toArray, 3, [], [], gNeg, tNeg, h1, reads_neg enc W sp, rfl, rfl⟩, rfl⟩
end Go.Proofs.YbulkjbuDoor
