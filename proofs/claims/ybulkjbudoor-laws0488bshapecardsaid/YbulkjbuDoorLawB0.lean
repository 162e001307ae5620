/-
  Seat b0488aD: the law LawS0488BShape: numbers; the first loop's lists.
-/
import Derived.Test.YbulkjbuDoorEqual
import Derived.Test.YbulkjbuDoorUss
namespace Go.Proofs.YbulkjbuDoor
open Go.RowKit

/-- A small number's float is above, below nought as the number is. -/
theorem okg : ((List.range 256).all fun i => ((FloatKind.f64.format.order (floatOfInt .f64 ((i : Int) - 128)) 0 == some .gt) == decide (0 < (i : Int) - 128)) && ((FloatKind.f64.format.order (floatOfInt .f64 ((i : Int) - 128)) 0 == some .lt) == decide ((i : Int) - 128 < 0))) = true := by kernel_rfl
theorem okp : ((List.range 256).all fun i => !decide (0 < (i : Int) - 128) || (FloatKind.f64.format.order (absBits (floatOfInt .f64 ((i : Int) - 128))) (floatOfInt .f64 ((i : Int) - 128)) == some .eq)) = true := by kernel_rfl
theorem above_iff (g : Int) (h0 : -128 ≤ g) (h1 : g ≤ 127) : (FloatKind.f64.format.order (floatOfInt .f64 g) 0 == some .gt) = decide (0 < g) ∧ (FloatKind.f64.format.order (floatOfInt .f64 g) 0 == some .lt) = decide (g < 0) := by
  have := List.all_eq_true.1 okg (g + 128).toNat (List.mem_range.2 (by omega))
  rw [show (((g + 128).toNat : Nat) : Int) - 128 = g by omega] at this
  simp only [Bool.and_eq_true, beq_iff_eq] at this
  exact this
theorem pos_same (g : Int) (h0 : 0 < g) (h1 : g ≤ 127) : (FloatKind.f64.format.order (absBits (floatOfInt .f64 g)) (floatOfInt .f64 g) != some .eq) = false := by
  have := List.all_eq_true.1 okp (g + 128).toNat (List.mem_range.2 (by omega))
  rw [show (((g + 128).toNat : Nat) : Int) - 128 = g by omega] at this
  have hd : decide (0 < g) = true := by simpa using h0
  simpa [hd, bne] using this
theorem okn : ((List.range 256).all fun i => !decide ((i : Int) - 128 < 0) || (FloatKind.f64.format.order (absBits (floatOfInt .f64 ((i : Int) - 128))) (Op.negFloat .f64 (floatOfInt .f64 ((i : Int) - 128))) == some .eq)) = true := by kernel_rfl
theorem neg_same (g : Int) (h0 : -128 ≤ g) (h1 : g < 0) : (FloatKind.f64.format.order (absBits (floatOfInt .f64 g)) (Op.negFloat .f64 (floatOfInt .f64 g)) != some .eq) = false := by
  have := List.all_eq_true.1 okn (g + 128).toNat (List.mem_range.2 (by omega))
  rw [show (((g + 128).toNat : Nat) : Int) - 128 = g by omega] at this
  have hd : decide (g < 0) = true := by simpa using h1
  simpa [hd, bne] using this

/-- The floats of those that p takes, among the first k. -/
def flts (p : Nat → Bool) (f : Nat → Nat) (k : Nat) : List Value := (picks p k).map fun i => Value.float .f64 (f i)
theorem flts_yes (p : Nat → Bool) (f : Nat → Nat) (k : Nat) (h : p k = true) : flts p f (k + 1) = flts p f k ++ [.float .f64 (f k)] := by simp [flts, picks_yes p k h]
theorem flts_no (p : Nat → Bool) (f : Nat → Nat) (k : Nat) (h : p k = false) : flts p f (k + 1) = flts p f k := by simp [flts, picks_no p k h]
/-- Two slices of one's own whose elements are of two types lie in two blocks. -/
theorem Sl.apart {w : World} {b b' : Nat} {e e' : TypeId} {ad ad' : Option Addr} {n n' c c' : Nat} {xs xs' : List Value} (h : Sl w b e ad n c xs) (h' : Sl w b' e' ad' n' c' xs') (he : e ≠ e') (g : Nat) (hg : ad = some ⟨g, 0, none⟩) : ad' ≠ some ⟨g, 0, none⟩ := by
  intro hg'
  subst hg; subst hg'
  obtain ⟨_, h⟩ := h
  obtain ⟨_, h'⟩ := h'
  rcases h with ⟨h, _⟩ | ⟨g1, c1, cur, hv, _, hh, _⟩
  · cases h
  · rcases h' with ⟨h', _⟩ | ⟨g2, c2, cur2, hv2, _, hh2, _⟩
    · cases h'
    · cases hv; cases hv2
      rw [hh] at hh2
      simp only [Option.some.injEq, Obj.cells.injEq] at hh2
      exact he hh2.2.1

/-! ### one append beside other slices -/
section
variable {W w1 w2 : World} {o : Obj} {S : Nat} {e e' : TypeId} {ad ad' ad2 : Option Addr} {n n' c c' : Nat} {xs xs' : List Value}
theorem app_keep (h : Sl w1 S e ad n c xs) (h' : Sl w1 S e' ad' n' c' xs') (gr : (w1.alloc o).grownBy w2 (Value.slice ad n c).ownBlock) (hd : ∀ g, ad = some ⟨g, 0, none⟩ → ad' ≠ some ⟨g, 0, none⟩) : Sl w2 S e' ad' n' c' xs' := by
  refine (h'.keep (Kept.alloc w1 o) (by simp)).keep2 (Kept.grown gr) (fun g hg hm => ?_)
  rcases h.cases with ⟨h0, _⟩ | ⟨g1, h0, _⟩
  · rw [h0] at hm; simp [Value.ownBlock] at hm
  · rw [h0] at hm; simp [Value.ownBlock] at hm
    subst hm
    exact hd g h0 hg
theorem app_apart (h' : Sl w1 S e' ad' n' c' xs') (hwh : ∀ g', ad2 = some ⟨g', 0, none⟩ → ad = some ⟨g', 0, none⟩ ∨ (w1.alloc o).heap.size ≤ g') (hd : ∀ g, ad = some ⟨g, 0, none⟩ → ad' ≠ some ⟨g, 0, none⟩) : ∀ g, ad2 = some ⟨g, 0, none⟩ → ad' ≠ some ⟨g, 0, none⟩ := fun g h1 h2 => by
  rcases hwh g h1 with h | h
  · exact hd g h h2
  · have := (h'.lt' g h2).2
    simp at h
    omega
theorem app_kept (k : Kept [] W w1) (h : Sl w1 S e ad n c xs) (hS : W.heap.size ≤ S) (gr : (w1.alloc o).grownBy w2 (Value.slice ad n c).ownBlock) : Kept [] W w2 :=
  (k.trans (Kept.alloc w1 o) (by simp)).trans (Kept.grown gr) (fun j hj => .inr (Nat.le_trans hS ((h.keep (Kept.alloc w1 o) (by simp)).row j hj).1))
end
end Go.Proofs.YbulkjbuDoor
