/-
  Seat b0487a: how the world turns under a call that makes blocks of its own and takes and lets go a lock: 'Gr w w'': nothing old has turned, nothing is newly frozen.
-/
import Derived.WalkKit
import Derived.Below
import Derived.Deep.QuietTactic
namespace Go.Proofs.Ybulkjbg
open Go.RowKit

structure Gr (w w' : World) : Prop where
  below : Below w.heap.size w w'
  froz : ∀ a, w'.frozen? a = w.frozen? a

theorem Gr.refl (w : World) : Gr w w := ⟨Below.refl _ _, fun _ => rfl⟩
theorem Gr.trans {a b c : World} (h : Gr a b) (k : Gr b c) : Gr a c :=
  ⟨h.below.trans (k.below.mono h.below.size), fun x => (k.froz x).trans (h.froz x)⟩
theorem Gr.alloc (w : World) (c : Array Value) (t : TypeId) : Gr w (w.alloc (.cells c t)) :=
  ⟨(Below.refl _ _).alloc (Nat.le_refl _) _, fun x => frozen?_alloc_cells w c t x⟩
theorem Gr.drew (w : World) : Gr w w.drew := ⟨(Below.refl _ _).drew, fun _ => rfl⟩
theorem Gr.drewN (w : World) (n : Nat) : Gr w (w.drewN n) := ⟨⟨rfl, rfl, rfl, Nat.le_refl _, fun _ _ => rfl⟩, fun _ => rfl⟩
theorem Gr.size {w w' : World} (h : Gr w w') : w.heap.size ≤ w'.heap.size := h.below.size
theorem Gr.cell {w w' : World} (h : Gr w w') {b o : Nat} {v : Value} (hc : w.cell? ⟨b, o, none⟩ = some v) : w'.cell? ⟨b, o, none⟩ = some v := by
  have hb : b < w.heap.size := by
    apply Classical.byContradiction
    intro hn
    have e : w.heap[b]? = none := by simp; omega
    simp [World.cell?, e] at hc
  rw [h.below.cell (p := ⟨b, o, none⟩) hb]; exact hc
theorem Gr.grown {w w' : World} (h : Gr w w') : Grown w w' := ⟨h.below.frame _, h.froz, h.below.size⟩

/-- A cell written and, later, written back: nothing old has turned. -/
theorem Gr.sandwich {w w1 w3 : World} (h1 : Gr w w1) {b o : Nat} {v0 v1 : Value} (hc : w.cell? ⟨b, o, none⟩ = some v0)
    (h3 : Gr (w1.setCell ⟨b, o, none⟩ v1) w3) : Gr w (w3.setCell ⟨b, o, none⟩ v0) := by
  have hb : b < w.heap.size := by
    apply Classical.byContradiction
    intro hn
    have e : w.heap[b]? = none := by simp; omega
    simp [World.cell?, e] at hc
  have hs1 := h1.size
  have hs3 := h3.size
  simp only [World.size_setCell] at hs3
  have hk3 := h3.below
  simp only [World.size_setCell] at hk3
  refine ⟨⟨hk3.os.trans h1.below.os, hk3.tape.trans h1.below.tape, hk3.output.trans h1.below.output, by simp; omega, fun k hk => ?_⟩, fun x => ?_⟩
  · by_cases e : k = b
    · subst e
      have e1 := h1.below.block k hk
      have e3 := hk3.block k (by omega)
      simp only [World.setCell, Array.getElem?_modify, if_true] at e3 ⊢
      rw [e3, e1]
      simp only [World.cell?] at hc
      cases hh : w.heap[k]? with
      | none => rfl
      | some ob =>
        rw [hh] at hc
        cases ob <;> simp at hc ⊢
        rename_i cs t fr
        apply Array.ext
        · simp
        · intro i hi1 hi2
          rw [Array.getElem_setIfInBounds]
          split
          · subst_vars
            rw [Array.getElem?_eq_getElem hi2] at hc
            simpa using hc.symm
          · rfl
    · rw [Below.heap_setCell _ _ _ _ e, hk3.block k (by omega), Below.heap_setCell _ _ _ _ e, h1.below.block k hk]
  · rw [World.frozen?_setCell, h3.froz, World.frozen?_setCell, h1.froz]
end Go.Proofs.Ybulkjbg
