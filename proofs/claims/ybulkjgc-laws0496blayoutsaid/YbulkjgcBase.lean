/-
  Seat b0496a: what a call keeps ('Kept'), and a block of integers ('Nums'). Whatever the program.
-/
import Derived.Test.YbulkjgcPlain
import Derived.WalkKit
import Derived.Below
import Derived.MapKept
import Derived.Laws.AppendOwnNone
namespace Go.Proofs.Ybulkjgc
open Go.RowKit

/-- Of what was there only the listed blocks have turned. -/
structure Kept (ws : List Nat) (w w' : World) : Prop where
  os : w'.os = w.os
  tape : w'.tape = w.tape
  output : w'.output = w.output
  size : w.heap.size ≤ w'.heap.size
  block : ∀ k, k < w.heap.size → k ∉ ws → w'.heap[k]? = w.heap[k]?

theorem Kept.refl (ws : List Nat) (w : World) : Kept ws w w := ⟨rfl, rfl, rfl, Nat.le_refl _, fun _ _ _ => rfl⟩
theorem Kept.trans {ws ws' : List Nat} {a b c : World} (h : Kept ws a b) (k : Kept ws' b c) (hs : ∀ j ∈ ws', j ∈ ws ∨ a.heap.size ≤ j) : Kept ws a c :=
  ⟨k.os.trans h.os, k.tape.trans h.tape, k.output.trans h.output, Nat.le_trans h.size k.size, fun i hi hn =>
    (k.block i (Nat.lt_of_lt_of_le hi h.size) (fun hm => by rcases hs i hm with h1 | h1; exact hn h1; omega)).trans (h.block i hi hn)⟩
theorem Kept.mono {ws ws' : List Nat} {a b : World} (h : Kept ws a b) (hs : ∀ j ∈ ws, j ∈ ws' ∨ a.heap.size ≤ j) : Kept ws' a b :=
  ⟨h.os, h.tape, h.output, h.size, fun i hi hn => h.block i hi (fun hm => by rcases hs i hm with h1 | h1; exact hn h1; omega)⟩
theorem Kept.grown {row : Option Nat} {a b : World} (h : a.grownBy b row) : Kept row.toList a b :=
  ⟨h.os, h.tape, h.output, h.size, fun i hi hn => h.block i hi (fun e => hn (by rw [← e]; simp))⟩
theorem Kept.alloc (w : World) (o : Obj) : Kept [] w (w.alloc o) := ⟨rfl, rfl, rfl, by simp, fun k hk _ => Below.heap_alloc w o k hk⟩
theorem Kept.drew (w : World) : Kept [] w w.drew := ⟨rfl, rfl, rfl, Nat.le_refl _, fun _ _ _ => rfl⟩
theorem Kept.setCell (w : World) (b o : Nat) (v : Value) : Kept [b] w (w.setCell ⟨b, o, none⟩ v) :=
  ⟨rfl, rfl, rfl, by simp, fun k _ hn => Below.heap_setCell w ⟨b, o, none⟩ v k (by simpa using hn)⟩
theorem Kept.below {B : Nat} {ws : List Nat} {w w' : World} (h : Kept ws w w') (hB : B ≤ w.heap.size) (hs : ∀ j ∈ ws, B ≤ j) : Below B w w' :=
  ⟨h.os, h.tape, h.output, h.size, fun k hk => h.block k (by omega) (fun hm => by have := hs k hm; omega)⟩

theorem lt_of_heap {w : World} {b : Nat} {o : Obj} (h : w.heap[b]? = some o) : b < w.heap.size := (Array.getElem?_eq_some_iff.1 h).1
theorem Kept.cell {w w' : World} {ws : List Nat} (h : Kept ws w w') {b o : Nat} {v : Value} (hc : w.cell? ⟨b, o, none⟩ = some v) (hn : b ∉ ws) : w'.cell? ⟨b, o, none⟩ = some v := by
  have hb : b < w.heap.size := by
    apply Classical.byContradiction
    intro hx
    have e : w.heap[b]? = none := by simp; omega
    simp [World.cell?, e] at hc
  rw [World.cell?_of_block (w := w) (h.block b hb hn)]; exact hc

/-- A block of plain cells. -/
def Row (w : World) (b : Nat) (vs : List Value) (t : TypeId) : Prop := w.heap[b]? = some (.cells vs.toArray t (0, 0))
theorem Row.lt {w : World} {b : Nat} {vs : List Value} {t : TypeId} (h : Row w b vs t) : b < w.heap.size := lt_of_heap h
theorem Row.cell {w : World} {b : Nat} {vs : List Value} {t : TypeId} (h : Row w b vs t) (i : Nat) {v : Value} (hv : vs[i]? = some v) : w.cell? ⟨b, i, none⟩ = some v := by
  unfold Row at h; simp [World.cell?, h, hv]
theorem Row.free {w : World} {b : Nat} {vs : List Value} {t : TypeId} (h : Row w b vs t) (i : Nat) : w.frozen? ⟨b, i, none⟩ = false := by
  unfold Row at h; simp [World.frozen?, h]
theorem Row.keep {w w' : World} {b : Nat} {vs : List Value} {t : TypeId} {ws : List Nat} (h : Row w b vs t) (k : Kept ws w w') (hn : b ∉ ws) : Row w' b vs t := by
  unfold Row at h ⊢; rw [k.block b (lt_of_heap h) hn, h]
theorem Row.set {w : World} {b : Nat} {vs : List Value} {t : TypeId} (h : Row w b vs t) (i : Nat) (v : Value) : Row (w.setCell ⟨b, i, none⟩ v) b (vs.set i v) t := by
  unfold Row at h ⊢
  simp only [World.setCell, Array.getElem?_modify, h]
  simp
theorem Row.made (w : World) (vs : List Value) (t : TypeId) : Row (w.alloc (.cells vs.toArray t)) w.heap.size vs t := by
  unfold Row; exact (MapKept.heap_alloc w _).1

/-- A block whose first m cells hold the integers f 0, f 1, .. -/
def Nums (w : World) (b m : Nat) (f : Nat → Int) : Prop := ∃ cur t, Row w b cur t ∧ ∀ i, i < m → cur[i]? = some (.int .i64 (f i))
section
variable {w w' : World} {b m : Nat} {f g : Nat → Int} {ws : List Nat}
theorem Nums.lt (h : Nums w b m f) : b < w.heap.size := by obtain ⟨_, _, h, _⟩ := h; exact h.lt
theorem Nums.cell (h : Nums w b m f) (i : Nat) (hi : i < m) : w.cell? ⟨b, i, none⟩ = some (.int .i64 (f i)) := by
  obtain ⟨_, _, h, k⟩ := h; exact h.cell i (k i hi)
theorem Nums.free (h : Nums w b m f) (i : Nat) : w.frozen? ⟨b, i, none⟩ = false := by obtain ⟨_, _, h, _⟩ := h; exact h.free i
theorem Nums.keep (h : Nums w b m f) (k : Kept ws w w') (hn : b ∉ ws) : Nums w' b m f := by
  obtain ⟨c, t, h, r⟩ := h; exact ⟨c, t, h.keep k hn, r⟩
theorem Nums.set (h : Nums w b m f) (i : Nat) (x : Int) (hi : i < m) : Nums (w.setCell ⟨b, i, none⟩ (.int .i64 x)) b m (upd f i x) := by
  obtain ⟨c, t, h, r⟩ := h
  refine ⟨_, t, h.set i _, fun j hj => ?_⟩
  have hl : i < c.length := (List.getElem?_eq_some_iff.1 (r i hi)).1
  by_cases e : j = i
  · subst e; simp [upd, hl]
  · rw [List.getElem?_set_ne (fun h => e h.symm), r j hj]; simp [upd, e]
theorem Nums.eq (h : Nums w b m f) (e : ∀ i, i < m → f i = g i) : Nums w b m g := by
  obtain ⟨c, t, h, r⟩ := h
  exact ⟨c, t, h, fun i hi => by rw [r i hi, e i hi]⟩
theorem Nums.made (w : World) (n : Nat) (t : TypeId) : Nums (w.alloc (.cells (List.replicate n (.int .i64 0)).toArray t)) w.heap.size n (fun _ => 0) :=
  ⟨_, _, Row.made _ _ _, fun i hi => by simp [hi]⟩
end
end Go.Proofs.Ybulkjgc
