/-
  Seat b0488aD: the learner's cells; the settings' values; the two specs; what is picked.
-/
import Derived.Test.YbulkjbuDoorVs
import Derived.Test.YbulkjbuDoorSettings
namespace Go.Proofs.YbulkjbuDoor
open Go.RowKit

/-- The learner's cells. -/
def lrn (A pos neg T gs vs : List Value) (thr : Value) : List Value := A ++ (pos ++ (neg ++ (T ++ (gs ++ (vs ++ [thr])))))
section
variable {A pos neg T gs vs : List Value} {thr : Value} (hA : A.length = 10) (hp : pos.length = 30) (hn : neg.length = 30) (hT : T.length = 7) (hg : gs.length = 20) (hv : vs.length = 11)
include hA
theorem lrn_A (i : Nat) (hi : i < 10) : (lrn A pos neg T gs vs thr)[i]? = A[i]? := by
  unfold lrn; rw [List.getElem?_append_left (by omega)]
include hp
theorem lrn_pos (i : Nat) (hi : i < 30) : (lrn A pos neg T gs vs thr)[10 + i]? = pos[i]? := by
  unfold lrn
  rw [List.getElem?_append_right (by omega), List.getElem?_append_left (by omega)]
  congr 1; omega
include hn
theorem lrn_neg (i : Nat) (hi : i < 30) : (lrn A pos neg T gs vs thr)[40 + i]? = neg[i]? := by
  unfold lrn
  rw [List.getElem?_append_right (by omega), List.getElem?_append_right (by omega), List.getElem?_append_left (by omega)]
  congr 1; omega
include hT
theorem lrn_T (i : Nat) (hi : i < 7) : (lrn A pos neg T gs vs thr)[70 + i]? = T[i]? := by
  unfold lrn
  rw [List.getElem?_append_right (by omega), List.getElem?_append_right (by omega), List.getElem?_append_right (by omega), List.getElem?_append_left (by omega)]
  congr 1; omega
include hg
theorem lrn_vs (hv : vs.length = 11) (i : Nat) (hi : i < 11) : (lrn A pos neg T gs vs thr)[97 + i]? = vs[i]? := by
  unfold lrn
  rw [List.getElem?_append_right (by omega), List.getElem?_append_right (by omega), List.getElem?_append_right (by omega), List.getElem?_append_right (by omega), List.getElem?_append_right (by omega), List.getElem?_append_left (by omega)]
  congr 1; omega
theorem lrn_thr (hv : vs.length = 11) : (lrn A pos neg T gs vs thr)[108]? = some thr := by
  unfold lrn
  rw [List.getElem?_append_right (by omega), List.getElem?_append_right (by omega), List.getElem?_append_right (by omega), List.getElem?_append_right (by omega), List.getElem?_append_right (by omega), List.getElem?_append_right (by omega)]
  rw [show 108 - A.length - pos.length - neg.length - T.length - gs.length - vs.length = 0 by omega]; rfl
theorem lrn_length (hv : vs.length = 11) : (lrn A pos neg T gs vs thr).length = 109 := by
  unfold lrn; simp; omega
end
theorem splice_at (a b c new : List Value) (o : Nat) (ho : a.length = o) (h : new.length = b.length) : splice (a ++ (b ++ c)) o new = a ++ (new ++ c) := by
  unfold splice
  subst ho
  rw [List.take_left, h]
  congr 2
  rw [← List.append_assoc, ← List.length_append, List.drop_left]
theorem splice_pos {A pos neg T gs vs : List Value} {thr : Value} (new : List Value) (hA : A.length = 10) (h : new.length = pos.length) : splice (lrn A pos neg T gs vs thr) 10 new = lrn A new neg T gs vs thr := splice_at A pos _ new 10 hA h
theorem splice_neg {A pos neg T gs vs : List Value} {thr : Value} (new : List Value) (hA : A.length = 10) (hp : pos.length = 30) (h : new.length = neg.length) : splice (lrn A pos neg T gs vs thr) 40 new = lrn A pos new T gs vs thr := by
  have := splice_at (A ++ pos) neg (T ++ (gs ++ (vs ++ [thr]))) new 40 (by simp; omega) h
  simpa [lrn, List.append_assoc] using this
theorem splice_vs {A pos neg T gs vs : List Value} {thr : Value} (new : List Value) (hA : A.length = 10) (hp : pos.length = 30) (hn : neg.length = 30) (hT : T.length = 7) (hg : gs.length = 20) (h : new.length = vs.length) : splice (lrn A pos neg T gs vs thr) 97 new = lrn A pos neg T gs new thr := by
  have := splice_at (A ++ (pos ++ (neg ++ (T ++ gs)))) vs [thr] new 97 (by simp; omega) h
  simpa [lrn, List.append_assoc] using this
theorem set_thr {A pos neg T gs vs : List Value} {thr : Value} (v : Value) (hA : A.length = 10) (hp : pos.length = 30) (hn : neg.length = 30) (hT : T.length = 7) (hg : gs.length = 20) (hv : vs.length = 11) : (lrn A pos neg T gs vs thr).set 108 v = lrn A pos neg T gs vs v := by
  have e : ∀ t, lrn A pos neg T gs vs t = (A ++ (pos ++ (neg ++ (T ++ (gs ++ vs))))) ++ [t] := fun t => by simp [lrn, List.append_assoc]
  rw [e, e, List.set_append_right _ _ (by simp; omega)]
  congr 1
  rw [show 108 - (A ++ (pos ++ (neg ++ (T ++ (gs ++ vs))))).length = 0 by simp; omega]; rfl

/-! ### the settings' values -/
def svals (vb : ByteArray → Nat) : List Nat := [vb (par 0).1, vb (par 1).1, vb (par 2).1, vb (par 3).1, vb (par 4).1, vb (par 5).1, vb (par 10).1, vb (par 7).1, vb (par 8).1, vb (par 9).1, vb (par 6).1, vb (par 12).1, vb (par 11).1, vb (par 11).1, 9218868437227405312, vb (par 14).1, vb (par 13).1, vb (par 15).1, vb (par 16).1, vb (par 17).1, vb (par 18).1, vb (par 19).1]
def sval (vb : ByteArray → Nat) (i : Nat) : Nat := (svals vb).getD i 0
def srow (y : Nat → Nat) : List Value := [.float .f64 (y 0), .float .f64 (y 1), .float .f64 (y 2), .float .f64 (y 3), .float .f64 (y 4), .float .f64 (y 5), .float .f64 (y 6), .float .f64 (y 7), .float .f64 (y 8), .float .f64 (y 9), .float .f64 (y 10), .float .f64 (y 11), .float .f64 (y 12), .float .f64 (y 13), .float .f64 (y 14), .float .f64 (y 15), .float .f64 (y 16), .float .f64 (y 17), .float .f64 (y 18), .float .f64 (y 19), .float .f64 (y 20), .float .f64 (y 21)]
set_option maxRecDepth 100000 in
theorem set_srow (vb : ByteArray → Nat) : ((setK vb 20).set 13 (.float .f64 (vb (par 11).1))).set 14 (.float .f64 9218868437227405312) = srow (sval vb) := by kernel_rfl

/-! ### the specs -/
/-- Block g holds a valence's spec. -/
def Spec (w : World) (g : Nat) (s0 s1 s2 : ByteArray) (i0 i1 : Int) : Prop := w.rangeAt g 0 [.string s0, .string s1, .string s2, .int .i64 i0, .int .i64 i1]
theorem Spec.lt {w : World} {g : Nat} {s0 s1 s2 : ByteArray} {i0 i1 : Int} (h : Spec w g s0 s1 s2 i0 i1) : g < w.heap.size := by
  have := h 0 _ rfl
  apply Classical.byContradiction
  intro hx
  have e : w.heap[g]? = none := by simp; omega
  simp [World.cell?, e] at this
theorem Spec.keep {w w' : World} {g : Nat} {s0 s1 s2 : ByteArray} {i0 i1 : Int} {ws : List Nat} (h : Spec w g s0 s1 s2 i0 i1) (k : Kept ws w w') (hn : g ∉ ws) : Spec w' g s0 s1 s2 i0 i1 := by
  intro j v hv
  exact k.cell (h j v hv) hn
theorem Spec.load {w : World} {g : Nat} {s0 s1 s2 : ByteArray} {i0 i1 : Int} (h : Spec w g s0 s1 s2 i0 i1) : (Instr.loadAt 44 (.pointer (some ⟨g, 0, none⟩))).run Ybad.prog w = .ok (.agg #[.string s0, .string s1, .string s2, .int .i64 i0, .int .i64 i1]) w :=
  run_loadAt_mid w g 0 44 _ _ h Ybad.underlying44 rfl (by kernel_rfl)

/-! ### what is picked -/
def pick (p : Nat → Bool) (n j : Nat) : Nat := (picks p n).getD j 0
theorem names_picked (p : Nat → Bool) (n : Nat) : names p n = (List.range (picks p n).length).map fun j => Value.string (nm 117 (pick p n j)) := by
  unfold names pick
  apply List.ext_getElem?
  intro j
  by_cases hj : j < (picks p n).length
  · simp [List.getElem?_map, List.getElem?_range hj, List.getElem?_eq_getElem hj]
  · rw [List.getElem?_eq_none (by simp; omega), List.getElem?_eq_none (by simp; omega)]
theorem pick_mem (p : Nat → Bool) (n j : Nat) (hj : j < (picks p n).length) : pick p n j ∈ picks p n := by
  unfold pick
  rw [List.getD_eq_getElem?_getD, List.getElem?_eq_getElem hj]
  exact List.getElem_mem _
theorem pick_lt (p : Nat → Bool) (n j : Nat) (hj : j < (picks p n).length) : pick p n j < n := by
  have := pick_mem p n j hj
  simp only [picks, List.mem_filter, List.mem_range] at this
  exact this.1
theorem pick_inj (p : Nat → Bool) (n : Nat) (i j : Nat) (hi : i < (picks p n).length) (hj : j < (picks p n).length) (h : pick p n i = pick p n j) : i = j := by
  have hnd : (picks p n).Nodup := (List.nodup_range (n := n)).filter p
  unfold pick at h
  rw [List.getD_eq_getElem?_getD, List.getD_eq_getElem?_getD, List.getElem?_eq_getElem hi, List.getElem?_eq_getElem hj] at h
  exact (List.getElem_inj hnd).1 h
theorem list20 (l : List Value) (h : l.length = 20) : ∃ a b c d e f g i j k m n o p q r s t u v, l = [a, b, c, d, e, f, g, i, j, k, m, n, o, p, q, r, s, t, u, v] := by
  match l, h with
  | [a, b, c, d, e, f, g, i, j, k, m, n, o, p, q, r, s, t, u, v], _ => exact ⟨a, b, c, d, e, f, g, i, j, k, m, n, o, p, q, r, s, t, u, v, rfl⟩
end Go.Proofs.YbulkjbuDoor
