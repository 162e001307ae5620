/-
  Seat b0488aD: goal.reset, newGoal.
-/
import Derived.Test.YbulkjbuDoorGoal
namespace Go.Proofs.YbulkjbuDoor
open Go.RowKit

/-- A row of n values of one cell each. -/
def Cells (w : World) (b n : Nat) (t : TypeId) : Prop := ∃ l, Row w b l t ∧ l.length = n ∧ l.all (·.oneCell') = true
theorem Cells.keep {w w' : World} {b n : Nat} {t : TypeId} {ws : List Nat} (h : Cells w b n t) (k : Kept ws w w') (hn : b ∉ ws) : Cells w' b n t := by
  obtain ⟨l, h1, h2⟩ := h; exact ⟨l, h1.keep k hn, h2⟩
theorem all_set {l : List Value} {i : Nat} {v : Value} (h : l.all (·.oneCell') = true) (hv : v.oneCell' = true) : (l.set i v).all (·.oneCell') = true := by
  rw [List.all_eq_true] at h ⊢
  intro x hx
  rcases List.mem_or_eq_of_mem_set hx with h1 | h1
  · exact h x h1
  · rw [h1]; exact hv
theorem Cells.setCell {w : World} {b n : Nat} {t : TypeId} (h : Cells w b n t) (i : Nat) (v : Value) (hv : v.oneCell' = true) : Cells (w.setCell ⟨b, i, none⟩ v) b n t := by
  obtain ⟨l, h1, h2, h3⟩ := h
  exact ⟨_, h1.set i v, by simpa using h2, all_set h3 hv⟩
theorem Cells.cell {w : World} {b n : Nat} {t : TypeId} (h : Cells w b n t) (k : Nat) (hk : k < n) : ∃ v, w.cell? ⟨b, k, none⟩ = some v := by
  obtain ⟨l, h1, h2, _⟩ := h
  exact ⟨l[k]'(by omega), h1.cell k (List.getElem?_eq_getElem (by omega))⟩
theorem Cells.free {w : World} {b n : Nat} {t : TypeId} (h : Cells w b n t) (k : Nat) : w.frozen? ⟨b, k, none⟩ = false := by
  obtain ⟨l, h1, _⟩ := h; exact h1.free k

set_option maxRecDepth 100000 in
set_option maxHeartbeats 2000000 in
theorem reset_any (g : Nat) (t : TypeId) (w : World) (h : Cells w g 20 t) : Calls Ybad.prog 25 #[.pointer (some ⟨g, 0, none⟩)] w fun e w' => e = .returned (.tuple #[]) ∧ Cells w' g 20 t ∧ Kept [g] w w' := by
  obtain ⟨y0, c0⟩ := h.cell 4 (by omega)
  obtain ⟨y1, c1⟩ := h.cell 15 (by omega)
  obtain ⟨y2, c2⟩ := h.cell 13 (by omega)
  obtain ⟨y3, c3⟩ := h.cell 14 (by omega)
  have f0 := h.free 4
  have f1 := h.free 15
  have f2 := h.free 13
  have f3 := h.free 14
  have HH : Hid (Cells w g 20 t) := h
  clear h
  go_enter Ybad.func25, Ybad.ntmps25
  go_wp2_with fail
  go_end0
  refine ⟨rfl, ?_, ?_⟩
  · iterate 4 refine Cells.setCell ?_ _ _ rfl
    exact HH.out
  · iterate 3 refine Kept.trans ?_ (Kept.setCell _ _ _ _) (by simp)
    exact Kept.setCell _ _ _ _

/-- The label of the goals' stream. -/
def lab : ByteArray := ⟨#[112, 118, 108, 118, 32, 103, 105, 118, 101, 45, 117, 112]⟩
theorem hlab : lab.size ≤ 24 := by decide
def goaR (x0 x1 x2 x3 seed b : Nat) : Nat → Value → World → Prop
  | 0, v, _ => v = .agg #[.float .f64 x0, .float .f64 x1, .float .f64 x2, .float .f64 x3]
  | 1, v, _ => v = .int .u64 seed
  | 2, v, _ => ∃ p, v = .pointer p
  | 3, v, _ => ∃ p, v = .agg #[.float .f64 x0, .float .f64 x1, .float .f64 x2, .float .f64 x3, .int .i64 0, .int .i64 0, .float .f64 0, .float .f64 0, .float .f64 0, .float .f64 0, .float .f64 0, .float .f64 0, .pointer p, .float .f64 0, .int .i64 0, .bool false, .bool false, .float .f64 0, .float .f64 0, .float .f64 0]
  | 4, v, w => ∃ g, v = .pointer (some ⟨g, 0, none⟩) ∧ b ≤ g ∧ Row w g [.float .f64 0, .float .f64 0, .float .f64 0, .float .f64 0, .int .i64 0, .int .i64 0, .float .f64 0, .float .f64 0, .float .f64 0, .float .f64 0, .float .f64 0, .float .f64 0, .pointer none, .float .f64 0, .int .i64 0, .bool false, .bool false, .float .f64 0, .float .f64 0, .float .f64 0] 63
  | _, _, _ => True
theorem goaR_keep (x0 x1 x2 x3 seed b : Nat) (i : Nat) (v : Value) (w w' : World) (k : Kept [] w w') (h : goaR x0 x1 x2 x3 seed b i v w) : goaR x0 x1 x2 x3 seed b i v w' := by
  match i, h with
  | 0, h => exact h
  | 1, h => exact h
  | 2, h => exact h
  | 3, h => exact h
  | 4, h => exact by obtain ⟨g, h1, h2, h3⟩ := h; exact ⟨g, h1, h2, h3.keep k (by simp)⟩
  | _ + 5, _ => exact trivial

set_option maxRecDepth 100000 in
set_option maxHeartbeats 2000000 in
theorem goal_any (x0 x1 x2 x3 seed : Nat) (w : World) :
    Calls Ybad.prog 14 #[.agg #[.float .f64 x0, .float .f64 x1, .float .f64 x2, .float .f64 x3], .int .u64 seed] w fun e w' => ∃ cs : List Value, e = .returned (.agg cs.toArray) ∧ cs.length = 20 ∧ cs.all (·.oneCell') = true ∧ Kept [] w w' := by
  go_enter Ybad.func14, Ybad.ntmps14
  go_wp2_with fail
  refine region_store 5 (goaR x0 x1 x2 x3 seed (w.heap.size + 2)) (fun vs => ⟨List.toArray (Value.agg #[.float .f64 x0, .float .f64 x1, .float .f64 x2, .float .f64 x3] :: .int .u64 seed :: .pointer (some ⟨w.heap.size, 0, none⟩) :: undef :: .pointer (some ⟨w.heap.size + 1, 0, none⟩) :: vs 4 :: vs 0 :: vs 1 :: vs 2 :: vs 3 :: undef :: undef :: []), []⟩) 63 (.tmp 5) (.tmp 9) (by kernel_rfl) (by kernel_rfl) (by kernel_rfl) (by kernel_rfl) (fun vs => by kernel_rfl) (goaR_keep x0 x1 x2 x3 seed (w.heap.size + 2)) ?_ ?_
  · intro i hi o ho a w' hoth hdep hk
    have s1 : a.eval (.tmp 1) = .int .u64 seed := hoth 1 (by kernel_rfl)
    have s2 : a.eval (.tmp 2) = .pointer (some ⟨w.heap.size, 0, none⟩) := hoth 2 (by kernel_rfl)
    have hrs := (Row.made w [.float .f64 x0, .float .f64 x1, .float .f64 x2, .float .f64 x3] 60).keep ((Kept.alloc _ _).trans hk (by simp)) (by simp)
    have hsz : w.heap.size + 2 ≤ w'.heap.size := by have := hk.size; simpa using this
    have evc : ∀ v, a.eval (.const v) = v := fun _ => rfl
    have evf : ∀ f, a.eval (.func f) = .func (.func f) #[] #[] := fun _ => rfl
    generalize w.heap.size + 2 = b at *
    match i, hi with
    | 0, _ =>
      simp only [List.getElem?_toArray, List.getElem?_cons_zero, Option.some.injEq] at ho
      subst ho
      exact flow_loads (cs := [.float .f64 x0, .float .f64 x1, .float .f64 x2, .float .f64 x3]) rfl s2 hrs Ybad.underlying60 rfl (by kernel_rfl) rfl rfl
    | 1, _ =>
      simp only [List.getElem?_toArray, List.getElem?_cons_succ, List.getElem?_cons_zero, Option.some.injEq] at ho
      subst ho
      exact flow_move rfl s1 rfl
    | 2, _ =>
      simp only [List.getElem?_toArray, List.getElem?_cons_succ, List.getElem?_cons_zero, Option.some.injEq] at ho
      subst ho
      have d1 : (a.eval (.tmp 7)) = .int .u64 seed := hdep ⟨1, .data⟩ (by simp)
      exact flow_call (f := 24) (args := #[.int .u64 seed, .string lab]) (by generalize a.eval = ev at *; simp [execOp, d1, evf, evc, lab, go_sem]) ((stream_any seed lab hlab w').mono (by rintro e w2 ⟨p, rfl, k2⟩; exact ⟨_, rfl, ⟨p, rfl⟩, k2⟩))
    | 3, _ =>
      simp only [List.getElem?_toArray, List.getElem?_cons_succ, List.getElem?_cons_zero, Option.some.injEq] at ho
      subst ho
      have d0 : (a.eval (.tmp 6)) = .agg #[.float .f64 x0, .float .f64 x1, .float .f64 x2, .float .f64 x3] := hdep ⟨0, .data⟩ (by simp)
      have d2 : ∃ p, (a.eval (.tmp 8)) = .pointer p := hdep ⟨2, .data⟩ (by simp)
      obtain ⟨p, d2⟩ := d2
      refine flow_value (v := .agg #[.float .f64 x0, .float .f64 x1, .float .f64 x2, .float .f64 x3, .int .i64 0, .int .i64 0, .float .f64 0, .float .f64 0, .float .f64 0, .float .f64 0, .float .f64 0, .float .f64 0, .pointer p, .float .f64 0, .int .i64 0, .bool false, .bool false, .float .f64 0, .float .f64 0, .float .f64 0]) ?_ ⟨p, rfl⟩ (Kept.refl _ _)
      generalize a.eval = ev at *
      simp [execOp, d0, d2, go_sem]
    | 4, _ =>
      simp only [List.getElem?_toArray, List.getElem?_cons_succ, List.getElem?_cons_zero, Option.some.injEq] at ho
      subst ho
      refine flow_value (v := .pointer (some ⟨w'.heap.size, 0, none⟩)) (w' := w'.alloc (.cells #[.float .f64 0, .float .f64 0, .float .f64 0, .float .f64 0, .int .i64 0, .int .i64 0, .float .f64 0, .float .f64 0, .float .f64 0, .float .f64 0, .float .f64 0, .float .f64 0, .pointer none, .float .f64 0, .int .i64 0, .bool false, .bool false, .float .f64 0, .float .f64 0, .float .f64 0] 63)) ?_ ⟨_, rfl, hsz, Row.made _ _ _⟩ (Kept.alloc _ _)
      simp [execOp, go_sem]
  · intro vs W hR hk
    obtain ⟨p, e3⟩ := (show ∃ p, vs 3 = .agg #[.float .f64 x0, .float .f64 x1, .float .f64 x2, .float .f64 x3, .int .i64 0, .int .i64 0, .float .f64 0, .float .f64 0, .float .f64 0, .float .f64 0, .float .f64 0, .float .f64 0, .pointer p, .float .f64 0, .int .i64 0, .bool false, .bool false, .float .f64 0, .float .f64 0, .float .f64 0] from hR 3 (by omega))
    obtain ⟨g, e4, hg, hrow⟩ := (show ∃ g, vs 4 = .pointer (some ⟨g, 0, none⟩) ∧ w.heap.size + 2 ≤ g ∧ Row W g [.float .f64 0, .float .f64 0, .float .f64 0, .float .f64 0, .int .i64 0, .int .i64 0, .float .f64 0, .float .f64 0, .float .f64 0, .float .f64 0, .float .f64 0, .float .f64 0, .pointer none, .float .f64 0, .int .i64 0, .bool false, .bool false, .float .f64 0, .float .f64 0, .float .f64 0] 63 from hR 4 (by omega))
    clear hR
    have hz := (Row.made (w.alloc (.cells #[.float .f64 x0, .float .f64 x1, .float .f64 x2, .float .f64 x3] 60)) _ 63).keep hk (by simp)
    rw [show (w.alloc (.cells #[.float .f64 x0, .float .f64 x1, .float .f64 x2, .float .f64 x3] 60)).heap.size = w.heap.size + 1 from by simp] at hz
    have ka := ((Kept.alloc w _).trans (Kept.alloc _ _) (by simp)).trans hk (by simp)
    refine ⟨g, 0, [.float .f64 x0, .float .f64 x1, .float .f64 x2, .float .f64 x3, .int .i64 0, .int .i64 0, .float .f64 0, .float .f64 0, .float .f64 0, .float .f64 0, .float .f64 0, .float .f64 0, .pointer p, .float .f64 0, .int .i64 0, .bool false, .bool false, .float .f64 0, .float .f64 0, .float .f64 0], _, 63, e4, e3, hrow, by kernel_rfl, by simp, rfl, fun w1 hw1 hk1 hs1 => ?_⟩
    rename_i Q' K hK
    refine hK _ _ ?_
    rw [e4]
    have hc : Cells w1 g 20 63 := ⟨_, hw1, rfl, rfl⟩
    have hz1 := hz.keep hk1 (by simp; omega)
    have HK1 : Hid (Kept [] w w1) := ka.trans hk1 (by simp; omega)
    have HG : Hid (w.heap.size + 2 ≤ g) := hg
    clear hz ka hrow hk hk1 hw1 hs1 e4 e3 hg
    go_wp2_with fail
    refine (reset_any g 63 w1 hc).mono ?_
    rintro e w2 ⟨rfl, hc2, hk2⟩
    have hg := HG.out
    have hz2 := hz1.keep hk2 (by simp; omega)
    have HK2 : Hid (Kept [] w w2) := HK1.out.trans hk2 (by simp; omega)
    obtain ⟨cs, hrow2, hl2, ho2⟩ := hc2
    have hi : (Ybad.prog.info? 63).map (·.size) = some cs.length := by rw [hl2]; kernel_rfl
    have hg' : g ≠ w.heap.size + 1 := by omega
    clear hz1 hk2 HG hg
    go_wp2_with (first | (refine wpList_loads rfl 63 _ rfl g 0 cs _ rfl hrow2 Ybad.underlying63 rfl hi (by rw [List.drop_zero, List.take_length]) ?_) | (refine wpList_stores rfl 63 _ _ rfl (w.heap.size + 1) 0 cs rfl rfl hz2 hi (by simp [hl2]) ho2 ?_; intro w9 h9 k9 s9))
    refine bodyPost_cell 4 63 (w.heap.size + 1) cs _ rfl rfl h9 Ybad.underlying63 rfl hi ?_ rfl ⟨cs, rfl, hl2, ho2, HK2.out.trans k9 (by simp)⟩
    exact splice_take _ 0 cs (Nat.zero_le _)
end Go.Proofs.YbulkjbuDoor
