/-
  Seat b0488aD: newInputTraces.
-/
import Derived.Test.YbulkjbuDoorBla
import Derived.Test.YbulkjbuDoorFlowOps
namespace Go.Proofs.YbulkjbuDoor
open Go.RowKit

theorem Ybad.info3 : (Ybad.prog.info? 3).map (fun i => (i.zero, i.size, i.bytes)) = some (some (.int .i64 0), 1, 8) := by kernel_rfl
theorem mk_ints (n : Nat) (hn : n ≤ 10000) (W : World) : (Instr.makeSlice 56 (.int .i64 n) (.int .i64 n)).run Ybad.prog W = .ok (.slice (some ⟨W.heap.size, 0, none⟩) n n) (W.alloc (.cells (List.replicate n (.int .i64 0)).toArray 3)) := by
  have := run_make_row' (P := Ybad.prog) 56 3 (.int .i64 0) 8 Ybad.underlying56 Ybad.info3 rfl .i64 .i64 n (by omega) (by omega) W
  rw [made_list] at this; exact this
/-- A slice of n, whatever it holds. -/
def IsSl (n : Nat) (v : Value) : Prop := ∃ a, v = .slice a n n
def traR (n m : Nat) : Nat → Value → World → Prop
  | 0, v, _ => v = .int .i64 m
  | 1, v, _ => IsSl m v
  | 2, v, _ => v = .int .i64 n
  | 3, v, _ => IsSl n v
  | 4, v, _ => v = .int .i64 m
  | 5, v, _ => IsSl m v
  | 6, v, _ => ∃ a1 a2 a3 : Option Addr, v = .agg #[.slice a1 m m, .slice a2 n n, .slice a3 m m]
  | _, _, _ => True
theorem traR_keep (n m : Nat) (i : Nat) (v : Value) (w w' : World) (_ : Kept [] w w') (h : traR n m i v w) : traR n m i v w' := by
  match i, h with
  | 0, h => exact h
  | 1, h => exact h
  | 2, h => exact h
  | 3, h => exact h
  | 4, h => exact h
  | 5, h => exact h
  | 6, h => exact h
  | _ + 7, _ => exact trivial

set_option maxRecDepth 100000 in
set_option maxHeartbeats 1000000 in
theorem traces_any (n m : Nat) (w : World) (hn : n ≤ 1000) (hm : m ≤ 1000) :
    Calls Ybad.prog 13 #[.int .i64 n, .int .i64 m] w fun e w' => ∃ a1 a2 a3 : Option Addr, e = .returned (.agg #[.slice a1 m m, .slice a2 n n, .slice a3 m m]) ∧ Kept [] w w' := by
  go_enter Ybad.func13, Ybad.ntmps13
  go_wp2_with fail
  refine region_store 7 (traR n m) (fun vs => ⟨List.toArray (Value.int .i64 n :: .int .i64 m :: undef :: undef :: .pointer (some ⟨w.heap.size, 0, none⟩) :: vs 0 :: vs 1 :: vs 2 :: vs 3 :: vs 4 :: vs 5 :: vs 6 :: []), []⟩) 58 (.tmp 4) (.tmp 11) (by kernel_rfl) (by kernel_rfl) (by kernel_rfl) (by kernel_rfl) (fun vs => by kernel_rfl) (traR_keep n m) ?_ ?_
  · intro i hi o ho a w' hoth hdep hk
    have s0 : a.eval (.tmp 0) = .int .i64 n := hoth 0 (by kernel_rfl)
    have s1 : a.eval (.tmp 1) = .int .i64 m := hoth 1 (by kernel_rfl)
    have mi := mk_ints n (by omega)
    have mf := mk_floats m (by omega)
    match i, hi with
    | 0, _ =>
      simp only [List.getElem?_toArray, List.getElem?_cons_zero, Option.some.injEq] at ho
      subst ho
      exact flow_move rfl s1 rfl
    | 1, _ =>
      simp only [List.getElem?_toArray, List.getElem?_cons_succ, List.getElem?_cons_zero, Option.some.injEq] at ho
      subst ho
      have d0 : (a.eval (.tmp 5)) = .int .i64 m := hdep ⟨0, .data⟩ (by simp)
      exact flow_make rfl d0 mf ⟨_, rfl⟩
    | 2, _ =>
      simp only [List.getElem?_toArray, List.getElem?_cons_succ, List.getElem?_cons_zero, Option.some.injEq] at ho
      subst ho
      exact flow_move rfl s0 rfl
    | 3, _ =>
      simp only [List.getElem?_toArray, List.getElem?_cons_succ, List.getElem?_cons_zero, Option.some.injEq] at ho
      subst ho
      have d2 : (a.eval (.tmp 7)) = .int .i64 n := hdep ⟨2, .data⟩ (by simp)
      exact flow_make rfl d2 mi ⟨_, rfl⟩
    | 4, _ =>
      simp only [List.getElem?_toArray, List.getElem?_cons_succ, List.getElem?_cons_zero, Option.some.injEq] at ho
      subst ho
      exact flow_move rfl s1 rfl
    | 5, _ =>
      simp only [List.getElem?_toArray, List.getElem?_cons_succ, List.getElem?_cons_zero, Option.some.injEq] at ho
      subst ho
      have d4 : (a.eval (.tmp 9)) = .int .i64 m := hdep ⟨4, .data⟩ (by simp)
      exact flow_make rfl d4 mf ⟨_, rfl⟩
    | 6, _ =>
      simp only [List.getElem?_toArray, List.getElem?_cons_succ, List.getElem?_cons_zero, Option.some.injEq] at ho
      subst ho
      have d1 : IsSl m (a.eval (.tmp 6)) := hdep ⟨1, .data⟩ (by simp)
      have d3 : IsSl n (a.eval (.tmp 8)) := hdep ⟨3, .data⟩ (by simp)
      have d5 : IsSl m (a.eval (.tmp 10)) := hdep ⟨5, .data⟩ (by simp)
      obtain ⟨a1, d1⟩ := d1
      obtain ⟨a2, d3⟩ := d3
      obtain ⟨a3, d5⟩ := d5
      refine flow_value (v := .agg #[.slice a1 m m, .slice a2 n n, .slice a3 m m]) ?_ ⟨_, _, _, rfl⟩ (Kept.refl _ _)
      generalize a.eval = ev at *
      simp [execOp, d1, d3, d5, go_sem]
  · intro vs W hR hk
    obtain ⟨a1, a2, a3, e6⟩ := (show ∃ a1 a2 a3 : Option Addr, vs 6 = .agg #[.slice a1 m m, .slice a2 n n, .slice a3 m m] from hR 6 (by omega))
    clear hR
    have hz := (Row.made w [.slice none 0 0, .slice none 0 0, .slice none 0 0] 58).keep hk (by simp)
    refine ⟨w.heap.size, 0, [.slice a1 m m, .slice a2 n n, .slice a3 m m], _, 58, rfl, e6, hz, by kernel_rfl, by simp, rfl, fun w1 hw1 hk1 hs1 => ?_⟩
    rename_i Q' K hK
    refine hK _ _ ?_
    go_wp2_with fail
    refine bodyPost_cell 4 58 w.heap.size [.slice a1 m m, .slice a2 n n, .slice a3 m m] _ rfl rfl hw1 Ybad.underlying58 rfl (by kernel_rfl) rfl rfl ⟨_, _, _, rfl, ?_⟩
    exact ((Kept.alloc w _).trans hk (by simp)).trans hk1 (by simp)
end Go.Proofs.YbulkjbuDoor
