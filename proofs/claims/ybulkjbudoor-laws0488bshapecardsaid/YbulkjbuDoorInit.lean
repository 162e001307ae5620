/-
  Seat b0488aD: chacha8rand's Init64 and Init, rand.NewChaCha8, rand.New.
-/
import Derived.Test.YbulkjbuDoorLe
import Derived.Test.YbulkjbuDoorBla
import Derived.Test.YbulkjbuDoorFlowOps
namespace Go.Proofs.YbulkjbuDoor
open Go.RowKit

theorem splice_take (old : List Value) (o : Nat) (new : List Value) (h : o ≤ old.length) : ((splice old o new).drop o).take new.length = new := by
  unfold splice
  rw [List.drop_append_of_le_length (by simp; omega), List.drop_take]
  simp
theorem HasLen.sets {w : World} {b n : Nat} {t : TypeId} (h : HasLen w b n t) (new : List Value) (o : Nat) (hl : o + new.length ≤ n) : HasLen (w.setCells b o new) b n t := by
  obtain ⟨l, h1, h2⟩ := h
  exact ⟨_, h1.sets new o (by omega), by rw [length_splice _ _ _ (by omega)]; exact h2⟩

set_option maxRecDepth 100000 in
set_option maxHeartbeats 1000000 in
theorem init64_any (g N : Nat) (t : TypeId) (cells : List Value) (x0 x1 x2 x3 : Int) (w : World) (hr : Row w g cells t) (hl : cells.length = N) (hN : 39 ≤ N) :
    Calls Ybad.prog 44 #[.pointer (some ⟨g, 0, none⟩), .agg #[.int .u64 x0, .int .u64 x1, .int .u64 x2, .int .u64 x3]] w fun e w' => e = .returned (.tuple #[]) ∧ HasLen w' g N t ∧ Kept [g] w w' := by
  go_enter Ybad.func44, Ybad.ntmps44
  have hlt := hr.lt
  have hr1 := hr.keep (Kept.alloc w (.cells #[.int .u64 x0, .int .u64 x1, .int .u64 x2, .int .u64 x3] 128)) (by simp)
  have ka := Kept.alloc w (.cells #[.int .u64 x0, .int .u64 x1, .int .u64 x2, .int .u64 x3] 128)
  have HR : Hid (Row w g cells t) := hr
  clear hr
  go_wp2_with (refine wpList_stores rfl 128 _ _ rfl g 32 [.int .u64 x0, .int .u64 x1, .int .u64 x2, .int .u64 x3] rfl rfl hr1 (by kernel_rfl) (by simp; omega) rfl ?_; intro w2 h2 k2 s2)
  have hst : ((splice cells 32 [.int .u64 x0, .int .u64 x1, .int .u64 x2, .int .u64 x3]).drop 32).take 4 = [.int .u64 x0, .int .u64 x1, .int .u64 x2, .int .u64 x3] := splice_take cells 32 [.int .u64 x0, .int .u64 x1, .int .u64 x2, .int .u64 x3] (by omega)
  have e48 := call48 x0 x1 x2 x3 w2.drew g _ t (h2.keep (Kept.drew _) (by simp)) hst (by rw [length_splice _ _ _ (by simp; omega)]; omega)
  have L2 : Hid (HasLen w2 g N t) := ⟨_, h2, by rw [length_splice _ _ _ (by simp; omega)]; exact hl⟩
  clear h2
  have hbl := blockL_length #[x0.toNat, x1.toNat, x2.toNat, x3.toNat] 0
  generalize blockL #[x0.toNat, x1.toNat, x2.toNat, x3.toNat] 0 = L at *
  have HL : Hid (L.length = 32) := hbl
  clear hbl hst
  go_region
  have k3 := ((Kept.drew w2).mono (ws' := [g]) (by simp)).trans (Kept.sets g L 0 _) (by simp)
  have L3 : HasLen (w2.drew.setCells g 0 L) g N t := (L2.out.keep (Kept.drew _) (by simp)).sets L 0 (by have := HL.out; omega)
  generalize w2.drew.setCells g 0 L = W3 at *
  obtain ⟨y0, c0⟩ := L3.cell 36 (by omega)
  obtain ⟨y1, c1⟩ := L3.cell 37 (by omega)
  obtain ⟨y2, c2⟩ := L3.cell 38 (by omega)
  have f0 := L3.free 36
  have f1 := L3.free 37
  have f2 := L3.free 38
  have HL3 : Hid (HasLen W3 g N t) := L3
  have HK : Hid (Kept [g] w W3) := ((ka.mono (by simp)).trans k2 (by simp)).trans k3 (by simp)
  clear L3 k3 k2 ka e48 HR hr1 s2
  go_wp2_with fail
  go_end0
  refine ⟨rfl, ?_, ?_⟩
  · iterate 3 refine HasLen.setCell ?_ _ _ _
    exact HL3.out
  · iterate 3 refine Kept.trans ?_ (Kept.setCell _ _ _ _) (by simp)
    exact HK.out
/-! ### Init -/
def iniR (g B : Nat) : Nat → Value → World → Prop
  | 0, v, _ => v = .pointer (some ⟨g, 0, none⟩)
  | 1, v, _ => v = .slice (some ⟨B, 0, none⟩) 32 32
  | 2, v, _ => ∃ x, v = .int .u64 x
  | 3, v, _ => v = .slice (some ⟨B, 8, none⟩) 24 24
  | 4, v, _ => ∃ x, v = .int .u64 x
  | 5, v, _ => v = .slice (some ⟨B, 16, none⟩) 16 16
  | 6, v, _ => ∃ x, v = .int .u64 x
  | 7, v, _ => v = .slice (some ⟨B, 24, none⟩) 8 8
  | 8, v, _ => ∃ x, v = .int .u64 x
  | 9, v, _ => ∃ x0 x1 x2 x3, v = .agg #[.int .u64 x0, .int .u64 x1, .int .u64 x2, .int .u64 x3]
  | _, _, _ => True
theorem iniR_keep (g B : Nat) (i : Nat) (v : Value) (w w' : World) (_ : Kept [] w w') (h : iniR g B i v w) : iniR g B i v w' := by
  match i, h with
  | 0, h => exact h
  | 1, h => exact h
  | 2, h => exact h
  | 3, h => exact h
  | 4, h => exact h
  | 5, h => exact h
  | 6, h => exact h
  | 7, h => exact h
  | 8, h => exact h
  | 9, h => exact h
  | _ + 10, _ => exact trivial

set_option maxRecDepth 100000 in
set_option maxHeartbeats 2000000 in
theorem init_any (g N : Nat) (t : TypeId) (cells : List Value) (ys : List Int) (w : World) (hr : Row w g cells t) (hl : cells.length = N) (hN : 39 ≤ N) (hy : ys.length = 32) :
    Calls Ybad.prog 38 #[.pointer (some ⟨g, 0, none⟩), .agg (ys.map (Value.int .u8)).toArray] w fun e w' => e = .returned (.tuple #[]) ∧ HasLen w' g N t ∧ Kept [g] w w' := by
  obtain ⟨key, hkey⟩ : ∃ key, key = ys.map (Value.int .u8) := ⟨_, rfl⟩
  rw [← hkey]
  have HY : Hid (key = ys.map (Value.int .u8)) := hkey
  have hkl : key.length = 32 := by rw [hkey]; simpa using hy
  clear hkey
  go_enter Ybad.func38, Ybad.ntmps38
  go_wp2_with fail
  refine region_calls 10 (iniR g w.heap.size) (fun vs => ⟨List.toArray (Value.pointer (some ⟨g, 0, none⟩) :: .agg key.toArray :: undef :: .pointer (some ⟨w.heap.size, 0, none⟩) :: vs 0 :: vs 1 :: vs 2 :: vs 3 :: vs 4 :: vs 5 :: vs 6 :: vs 7 :: vs 8 :: vs 9 :: undef :: []), []⟩) (some 14) (by kernel_rfl) (by kernel_rfl) (by kernel_rfl) (by kernel_rfl) (fun vs => by kernel_rfl) (iniR_keep g w.heap.size) ?_ ?_
  · intro i hi o ho a w' hoth hdep hk
    have s0 : a.eval (.tmp 0) = .pointer (some ⟨g, 0, none⟩) := hoth 0 (by kernel_rfl)
    have s3 : a.eval (.tmp 3) = .pointer (some ⟨w.heap.size, 0, none⟩) := hoth 3 (by kernel_rfl)
    have hbs : BytesRow w' w.heap.size 32 109 := ⟨ys, hy, by rw [← HY.out]; exact (Row.made w key 109).keep hk (by simp)⟩
    generalize w.heap.size = B at *
    have evc : ∀ v, a.eval (.const v) = v := fun _ => rfl
    have evf : ∀ f, a.eval (.func f) = .func (.func f) #[] #[] := fun _ => rfl
    match i, hi with
    | 0, _ =>
      simp only [List.getElem?_toArray, List.getElem?_cons_zero, Option.some.injEq] at ho
      subst ho
      exact flow_move rfl s0 rfl
    | 1, _ =>
      simp only [List.getElem?_toArray, List.getElem?_cons_succ, List.getElem?_cons_zero, Option.some.injEq] at ho
      subst ho
      refine flow_value ?_ rfl (Kept.refl _ _)
      generalize a.eval = ev at *
      simp [execOp, s3, evc, go_sem]
    | 2, _ =>
      simp only [List.getElem?_toArray, List.getElem?_cons_succ, List.getElem?_cons_zero, Option.some.injEq] at ho
      subst ho
      have d1 : (a.eval (.tmp 5)) = .slice (some ⟨B, 0, none⟩) 32 32 := hdep ⟨1, .data⟩ (by simp)
      obtain ⟨y0, q0⟩ := hbs.cell 0 (by omega)
      obtain ⟨y1, q1⟩ := hbs.cell 1 (by omega)
      obtain ⟨y2, q2⟩ := hbs.cell 2 (by omega)
      obtain ⟨y3, q3⟩ := hbs.cell 3 (by omega)
      obtain ⟨y4, q4⟩ := hbs.cell 4 (by omega)
      obtain ⟨y5, q5⟩ := hbs.cell 5 (by omega)
      obtain ⟨y6, q6⟩ := hbs.cell 6 (by omega)
      obtain ⟨y7, q7⟩ := hbs.cell 7 (by omega)
      exact flow_call (f := 45) (args := #[.slice (some ⟨B, 0, none⟩) 32 32]) (by generalize a.eval = ev at *; simp [execOp, d1, evf, go_sem]) ((le_any B 0 32 32 w' _ _ _ _ _ _ _ _ (by omega) q0 q1 q2 q3 q4 q5 q6 q7).mono (by rintro e w2 ⟨⟨x, rfl⟩, k2⟩; exact ⟨_, rfl, ⟨x, rfl⟩, k2⟩))
    | 3, _ =>
      simp only [List.getElem?_toArray, List.getElem?_cons_succ, List.getElem?_cons_zero, Option.some.injEq] at ho
      subst ho
      refine flow_value ?_ rfl (Kept.refl _ _)
      generalize a.eval = ev at *
      simp [execOp, s3, evc, go_sem]
    | 4, _ =>
      simp only [List.getElem?_toArray, List.getElem?_cons_succ, List.getElem?_cons_zero, Option.some.injEq] at ho
      subst ho
      have d3 : (a.eval (.tmp 7)) = .slice (some ⟨B, 8, none⟩) 24 24 := hdep ⟨3, .data⟩ (by simp)
      obtain ⟨y0, q0⟩ := hbs.cell 8 (by omega)
      obtain ⟨y1, q1⟩ := hbs.cell 9 (by omega)
      obtain ⟨y2, q2⟩ := hbs.cell 10 (by omega)
      obtain ⟨y3, q3⟩ := hbs.cell 11 (by omega)
      obtain ⟨y4, q4⟩ := hbs.cell 12 (by omega)
      obtain ⟨y5, q5⟩ := hbs.cell 13 (by omega)
      obtain ⟨y6, q6⟩ := hbs.cell 14 (by omega)
      obtain ⟨y7, q7⟩ := hbs.cell 15 (by omega)
      exact flow_call (f := 45) (args := #[.slice (some ⟨B, 8, none⟩) 24 24]) (by generalize a.eval = ev at *; simp [execOp, d3, evf, go_sem]) ((le_any B 8 24 24 w' _ _ _ _ _ _ _ _ (by omega) q0 q1 q2 q3 q4 q5 q6 q7).mono (by rintro e w2 ⟨⟨x, rfl⟩, k2⟩; exact ⟨_, rfl, ⟨x, rfl⟩, k2⟩))
    | 5, _ =>
      simp only [List.getElem?_toArray, List.getElem?_cons_succ, List.getElem?_cons_zero, Option.some.injEq] at ho
      subst ho
      refine flow_value ?_ rfl (Kept.refl _ _)
      generalize a.eval = ev at *
      simp [execOp, s3, evc, go_sem]
    | 6, _ =>
      simp only [List.getElem?_toArray, List.getElem?_cons_succ, List.getElem?_cons_zero, Option.some.injEq] at ho
      subst ho
      have d5 : (a.eval (.tmp 9)) = .slice (some ⟨B, 16, none⟩) 16 16 := hdep ⟨5, .data⟩ (by simp)
      obtain ⟨y0, q0⟩ := hbs.cell 16 (by omega)
      obtain ⟨y1, q1⟩ := hbs.cell 17 (by omega)
      obtain ⟨y2, q2⟩ := hbs.cell 18 (by omega)
      obtain ⟨y3, q3⟩ := hbs.cell 19 (by omega)
      obtain ⟨y4, q4⟩ := hbs.cell 20 (by omega)
      obtain ⟨y5, q5⟩ := hbs.cell 21 (by omega)
      obtain ⟨y6, q6⟩ := hbs.cell 22 (by omega)
      obtain ⟨y7, q7⟩ := hbs.cell 23 (by omega)
      exact flow_call (f := 45) (args := #[.slice (some ⟨B, 16, none⟩) 16 16]) (by generalize a.eval = ev at *; simp [execOp, d5, evf, go_sem]) ((le_any B 16 16 16 w' _ _ _ _ _ _ _ _ (by omega) q0 q1 q2 q3 q4 q5 q6 q7).mono (by rintro e w2 ⟨⟨x, rfl⟩, k2⟩; exact ⟨_, rfl, ⟨x, rfl⟩, k2⟩))
    | 7, _ =>
      simp only [List.getElem?_toArray, List.getElem?_cons_succ, List.getElem?_cons_zero, Option.some.injEq] at ho
      subst ho
      refine flow_value ?_ rfl (Kept.refl _ _)
      generalize a.eval = ev at *
      simp [execOp, s3, evc, go_sem]
    | 8, _ =>
      simp only [List.getElem?_toArray, List.getElem?_cons_succ, List.getElem?_cons_zero, Option.some.injEq] at ho
      subst ho
      have d7 : (a.eval (.tmp 11)) = .slice (some ⟨B, 24, none⟩) 8 8 := hdep ⟨7, .data⟩ (by simp)
      obtain ⟨y0, q0⟩ := hbs.cell 24 (by omega)
      obtain ⟨y1, q1⟩ := hbs.cell 25 (by omega)
      obtain ⟨y2, q2⟩ := hbs.cell 26 (by omega)
      obtain ⟨y3, q3⟩ := hbs.cell 27 (by omega)
      obtain ⟨y4, q4⟩ := hbs.cell 28 (by omega)
      obtain ⟨y5, q5⟩ := hbs.cell 29 (by omega)
      obtain ⟨y6, q6⟩ := hbs.cell 30 (by omega)
      obtain ⟨y7, q7⟩ := hbs.cell 31 (by omega)
      exact flow_call (f := 45) (args := #[.slice (some ⟨B, 24, none⟩) 8 8]) (by generalize a.eval = ev at *; simp [execOp, d7, evf, go_sem]) ((le_any B 24 8 8 w' _ _ _ _ _ _ _ _ (by omega) q0 q1 q2 q3 q4 q5 q6 q7).mono (by rintro e w2 ⟨⟨x, rfl⟩, k2⟩; exact ⟨_, rfl, ⟨x, rfl⟩, k2⟩))
    | 9, _ =>
      simp only [List.getElem?_toArray, List.getElem?_cons_succ, List.getElem?_cons_zero, Option.some.injEq] at ho
      subst ho
      have d2 : ∃ x, (a.eval (.tmp 6)) = .int .u64 x := hdep ⟨2, .data⟩ (by simp)
      have d4 : ∃ x, (a.eval (.tmp 8)) = .int .u64 x := hdep ⟨4, .data⟩ (by simp)
      have d6 : ∃ x, (a.eval (.tmp 10)) = .int .u64 x := hdep ⟨6, .data⟩ (by simp)
      have d8 : ∃ x, (a.eval (.tmp 12)) = .int .u64 x := hdep ⟨8, .data⟩ (by simp)
      obtain ⟨x0, d2⟩ := d2
      obtain ⟨x1, d4⟩ := d4
      obtain ⟨x2, d6⟩ := d6
      obtain ⟨x3, d8⟩ := d8
      refine flow_value (v := .agg #[.int .u64 x0, .int .u64 x1, .int .u64 x2, .int .u64 x3]) ?_ ⟨_, _, _, _, rfl⟩ (Kept.refl _ _)
      generalize a.eval = ev at *
      simp [execOp, d2, d4, d6, d8, go_sem]
  · intro vs W hR hk
    have e0 : vs 0 = .pointer (some ⟨g, 0, none⟩) := hR 0 (by omega)
    obtain ⟨x0, x1, x2, x3, e9⟩ := (show ∃ x0 x1 x2 x3, vs 9 = .agg #[.int .u64 x0, .int .u64 x1, .int .u64 x2, .int .u64 x3] from hR 9 (by omega))
    clear hR
    have ka := (Kept.alloc w (.cells key.toArray 109)).trans hk (by simp)
    refine ⟨44, #[.pointer (some ⟨g, 0, none⟩), .agg #[.int .u64 x0, .int .u64 x1, .int .u64 x2, .int .u64 x3]], ?_, (init64_any g N t cells x0 x1 x2 x3 W (hr.keep ka (by simp)) hl hN).mono ?_⟩
    · intro ol hol
      simp only [List.getElem?_toArray, List.getElem?_cons_succ, List.getElem?_cons_zero, Option.some.injEq] at hol
      subst hol
      simp [e0, e9, go_sem]
    · rintro e w3 ⟨rfl, h3, k3⟩
      refine ⟨_, rfl, ?_⟩
      go_end0
      exact ⟨rfl, h3, (ka.mono (by simp)).trans k3 (by simp)⟩
end Go.Proofs.YbulkjbuDoor
