/-
  Seat b0488aD: newValence.
-/
import Derived.Test.YbulkjbuDoorTraces
import Derived.Test.YbulkjbuDoorUss
import Derived.Test.YbulkjbuDoorParams
import Derived.Deep.RegionWith
namespace Go.Proofs.YbulkjbuDoor
open Go.RowKit

/-! ### a row of magnitudes -/
/-- The first k magnitudes, the rest nought. -/
def mags (fl : Nat → Nat) (n k : Nat) : List Value := (List.range n).map fun i => Value.float .f64 (if i < k then fl i else 0)
theorem mags_zero (fl : Nat → Nat) (n : Nat) : mags fl n 0 = List.replicate n (.float .f64 0) := by
  unfold mags
  rw [List.eq_replicate_iff]
  refine ⟨by simp, fun b hb => ?_⟩
  simp only [List.mem_map] at hb
  obtain ⟨i, _, rfl⟩ := hb
  simp
theorem mags_succ (fl : Nat → Nat) (n k : Nat) (hk : k < n) : (mags fl n k).set k (.float .f64 (fl k)) = mags fl n (k + 1) := by
  apply List.ext_getElem?
  intro j
  unfold mags
  rw [List.getElem?_set]
  by_cases hj : j < n
  · by_cases hjk : k = j
    · subst hjk; simp [hk]
    · rw [if_neg hjk]
      simp only [List.getElem?_map, List.getElem?_range hj, Option.map_some]
      have : (j < k ↔ j < k + 1) := by omega
      simp [this]
  · have e1 : (List.range n)[j]? = none := by simp; omega
    by_cases hjk : k = j
    · omega
    · simp [hjk, e1]
theorem mags_at (fl : Nat → Nat) (n k j : Nat) (hj : j < n) : (mags fl n k)[j]? = some (.float .f64 (if j < k then fl j else 0)) := by simp [mags, hj]
theorem mags_len (fl : Nat → Nat) (n k : Nat) : (mags fl n k).length = n := by simp [mags]

theorem Ybad.info4 : (Ybad.prog.info? 4).map (fun i => (i.zero, i.size, i.bytes)) = some (some (.bool false), 1, 1) := by kernel_rfl
theorem mk_bools (n : Nat) (hn : n ≤ 10000) (W : World) : (Instr.makeSlice 47 (.int .i64 n) (.int .i64 n)).run Ybad.prog W = .ok (.slice (some ⟨W.heap.size, 0, none⟩) n n) (W.alloc (.cells (List.replicate n (.bool false)).toArray 4)) := by
  have := run_make_row' (P := Ybad.prog) 47 4 (.bool false) 1 Ybad.underlying47 Ybad.info4 rfl .i64 .i64 n (by omega) (by omega) W
  rw [made_list] at this; exact this
section
variable {o : Oper} {a : Act} {w : World} {R : Value → World → Prop} {Q : Exit → Act → World → Prop}
theorem flow_len {x : Operand} {ad : Option Addr} {n cap : Nat} (ho : o.op = .call { callee := .builtin .len, args := #[x], argTypes := #[27] }) (hx : a.eval x = .slice ad n cap) (hR : R (.int .i64 n) w) :
    o.wp Ybad.prog a w (fun a' w'' => ∃ v, a' = a.put o.dst v ∧ R v w'' ∧ Kept [] w w'') Q := by
  refine flow_value (v := .int .i64 n) ?_ hR (Kept.refl _ _)
  generalize a.eval = ev at *
  simp [execOp, ho, hx, go_sem]
end
def valR (s0 s1 s2 : ByteArray) (i0 i1 : Int) (x0 x1 x2 x3 x4 : Nat) (pu : Option Addr) (ad : Option Addr) (n cap nc nx b : Nat) : Nat → Value → World → Prop
  | 0, v, _ => v = .agg #[.string s0, .string s1, .string s2, .int .i64 i0, .int .i64 i1]
  | 1, v, _ => v = .agg #[.float .f64 x0, .float .f64 x1, .float .f64 x2, .float .f64 x3, .float .f64 x4]
  | 2, v, _ => v = .slice ad n cap
  | 3, v, _ => v = .slice ad n cap
  | 4, v, _ => v = .int .i64 n
  | 5, v, w => ∃ m, v = .map (some m) ∧ b ≤ m ∧ HasMap w m []
  | 6, v, _ => v = .slice ad n cap
  | 7, v, _ => v = .int .i64 n
  | 8, v, w => Made 25 (.float .f64 0) n b v w
  | 9, v, _ => v = .slice ad n cap
  | 10, v, _ => v = .int .i64 n
  | 11, v, _ => IsSl n v
  | 12, v, _ => v = .slice ad n cap
  | 13, v, _ => v = .int .i64 n
  | 14, v, _ => IsSl n v
  | 15, v, _ => v = .pointer pu
  | 16, v, _ => v = .int .i64 nc
  | 17, v, _ => v = .slice ad n cap
  | 18, v, _ => v = .int .i64 n
  | 19, v, _ => v = .float .f64 9218868437227405312
  | 20, v, _ => ∃ a1 a2 a3 a4 a5 : Option Addr, v = .agg #[.pointer pu, .slice a1 nc nc, .slice a2 nc nc, .float .f64 9218868437227405312, .slice a3 n n, .slice a4 n n, .slice a5 n n]
  | 21, v, _ => v = .pointer pu
  | 22, v, _ => v = .int .i64 nc
  | 23, v, _ => v = .int .i64 nx
  | 24, v, _ => v = .int .i64 ((nc + nx : Nat) : Int)
  | 25, v, _ => v = .slice ad n cap
  | 26, v, _ => v = .int .i64 n
  | 27, v, _ => v = .pointer (some ⟨(b - 2), 4, none⟩)
  | 28, v, _ => v = .float .f64 x4
  | 29, v, _ => ∃ a1 a2 a3 a4 a5 : Option Addr, v = .agg #[.pointer pu, .slice a1 (nc + nx) (nc + nx), .slice a2 (nc + nx) (nc + nx), .float .f64 x4, .slice a3 n n, .slice a4 n n, .slice a5 n n]
  | 30, v, _ => v = .slice ad n cap
  | 31, v, _ => v = .int .i64 n
  | 32, v, _ => IsSl n v
  | 33, v, w => ∃ (m gz : Nat) (q5 q6 q9 a1 a2 a3 a4 a5 c1 c2 c3 c4 c5 : Option Addr), v = .agg #[.string s0, .string s1, .string s2, .int .i64 i0, .int .i64 i1, .float .f64 x0, .float .f64 x1, .float .f64 x2, .float .f64 x3, .float .f64 x4, .slice ad n cap, .map (some m), .slice (some ⟨gz, 0, none⟩) n n, .slice q5 n n, .slice q6 n n, .pointer pu, .slice a1 nc nc, .slice a2 nc nc, .float .f64 9218868437227405312, .slice a3 n n, .slice a4 n n, .slice a5 n n, .pointer pu, .slice c1 (nc + nx) (nc + nx), .slice c2 (nc + nx) (nc + nx), .float .f64 x4, .slice c3 n n, .slice c4 n n, .slice c5 n n, .slice q9 n n] ∧ b ≤ m ∧ HasMap w m [] ∧ b ≤ gz ∧ Row w gz (List.replicate n (.float .f64 0)) 25
  | 34, v, w => ∃ g, v = .pointer (some ⟨g, 0, none⟩) ∧ b ≤ g ∧ Row w g [.string ⟨#[]⟩, .string ⟨#[]⟩, .string ⟨#[]⟩, .int .i64 0, .int .i64 0, .float .f64 0, .float .f64 0, .float .f64 0, .float .f64 0, .float .f64 0, .slice none 0 0, .map none, .slice none 0 0, .slice none 0 0, .slice none 0 0, .pointer none, .slice none 0 0, .slice none 0 0, .float .f64 0, .slice none 0 0, .slice none 0 0, .slice none 0 0, .pointer none, .slice none 0 0, .slice none 0 0, .float .f64 0, .slice none 0 0, .slice none 0 0, .slice none 0 0, .slice none 0 0] 53
  | _, _, _ => True
theorem valR_keep (s0 s1 s2 : ByteArray) (i0 i1 : Int) (x0 x1 x2 x3 x4 : Nat) (pu : Option Addr) (ad : Option Addr) (n cap nc nx b : Nat) (i : Nat) (v : Value) (w w' : World) (k : Kept [] w w') (h : valR s0 s1 s2 i0 i1 x0 x1 x2 x3 x4 pu ad n cap nc nx b i v w) : valR s0 s1 s2 i0 i1 x0 x1 x2 x3 x4 pu ad n cap nc nx b i v w' := by
  match i, h with
  | 0, h => exact h
  | 1, h => exact h
  | 2, h => exact h
  | 3, h => exact h
  | 4, h => exact h
  | 5, h => exact by obtain ⟨m, h1, h2, h3⟩ := h; exact ⟨m, h1, h2, h3.keep k (by simp)⟩
  | 6, h => exact h
  | 7, h => exact h
  | 8, h => exact h.keep k
  | 9, h => exact h
  | 10, h => exact h
  | 11, h => exact h
  | 12, h => exact h
  | 13, h => exact h
  | 14, h => exact h
  | 15, h => exact h
  | 16, h => exact h
  | 17, h => exact h
  | 18, h => exact h
  | 19, h => exact h
  | 20, h => exact h
  | 21, h => exact h
  | 22, h => exact h
  | 23, h => exact h
  | 24, h => exact h
  | 25, h => exact h
  | 26, h => exact h
  | 27, h => exact h
  | 28, h => exact h
  | 29, h => exact h
  | 30, h => exact h
  | 31, h => exact h
  | 32, h => exact h
  | 33, h => exact by obtain ⟨m, gz, q5, q6, q9, a1, a2, a3, a4, a5, c1, c2, c3, c4, c5, h1, h2, h3, h4, h5⟩ := h; exact ⟨m, gz, q5, q6, q9, a1, a2, a3, a4, a5, c1, c2, c3, c4, c5, h1, h2, h3.keep k (by simp), h4, h5.keep k (by simp)⟩
  | 34, h => exact by obtain ⟨g, h1, h2, h3⟩ := h; exact ⟨g, h1, h2, h3.keep k (by simp)⟩
  | _ + 35, _ => exact trivial

set_option maxRecDepth 100000 in
set_option maxHeartbeats 4000000 in
theorem val_any (s0 s1 s2 : ByteArray) (i0 i1 : Int) (x0 x1 x2 x3 x4 : Nat) (pu ad : Option Addr) (n cap nc nx mu N b3 : Nat) (ix fl : Nat → Nat) (w : World) (hn : n ≤ 300) (hc : nc + nx ≤ 100)
    (hs : Sl w b3 9 ad n cap ((List.range n).map fun j => Value.string (nm 117 (ix j)))) (hm : HasMap w mu (usl fl N)) (hix : ∀ j, j < n → ix j < N) (hinj : ∀ i j, i < n → j < n → ix i = ix j → i = j) :
    Calls Ybad.prog 16 #[.agg #[.string s0, .string s1, .string s2, .int .i64 i0, .int .i64 i1], .agg #[.float .f64 x0, .float .f64 x1, .float .f64 x2, .float .f64 x3, .float .f64 x4], .pointer pu, .slice ad n cap, .map (some mu), .int .i64 nc, .int .i64 nx] w fun e w' =>
      ∃ (m gz : Nat) (q5 q6 q9 a1 a2 a3 a4 a5 c1 c2 c3 c4 c5 : Option Addr), e = .returned (.agg #[.string s0, .string s1, .string s2, .int .i64 i0, .int .i64 i1, .float .f64 x0, .float .f64 x1, .float .f64 x2, .float .f64 x3, .float .f64 x4, .slice ad n cap, .map (some m), .slice (some ⟨gz, 0, none⟩) n n, .slice q5 n n, .slice q6 n n, .pointer pu, .slice a1 nc nc, .slice a2 nc nc, .float .f64 9218868437227405312, .slice a3 n n, .slice a4 n n, .slice a5 n n, .pointer pu, .slice c1 (nc + nx) (nc + nx), .slice c2 (nc + nx) (nc + nx), .float .f64 x4, .slice c3 n n, .slice c4 n n, .slice c5 n n, .slice q9 n n]) ∧ w.heap.size ≤ gz ∧ Row w' gz (mags (fun j => absBits (fl (ix j))) n n) 25 ∧ Kept [] w w' := by
  have hnI : (n : Int) ≤ 300 := by omega
  go_enter Ybad.func16, Ybad.ntmps16
  go_wp2_with fail
  refine region_store 35 (valR s0 s1 s2 i0 i1 x0 x1 x2 x3 x4 pu ad n cap nc nx (w.heap.size + 3)) (fun vs => ⟨List.toArray (Value.agg #[.string s0, .string s1, .string s2, .int .i64 i0, .int .i64 i1] :: .agg #[.float .f64 x0, .float .f64 x1, .float .f64 x2, .float .f64 x3, .float .f64 x4] :: .pointer pu :: .slice ad n cap :: .map (some mu) :: .int .i64 nc :: .int .i64 nx :: .pointer (some ⟨w.heap.size, 0, none⟩) :: .pointer (some ⟨w.heap.size + 1, 0, none⟩) :: undef :: undef :: undef :: undef :: undef :: .pointer (some ⟨w.heap.size + 1 + 1, 0, none⟩) :: vs 34 :: undef :: undef :: vs 0 :: vs 1 :: vs 2 :: vs 3 :: vs 4 :: vs 5 :: vs 6 :: vs 7 :: vs 8 :: vs 9 :: vs 10 :: vs 11 :: vs 12 :: vs 13 :: vs 14 :: vs 15 :: vs 16 :: vs 17 :: vs 18 :: vs 19 :: vs 20 :: vs 21 :: vs 22 :: vs 23 :: vs 24 :: vs 25 :: vs 26 :: vs 27 :: vs 28 :: vs 29 :: vs 30 :: vs 31 :: vs 32 :: vs 33 :: undef :: undef :: undef :: undef :: undef :: undef :: undef :: undef :: undef :: undef :: undef :: undef :: undef :: undef :: undef :: undef :: undef :: undef :: undef :: undef :: undef :: []), []⟩) 53 (.tmp 15) (.tmp 51) (by kernel_rfl) (by kernel_rfl) (by kernel_rfl) (by kernel_rfl) (fun vs => by kernel_rfl) (valR_keep s0 s1 s2 i0 i1 x0 x1 x2 x3 x4 pu ad n cap nc nx (w.heap.size + 3)) ?_ ?_
  · intro i hi o ho a w' hoth hdep hk
    have s2' : a.eval (.tmp 2) = .pointer pu := hoth 2 (by kernel_rfl)
    have s3 : a.eval (.tmp 3) = .slice ad n cap := hoth 3 (by kernel_rfl)
    have s5 : a.eval (.tmp 5) = .int .i64 nc := hoth 5 (by kernel_rfl)
    have s6 : a.eval (.tmp 6) = .int .i64 nx := hoth 6 (by kernel_rfl)
    have s7 : a.eval (.tmp 7) = .pointer (some ⟨w.heap.size, 0, none⟩) := hoth 7 (by kernel_rfl)
    have s8 : a.eval (.tmp 8) = .pointer (some ⟨w.heap.size + 1, 0, none⟩) := hoth 8 (by kernel_rfl)
    have hr7 := (Row.made w [.string s0, .string s1, .string s2, .int .i64 i0, .int .i64 i1] 44).keep (((Kept.alloc _ (.cells #[.float .f64 x0, .float .f64 x1, .float .f64 x2, .float .f64 x3, .float .f64 x4] 46)).trans (Kept.alloc _ _) (by simp)).trans hk (by simp)) (by simp)
    have hr8 := (Row.made (w.alloc (.cells #[.string s0, .string s1, .string s2, .int .i64 i0, .int .i64 i1] 44)) [.float .f64 x0, .float .f64 x1, .float .f64 x2, .float .f64 x3, .float .f64 x4] 46).keep ((Kept.alloc _ _).trans hk (by simp)) (by simp)
    rw [show (w.alloc (.cells #[.string s0, .string s1, .string s2, .int .i64 i0, .int .i64 i1] 44)).heap.size = w.heap.size + 1 from by simp] at hr8
    have hsz : w.heap.size + 3 ≤ w'.heap.size := by have := hk.size; simpa using this
    have hb2 : w.heap.size + 3 - 2 = w.heap.size + 1 := by omega
    have evc : ∀ v, a.eval (.const v) = v := fun _ => rfl
    have evf : ∀ f, a.eval (.func f) = .func (.func f) #[] #[] := fun _ => rfl
    have mf := mk_floats n (by omega)
    have mb := mk_bools n (by omega)
    rw [← hb2] at s8 hr8
    generalize w.heap.size + 3 = b at *
    match i, hi with
    | 0, _ =>
      simp only [List.getElem?_toArray, List.getElem?_cons_zero, Option.some.injEq] at ho
      subst ho
      exact flow_loads (cs := [.string s0, .string s1, .string s2, .int .i64 i0, .int .i64 i1]) rfl s7 hr7 Ybad.underlying44 rfl (by kernel_rfl) rfl rfl
    | 1, _ =>
      simp only [List.getElem?_toArray, List.getElem?_cons_succ, List.getElem?_cons_zero, Option.some.injEq] at ho
      subst ho
      exact flow_loads (cs := [.float .f64 x0, .float .f64 x1, .float .f64 x2, .float .f64 x3, .float .f64 x4]) rfl s8 hr8 Ybad.underlying46 rfl (by kernel_rfl) rfl rfl
    | 2, _ =>
      simp only [List.getElem?_toArray, List.getElem?_cons_succ, List.getElem?_cons_zero, Option.some.injEq] at ho
      subst ho
      exact flow_move rfl s3 rfl
    | 3, _ =>
      simp only [List.getElem?_toArray, List.getElem?_cons_succ, List.getElem?_cons_zero, Option.some.injEq] at ho
      subst ho
      exact flow_move rfl s3 rfl
    | 4, _ =>
      simp only [List.getElem?_toArray, List.getElem?_cons_succ, List.getElem?_cons_zero, Option.some.injEq] at ho
      subst ho
      have d3 : (a.eval (.tmp 21)) = .slice ad n cap := hdep ⟨3, .data⟩ (by simp)
      exact flow_len rfl d3 rfl
    | 5, _ =>
      simp only [List.getElem?_toArray, List.getElem?_cons_succ, List.getElem?_cons_zero, Option.some.injEq] at ho
      subst ho
      have d4 : (a.eval (.tmp 22)) = .int .i64 n := hdep ⟨4, .data⟩ (by simp)
      exact flow_map rfl d4 (fun W => run_makeMap_hint W 28 9 3 .i64 n Ybad.underlying28) ⟨_, rfl, hsz, HasMap.made _⟩
    | 6, _ =>
      simp only [List.getElem?_toArray, List.getElem?_cons_succ, List.getElem?_cons_zero, Option.some.injEq] at ho
      subst ho
      exact flow_move rfl s3 rfl
    | 7, _ =>
      simp only [List.getElem?_toArray, List.getElem?_cons_succ, List.getElem?_cons_zero, Option.some.injEq] at ho
      subst ho
      have d6 : (a.eval (.tmp 24)) = .slice ad n cap := hdep ⟨6, .data⟩ (by simp)
      exact flow_len rfl d6 rfl
    | 8, _ =>
      simp only [List.getElem?_toArray, List.getElem?_cons_succ, List.getElem?_cons_zero, Option.some.injEq] at ho
      subst ho
      have d7 : (a.eval (.tmp 25)) = .int .i64 n := hdep ⟨7, .data⟩ (by simp)
      exact flow_make rfl d7 mf (Made.mk _ _ _ _ _ hsz)
    | 9, _ =>
      simp only [List.getElem?_toArray, List.getElem?_cons_succ, List.getElem?_cons_zero, Option.some.injEq] at ho
      subst ho
      exact flow_move rfl s3 rfl
    | 10, _ =>
      simp only [List.getElem?_toArray, List.getElem?_cons_succ, List.getElem?_cons_zero, Option.some.injEq] at ho
      subst ho
      have d9 : (a.eval (.tmp 27)) = .slice ad n cap := hdep ⟨9, .data⟩ (by simp)
      exact flow_len rfl d9 rfl
    | 11, _ =>
      simp only [List.getElem?_toArray, List.getElem?_cons_succ, List.getElem?_cons_zero, Option.some.injEq] at ho
      subst ho
      have d10 : (a.eval (.tmp 28)) = .int .i64 n := hdep ⟨10, .data⟩ (by simp)
      exact flow_make rfl d10 mb ⟨_, rfl⟩
    | 12, _ =>
      simp only [List.getElem?_toArray, List.getElem?_cons_succ, List.getElem?_cons_zero, Option.some.injEq] at ho
      subst ho
      exact flow_move rfl s3 rfl
    | 13, _ =>
      simp only [List.getElem?_toArray, List.getElem?_cons_succ, List.getElem?_cons_zero, Option.some.injEq] at ho
      subst ho
      have d12 : (a.eval (.tmp 30)) = .slice ad n cap := hdep ⟨12, .data⟩ (by simp)
      exact flow_len rfl d12 rfl
    | 14, _ =>
      simp only [List.getElem?_toArray, List.getElem?_cons_succ, List.getElem?_cons_zero, Option.some.injEq] at ho
      subst ho
      have d13 : (a.eval (.tmp 31)) = .int .i64 n := hdep ⟨13, .data⟩ (by simp)
      exact flow_make rfl d13 mb ⟨_, rfl⟩
    | 15, _ =>
      simp only [List.getElem?_toArray, List.getElem?_cons_succ, List.getElem?_cons_zero, Option.some.injEq] at ho
      subst ho
      exact flow_move rfl s2' rfl
    | 16, _ =>
      simp only [List.getElem?_toArray, List.getElem?_cons_succ, List.getElem?_cons_zero, Option.some.injEq] at ho
      subst ho
      exact flow_move rfl s5 rfl
    | 17, _ =>
      simp only [List.getElem?_toArray, List.getElem?_cons_succ, List.getElem?_cons_zero, Option.some.injEq] at ho
      subst ho
      exact flow_move rfl s3 rfl
    | 18, _ =>
      simp only [List.getElem?_toArray, List.getElem?_cons_succ, List.getElem?_cons_zero, Option.some.injEq] at ho
      subst ho
      have d17 : (a.eval (.tmp 35)) = .slice ad n cap := hdep ⟨17, .data⟩ (by simp)
      exact flow_len rfl d17 rfl
    | 19, _ =>
      simp only [List.getElem?_toArray, List.getElem?_cons_succ, List.getElem?_cons_zero, Option.some.injEq] at ho
      subst ho
      exact flow_call (f := 21) (args := #[.int .i64 1]) (by generalize a.eval = ev at *; simp [execOp, evf, evc, go_sem]) ((inf_any w').mono (by rintro e w2 ⟨rfl, rfl⟩; exact ⟨_, rfl, rfl, Kept.refl _ _⟩))
    | 20, _ =>
      simp only [List.getElem?_toArray, List.getElem?_cons_succ, List.getElem?_cons_zero, Option.some.injEq] at ho
      subst ho
      have d15 : (a.eval (.tmp 33)) = .pointer pu := hdep ⟨15, .data⟩ (by simp)
      have d16 : (a.eval (.tmp 34)) = .int .i64 nc := hdep ⟨16, .data⟩ (by simp)
      have d18 : (a.eval (.tmp 36)) = .int .i64 n := hdep ⟨18, .data⟩ (by simp)
      have d19 : (a.eval (.tmp 37)) = .float .f64 9218868437227405312 := hdep ⟨19, .data⟩ (by simp)
      exact flow_call (f := 26) (args := #[.pointer pu, .int .i64 nc, .int .i64 n, .float .f64 9218868437227405312]) (by generalize a.eval = ev at *; simp [execOp, d15, d16, d18, d19, evf, go_sem]) ((bla_any pu nc n 9218868437227405312 w' (by omega) (by omega)).mono (by rintro e w2 ⟨a1, a2, a3, a4, a5, rfl, k2⟩; exact ⟨_, rfl, ⟨_, _, _, _, _, rfl⟩, k2⟩))
    | 21, _ =>
      simp only [List.getElem?_toArray, List.getElem?_cons_succ, List.getElem?_cons_zero, Option.some.injEq] at ho
      subst ho
      exact flow_move rfl s2' rfl
    | 22, _ =>
      simp only [List.getElem?_toArray, List.getElem?_cons_succ, List.getElem?_cons_zero, Option.some.injEq] at ho
      subst ho
      exact flow_move rfl s5 rfl
    | 23, _ =>
      simp only [List.getElem?_toArray, List.getElem?_cons_succ, List.getElem?_cons_zero, Option.some.injEq] at ho
      subst ho
      exact flow_move rfl s6 rfl
    | 24, _ =>
      simp only [List.getElem?_toArray, List.getElem?_cons_succ, List.getElem?_cons_zero, Option.some.injEq] at ho
      subst ho
      have d22 : (a.eval (.tmp 40)) = .int .i64 nc := hdep ⟨22, .data⟩ (by simp)
      have d23 : (a.eval (.tmp 41)) = .int .i64 nx := hdep ⟨23, .data⟩ (by simp)
      refine flow_value ?_ rfl (Kept.refl _ _)
      generalize a.eval = ev at *
      have hwr : IntKind.i64.wrap ((nc : Int) + (nx : Int)) = (nc : Int) + (nx : Int) := by rw [IntKind.wrap_i64]; omega
      simp [execOp, d22, d23, go_sem, hwr]
    | 25, _ =>
      simp only [List.getElem?_toArray, List.getElem?_cons_succ, List.getElem?_cons_zero, Option.some.injEq] at ho
      subst ho
      exact flow_move rfl s3 rfl
    | 26, _ =>
      simp only [List.getElem?_toArray, List.getElem?_cons_succ, List.getElem?_cons_zero, Option.some.injEq] at ho
      subst ho
      have d25 : (a.eval (.tmp 43)) = .slice ad n cap := hdep ⟨25, .data⟩ (by simp)
      exact flow_len rfl d25 rfl
    | 27, _ =>
      simp only [List.getElem?_toArray, List.getElem?_cons_succ, List.getElem?_cons_zero, Option.some.injEq] at ho
      subst ho
      refine flow_value ?_ rfl (Kept.refl _ _)
      generalize a.eval = ev at *
      simp [execOp, s8, go_sem]
    | 28, _ =>
      simp only [List.getElem?_toArray, List.getElem?_cons_succ, List.getElem?_cons_zero, Option.some.injEq] at ho
      subst ho
      have d27 : (a.eval (.tmp 45)) = .pointer (some ⟨(b - 2), 4, none⟩) := hdep ⟨27, .data⟩ (by simp)
      refine flow_value ?_ rfl (Kept.refl _ _)
      have c4 := hr8.cell 4 rfl
      generalize a.eval = ev at *
      simp [execOp, d27, c4, go_sem]
    | 29, _ =>
      simp only [List.getElem?_toArray, List.getElem?_cons_succ, List.getElem?_cons_zero, Option.some.injEq] at ho
      subst ho
      have d21 : (a.eval (.tmp 39)) = .pointer pu := hdep ⟨21, .data⟩ (by simp)
      have d24 : (a.eval (.tmp 42)) = .int .i64 ((nc + nx : Nat) : Int) := hdep ⟨24, .data⟩ (by simp)
      have d26 : (a.eval (.tmp 44)) = .int .i64 n := hdep ⟨26, .data⟩ (by simp)
      have d28 : (a.eval (.tmp 46)) = .float .f64 x4 := hdep ⟨28, .data⟩ (by simp)
      exact flow_call (f := 26) (args := #[.pointer pu, .int .i64 ((nc + nx : Nat) : Int), .int .i64 n, .float .f64 x4]) (by generalize a.eval = ev at *; simp [execOp, d21, d24, d26, d28, evf, go_sem]) ((bla_any pu (nc + nx) n x4 w' (by omega) (by omega)).mono (by rintro e w2 ⟨a1, a2, a3, a4, a5, rfl, k2⟩; exact ⟨_, rfl, ⟨_, _, _, _, _, rfl⟩, k2⟩))
    | 30, _ =>
      simp only [List.getElem?_toArray, List.getElem?_cons_succ, List.getElem?_cons_zero, Option.some.injEq] at ho
      subst ho
      exact flow_move rfl s3 rfl
    | 31, _ =>
      simp only [List.getElem?_toArray, List.getElem?_cons_succ, List.getElem?_cons_zero, Option.some.injEq] at ho
      subst ho
      have d30 : (a.eval (.tmp 48)) = .slice ad n cap := hdep ⟨30, .data⟩ (by simp)
      exact flow_len rfl d30 rfl
    | 32, _ =>
      simp only [List.getElem?_toArray, List.getElem?_cons_succ, List.getElem?_cons_zero, Option.some.injEq] at ho
      subst ho
      have d31 : (a.eval (.tmp 49)) = .int .i64 n := hdep ⟨31, .data⟩ (by simp)
      exact flow_make rfl d31 mf ⟨_, rfl⟩
    | 33, _ =>
      simp only [List.getElem?_toArray, List.getElem?_cons_succ, List.getElem?_cons_zero, Option.some.injEq] at ho
      subst ho
      have d0 : (a.eval (.tmp 18)) = .agg #[.string s0, .string s1, .string s2, .int .i64 i0, .int .i64 i1] := hdep ⟨0, .data⟩ (by simp)
      have d1 : (a.eval (.tmp 19)) = .agg #[.float .f64 x0, .float .f64 x1, .float .f64 x2, .float .f64 x3, .float .f64 x4] := hdep ⟨1, .data⟩ (by simp)
      have d2 : (a.eval (.tmp 20)) = .slice ad n cap := hdep ⟨2, .data⟩ (by simp)
      have d5 : ∃ m, (a.eval (.tmp 23)) = .map (some m) ∧ b ≤ m ∧ HasMap w' m [] := hdep ⟨5, .data⟩ (by simp)
      have d8 : Made 25 (.float .f64 0) n b (a.eval (.tmp 26)) w' := hdep ⟨8, .data⟩ (by simp)
      have d11 : IsSl n (a.eval (.tmp 29)) := hdep ⟨11, .data⟩ (by simp)
      have d14 : IsSl n (a.eval (.tmp 32)) := hdep ⟨14, .data⟩ (by simp)
      have d20 : ∃ a1 a2 a3 a4 a5 : Option Addr, (a.eval (.tmp 38)) = .agg #[.pointer pu, .slice a1 nc nc, .slice a2 nc nc, .float .f64 9218868437227405312, .slice a3 n n, .slice a4 n n, .slice a5 n n] := hdep ⟨20, .data⟩ (by simp)
      have d29 : ∃ a1 a2 a3 a4 a5 : Option Addr, (a.eval (.tmp 47)) = .agg #[.pointer pu, .slice a1 (nc + nx) (nc + nx), .slice a2 (nc + nx) (nc + nx), .float .f64 x4, .slice a3 n n, .slice a4 n n, .slice a5 n n] := hdep ⟨29, .data⟩ (by simp)
      have d32 : IsSl n (a.eval (.tmp 50)) := hdep ⟨32, .data⟩ (by simp)
      obtain ⟨m, d5, hb5, hm5⟩ := d5
      obtain ⟨gz, d8, hb8, hm8⟩ := d8
      obtain ⟨q5, d11⟩ := d11
      obtain ⟨q6, d14⟩ := d14
      obtain ⟨a1, a2, a3, a4, a5, d20⟩ := d20
      obtain ⟨c1, c2, c3, c4, c5, d29⟩ := d29
      obtain ⟨q9, d32⟩ := d32
      refine flow_build (vals := [(0, .agg #[.string s0, .string s1, .string s2, .int .i64 i0, .int .i64 i1]), (1, .agg #[.float .f64 x0, .float .f64 x1, .float .f64 x2, .float .f64 x3, .float .f64 x4]), (2, .slice ad n cap), (3, .map (some m)), (4, .slice (some ⟨gz, 0, none⟩) n n), (5, .slice q5 n n), (6, .slice q6 n n), (7, .agg #[.pointer pu, .slice a1 nc nc, .slice a2 nc nc, .float .f64 9218868437227405312, .slice a3 n n, .slice a4 n n, .slice a5 n n]), (8, .agg #[.pointer pu, .slice c1 (nc + nx) (nc + nx), .slice c2 (nc + nx) (nc + nx), .float .f64 x4, .slice c3 n n, .slice c4 n n, .slice c5 n n]), (9, .slice q9 n n)]) rfl ?_ (by kernel_rfl) ⟨m, gz, q5, q6, q9, a1, a2, a3, a4, a5, c1, c2, c3, c4, c5, rfl, hb5, hm5, hb8, hm8⟩
      show [(0, a.eval (.tmp 18)), (1, a.eval (.tmp 19)), (2, a.eval (.tmp 20)), (3, a.eval (.tmp 23)), (4, a.eval (.tmp 26)), (5, a.eval (.tmp 29)), (6, a.eval (.tmp 32)), (7, a.eval (.tmp 38)), (8, a.eval (.tmp 47)), (9, a.eval (.tmp 50))] = _
      rw [d0, d1, d2, d5, d8, d11, d14, d20, d29, d32]
    | 34, _ =>
      simp only [List.getElem?_toArray, List.getElem?_cons_succ, List.getElem?_cons_zero, Option.some.injEq] at ho
      subst ho
      refine flow_value (v := .pointer (some ⟨w'.heap.size, 0, none⟩)) (w' := w'.alloc (.cells #[.string ⟨#[]⟩, .string ⟨#[]⟩, .string ⟨#[]⟩, .int .i64 0, .int .i64 0, .float .f64 0, .float .f64 0, .float .f64 0, .float .f64 0, .float .f64 0, .slice none 0 0, .map none, .slice none 0 0, .slice none 0 0, .slice none 0 0, .pointer none, .slice none 0 0, .slice none 0 0, .float .f64 0, .slice none 0 0, .slice none 0 0, .slice none 0 0, .pointer none, .slice none 0 0, .slice none 0 0, .float .f64 0, .slice none 0 0, .slice none 0 0, .slice none 0 0, .slice none 0 0] 53)) ?_ ⟨_, rfl, hsz, Row.made _ _ _⟩ (Kept.alloc _ _)
      simp [execOp, go_sem]
    | _ + 35, h => exact absurd h (by omega)
  · intro vs W hR hk
    obtain ⟨m, gz, q5, q6, q9, a1, a2, a3, a4, a5, c1, c2, c3, c4, c5, e33, hbm, hm0, hbz, hz0⟩ := (show ∃ (m gz : Nat) (q5 q6 q9 a1 a2 a3 a4 a5 c1 c2 c3 c4 c5 : Option Addr), vs 33 = .agg #[.string s0, .string s1, .string s2, .int .i64 i0, .int .i64 i1, .float .f64 x0, .float .f64 x1, .float .f64 x2, .float .f64 x3, .float .f64 x4, .slice ad n cap, .map (some m), .slice (some ⟨gz, 0, none⟩) n n, .slice q5 n n, .slice q6 n n, .pointer pu, .slice a1 nc nc, .slice a2 nc nc, .float .f64 9218868437227405312, .slice a3 n n, .slice a4 n n, .slice a5 n n, .pointer pu, .slice c1 (nc + nx) (nc + nx), .slice c2 (nc + nx) (nc + nx), .float .f64 x4, .slice c3 n n, .slice c4 n n, .slice c5 n n, .slice q9 n n] ∧ w.heap.size + 3 ≤ m ∧ HasMap W m [] ∧ w.heap.size + 3 ≤ gz ∧ Row W gz (List.replicate n (.float .f64 0)) 25 from hR 33 (by omega))
    obtain ⟨g, e34, hbg, hrow⟩ := (show ∃ g, vs 34 = .pointer (some ⟨g, 0, none⟩) ∧ w.heap.size + 3 ≤ g ∧ Row W g [.string ⟨#[]⟩, .string ⟨#[]⟩, .string ⟨#[]⟩, .int .i64 0, .int .i64 0, .float .f64 0, .float .f64 0, .float .f64 0, .float .f64 0, .float .f64 0, .slice none 0 0, .map none, .slice none 0 0, .slice none 0 0, .slice none 0 0, .pointer none, .slice none 0 0, .slice none 0 0, .float .f64 0, .slice none 0 0, .slice none 0 0, .slice none 0 0, .pointer none, .slice none 0 0, .slice none 0 0, .float .f64 0, .slice none 0 0, .slice none 0 0, .slice none 0 0, .slice none 0 0] 53 from hR 34 (by omega))
    clear hR
    have ka := (((Kept.alloc w (.cells #[.string s0, .string s1, .string s2, .int .i64 i0, .int .i64 i1] 44)).trans (Kept.alloc _ (.cells #[.float .f64 x0, .float .f64 x1, .float .f64 x2, .float .f64 x3, .float .f64 x4] 46)) (by simp)).trans (Kept.alloc _ (.cells #[.string ⟨#[]⟩, .string ⟨#[]⟩, .string ⟨#[]⟩, .int .i64 0, .int .i64 0, .float .f64 0, .float .f64 0, .float .f64 0, .float .f64 0, .float .f64 0, .slice none 0 0, .map none, .slice none 0 0, .slice none 0 0, .slice none 0 0, .pointer none, .slice none 0 0, .slice none 0 0, .float .f64 0, .slice none 0 0, .slice none 0 0, .slice none 0 0, .pointer none, .slice none 0 0, .slice none 0 0, .float .f64 0, .slice none 0 0, .slice none 0 0, .slice none 0 0, .slice none 0 0] 53)) (by simp)).trans hk (by simp)
    have hzr := (Row.made ((w.alloc (.cells #[.string s0, .string s1, .string s2, .int .i64 i0, .int .i64 i1] 44)).alloc (.cells #[.float .f64 x0, .float .f64 x1, .float .f64 x2, .float .f64 x3, .float .f64 x4] 46)) [.string ⟨#[]⟩, .string ⟨#[]⟩, .string ⟨#[]⟩, .int .i64 0, .int .i64 0, .float .f64 0, .float .f64 0, .float .f64 0, .float .f64 0, .float .f64 0, .slice none 0 0, .map none, .slice none 0 0, .slice none 0 0, .slice none 0 0, .pointer none, .slice none 0 0, .slice none 0 0, .float .f64 0, .slice none 0 0, .slice none 0 0, .slice none 0 0, .pointer none, .slice none 0 0, .slice none 0 0, .float .f64 0, .slice none 0 0, .slice none 0 0, .slice none 0 0, .slice none 0 0] 53).keep hk (by simp)
    rw [show ((w.alloc (.cells #[.string s0, .string s1, .string s2, .int .i64 i0, .int .i64 i1] 44)).alloc (.cells #[.float .f64 x0, .float .f64 x1, .float .f64 x2, .float .f64 x3, .float .f64 x4] 46)).heap.size = w.heap.size + 2 from by simp] at hzr
    refine ⟨g, 0, [.string s0, .string s1, .string s2, .int .i64 i0, .int .i64 i1, .float .f64 x0, .float .f64 x1, .float .f64 x2, .float .f64 x3, .float .f64 x4, .slice ad n cap, .map (some m), .slice (some ⟨gz, 0, none⟩) n n, .slice q5 n n, .slice q6 n n, .pointer pu, .slice a1 nc nc, .slice a2 nc nc, .float .f64 9218868437227405312, .slice a3 n n, .slice a4 n n, .slice a5 n n, .pointer pu, .slice c1 (nc + nx) (nc + nx), .slice c2 (nc + nx) (nc + nx), .float .f64 x4, .slice c3 n n, .slice c4 n n, .slice c5 n n, .slice q9 n n], _, 53, e34, e33, hrow, by kernel_rfl, by simp, rfl, fun w1 hw1 hk1 hs1 => ?_⟩
    rename_i Q' K hK
    refine hK _ _ ?_
    rw [e34]
    have hw1' : Row w1 g [.string s0, .string s1, .string s2, .int .i64 i0, .int .i64 i1, .float .f64 x0, .float .f64 x1, .float .f64 x2, .float .f64 x3, .float .f64 x4, .slice ad n cap, .map (some m), .slice (some ⟨gz, 0, none⟩) n n, .slice q5 n n, .slice q6 n n, .pointer pu, .slice a1 nc nc, .slice a2 nc nc, .float .f64 9218868437227405312, .slice a3 n n, .slice a4 n n, .slice a5 n n, .pointer pu, .slice c1 (nc + nx) (nc + nx), .slice c2 (nc + nx) (nc + nx), .float .f64 x4, .slice c3 n n, .slice c4 n n, .slice c5 n n, .slice q9 n n] 53 := hw1
    have n1 : g ≠ gz := hrow.ne hz0 (by decide)
    have n2 : g ≠ m := by
      intro e; subst e
      obtain ⟨es, c, h, _⟩ := hm0
      unfold Row at hrow; rw [h] at hrow; simp at hrow
    have n3 : gz ≠ m := by
      intro e; subst e
      obtain ⟨es, c, h, _⟩ := hm0
      unfold Row at hz0; rw [h] at hz0; simp at hz0
    have HM0 : Hid (HasMap w1 m []) := hm0.keep hk1 (by simpa using n2.symm)
    have HZ0 : Hid (Row w1 gz (mags (fun j => absBits (fl (ix j))) n 0) 25) := by rw [mags_zero]; exact hz0.keep hk1 (by simpa using n1.symm)
    have HZR : Hid (Row w1 (w.heap.size + 2) [.string ⟨#[]⟩, .string ⟨#[]⟩, .string ⟨#[]⟩, .int .i64 0, .int .i64 0, .float .f64 0, .float .f64 0, .float .f64 0, .float .f64 0, .float .f64 0, .slice none 0 0, .map none, .slice none 0 0, .slice none 0 0, .slice none 0 0, .pointer none, .slice none 0 0, .slice none 0 0, .float .f64 0, .slice none 0 0, .slice none 0 0, .slice none 0 0, .pointer none, .slice none 0 0, .slice none 0 0, .float .f64 0, .slice none 0 0, .slice none 0 0, .slice none 0 0, .slice none 0 0] 53) := hzr.keep hk1 (by simp; omega)
    have HK1 : Hid (Kept [] w w1) := ka.trans hk1 (by simp; omega)
    have HR1 : Hid (Row w1 g [.string s0, .string s1, .string s2, .int .i64 i0, .int .i64 i1, .float .f64 x0, .float .f64 x1, .float .f64 x2, .float .f64 x3, .float .f64 x4, .slice ad n cap, .map (some m), .slice (some ⟨gz, 0, none⟩) n n, .slice q5 n n, .slice q6 n n, .pointer pu, .slice a1 nc nc, .slice a2 nc nc, .float .f64 9218868437227405312, .slice a3 n n, .slice a4 n n, .slice a5 n n, .pointer pu, .slice c1 (nc + nx) (nc + nx), .slice c2 (nc + nx) (nc + nx), .float .f64 x4, .slice c3 n n, .slice c4 n n, .slice c5 n n, .slice q9 n n] 53) := hw1'
    have HMU : Hid (HasMap w1 mu (usl fl N)) := hm.keep (ka.trans hk1 (by simp; omega)) (by simp)
    have HSL : Hid (Sl w1 b3 9 ad n cap ((List.range n).map fun j => Value.string (nm 117 (ix j)))) := hs.keep (ka.trans hk1 (by simp; omega)) (by simp)
    have HMUL : Hid (mu < w.heap.size) := hm.lt
    have hSLL : ∀ g0, ad = some ⟨g0, 0, none⟩ → g0 < w.heap.size := fun g0 h => (hs.lt' g0 h).2
    have HSLL : Hid (∀ g0, ad = some ⟨g0, 0, none⟩ → g0 < w.heap.size) := hSLL
    have HBB : Hid (w.heap.size + 3 ≤ m ∧ w.heap.size + 3 ≤ gz ∧ w.heap.size + 3 ≤ g) := ⟨hbm, hbz, hbg⟩
    obtain ⟨B, hB⟩ : ∃ B, B = w.heap.size := ⟨_, rfl⟩
    rw [← hB] at HZR HMUL HSLL HBB ⊢
    have HB : Hid (B = w.heap.size) := hB
    clear hB hw1 hw1' hrow hk1 hs1 e33 e34 hbm hm0 hbz hz0 hbg ka hzr hk hs hm hSLL
    go_wp2_with fail
    go_loopw [54] (fun i wr => ∃ k : Nat, k ≤ n ∧ i = .int .i64 k ∧ HasMap wr m (kvs (fun j => nm 117 (ix j)) 0 k) ∧ Row wr gz (mags (fun j => absBits (fl (ix j))) n k) 25 ∧ Kept [m, gz] w1 wr) (fun i _ => n - (intOf i).toNat)
    case atStart => exact ⟨0, Nat.zero_le _, rfl, by simpa [kvs] using HM0.out, HZ0.out, Kept.refl _ _⟩
    case round =>
      obtain ⟨k, hk, rfl, hmk, hzk, hkk⟩ := hrel
      have hbb := HBB.out
      have hmul := HMUL.out
      have hr := HR1.out.keep hkk (by simp [n1, n2])
      by_cases hlt : k < n
      · have hsl := HSL.out.keep2 hkk (fun g0 h => by have := HSLL.out g0 h; simp; omega)
        rcases hsl.cases with ⟨_, h0, _⟩ | ⟨gb, hga, _, _, hgc, _⟩
        · omega
        · have qs : wr.cell? ⟨gb, k, none⟩ = some (.string (nm 117 (ix k))) := by rw [hgc k hlt]; simp [hlt]
          have HR2 : Hid (Row wr g [.string s0, .string s1, .string s2, .int .i64 i0, .int .i64 i1, .float .f64 x0, .float .f64 x1, .float .f64 x2, .float .f64 x3, .float .f64 x4, .slice ad n cap, .map (some m), .slice (some ⟨gz, 0, none⟩) n n, .slice q5 n n, .slice q6 n n, .pointer pu, .slice a1 nc nc, .slice a2 nc nc, .float .f64 9218868437227405312, .slice a3 n n, .slice a4 n n, .slice a5 n n, .pointer pu, .slice c1 (nc + nx) (nc + nx), .slice c2 (nc + nx) (nc + nx), .float .f64 x4, .slice c3 n n, .slice c4 n n, .slice c5 n n, .slice q9 n n] 53) := hr
          have hgbl := HSLL.out gb hga
          subst hga
          have q3 := hr.cell 11 rfl
          have hfr : look (nm 117 (ix k)) (kvs (fun j => nm 117 (ix j)) 0 k) = none := kvs_fresh _ _ _ _ (fun i hi e => by have := hinj i k (by omega) hlt (nm_inj e).2; omega)
          have HM2 : Hid (HasMap wr mu (usl fl N)) := HMU.out.keep hkk (by simp; omega)
          have HZ2 : Hid (Row wr gz (mags (fun j => absBits (fl (ix j))) n k) 25) := hzk
          have HKK : Hid (Kept [m, gz] w1 wr) := hkk
          have hkI : (k : Int) < (n : Int) := by omega
          have hkixN := hix k hlt
          clear hgc hsl hr hzk hkk
          go_wp2_with (at_mapUpdate; refine wpList_put _ rfl _ _ _ 28 9 3 rfl Ybad.underlying28 Ybad.underlying9 m _ rfl hmk (nm 117 (ix k)) (.int .i64 (k : Int)) rfl rfl hfr ?_; intro w4 hm4 k4 hs4)
          have z4 := HZ2.out.keep k4 (by simpa using n3)
          have r4 := HR2.out.keep k4 (by simpa using n2)
          have p4 := r4.cell 12 rfl
          have lk := (HM2.out.keep k4 (by simp; omega)).look_some (P := Ybad.prog) Ybad.underlying26 Ybad.underlying9 (nm 117 (ix k)) (.float .f64 (fl (ix k))) (usl_look fl N (ix k) hkixN) false
          have lk' := ((HM2.out.keep k4 (by simp; omega)).keep (Kept.drew _) (by simp)).look_some (P := Ybad.prog) Ybad.underlying26 Ybad.underlying9 (nm 117 (ix k)) (.float .f64 (fl (ix k))) (usl_look fl N (ix k) hkixN) false
          simp only [Bool.false_eq_true, if_false] at lk lk'
          have c4 := z4.cell k (mags_at _ n k k hlt)
          have f4 := z4.free k
          have HZ4 : Hid (Row w4 gz (mags (fun j => absBits (fl (ix j))) n k) 25) := z4
          have HM4 : Hid (HasMap w4 m (kvs (fun j => nm 117 (ix j)) 0 k ++ [(nm 117 (ix k), .int .i64 (k : Int))])) := hm4
          have HK4 : Hid (Kept [m, gz] w1 w4) := HKK.out.trans k4 (by simp)
          clear z4 r4 hm4 k4 HM2 HZ2 HR2 HKK hmk hfr hbb hmul
          go_region_with (go_at_call 19; refine (abs_any _ _).mono ?_; rintro e w' ⟨rfl, rfl⟩)
          all_goals
            have r5 : Row (w4.setCell ⟨gz, k, none⟩ (.float .f64 (absBits (fl (ix k))))).drew gz (mags (fun j => absBits (fl (ix j))) n (k + 1)) 25 := by
              rw [← mags_succ _ n k hlt]
              exact (HZ4.out.set k _).keep (Kept.drew _) (by simp)
            have m5 : HasMap (w4.setCell ⟨gz, k, none⟩ (.float .f64 (absBits (fl (ix k))))).drew m (kvs (fun j => nm 117 (ix j)) 0 (k + 1)) := by
              rw [kvs_succ, show ((0 : Nat) : Int) + (k : Int) = (k : Int) from by omega]
              exact (HM4.out.setCell gz k _ n3).keep (Kept.drew _) (by simp)
            have k5 : Kept [m, gz] w1 (w4.setCell ⟨gz, k, none⟩ (.float .f64 (absBits (fl (ix k))))).drew := (HK4.out.trans (Kept.setCell w4 gz k _) (by simp)).trans (Kept.drew _) (by simp)
            generalize (w4.setCell ⟨gz, k, none⟩ (.float .f64 (absBits (fl (ix k))))).drew = W5 at *
            have G5 : Hid (Row W5 gz (mags (fun j => absBits (fl (ix j))) n (k + 1)) 25 ∧ HasMap W5 m (kvs (fun j => nm 117 (ix j)) 0 (k + 1)) ∧ Kept [m, gz] w1 W5) := ⟨r5, m5, k5⟩
            clear r5 m5 k5 lk lk' c4 f4 p4 HZ4 HM4 HK4
            go_wp2_with fail
            go_roundw
            case rel => exact ⟨k + 1, by omega, by go_num, G5.out.2.1, G5.out.1, G5.out.2.2⟩
            case measure => simp [intOf]; omega
      · obtain rfl : k = n := by omega
        have hz9 := HZR.out.keep hkk (by simp; omega)
        have HZK : Hid (Row wr gz (mags (fun j => absBits (fl (ix j))) k k) 25) := hzk
        clear HZR HR1 HMU HSL HM0 HZ0 hzk hmk
        go_wp2_with (first | (refine wpList_loads rfl 53 _ rfl g 0 [.string s0, .string s1, .string s2, .int .i64 i0, .int .i64 i1, .float .f64 x0, .float .f64 x1, .float .f64 x2, .float .f64 x3, .float .f64 x4, .slice ad k cap, .map (some m), .slice (some ⟨gz, 0, none⟩) k k, .slice q5 k k, .slice q6 k k, .pointer pu, .slice a1 nc nc, .slice a2 nc nc, .float .f64 9218868437227405312, .slice a3 k k, .slice a4 k k, .slice a5 k k, .pointer pu, .slice c1 (nc + nx) (nc + nx), .slice c2 (nc + nx) (nc + nx), .float .f64 x4, .slice c3 k k, .slice c4 k k, .slice c5 k k, .slice q9 k k] _ rfl hr Ybad.underlying53 rfl (by kernel_rfl) rfl ?_) | (refine wpList_stores rfl 53 _ _ rfl (B + 1 + 1) 0 [.string s0, .string s1, .string s2, .int .i64 i0, .int .i64 i1, .float .f64 x0, .float .f64 x1, .float .f64 x2, .float .f64 x3, .float .f64 x4, .slice ad k cap, .map (some m), .slice (some ⟨gz, 0, none⟩) k k, .slice q5 k k, .slice q6 k k, .pointer pu, .slice a1 nc nc, .slice a2 nc nc, .float .f64 9218868437227405312, .slice a3 k k, .slice a4 k k, .slice a5 k k, .pointer pu, .slice c1 (nc + nx) (nc + nx), .slice c2 (nc + nx) (nc + nx), .float .f64 x4, .slice c3 k k, .slice c4 k k, .slice c5 k k, .slice q9 k k] rfl rfl hz9 (by kernel_rfl) (by simp) rfl ?_; intro w9 h9 k9 s9))
        have hB := HB.out
        have hk9 := HK1.out.trans hkk (by simp; omega)
        refine bodyPost_cell 14 53 (B + 1 + 1) [.string s0, .string s1, .string s2, .int .i64 i0, .int .i64 i1, .float .f64 x0, .float .f64 x1, .float .f64 x2, .float .f64 x3, .float .f64 x4, .slice ad k cap, .map (some m), .slice (some ⟨gz, 0, none⟩) k k, .slice q5 k k, .slice q6 k k, .pointer pu, .slice a1 nc nc, .slice a2 nc nc, .float .f64 9218868437227405312, .slice a3 k k, .slice a4 k k, .slice a5 k k, .pointer pu, .slice c1 (nc + nx) (nc + nx), .slice c2 (nc + nx) (nc + nx), .float .f64 x4, .slice c3 k k, .slice c4 k k, .slice c5 k k, .slice q9 k k] _ rfl rfl h9 Ybad.underlying53 rfl (by kernel_rfl) rfl rfl ⟨m, gz, q5, q6, q9, a1, a2, a3, a4, a5, c1, c2, c3, c4, c5, rfl, by omega, HZK.out.keep k9 (by simp; omega), hk9.trans k9 (by simp; omega)⟩
end Go.Proofs.YbulkjbuDoor
