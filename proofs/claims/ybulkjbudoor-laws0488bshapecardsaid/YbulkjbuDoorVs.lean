/-
  Seat b0488aD: newVSPatch.
-/
import Derived.Test.YbulkjbuDoorVal
import Derived.Test.YbulkjbuDoorGoal2
namespace Go.Proofs.YbulkjbuDoor
open Go.RowKit

/-- The cells of the patch, of which the arrays' four are whatever they are. -/
structure VsCells (pre : List Value) (oc : Value) (cs : List Value) : Prop where
  len : cs.length = 11
  one : cs.all (·.oneCell') = true
  pre : cs.take 6 = pre
  last : cs[10]? = some oc
theorem VsCells.set {pre cs : List Value} {oc : Value} (h : VsCells pre oc cs) (i : Nat) (hi : 6 ≤ i) (hi' : i < 10) (v : Value) (hv : v.oneCell' = true) : VsCells pre oc (cs.set i v) :=
  ⟨by simpa using h.len, all_set h.one hv, by rw [List.take_set_of_le hi]; exact h.pre, by rw [List.getElem?_set_ne (by omega)]; exact h.last⟩
/-- A slice whose U cells all hold x. -/
def Full (w : World) (U x : Nat) (v : Value) : Prop := ∃ g, v = .slice (some ⟨g, 0, none⟩) U U ∧ Row w g (mags (fun _ => x) U U) 25
theorem Full.keep {w w' : World} {U x : Nat} {v : Value} {ws : List Nat} (h : Full w U x v) (k : Kept ws w w') (hne : ∀ s ∈ ws, ∀ l, ¬ Row w s l 25) : Full w' U x v := by
  obtain ⟨g, h1, h2⟩ := h
  exact ⟨g, h1, h2.keep k (fun hm => hne g hm _ h2)⟩
/-- A row of n slices, of which the first p are full. -/
def RowsTo (w : World) (gr n U x p : Nat) : Prop := ∃ l, Row w gr l 39 ∧ l.length = n ∧ ∀ j, j < p → ∃ v, l[j]? = some v ∧ Full w U x v
theorem RowsTo.keep {w w' : World} {gr n U x p : Nat} {ws : List Nat} (h : RowsTo w gr n U x p) (k : Kept ws w w') (hne : ∀ s ∈ ws, ∀ l, ¬ Row w s l 25) (hne' : ∀ s ∈ ws, ∀ l, ¬ Row w s l 39) : RowsTo w' gr n U x p := by
  obtain ⟨l, h1, h2, h3⟩ := h
  refine ⟨l, h1.keep k (fun hm => hne' gr hm _ h1), h2, fun j hj => ?_⟩
  obtain ⟨v, h4, h5⟩ := h3 j hj
  exact ⟨v, h4, h5.keep k hne⟩
theorem Row.not {w : World} {b : Nat} {l : List Value} {t : TypeId} (h : Row w b l t) (t' : TypeId) (ht : t ≠ t') : ∀ l', ¬ Row w b l' t' := fun _ h' => (h.ne h' ht) rfl
theorem RowsTo.next {w w' : World} {gr n U x p gp : Nat} (h : RowsTo w gr n U x p) (hp : p < n) (k : Kept [gr] w w') (hr : ∀ l, Row w gr l 39 → Row w' gr (l.set p (.slice (some ⟨gp, 0, none⟩) U U)) 39) (hg : Row w' gp (mags (fun _ => x) U U) 25) : RowsTo w' gr n U x (p + 1) := by
  obtain ⟨l, h1, h2, h3⟩ := h
  refine ⟨_, hr l h1, by simpa using h2, fun j hj => ?_⟩
  by_cases e : j = p
  · subst e
    exact ⟨_, by rw [List.getElem?_set_self (by omega)], gp, rfl, hg⟩
  · obtain ⟨v, h4, h5⟩ := h3 j (by omega)
    exact ⟨v, by rw [List.getElem?_set_ne (fun e' => e e'.symm)]; exact h4, h5.keep k (by simpa using h1.not 25 (by decide))⟩
theorem RowsTo.row {w : World} {gr n U x p : Nat} (h : RowsTo w gr n U x p) : HasLen w gr n 39 := by
  obtain ⟨l, h1, h2, _⟩ := h; exact ⟨l, h1, h2⟩

/-- The arrays' first k rows are laid. -/
def VsTo (w : World) (cs : List Value) (n U x k : Nat) : Prop := ∀ j, j < k → ∃ gr, cs[6 + j]? = some (.slice (some ⟨gr, 0, none⟩) n n) ∧ RowsTo w gr n U x n
def vsR (x0 x1 x2 : Nat) (ad za : Option Addr) (n cap zn zc steps b : Nat) : Nat → Value → World → Prop
  | 0, v, _ => v = .agg #[.float .f64 x0, .float .f64 x1, .float .f64 x2]
  | 1, v, _ => v = .slice ad n cap
  | 2, v, _ => v = .slice za zn zc
  | 3, v, _ => v = .int .i64 steps
  | 4, v, _ => v = .slice ad n cap
  | 5, v, _ => v = .int .i64 n
  | 6, v, _ => IsSl n v
  | 7, v, _ => ∃ oc : Option Addr, v = .agg #[.float .f64 x0, .float .f64 x1, .float .f64 x2, .slice ad n cap, .slice za zn zc, .int .i64 steps, .slice none 0 0, .slice none 0 0, .slice none 0 0, .slice none 0 0, .slice oc n n]
  | 8, v, w => ∃ g, v = .pointer (some ⟨g, 0, none⟩) ∧ b ≤ g ∧ Row w g [.float .f64 0, .float .f64 0, .float .f64 0, .slice none 0 0, .slice none 0 0, .int .i64 0, .slice none 0 0, .slice none 0 0, .slice none 0 0, .slice none 0 0, .slice none 0 0] 69
  | _, _, _ => True
theorem vsR_keep (x0 x1 x2 : Nat) (ad za : Option Addr) (n cap zn zc steps b : Nat) (i : Nat) (v : Value) (w w' : World) (k : Kept [] w w') (h : vsR x0 x1 x2 ad za n cap zn zc steps b i v w) : vsR x0 x1 x2 ad za n cap zn zc steps b i v w' := by
  match i, h with
  | 0, h => exact h
  | 1, h => exact h
  | 2, h => exact h
  | 3, h => exact h
  | 4, h => exact h
  | 5, h => exact h
  | 6, h => exact h
  | 7, h => exact h
  | 8, h => exact by obtain ⟨g, h1, h2, h3⟩ := h; exact ⟨g, h1, h2, h3.keep k (by simp)⟩
  | _ + 9, _ => exact trivial

set_option maxRecDepth 100000 in
set_option maxHeartbeats 4000000 in
theorem vs_any (x0 x1 x2 : Nat) (ad za : Option Addr) (n cap zn zc steps : Nat) (w : World) (hn : n ≤ 300) (hst : steps ≤ 30) :
    Calls Ybad.prog 17 #[.agg #[.float .f64 x0, .float .f64 x1, .float .f64 x2], .slice ad n cap, .slice za zn zc, .int .i64 steps] w fun e w' =>
      ∃ cs oc, e = .returned (.agg (List.toArray cs)) ∧ VsCells [.float .f64 x0, .float .f64 x1, .float .f64 x2, .slice ad n cap, .slice za zn zc, .int .i64 steps] oc cs ∧ VsTo w' cs n (n * steps) x0 2 ∧ Kept [] w w' := by
  have hnI : (n : Int) ≤ 300 := by omega
  have hstI : (steps : Int) ≤ 30 := by omega
  go_enter Ybad.func17, Ybad.ntmps17
  go_wp2_with fail
  refine region_store 9 (vsR x0 x1 x2 ad za n cap zn zc steps (w.heap.size + 2)) (fun vs => ⟨List.toArray (Value.agg #[.float .f64 x0, .float .f64 x1, .float .f64 x2] :: .slice ad n cap :: .slice za zn zc :: .int .i64 steps :: .pointer (some ⟨w.heap.size, 0, none⟩) :: undef :: undef :: undef :: .pointer (some ⟨w.heap.size + 1, 0, none⟩) :: vs 8 :: undef :: undef :: undef :: undef :: vs 0 :: vs 1 :: vs 2 :: vs 3 :: vs 4 :: vs 5 :: vs 6 :: vs 7 :: undef :: undef :: undef :: undef :: undef :: undef :: undef :: undef :: undef :: undef :: undef :: undef :: undef :: undef :: undef :: undef :: undef :: undef :: undef :: undef :: undef :: undef :: undef :: undef :: undef :: undef :: undef :: undef :: undef :: undef :: undef :: undef :: undef :: undef :: undef :: undef :: undef :: undef :: undef :: undef :: undef :: undef :: undef :: undef :: undef :: undef :: undef :: undef :: undef :: undef :: undef :: undef :: undef :: undef :: []), []⟩) 69 (.tmp 9) (.tmp 21) (by kernel_rfl) (by kernel_rfl) (by kernel_rfl) (by kernel_rfl) (fun vs => by kernel_rfl) (vsR_keep x0 x1 x2 ad za n cap zn zc steps (w.heap.size + 2)) ?_ ?_
  · intro i hi o ho a w' hoth hdep hk
    have s1 : a.eval (.tmp 1) = .slice ad n cap := hoth 1 (by kernel_rfl)
    have s2 : a.eval (.tmp 2) = .slice za zn zc := hoth 2 (by kernel_rfl)
    have s3 : a.eval (.tmp 3) = .int .i64 steps := hoth 3 (by kernel_rfl)
    have s4 : a.eval (.tmp 4) = .pointer (some ⟨w.heap.size, 0, none⟩) := hoth 4 (by kernel_rfl)
    have hr4 := (Row.made w [.float .f64 x0, .float .f64 x1, .float .f64 x2] 65).keep ((Kept.alloc _ _).trans hk (by simp)) (by simp)
    have hsz : w.heap.size + 2 ≤ w'.heap.size := by have := hk.size; simpa using this
    have mf := mk_floats n (by omega)
    generalize w.heap.size + 2 = b at *
    match i, hi with
    | 0, _ =>
      simp only [List.getElem?_toArray, List.getElem?_cons_zero, Option.some.injEq] at ho
      subst ho
      exact flow_loads (cs := [.float .f64 x0, .float .f64 x1, .float .f64 x2]) rfl s4 hr4 Ybad.underlying65 rfl (by kernel_rfl) rfl rfl
    | 1, _ =>
      simp only [List.getElem?_toArray, List.getElem?_cons_succ, List.getElem?_cons_zero, Option.some.injEq] at ho
      subst ho
      exact flow_move rfl s1 rfl
    | 2, _ =>
      simp only [List.getElem?_toArray, List.getElem?_cons_succ, List.getElem?_cons_zero, Option.some.injEq] at ho
      subst ho
      exact flow_move rfl s2 rfl
    | 3, _ =>
      simp only [List.getElem?_toArray, List.getElem?_cons_succ, List.getElem?_cons_zero, Option.some.injEq] at ho
      subst ho
      exact flow_move rfl s3 rfl
    | 4, _ =>
      simp only [List.getElem?_toArray, List.getElem?_cons_succ, List.getElem?_cons_zero, Option.some.injEq] at ho
      subst ho
      exact flow_move rfl s1 rfl
    | 5, _ =>
      simp only [List.getElem?_toArray, List.getElem?_cons_succ, List.getElem?_cons_zero, Option.some.injEq] at ho
      subst ho
      have d4 : (a.eval (.tmp 18)) = .slice ad n cap := hdep ⟨4, .data⟩ (by simp)
      exact flow_len rfl d4 rfl
    | 6, _ =>
      simp only [List.getElem?_toArray, List.getElem?_cons_succ, List.getElem?_cons_zero, Option.some.injEq] at ho
      subst ho
      have d5 : (a.eval (.tmp 19)) = .int .i64 n := hdep ⟨5, .data⟩ (by simp)
      exact flow_make rfl d5 mf ⟨_, rfl⟩
    | 7, _ =>
      simp only [List.getElem?_toArray, List.getElem?_cons_succ, List.getElem?_cons_zero, Option.some.injEq] at ho
      subst ho
      have d0 : (a.eval (.tmp 14)) = .agg #[.float .f64 x0, .float .f64 x1, .float .f64 x2] := hdep ⟨0, .data⟩ (by simp)
      have d1 : (a.eval (.tmp 15)) = .slice ad n cap := hdep ⟨1, .data⟩ (by simp)
      have d2 : (a.eval (.tmp 16)) = .slice za zn zc := hdep ⟨2, .data⟩ (by simp)
      have d3 : (a.eval (.tmp 17)) = .int .i64 steps := hdep ⟨3, .data⟩ (by simp)
      have d6 : IsSl n (a.eval (.tmp 20)) := hdep ⟨6, .data⟩ (by simp)
      obtain ⟨oc, d6⟩ := d6
      refine flow_build (vals := [(0, .agg #[.float .f64 x0, .float .f64 x1, .float .f64 x2]), (1, .slice ad n cap), (2, .slice za zn zc), (3, .int .i64 steps), (6, .slice oc n n)]) rfl ?_ (by kernel_rfl) ⟨oc, rfl⟩
      show [(0, a.eval (.tmp 14)), (1, a.eval (.tmp 15)), (2, a.eval (.tmp 16)), (3, a.eval (.tmp 17)), (6, a.eval (.tmp 20))] = _
      rw [d0, d1, d2, d3, d6]
    | 8, _ =>
      simp only [List.getElem?_toArray, List.getElem?_cons_succ, List.getElem?_cons_zero, Option.some.injEq] at ho
      subst ho
      refine flow_value (v := .pointer (some ⟨w'.heap.size, 0, none⟩)) (w' := w'.alloc (.cells #[.float .f64 0, .float .f64 0, .float .f64 0, .slice none 0 0, .slice none 0 0, .int .i64 0, .slice none 0 0, .slice none 0 0, .slice none 0 0, .slice none 0 0, .slice none 0 0] 69)) ?_ ⟨_, rfl, hsz, Row.made _ _ _⟩ (Kept.alloc _ _)
      simp [execOp, go_sem]
  · intro vs W hR hk
    obtain ⟨oc, e7⟩ := (show ∃ oc : Option Addr, vs 7 = .agg #[.float .f64 x0, .float .f64 x1, .float .f64 x2, .slice ad n cap, .slice za zn zc, .int .i64 steps, .slice none 0 0, .slice none 0 0, .slice none 0 0, .slice none 0 0, .slice oc n n] from hR 7 (by omega))
    obtain ⟨S, e8, hbS, hrow⟩ := (show ∃ g, vs 8 = .pointer (some ⟨g, 0, none⟩) ∧ w.heap.size + 2 ≤ g ∧ Row W g [.float .f64 0, .float .f64 0, .float .f64 0, .slice none 0 0, .slice none 0 0, .int .i64 0, .slice none 0 0, .slice none 0 0, .slice none 0 0, .slice none 0 0, .slice none 0 0] 69 from hR 8 (by omega))
    clear hR
    have ka := ((Kept.alloc w (.cells #[.float .f64 x0, .float .f64 x1, .float .f64 x2] 65)).trans (Kept.alloc _ (.cells #[.float .f64 0, .float .f64 0, .float .f64 0, .slice none 0 0, .slice none 0 0, .int .i64 0, .slice none 0 0, .slice none 0 0, .slice none 0 0, .slice none 0 0, .slice none 0 0] 69)) (by simp)).trans hk (by simp)
    have hzr := (Row.made (w.alloc (.cells #[.float .f64 x0, .float .f64 x1, .float .f64 x2] 65)) [.float .f64 0, .float .f64 0, .float .f64 0, .slice none 0 0, .slice none 0 0, .int .i64 0, .slice none 0 0, .slice none 0 0, .slice none 0 0, .slice none 0 0, .slice none 0 0] 69).keep hk (by simp)
    have hr4 := (Row.made w [.float .f64 x0, .float .f64 x1, .float .f64 x2] 65).keep ((Kept.alloc _ (.cells #[.float .f64 0, .float .f64 0, .float .f64 0, .slice none 0 0, .slice none 0 0, .int .i64 0, .slice none 0 0, .slice none 0 0, .slice none 0 0, .slice none 0 0, .slice none 0 0] 69)).trans hk (by simp)) (by simp)
    rw [show (w.alloc (.cells #[.float .f64 x0, .float .f64 x1, .float .f64 x2] 65)).heap.size = w.heap.size + 1 from by simp] at hzr
    refine ⟨S, 0, [.float .f64 x0, .float .f64 x1, .float .f64 x2, .slice ad n cap, .slice za zn zc, .int .i64 steps, .slice none 0 0, .slice none 0 0, .slice none 0 0, .slice none 0 0, .slice oc n n], _, 69, e8, e7, hrow, by kernel_rfl, by simp, rfl, fun w1 hw1 hk1 hs1 => ?_⟩
    rename_i Q' K hK
    refine hK _ _ ?_
    rw [e8]
    have hw1' : Row w1 S [.float .f64 x0, .float .f64 x1, .float .f64 x2, .slice ad n cap, .slice za zn zc, .int .i64 steps, .slice none 0 0, .slice none 0 0, .slice none 0 0, .slice none 0 0, .slice oc n n] 69 := hw1
    have HV : Hid (VsCells [.float .f64 x0, .float .f64 x1, .float .f64 x2, .slice ad n cap, .slice za zn zc, .int .i64 steps] (.slice oc n n) [.float .f64 x0, .float .f64 x1, .float .f64 x2, .slice ad n cap, .slice za zn zc, .int .i64 steps, .slice none 0 0, .slice none 0 0, .slice none 0 0, .slice none 0 0, .slice oc n n]) := ⟨rfl, rfl, rfl, rfl⟩
    have HZR : Hid (Row w1 (w.heap.size + 1) [.float .f64 0, .float .f64 0, .float .f64 0, .slice none 0 0, .slice none 0 0, .int .i64 0, .slice none 0 0, .slice none 0 0, .slice none 0 0, .slice none 0 0, .slice none 0 0] 69) := hzr.keep hk1 (by simp; omega)
    have HR4 : Hid (Row w1 w.heap.size [.float .f64 x0, .float .f64 x1, .float .f64 x2] 65) := hr4.keep hk1 (by simp; omega)
    have HK1 : Hid (Kept [] w w1) := ka.trans hk1 (by simp; omega)
    have HS1 : Hid (Row w1 S [.float .f64 x0, .float .f64 x1, .float .f64 x2, .slice ad n cap, .slice za zn zc, .int .i64 steps, .slice none 0 0, .slice none 0 0, .slice none 0 0, .slice none 0 0, .slice oc n n] 69) := hw1'
    have HBS : Hid (w.heap.size + 2 ≤ S) := hbS
    obtain ⟨B, hB⟩ : ∃ B, B = w.heap.size := ⟨_, rfl⟩
    rw [← hB] at HZR HR4 HBS ⊢
    have HB : Hid (B = w.heap.size) := hB
    have mf := mk_floats n (by omega)
    have mr := mk_rows n (by omega)
    clear hB hw1 hw1' hrow hk1 hs1 e7 e8 hbS ka hzr hr4 hk
    go_wp2_with fail
    have hU : n * steps ≤ 9000 := Nat.le_trans (Nat.mul_le_mul hn hst) (by omega)
    have hwr : wrap64 ((n : Int) * (steps : Int)) = ((n * steps : Nat) : Int) := by
      have hmul : (n : Int) * (steps : Int) = ((n * steps : Nat) : Int) := by simp
      rw [hmul, wrap64]; omega
    rw [hwr]
    clear hwr
    generalize hUe : n * steps = U at *
    have HUE : Hid (n * steps = U) := hUe
    clear hUe
    have hUI : (U : Int) ≤ 9000 := by omega
    have mu := mk_floats U (by omega)
    go_loopw [26] (fun i wr => ∃ (k : Nat) (cs : List Value), k ≤ 2 ∧ i = .int .i64 k ∧ Row wr S cs 69 ∧ VsCells [.float .f64 x0, .float .f64 x1, .float .f64 x2, .slice ad n cap, .slice za zn zc, .int .i64 steps] (.slice oc n n) cs ∧ VsTo wr cs n U x0 k ∧ Kept [S] w1 wr) (fun i _ => 2 - (intOf i).toNat)
    case atStart => exact ⟨0, _, Nat.zero_le _, rfl, HS1.out, HV.out, fun j hj => absurd hj (Nat.not_lt_zero _), Kept.refl _ _⟩
    case round =>
      obtain ⟨k, cs, hk, rfl, hrow, hvs, hto, hkk⟩ := hrel
      have hbs := HBS.out
      by_cases hlt : k < 2
      · have hlen := hvs.len
        obtain ⟨x6, c6⟩ := HasLen.cell (w := wr) (b := S) (n := 11) (t := 69) ⟨cs, hrow, hlen⟩ (6 + k) (by omega)
        have f6 := hrow.free (6 + k)
        have hSl := hrow.lt
        have hSne : S ≠ wr.heap.size := by omega
        have hkI : (k : Int) < 2 := by omega
        have HRW : Hid (Row wr S cs 69) := hrow
        have HVS : Hid (VsCells [.float .f64 x0, .float .f64 x1, .float .f64 x2, .slice ad n cap, .slice za zn zc, .int .i64 steps] (.slice oc n n) cs) := hvs
        have HKK : Hid (Kept [S] w1 wr) := hkk
        have HTO : Hid (VsTo wr cs n U x0 k) := hto
        have HLEN : Hid (cs.length = 11) := hlen
        have hb4 := HR4.out.keep hkk (by simp; omega)
        have hBg : B < wr.heap.size := hb4.lt
        have HB4 : Hid (Row wr B [.float .f64 x0, .float .f64 x1, .float .f64 x2] 65) := hb4
        clear hrow hvs hkk hto hlen hb4
        go_wp2_with fail
        have r7 := (HRW.out.set (6 + k) (.slice (some ⟨wr.heap.size, 0, none⟩) n n)).keep (Kept.alloc _ (.cells (Array.replicate n (.slice none 0 0)) 39)) (by simp)
        have g7 : RowsTo ((wr.setCell ⟨S, 6 + k, none⟩ (.slice (some ⟨wr.heap.size, 0, none⟩) n n)).alloc (.cells (Array.replicate n (.slice none 0 0)) 39)) wr.heap.size n U x0 0 := by
          refine ⟨List.replicate n (.slice none 0 0), ?_, by simp, fun j hj => absurd hj (Nat.not_lt_zero _)⟩
          have := Row.made (wr.setCell ⟨S, 6 + k, none⟩ (.slice (some ⟨wr.heap.size, 0, none⟩) n n)) (List.replicate n (.slice none 0 0)) 39
          simpa using this
        have k7 := (Kept.setCell wr S (6 + k) (.slice (some ⟨wr.heap.size, 0, none⟩) n n)).trans (Kept.alloc _ (.cells (Array.replicate n (.slice none 0 0)) 39)) (by simp)
        have hgr : wr.heap.size < ((wr.setCell ⟨S, 6 + k, none⟩ (.slice (some ⟨wr.heap.size, 0, none⟩) n n)).alloc (.cells (Array.replicate n (.slice none 0 0)) 39)).heap.size := by simp
        generalize hW7 : (wr.setCell ⟨S, 6 + k, none⟩ (.slice (some ⟨wr.heap.size, 0, none⟩) n n)).alloc (.cells (Array.replicate n (.slice none 0 0)) 39) = W7 at *
        have HWR : Hid (Kept [S] wr W7) := k7
        have HB7 : Hid (Row W7 B [.float .f64 x0, .float .f64 x1, .float .f64 x2] 65) := HB4.out.keep k7 (by simp; omega)
        obtain ⟨wq, hwq⟩ : ∃ wq, wq = wr := ⟨_, rfl⟩
        rw [← hwq] at HRW HKK HTO HWR HB4
        have HGQ : Hid (wr.heap.size = wq.heap.size) := by rw [hwq]; exact rfl
        clear hwq hW7 k7 c6 f6
        generalize wr.heap.size = gr at *
        have HR7 : Hid (Row W7 S (cs.set (6 + k) (.slice (some ⟨gr, 0, none⟩) n n)) 69) := r7
        have HG7 : Hid (RowsTo W7 gr n U x0 0) := g7
        have HGR : Hid (gr < W7.heap.size) := hgr
        have HSG : Hid (S ≠ gr) := hSne
        clear r7 g7 hgr
        go_loopw [40] (fun i wr => ∃ p : Nat, p ≤ n ∧ i = .int .i64 p ∧ RowsTo wr gr n U x0 p ∧ Kept [gr] W7 wr) (fun i _ => n - (intOf i).toNat)
        case atStart => exact ⟨0, Nat.zero_le _, rfl, HG7.out, Kept.refl _ _⟩
        case round =>
          obtain ⟨p, hp, rfl, hto, hkk⟩ := hrel
          have r8 := HR7.out.keep hkk (by simpa using hSne)
          have s6 := r8.cell (6 + k) (List.getElem?_set_self (by have := HLEN.out; omega))
          by_cases hltp : p < n
          · obtain ⟨xp, cp⟩ := hto.row.cell p hltp
            have fp := hto.row.free p
            have hl0 := r8.lt
            have hl1 : gr < wr.heap.size := by obtain ⟨_, h, _⟩ := hto.row; exact h.lt
            have hl0' : S ≠ wr.heap.size := by omega
            have hl1' : gr ≠ wr.heap.size := by omega
            have hpI : (p : Int) < (n : Int) := by omega
            have HT8 : Hid (RowsTo wr gr n U x0 p) := hto
            have HR8 : Hid (Row wr S (cs.set (6 + k) (.slice (some ⟨gr, 0, none⟩) n n)) 69) := r8
            have HK8 : Hid (Kept [gr] W7 wr) := hkk
            clear hto r8 hkk
            go_wp2_with fail
            go_region
            have k10 := ((Kept.setCell wr gr p (.slice (some ⟨wr.heap.size, 0, none⟩) U U)).trans (Kept.alloc _ (.cells (Array.replicate U (.float .f64 0)) 25)) (by simp)).trans (Kept.drew _) (by simp)
            have rg10 : ∀ l, Row wr gr l 39 → Row ((wr.setCell ⟨gr, p, none⟩ (.slice (some ⟨wr.heap.size, 0, none⟩) U U)).alloc (.cells (Array.replicate U (.float .f64 0)) 25)).drew gr (l.set p (.slice (some ⟨wr.heap.size, 0, none⟩) U U)) 39 := fun l h => ((h.set p _).keep (Kept.alloc _ _) (by simp)).keep (Kept.drew _) (by simp)
            have rp10 : Row ((wr.setCell ⟨gr, p, none⟩ (.slice (some ⟨wr.heap.size, 0, none⟩) U U)).alloc (.cells (Array.replicate U (.float .f64 0)) 25)).drew wr.heap.size (mags (fun _ => x0) U 0) 25 := by
              rw [mags_zero]
              have := (Row.made (wr.setCell ⟨gr, p, none⟩ (.slice (some ⟨wr.heap.size, 0, none⟩) U U)) (List.replicate U (.float .f64 0)) 25).keep (Kept.drew _) (by simp)
              simpa using this
            generalize ((wr.setCell ⟨gr, p, none⟩ (.slice (some ⟨wr.heap.size, 0, none⟩) U U)).alloc (.cells (Array.replicate U (.float .f64 0)) 25)).drew = W10 at *
            obtain ⟨wp, hwp⟩ : ∃ wp, wp = wr := ⟨_, rfl⟩
            have HGP : Hid (wp.heap.size = wr.heap.size) := by rw [hwp]; exact rfl
            have HK10 : Hid (Kept [gr] wp W10) := by rw [hwp]; exact k10
            have HRG : Hid (∀ l, Row wp gr l 39 → Row W10 gr (l.set p (.slice (some ⟨wr.heap.size, 0, none⟩) U U)) 39) := by rw [hwp]; exact rg10
            have HT9 : Hid (RowsTo wp gr n U x0 p) := by rw [hwp]; exact HT8.out
            have HR10 : Hid (Row W10 S (cs.set (6 + k) (.slice (some ⟨gr, 0, none⟩) n n)) 69) := HR8.out.keep k10 (by simpa using HSG.out)
            have HK9 : Hid (Kept [gr] W7 wp) := by rw [hwp]; exact HK8.out
            have HB10 : Hid (Row W10 B [.float .f64 x0, .float .f64 x1, .float .f64 x2] 65) := (HB7.out.keep HK8.out (by simp; omega)).keep k10 (by simp; omega)
            have HP10 : Hid (Row W10 wr.heap.size (mags (fun _ => x0) U 0) 25) := rp10
            have HC10 : Hid (W10.cell? ⟨gr, p, none⟩ = some (.slice (some ⟨wr.heap.size, 0, none⟩) U U)) := by
              obtain ⟨l, h1, h2, _⟩ := HT8.out
              exact (rg10 l h1).cell p (List.getElem?_set_self (by omega))
            clear hwp k10 rg10 rp10 HT8 HR8 HK8 cp fp s6
            generalize wr.heap.size = gp at *
            have HN : Hid (S ≠ gp ∧ gr ≠ gp ∧ B ≠ gp) := ⟨hl0', hl1', by have := (HB7.out).lt; have := HK9.out.size; have := HGP.out; omega⟩
            go_wp2_with fail
            go_loopw [52] (fun i wr => ∃ u : Nat, u ≤ U ∧ i = .int .i64 u ∧ Row wr gp (mags (fun _ => x0) U u) 25 ∧ Kept [gp] W10 wr) (fun i _ => U - (intOf i).toNat)
            case atStart => exact ⟨0, Nat.zero_le _, rfl, HP10.out, Kept.refl _ _⟩
            case round =>
              obtain ⟨u, hu, rfl, hru, hku⟩ := hrel
              have hnn := HN.out
              have rS := HR10.out.keep hku (by simpa using hnn.1)
              have t6 := rS.cell (6 + k) (List.getElem?_set_self (by have := HLEN.out; omega))
              have tb := (HB10.out.keep hku (by simpa using hnn.2.2)).cell 0 rfl
              have tp := hku.cell HC10.out (by simpa using hnn.2.1)
              by_cases hltu : u < U
              · have cu := hru.cell u (mags_at _ U u u hltu)
                have fu := hru.free u
                have huI : (u : Int) < (U : Int) := by omega
                have HRU : Hid (Row wr gp (mags (fun _ => x0) U u) 25) := hru
                have HKU : Hid (Kept [gp] W10 wr) := hku
                clear hru hku rS
                go_wp2_with fail
                go_region
                have r14 : Row (wr.setCell ⟨gp, u, none⟩ (.float .f64 x0)).drew gp (mags (fun _ => x0) U (u + 1)) 25 := by
                  rw [← mags_succ _ U u hltu]
                  exact (HRU.out.set u _).keep (Kept.drew _) (by simp)
                have k14 := (HKU.out.trans (Kept.setCell wr gp u (.float .f64 x0)) (by simp)).trans (Kept.drew _) (by simp)
                have G14 : Hid (Row (wr.setCell ⟨gp, u, none⟩ (.float .f64 x0)).drew gp (mags (fun _ => x0) U (u + 1)) 25 ∧ Kept [gp] W10 (wr.setCell ⟨gp, u, none⟩ (.float .f64 x0)).drew) := ⟨r14, k14⟩
                clear r14 k14
                go_wp2_with fail
                go_roundw
                case rel => exact ⟨u + 1, by omega, by go_num, G14.out.1, G14.out.2⟩
                case measure => simp [intOf]; omega
              · obtain rfl : u = U := by omega
                have kall : Kept [gr] wp wr := HK10.out.trans hku (by have := HGP.out; simp; omega)
                have tnext : RowsTo wr gr n u x0 (p + 1) := HT9.out.next hltp kall (fun l h => (HRG.out l h).keep hku (by simpa using hnn.2.1)) hru
                have G16 : Hid (RowsTo wr gr n u x0 (p + 1) ∧ Kept [gr] W7 wr) := ⟨tnext, HK9.out.trans kall (by simp)⟩
                clear kall tnext hru hku rS t6 tb tp
                go_wp2_with fail
                go_roundw
                case rel => exact ⟨p + 1, by omega, by go_num, G16.out.1, G16.out.2⟩
                case measure => simp [intOf]; omega
          · obtain rfl : p = n := by omega
            obtain ⟨x8, c8⟩ := HasLen.cell (w := wr) (b := S) (n := 11) (t := 69) ⟨_, r8, by have := HLEN.out; simpa using this⟩ (8 + k) (by omega)
            have f8 := r8.free (8 + k)
            have hl0 := r8.lt
            have hl0' : S ≠ wr.heap.size := by omega
            have HT8 : Hid (RowsTo wr gr p U x0 p) := hto
            have HR8 : Hid (Row wr S (cs.set (6 + k) (.slice (some ⟨gr, 0, none⟩) p p)) 69) := r8
            have HK8 : Hid (Kept [gr] W7 wr) := hkk
            clear hto r8 hkk
            go_wp2_with fail
            have k17 := (Kept.setCell wr S (8 + k) (.slice (some ⟨wr.heap.size, 0, none⟩) p p)).trans (Kept.alloc _ (.cells (Array.replicate p (.float .f64 0)) 25)) (by simp)
            have r17 := (HR8.out.set (8 + k) (.slice (some ⟨wr.heap.size, 0, none⟩) p p)).keep (Kept.alloc _ (.cells (Array.replicate p (.float .f64 0)) 25)) (by simp)
            have hlen := HLEN.out
            have kq : Kept [S] wq wr := HWR.out.trans HK8.out (by have := HGQ.out; simp; omega)
            have G17 : Hid (VsCells [.float .f64 x0, .float .f64 x1, .float .f64 x2, .slice ad p cap, .slice za zn zc, .int .i64 steps] (.slice oc p p) ((cs.set (6 + k) (.slice (some ⟨gr, 0, none⟩) p p)).set (8 + k) (.slice (some ⟨wr.heap.size, 0, none⟩) p p))) := (HVS.out.set (6 + k) (by omega) (by omega) _ rfl).set (8 + k) (by omega) (by omega) _ rfl
            have V17 : VsTo ((wr.setCell ⟨S, 8 + k, none⟩ (.slice (some ⟨wr.heap.size, 0, none⟩) p p)).alloc (.cells (Array.replicate p (.float .f64 0)) 25)) ((cs.set (6 + k) (.slice (some ⟨gr, 0, none⟩) p p)).set (8 + k) (.slice (some ⟨wr.heap.size, 0, none⟩) p p)) p U x0 (k + 1) := by
              intro j hj
              by_cases e : j = k
              · subst e
                exact ⟨gr, by rw [List.getElem?_set_ne (by omega), List.getElem?_set_self (by omega)], HT8.out.keep k17 (by simpa using HR8.out.not 25 (by decide)) (by simpa using HR8.out.not 39 (by decide))⟩
              · obtain ⟨gj, h1, h2⟩ := HTO.out j (by omega)
                exact ⟨gj, by rw [List.getElem?_set_ne (by omega), List.getElem?_set_ne (by omega)]; exact h1, h2.keep (kq.trans k17 (by simp)) (by simpa using HRW.out.not 25 (by decide)) (by simpa using HRW.out.not 39 (by decide))⟩
            have K17 : Hid (Kept [S] w1 _) := HKK.out.trans (kq.trans k17 (by simp)) (by simp)
            go_roundw
            case rel => exact ⟨k + 1, _, by omega, by go_num, r17, G17.out, V17, K17.out⟩
            case measure => simp [intOf]; omega
      · obtain rfl : k = 2 := by omega
        have hlen := hvs.len
        have hone := hvs.one
        have hz9 := HZR.out.keep hkk (by simp; omega)
        have hi : (Ybad.prog.info? 69).map (·.size) = some cs.length := by rw [hlen]; kernel_rfl
        have HVS : Hid (VsCells [.float .f64 x0, .float .f64 x1, .float .f64 x2, .slice ad n cap, .slice za zn zc, .int .i64 steps] (.slice oc n n) cs) := hvs
        have HTO : Hid (VsTo wr cs n U x0 2) := hto
        have HKK : Hid (Kept [S] w1 wr) := hkk
        have HRW : Hid (Row wr S cs 69) := hrow
        clear hvs hto hkk
        go_wp2_with (first | (refine wpList_loads rfl 69 _ rfl S 0 cs _ rfl hrow Ybad.underlying69 rfl hi (by rw [List.drop_zero, List.take_length]) ?_) | (refine wpList_stores rfl 69 _ _ rfl (B + 1) 0 cs rfl rfl hz9 hi (by simp [hlen]) hone ?_; intro w9 h9 k9 s9))
        have hB := HB.out
        refine bodyPost_cell 8 69 (B + 1) cs _ rfl rfl h9 Ybad.underlying69 rfl hi (splice_take _ 0 cs (Nat.zero_le _)) rfl ⟨cs, _, rfl, HVS.out, ?_, (HK1.out.trans HKK.out (by simp; omega)).trans k9 (by simp; omega)⟩
        rw [HUE.out]
        intro j hj
        obtain ⟨gj, h1, h2⟩ := HTO.out j hj
        exact ⟨gj, h1, h2.keep k9 (by simpa using hz9.not 25 (by decide)) (by simpa using hz9.not 39 (by decide))⟩
end Go.Proofs.YbulkjbuDoor
