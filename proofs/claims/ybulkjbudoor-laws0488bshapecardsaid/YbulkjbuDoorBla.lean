/-
  Seat b0488aD: newBLALayer, newInputTraces.
-/
import Derived.Test.YbulkjbuDoorCac
import Derived.Test.YbulkjbuDoorStore
import Derived.Deep.OwnRows
import Derived.BigRegion
namespace Go.Proofs.YbulkjbuDoor
open Go.RowKit

theorem Ybad.info39 : (Ybad.prog.info? 39).map (fun i => (i.zero, i.size, i.bytes)) = some (some (.slice none 0 0), 1, 24) := by kernel_rfl
theorem Ybad.info25 : (Ybad.prog.info? 25).map (fun i => (i.zero, i.size, i.bytes)) = some (some (.float .f64 0), 1, 8) := by kernel_rfl
theorem made_list (z : Value) (n : Nat) : (madeCells #[z] n) = (List.replicate n z).toArray := by
  apply Array.ext
  · simp [size_madeCells]
  · intro i h1 h2
    simp [madeCells, Nat.mod_one]
theorem mk_rows (n : Nat) (hn : n ≤ 1000) (W : World) : (Instr.makeSlice 49 (.int .i64 n) (.int .i64 n)).run Ybad.prog W = .ok (.slice (some ⟨W.heap.size, 0, none⟩) n n) (W.alloc (.cells (List.replicate n (.slice none 0 0)).toArray 39)) := by
  have := run_make_row' (P := Ybad.prog) 49 39 (.slice none 0 0) 24 Ybad.underlying49 Ybad.info39 rfl .i64 .i64 n (by omega) (by omega) W
  rw [made_list] at this; exact this
theorem mk_floats (n : Nat) (hn : n ≤ 10000) (W : World) : (Instr.makeSlice 39 (.int .i64 n) (.int .i64 n)).run Ybad.prog W = .ok (.slice (some ⟨W.heap.size, 0, none⟩) n n) (W.alloc (.cells (List.replicate n (.float .f64 0)).toArray 25)) := by
  have := run_make_row' (P := Ybad.prog) 39 25 (.float .f64 0) 8 Ybad.underlying39 Ybad.info25 rfl .i64 .i64 n (by omega) (by omega) W
  rw [made_list] at this; exact this

/-- A slice that is made: n cells of z in a block of its own. -/
def Made (e : TypeId) (z : Value) (n : Nat) (b : Nat) (v : Value) (w : World) : Prop := ∃ g, v = .slice (some ⟨g, 0, none⟩) n n ∧ b ≤ g ∧ Row w g (List.replicate n z) e
theorem Made.keep {e : TypeId} {z : Value} {n b : Nat} {v : Value} {w w' : World} (h : Made e z n b v w) (k : Kept [] w w') : Made e z n b v w' := by
  obtain ⟨g, h1, h2, h3⟩ := h
  exact ⟨g, h1, h2, h3.keep k (by simp)⟩
theorem Made.mk (e : TypeId) (z : Value) (n b : Nat) (w : World) (h : b ≤ w.heap.size) : Made e z n b (.slice (some ⟨w.heap.size, 0, none⟩) n n) (w.alloc (.cells (List.replicate n z).toArray e)) := ⟨_, rfl, h, Row.made _ _ _⟩

/-- A row of n cells, whatever they hold. -/
def HasLen (w : World) (b n : Nat) (t : TypeId) : Prop := ∃ l, Row w b l t ∧ l.length = n
theorem HasLen.keep {w w' : World} {b n : Nat} {t : TypeId} {ws : List Nat} (h : HasLen w b n t) (k : Kept ws w w') (hn : b ∉ ws) : HasLen w' b n t := by
  obtain ⟨l, h1, h2⟩ := h; exact ⟨l, h1.keep k hn, h2⟩
theorem HasLen.setCell {w : World} {b n : Nat} {t : TypeId} (h : HasLen w b n t) (b' o : Nat) (v : Value) : HasLen (w.setCell ⟨b', o, none⟩ v) b n t := by
  obtain ⟨l, h1, h2⟩ := h
  by_cases e : b = b'
  · subst e; exact ⟨_, h1.set o v, by simpa using h2⟩
  · exact ⟨l, h1.keep (Kept.setCell w b' o v) (by simpa using e), h2⟩
theorem HasLen.cell {w : World} {b n : Nat} {t : TypeId} (h : HasLen w b n t) (k : Nat) (hk : k < n) : ∃ v, w.cell? ⟨b, k, none⟩ = some v := by
  obtain ⟨l, h1, h2⟩ := h
  exact ⟨l[k]'(by omega), h1.cell k (List.getElem?_eq_getElem (by omega))⟩
theorem HasLen.free {w : World} {b n : Nat} {t : TypeId} (h : HasLen w b n t) (k : Nat) : w.frozen? ⟨b, k, none⟩ = false := by
  obtain ⟨l, h1, _⟩ := h; exact h1.free k
theorem Row.ne {w : World} {b b' : Nat} {l l' : List Value} {t t' : TypeId} (h : Row w b l t) (h' : Row w b' l' t') (ht : t ≠ t') : b ≠ b' := by
  intro e; subst e
  unfold Row at h h'; rw [h] at h'
  simp only [Option.some.injEq, Obj.cells.injEq] at h'
  exact ht h'.2.1

/-- What each operation of newBLALayer's literal leaves. -/
def blaR (pu : Option Addr) (n m half b : Nat) : Nat → Value → World → Prop
  | 0, v, _ => v = .pointer pu
  | 1, v, _ => v = .int .i64 n
  | 2, v, w => Made 39 (.slice none 0 0) n b v w
  | 3, v, _ => v = .int .i64 n
  | 4, v, w => Made 39 (.slice none 0 0) n b v w
  | 5, v, _ => v = .float .f64 half
  | 6, v, _ => v = .int .i64 m
  | 7, v, w => Made 25 (.float .f64 0) m b v w
  | 8, v, _ => v = .int .i64 m
  | 9, v, w => Made 25 (.float .f64 0) m b v w
  | 10, v, _ => v = .int .i64 m
  | 11, v, w => Made 25 (.float .f64 0) m b v w
  | 12, v, w => ∃ v1 v2 v3 v4 v5, v = .agg #[.pointer pu, v1, v2, .float .f64 half, v3, v4, v5] ∧ Made 39 (.slice none 0 0) n b v1 w ∧ Made 39 (.slice none 0 0) n b v2 w ∧ Made 25 (.float .f64 0) m b v3 w ∧ Made 25 (.float .f64 0) m b v4 w ∧ Made 25 (.float .f64 0) m b v5 w
  | _, v, w => ∃ g cs, v = .pointer (some ⟨g, 0, none⟩) ∧ b ≤ g ∧ Row w g cs 51 ∧ cs.length = 7
theorem blaR_keep (pu : Option Addr) (n m half b : Nat) (i : Nat) (v : Value) (w w' : World) (k : Kept [] w w') (h : blaR pu n m half b i v w) : blaR pu n m half b i v w' := by
  unfold blaR at *
  split <;> simp only [] at h
  all_goals first
    | exact h
    | exact h.keep k
    | (obtain ⟨v1, v2, v3, v4, v5, e, h1, h2, h3, h4, h5⟩ := h; exact ⟨v1, v2, v3, v4, v5, e, h1.keep k, h2.keep k, h3.keep k, h4.keep k, h5.keep k⟩)
    | (obtain ⟨g, cs, h1, h2, h3, h4⟩ := h; exact ⟨g, cs, h1, h2, h3.keep k (by simp), h4⟩)

set_option maxRecDepth 100000 in
set_option maxHeartbeats 1000000 in
theorem bla_any (pu : Option Addr) (n m half : Nat) (w : World) (hn : n ≤ 100) (hm : m ≤ 300) :
    Calls Ybad.prog 26 #[.pointer pu, .int .i64 n, .int .i64 m, .float .f64 half] w fun e w' => ∃ a1 a2 a3 a4 a5 : Option Addr, e = .returned (.agg #[.pointer pu, .slice a1 n n, .slice a2 n n, .float .f64 half, .slice a3 m m, .slice a4 m m, .slice a5 m m]) ∧ Kept [] w w' := by
  go_enter Ybad.func26, Ybad.ntmps26
  go_wp2_with fail
  refine region_store 14 (blaR pu n m half (w.heap.size + 1)) (fun vs => ⟨List.toArray (Value.pointer pu :: .int .i64 n :: .int .i64 m :: .float .f64 half :: undef :: undef :: undef :: undef :: .pointer (some ⟨w.heap.size, 0, none⟩) :: vs 13 :: undef :: vs 0 :: vs 1 :: vs 2 :: vs 3 :: vs 4 :: vs 5 :: vs 6 :: vs 7 :: vs 8 :: vs 9 :: vs 10 :: vs 11 :: vs 12 :: undef :: undef :: undef :: undef :: undef :: undef :: undef :: undef :: undef :: undef :: undef :: undef :: undef :: undef :: undef :: undef :: undef :: undef :: undef :: undef :: []), []⟩) 51 (.tmp 9) (.tmp 23) (by kernel_rfl) (by kernel_rfl) (by kernel_rfl) (by kernel_rfl) (fun vs => by kernel_rfl) (blaR_keep pu n m half _) ?_ ?_
  · intro i hi o ho a w' hoth hdep hk
    have s0 : a.eval (.tmp 0) = .pointer pu := hoth 0 (by kernel_rfl)
    have s1 : a.eval (.tmp 1) = .int .i64 n := hoth 1 (by kernel_rfl)
    have s2 : a.eval (.tmp 2) = .int .i64 m := hoth 2 (by kernel_rfl)
    have s3 : a.eval (.tmp 3) = .float .f64 half := hoth 3 (by kernel_rfl)
    have hsz : w.heap.size + 1 ≤ w'.heap.size := by have := hk.size; simpa using this
    have mr := mk_rows n (by omega)
    have mf := mk_floats m (by omega)
    match i, hi with
    | 0, _ =>
      simp only [List.getElem?_toArray, List.getElem?_cons_zero, Option.some.injEq] at ho
      subst ho
      exact flow_value (by simp [execOp, s0]) rfl (Kept.refl _ _)
    | 1, _ =>
      simp only [List.getElem?_toArray, List.getElem?_cons_succ, List.getElem?_cons_zero, Option.some.injEq] at ho
      subst ho
      exact flow_value (by simp [execOp, s1]) rfl (Kept.refl _ _)
    | 2, _ =>
      simp only [List.getElem?_toArray, List.getElem?_cons_succ, List.getElem?_cons_zero, Option.some.injEq] at ho
      subst ho
      have d : a.eval (.tmp 12) = .int .i64 n := hdep ⟨1, .data⟩ (by simp)
      exact flow_value (by simp [execOp, d, mr, Result.andThen]) (Made.mk 39 (.slice none 0 0) _ _ _ hsz) (Kept.alloc _ _)
    | 3, _ =>
      simp only [List.getElem?_toArray, List.getElem?_cons_succ, List.getElem?_cons_zero, Option.some.injEq] at ho
      subst ho
      exact flow_value (by simp [execOp, s1]) rfl (Kept.refl _ _)
    | 4, _ =>
      simp only [List.getElem?_toArray, List.getElem?_cons_succ, List.getElem?_cons_zero, Option.some.injEq] at ho
      subst ho
      have d : a.eval (.tmp 14) = .int .i64 n := hdep ⟨3, .data⟩ (by simp)
      exact flow_value (by simp [execOp, d, mr, Result.andThen]) (Made.mk 39 (.slice none 0 0) _ _ _ hsz) (Kept.alloc _ _)
    | 5, _ =>
      simp only [List.getElem?_toArray, List.getElem?_cons_succ, List.getElem?_cons_zero, Option.some.injEq] at ho
      subst ho
      exact flow_value (by simp [execOp, s3]) rfl (Kept.refl _ _)
    | 6, _ =>
      simp only [List.getElem?_toArray, List.getElem?_cons_succ, List.getElem?_cons_zero, Option.some.injEq] at ho
      subst ho
      exact flow_value (by simp [execOp, s2]) rfl (Kept.refl _ _)
    | 7, _ =>
      simp only [List.getElem?_toArray, List.getElem?_cons_succ, List.getElem?_cons_zero, Option.some.injEq] at ho
      subst ho
      have d : a.eval (.tmp 17) = .int .i64 m := hdep ⟨6, .data⟩ (by simp)
      exact flow_value (by simp [execOp, d, mf, Result.andThen]) (Made.mk 25 (.float .f64 0) _ _ _ hsz) (Kept.alloc _ _)
    | 8, _ =>
      simp only [List.getElem?_toArray, List.getElem?_cons_succ, List.getElem?_cons_zero, Option.some.injEq] at ho
      subst ho
      exact flow_value (by simp [execOp, s2]) rfl (Kept.refl _ _)
    | 9, _ =>
      simp only [List.getElem?_toArray, List.getElem?_cons_succ, List.getElem?_cons_zero, Option.some.injEq] at ho
      subst ho
      have d : a.eval (.tmp 19) = .int .i64 m := hdep ⟨8, .data⟩ (by simp)
      exact flow_value (by simp [execOp, d, mf, Result.andThen]) (Made.mk 25 (.float .f64 0) _ _ _ hsz) (Kept.alloc _ _)
    | 10, _ =>
      simp only [List.getElem?_toArray, List.getElem?_cons_succ, List.getElem?_cons_zero, Option.some.injEq] at ho
      subst ho
      exact flow_value (by simp [execOp, s2]) rfl (Kept.refl _ _)
    | 11, _ =>
      simp only [List.getElem?_toArray, List.getElem?_cons_succ, List.getElem?_cons_zero, Option.some.injEq] at ho
      subst ho
      have d : a.eval (.tmp 21) = .int .i64 m := hdep ⟨10, .data⟩ (by simp)
      exact flow_value (by simp [execOp, d, mf, Result.andThen]) (Made.mk 25 (.float .f64 0) _ _ _ hsz) (Kept.alloc _ _)
    | 12, _ =>
      simp only [List.getElem?_toArray, List.getElem?_cons_succ, List.getElem?_cons_zero, Option.some.injEq] at ho
      subst ho
      have d0 : a.eval (.tmp 11) = .pointer pu := hdep ⟨0, .data⟩ (by simp)
      have d2 : Made 39 (.slice none 0 0) n (w.heap.size + 1) (a.eval (.tmp 13)) w' := hdep ⟨2, .data⟩ (by simp)
      have d4 : Made 39 (.slice none 0 0) n (w.heap.size + 1) (a.eval (.tmp 15)) w' := hdep ⟨4, .data⟩ (by simp)
      have d5 : a.eval (.tmp 16) = .float .f64 half := hdep ⟨5, .data⟩ (by simp)
      have d7 : Made 25 (.float .f64 0) m (w.heap.size + 1) (a.eval (.tmp 18)) w' := hdep ⟨7, .data⟩ (by simp)
      have d9 : Made 25 (.float .f64 0) m (w.heap.size + 1) (a.eval (.tmp 20)) w' := hdep ⟨9, .data⟩ (by simp)
      have d11 : Made 25 (.float .f64 0) m (w.heap.size + 1) (a.eval (.tmp 22)) w' := hdep ⟨11, .data⟩ (by simp)
      obtain ⟨g1, c1, r1⟩ := d2
      obtain ⟨g2, c2, r2⟩ := d4
      obtain ⟨g3, c3, r3⟩ := d7
      obtain ⟨g4, c4, r4⟩ := d9
      obtain ⟨g5, c5, r5⟩ := d11
      refine flow_value (v := .agg #[.pointer pu, _, _, .float .f64 half, _, _, _]) ?_ ⟨_, _, _, _, _, rfl, ⟨g1, rfl, r1⟩, ⟨g2, rfl, r2⟩, ⟨g3, rfl, r3⟩, ⟨g4, rfl, r4⟩, ⟨g5, rfl, r5⟩⟩ (Kept.refl _ _)
      generalize a.eval = ev at *
      simp [execOp, d0, d5, c1, c2, c3, c4, c5, go_sem]
    | 13, _ =>
      simp only [List.getElem?_toArray, List.getElem?_cons_succ, List.getElem?_cons_zero, Option.some.injEq] at ho
      subst ho
      refine flow_value (v := .pointer (some ⟨w'.heap.size, 0, none⟩)) (w' := w'.alloc (.cells #[.pointer none, .slice none 0 0, .slice none 0 0, .float .f64 0, .slice none 0 0, .slice none 0 0, .slice none 0 0] 51)) ?_ ⟨_, _, rfl, hsz, Row.made _ _ _, rfl⟩ (Kept.alloc _ _)
      simp [execOp, go_sem]
  · intro vs W hR hk
    obtain ⟨v1, v2, v3, v4, v5, e12, m1, m2, m3, m4, m5⟩ := (show ∃ v1 v2 v3 v4 v5, vs 12 = .agg #[.pointer pu, v1, v2, .float .f64 half, v3, v4, v5] ∧ Made 39 (.slice none 0 0) n (w.heap.size + 1) v1 W ∧ Made 39 (.slice none 0 0) n (w.heap.size + 1) v2 W ∧ Made 25 (.float .f64 0) m (w.heap.size + 1) v3 W ∧ Made 25 (.float .f64 0) m (w.heap.size + 1) v4 W ∧ Made 25 (.float .f64 0) m (w.heap.size + 1) v5 W from hR 12 (by omega))
    obtain ⟨g, cs, e13, hg, hrow, hcs⟩ := (show ∃ g cs, vs 13 = .pointer (some ⟨g, 0, none⟩) ∧ w.heap.size + 1 ≤ g ∧ Row W g cs 51 ∧ cs.length = 7 from hR 13 (by omega))
    clear hR
    obtain ⟨g1, rfl, hg1, r1⟩ := m1
    obtain ⟨g2, rfl, hg2, r2⟩ := m2
    obtain ⟨g3, rfl, hg3, r3⟩ := m3
    obtain ⟨g4, rfl, hg4, r4⟩ := m4
    obtain ⟨g5, rfl, hg5, r5⟩ := m5
    refine ⟨g, 0, [.pointer pu, .slice (some ⟨g1, 0, none⟩) n n, .slice (some ⟨g2, 0, none⟩) n n, .float .f64 half, .slice (some ⟨g3, 0, none⟩) m m, .slice (some ⟨g4, 0, none⟩) m m, .slice (some ⟨g5, 0, none⟩) m m], cs, 51, e13, e12, hrow, by kernel_rfl, by simp [hcs], rfl, fun w1 hw1 hk1 hs1 => ?_⟩
    rename_i Q' K hK
    refine hK _ _ ?_
    rw [e13]
    have hw1' : Row w1 g [.pointer pu, .slice (some ⟨g1, 0, none⟩) n n, .slice (some ⟨g2, 0, none⟩) n n, .float .f64 half, .slice (some ⟨g3, 0, none⟩) m m, .slice (some ⟨g4, 0, none⟩) m m, .slice (some ⟨g5, 0, none⟩) m m] 51 := by
      match cs, hcs with
      | [_, _, _, _, _, _, _], _ => exact hw1
    have c1 := hw1'.cell 1 rfl
    have L1 : HasLen w1 g1 n 39 := ⟨_, (r1.keep hk1 (by simpa using (hrow.ne r1 (by decide)).symm)), by simp⟩
    have L2 : HasLen w1 g2 n 39 := ⟨_, (r2.keep hk1 (by simpa using (hrow.ne r2 (by decide)).symm)), by simp⟩
    have n1 : g ≠ g1 := hrow.ne r1 (by decide)
    have n2 : g ≠ g2 := hrow.ne r2 (by decide)
    have ka := Kept.alloc w (.cells #[.pointer none, .slice none 0 0, .slice none 0 0, .float .f64 0, .slice none 0 0, .slice none 0 0, .slice none 0 0] 51)
    have HK : Hid (Kept [] w w1) := (ka.trans hk (by simp)).trans hk1 (by simp; omega)
    have HR : Hid (Row w1 g [.pointer pu, .slice (some ⟨g1, 0, none⟩) n n, .slice (some ⟨g2, 0, none⟩) n n, .float .f64 half, .slice (some ⟨g3, 0, none⟩) m m, .slice (some ⟨g4, 0, none⟩) m m, .slice (some ⟨g5, 0, none⟩) m m] 51) := hw1'
    have HZ : Hid (Row w1 w.heap.size [.pointer none, .slice none 0 0, .slice none 0 0, .float .f64 0, .slice none 0 0, .slice none 0 0, .slice none 0 0] 51) := ((Row.made w _ _).keep hk (by simp)).keep hk1 (by simp; omega)
    have nz : g ≠ w.heap.size := by omega
    have nz1 : g1 ≠ w.heap.size := by omega
    have nz2 : g2 ≠ w.heap.size := by omega
    have mf := mk_floats m (by omega)
    have bn : (n : Int) ≤ 100 := by omega
    have bm : (m : Int) ≤ 300 := by omega
    clear hw1 hrow hw1' r1 r2 r3 r4 r5 hk hk1 hs1 e13 e12 hcs ka
    go_wp2_with fail
    obtain ⟨B, hB⟩ : ∃ B, B = w.heap.size := ⟨_, rfl⟩
    rw [← hB] at nz nz1 nz2 HZ hg hg1 hg2 hg3 hg4 hg5 ⊢
    have HB : Hid (B = w.heap.size) := hB
    clear hB
    go_loopw [27] (fun i wr => ∃ k : Nat, k ≤ n ∧ i = .int .i64 k ∧ HasLen wr g1 n 39 ∧ HasLen wr g2 n 39 ∧ Kept [g1, g2] w1 wr) (fun i _ => n - (intOf i).toNat)
    case atStart => exact ⟨0, Nat.zero_le _, rfl, L1, L2, Kept.refl _ _⟩
    case round =>
      obtain ⟨k, hk, rfl, M1, M2, hkk⟩ := hrel
      have hrow := HR.out.keep hkk (by simp [n1, n2])
      by_cases hlt : k < n
      · have c1 := hrow.cell 1 rfl
        obtain ⟨x1, p1⟩ := M1.cell k hlt
        have f1 := M1.free k
        have hl0 := hrow.lt
        have hl1 : g1 < wr.heap.size := by obtain ⟨_, h, _⟩ := M1; exact h.lt
        have hl0' : g ≠ wr.heap.size := by omega
        have hl1' : g1 ≠ wr.heap.size := by omega
        have M1' : Hid (HasLen wr g1 n 39) := M1
        have M2' : Hid (HasLen wr g2 n 39) := M2
        have HH : Hid (Row wr g [.pointer pu, .slice (some ⟨g1, 0, none⟩) n n, .slice (some ⟨g2, 0, none⟩) n n, .float .f64 half, .slice (some ⟨g3, 0, none⟩) m m, .slice (some ⟨g4, 0, none⟩) m m, .slice (some ⟨g5, 0, none⟩) m m] 51) := hrow
        have HW : Hid (Kept [g1, g2] w1 wr) := hkk
        have hbk : (k : Int) < (n : Int) := by omega
        clear M1 M2 hrow hkk
        go_wp2_with fail
        go_region
        have k5 := ((Kept.setCell wr g1 k (.slice (some ⟨wr.heap.size, 0, none⟩) m m)).trans (Kept.alloc _ (.cells (Array.replicate m (.float .f64 0)) 25)) (by simp)).trans (Kept.drew _) (by simp)
        have N1 : HasLen _ g1 n 39 := ((M1'.out.setCell g1 k (.slice (some ⟨wr.heap.size, 0, none⟩) m m)).keep (Kept.alloc _ (.cells (Array.replicate m (.float .f64 0)) 25)) (by simp)).keep (Kept.drew _) (by simp)
        have N2 : HasLen _ g2 n 39 := ((M2'.out.setCell g1 k (.slice (some ⟨wr.heap.size, 0, none⟩) m m)).keep (Kept.alloc _ (.cells (Array.replicate m (.float .f64 0)) 25)) (by simp)).keep (Kept.drew _) (by simp)
        generalize hW5 : ((wr.setCell ⟨g1, k, none⟩ (.slice (some ⟨wr.heap.size, 0, none⟩) m m)).alloc (.cells (Array.replicate m (.float .f64 0)) 25)).drew = W5 at *
        have hrow5 := HH.out.keep k5 (by simp [n1])
        have c2 := hrow5.cell 2 rfl
        obtain ⟨x2, p2⟩ := N2.cell k hlt
        have f2 := N2.free k
        have hm0 := hrow5.lt
        have hm1 : g2 < W5.heap.size := by obtain ⟨_, h, _⟩ := N2; exact h.lt
        have hm0' : g ≠ W5.heap.size := by omega
        have hm1' : g2 ≠ W5.heap.size := by omega
        have N1' : Hid (HasLen W5 g1 n 39) := N1
        have N2' : Hid (HasLen W5 g2 n 39) := N2
        have HW5 : Hid (Kept [g1, g2] w1 W5) := HW.out.trans k5 (by simp)
        clear hW5 N1 N2 k5 hrow5 p1 f1 x1 hl0 hl1 hl0' hl1' c1 HH HW M1' M2'
        go_wp2_with fail
        go_region
        have k6 := ((Kept.setCell W5 g2 k (.slice (some ⟨W5.heap.size, 0, none⟩) m m)).trans (Kept.alloc _ (.cells (Array.replicate m (.float .f64 0)) 25)) (by simp)).trans (Kept.drew _) (by simp)
        have O1 : HasLen _ g1 n 39 := ((N1'.out.setCell g2 k (.slice (some ⟨W5.heap.size, 0, none⟩) m m)).keep (Kept.alloc _ (.cells (Array.replicate m (.float .f64 0)) 25)) (by simp)).keep (Kept.drew _) (by simp)
        have O2 : HasLen _ g2 n 39 := ((N2'.out.setCell g2 k (.slice (some ⟨W5.heap.size, 0, none⟩) m m)).keep (Kept.alloc _ (.cells (Array.replicate m (.float .f64 0)) 25)) (by simp)).keep (Kept.drew _) (by simp)
        go_wp2_with fail
        go_roundw
        case rel => exact ⟨k + 1, by omega, by go_num, O1, O2, HW5.out.trans k6 (by simp)⟩
        case measure => simp [intOf]; omega
      · obtain rfl : k = n := by omega
        have hz := HZ.out.keep hkk (by simp; omega)
        clear HZ HR M1 M2
        go_wp2_with (first | (refine wpList_loads rfl 51 _ rfl g 0 [.pointer pu, .slice (some ⟨g1, 0, none⟩) k k, .slice (some ⟨g2, 0, none⟩) k k, .float .f64 half, .slice (some ⟨g3, 0, none⟩) m m, .slice (some ⟨g4, 0, none⟩) m m, .slice (some ⟨g5, 0, none⟩) m m] _ rfl hrow Ybad.underlying51 rfl (by kernel_rfl) rfl ?_) | (refine wpList_stores rfl 51 _ _ rfl B 0 [.pointer pu, .slice (some ⟨g1, 0, none⟩) k k, .slice (some ⟨g2, 0, none⟩) k k, .float .f64 half, .slice (some ⟨g3, 0, none⟩) m m, .slice (some ⟨g4, 0, none⟩) m m, .slice (some ⟨g5, 0, none⟩) m m] rfl rfl hz (by kernel_rfl) (by simp) rfl ?_; intro w9 h9 k9 s9))
        refine bodyPost_cell 8 51 B [.pointer pu, .slice (some ⟨g1, 0, none⟩) k k, .slice (some ⟨g2, 0, none⟩) k k, .float .f64 half, .slice (some ⟨g3, 0, none⟩) m m, .slice (some ⟨g4, 0, none⟩) m m, .slice (some ⟨g5, 0, none⟩) m m] _ rfl rfl h9 Ybad.underlying51 rfl (by kernel_rfl) rfl rfl ⟨_, _, _, _, _, rfl, ?_⟩
        have hB := HB.out
        exact (HK.out.trans hkk (by simp; omega)).trans k9 (by simp; omega)
end Go.Proofs.YbulkjbuDoor
