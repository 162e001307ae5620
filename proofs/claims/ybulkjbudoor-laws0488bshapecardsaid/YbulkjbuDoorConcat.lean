/-
  Seat b0488aD (from the same prover's text for seat b0488a): slices.Grow of a nil slice, slices.Concat of two slices.
-/
import Derived.Test.YbulkjbuDoorOps
import Derived.Lib.AppendZeros
import Derived.Laws.AppendOwnNone
import Derived.LoopN
namespace Go.Proofs.YbulkjbuDoor
open Go.RowKit

/-- A slice of one-cell elements that the call has made: its elements are xs; it lies from block 'base' on. -/
def Sl (w : World) (base : Nat) (e : TypeId) (ad : Option Addr) (n cap : Nat) (xs : List Value) : Prop := w.ownsRow base e 1 (.slice ad n cap) n xs

theorem Sl.len {w : World} {base : Nat} {e : TypeId} {ad : Option Addr} {n cap : Nat} {xs : List Value} (h : Sl w base e ad n cap xs) : xs.length = n := by simpa using h.1
theorem Sl.cases {w : World} {base : Nat} {e : TypeId} {ad : Option Addr} {n cap : Nat} {xs : List Value} (h : Sl w base e ad n cap xs) :
    (ad = none ∧ n = 0 ∧ cap = 0 ∧ xs = []) ∨ ∃ g, ad = some ⟨g, 0, none⟩ ∧ base ≤ g ∧ g < w.heap.size ∧ (∀ j, j < n → w.cell? ⟨g, j, none⟩ = xs[j]?) ∧ (∀ j, w.frozen? ⟨g, j, none⟩ = false) := by
  obtain ⟨hl, h⟩ := h
  rcases h with ⟨hv, hn⟩ | ⟨g, c, cur, hv, hb, hh, h1, h2, h3, h4⟩
  · left
    simp only [Value.slice.injEq] at hv
    refine ⟨hv.1, hn, hv.2.2, ?_⟩
    subst hn; exact List.length_eq_zero_iff.1 (by simpa using hl)
  · right
    simp only [Value.slice.injEq] at hv
    obtain ⟨rfl, _, rfl⟩ := hv
    have own : w.ownsRow base e 1 (.slice (some ⟨g, 0, none⟩) n cap) n xs := ⟨hl, .inr ⟨g, cap, cur, rfl, hb, hh, h1, h2, h3, h4⟩⟩
    exact ⟨g, rfl, hb, lt_of_heap hh, fun j hj => own.cellAt j (by omega), fun j => own.frozenAt j⟩
theorem Sl.keep {w w' : World} {base : Nat} {e : TypeId} {ad : Option Addr} {n cap : Nat} {xs : List Value} {ws : List Nat} (h : Sl w base e ad n cap xs) (k : Kept ws w w') (hn : ∀ j ∈ ws, j < base ∨ w.heap.size ≤ j) : Sl w' base e ad n cap xs := by
  obtain ⟨hl, h⟩ := h
  refine ⟨hl, ?_⟩
  rcases h with h | ⟨g, c, cur, hv, hb, hh, r⟩
  · exact .inl h
  · have hlt := lt_of_heap hh
    exact .inr ⟨g, c, cur, hv, hb, (k.block g hlt (fun hm => by rcases hn g hm with h | h <;> omega)).trans hh, r⟩
theorem Sl.keep2 {w w' : World} {base : Nat} {e : TypeId} {ad : Option Addr} {n cap : Nat} {xs : List Value} {ws : List Nat} (h : Sl w base e ad n cap xs) (k : Kept ws w w') (hn : ∀ g, ad = some ⟨g, 0, none⟩ → g ∉ ws) : Sl w' base e ad n cap xs := by
  obtain ⟨hl, h⟩ := h
  refine ⟨hl, ?_⟩
  rcases h with h | ⟨g, c, cur, hv, hb, hh, r⟩
  · exact .inl h
  · have hlt := lt_of_heap hh
    simp only [Value.slice.injEq] at hv
    exact .inr ⟨g, c, cur, by simp [hv], hb, (k.block g hlt (hn g hv.1)).trans hh, r⟩
theorem Sl.lt' {w : World} {base : Nat} {e : TypeId} {ad : Option Addr} {n cap : Nat} {xs : List Value} (h : Sl w base e ad n cap xs) (g : Nat) (hg : ad = some ⟨g, 0, none⟩) : base ≤ g ∧ g < w.heap.size := by
  rcases h.cases with ⟨h0, _⟩ | ⟨g', hg', h1, h2, _⟩
  · rw [h0] at hg; simp at hg
  · rw [hg] at hg'; simp at hg'; subst hg'; exact ⟨h1, h2⟩
theorem Sl.mono {w : World} {base base' : Nat} {e : TypeId} {ad : Option Addr} {n cap : Nat} {xs : List Value} (h : Sl w base e ad n cap xs) (hb : base' ≤ base) : Sl w base' e ad n cap xs := by
  obtain ⟨hl, h⟩ := h
  refine ⟨hl, ?_⟩
  rcases h with h | ⟨g, c, cur, hv, hbb, r⟩
  · exact .inl h
  · exact .inr ⟨g, c, cur, hv, by omega, r⟩
theorem Sl.row {w : World} {base : Nat} {e : TypeId} {ad : Option Addr} {n cap : Nat} {xs : List Value} (h : Sl w base e ad n cap xs) (j : Nat) (hj : j ∈ (Value.slice ad n cap).ownBlock.toList) : base ≤ j ∧ j < w.heap.size :=
  h.lt j (by simpa using hj)
theorem Sl.nil (w : World) (base : Nat) (e : TypeId) : Sl w base e none 0 0 [] := World.ownsRow_nil w base e 1
theorem Sl.shape {w : World} {base : Nat} {e : TypeId} {v : Value} {n : Nat} {xs : List Value} (h : w.ownsRow base e 1 v n xs) : ∃ ad cap, v = .slice ad n cap ∧ Sl w base e ad n cap xs := by
  have h0 := h
  obtain ⟨hl, h⟩ := h
  rcases h with ⟨hv, hn⟩ | ⟨g, c, cur, hv, r⟩
  · subst hn; exact ⟨none, 0, hv, by rw [hv] at h0; exact h0⟩
  · exact ⟨_, c, hv, by rw [hv] at h0; exact h0⟩

/-- 'append(s, x...)' of two such slices, strings of type 9. -/
theorem wpList_append_sl {P : Program} {w : World} {ops : Array Oper} {rest : List Oper} {o : Oper} {a : Act} {Q : Exit → Act → World → Prop} (hgd : o.guard = none) (s x : Operand) (t e : TypeId)
    (ho : o.op = .call { callee := .builtin .append, args := #[s, x], argTypes := #[t, t] })
    (base : Nat) (i : TypeInfo) (z : Value) (bytes : Nat) (ht : P.underlying t = some (.slice e)) (hi : P.info? e = some i) (hz : i.zero = some z) (hsize : i.size = 1) (hby : i.bytes = bytes) (hzs : z.cells.size = 1)
    (ad : Option Addr) (n cap : Nat) (xs : List Value) (hs : a.eval s = .slice ad n cap) (hown : Sl w base e ad n cap xs)
    (base2 : Nat) (ad2 : Option Addr) (m cap2 : Nat) (ys : List Value) (hx : a.eval x = .slice ad2 m cap2) (hown2 : Sl w base2 e ad2 m cap2 ys) (h1 : ∀ u ∈ ys, u.oneCell' = true)
    (h63 : n + m ≤ maxLen) (hbytes : (n + m) * bytes ≤ 140737488355328) (hbase : base ≤ w.heap.size)
    (h : ∀ ad' cap' w', Sl w' base e ad' (n + m) cap' (xs ++ ys) → w.grownBy w' (Value.slice ad n cap).ownBlock → wpList P ops Q rest (a.put o.dst (.slice ad' (n + m) cap')) w') : wpList P ops Q (o :: rest) a w := by
  rcases hown2.cases with ⟨rfl, rfl, rfl, rfl⟩ | ⟨g, rfl, hb2, hlt, hcell, _⟩
  · refine wpList_append_own_none hgd s x t ho base e i 1 ht hi _ n xs hs hown hx ?_
    have := h ad cap w (by simpa using hown) ⟨rfl, rfl, rfl, Nat.le_refl _, fun _ _ _ => rfl⟩
    simpa using this
  · refine wpList_append_own w hgd s x t ho base e i z 1 bytes ht hi hz hsize hby hzs (by decide) _ n xs hs hown ⟨g, 0, none⟩ m cap2 ys hx (by simpa using hown2.len) ?_ h1 h63 hbytes hbase ?_
    · intro j u hj
      have hjl : j < m := by have := (List.getElem?_eq_some_iff.1 hj).1; have := hown2.len; omega
      rw [← hj, ← hcell j hjl]
      by_cases h0 : j = 0 <;> simp [Addr.add, h0]
    · intro v' w' hown' hgrow _
      obtain ⟨ad', cap', rfl, hsl⟩ := Sl.shape hown'
      exact h ad' cap' w' hsl hgrow

theorem Sl.cut {w : World} {base : Nat} {e : TypeId} {ad : Option Addr} {n cap : Nat} {xs : List Value} (h : Sl w base e ad n cap xs) (m : Nat) (hm : m ≤ n) (hne : ad ≠ none) : Sl w base e ad m cap (xs.take m) := by
  obtain ⟨hl, h⟩ := h
  refine ⟨by simp at hl ⊢; omega, ?_⟩
  rcases h with ⟨hv, hn⟩ | ⟨g, c, cur, hv, hb, hh, h1, h2, h3, h4⟩
  · simp at hv; exact absurd hv.1 hne
  · simp only [Value.slice.injEq] at hv
    obtain ⟨rfl, _, rfl⟩ := hv
    refine .inr ⟨g, cap, cur, rfl, hb, hh, by omega, h2, h3, ?_⟩
    rw [← h4, List.take_take]; congr 1; omega

/-- 'append([]T(nil), make([]T, n)...)', n not 0. -/
theorem wpList_append_zeros {P : Program} {w : World} {ops : Array Oper} {rest : List Oper} {o : Oper} {a : Act} {Q : Exit → Act → World → Prop} (hgd : o.guard = none) (s x : Operand) (t tn e : TypeId)
    (ho : o.op = .call { callee := .builtin .append, args := #[s, x], argTypes := #[t, tn] })
    (i : TypeInfo) (z : Value) (k kn : IntKind) (ht : P.underlying t = some (.slice e)) (htn : P.underlying tn = some (.int kn)) (hi : P.info? e = some i) (hz : i.zero = some z) (hs1 : i.size = 1) (hzs : z.cells.size = 1)
    (n : Nat) (h0 : 0 < n) (h63 : (n : Int) ≤ 9223372036854775807) (h48 : n * i.bytes ≤ 281474976710656) (hs : a.eval s = .slice none 0 0) (hx : a.eval x = .int k n)
    (h : ∀ cap w', Sl w' w.heap.size e (some ⟨w.heap.size, 0, none⟩) 0 cap [] → n ≤ cap → Kept [] w w' → wpList P ops Q rest (a.put o.dst (.slice (some ⟨w.heap.size, 0, none⟩) n cap)) w') : wpList P ops Q (o :: rest) a w := by
  refine wpList_plain hgd fun K hK => ?_
  have hrun := Lib.run_append_nil_zeros (P := P) w t tn o.type e i z k kn ht htn hi hz n h0 (by omega) h63 h48
  unfold Oper.wp
  simp [execOp, ho, resolve, invoke, builtin, hs, hx, hrun, Result.andThen]
  have hge := grownCap_ge w n 0 e
  have hcm : grownCap w n 0 e ≤ maxLen := grownCap_le_maxLen w n 0 e (by unfold maxLen; omega)
  refine hK _ _ (h _ _ ?_ hge ?_)
  · refine ⟨by simp, .inr ⟨w.heap.size, _, _, rfl, Nat.le_refl _, (MapKept.heap_alloc w.drew _).1, Nat.zero_le _, hcm, ?_, by simp⟩⟩
    simp [Builtin.zeroCells, hzs]; omega
  · exact (Kept.drew w).trans (Kept.alloc _ _) (by simp)

theorem Ybad.info9 : (Ybad.prog.info? 9).map (fun i => (i.zero, i.size, i.bytes)) = some (some (.string ⟨#[]⟩), 1, 16) := by kernel_rfl

set_option maxRecDepth 100000 in
set_option maxHeartbeats 400000 in
/-- slices.Grow(nil, n). -/
theorem grow_nil (n : Nat) (w : World) (hn : n ≤ 1000) :
    Calls Ybad.prog 30 #[.slice none 0 0, .int .i64 n] w fun e w' => ∃ ad cap, e = .returned (.slice ad 0 cap) ∧ Sl w' w.heap.size 9 ad 0 cap [] ∧ Kept [] w w' := by
  obtain ⟨i0, hi, hz0, hz1, hz2⟩ := info_parts Ybad.info9
  have b1 : (n : Int) ≤ 1000 := by omega
  by_cases h0 : n = 0
  · subst h0
    go_enter Ybad.func30, Ybad.ntmps30
    go_wp2
    go_ret
    exact ⟨none, 0, rfl, Sl.nil _ _ _, Kept.refl _ _⟩
  · have hp : (0 : Int) < n := by omega
    go_enter Ybad.func30, Ybad.ntmps30
    go_wp2_with (at_builtin; refine wpList_append_zeros rfl _ _ 27 3 9 rfl i0 (.string ⟨#[]⟩) .i64 .i64 Ybad.underlying27 Ybad.underlying3 hi hz0 hz1 rfl n (by omega) (by omega) (by rw [hz2]; omega) rfl rfl ?_; intro cap w1 hsl hcap hk)
    go_ret
    exact ⟨_, _, rfl, hsl, hk⟩

theorem grow_nil' (n : Nat) (z : Int) (w : World) (hz : z = n) (hn : n ≤ 1000) :
    Calls Ybad.prog 30 #[.slice none 0 0, .int .i64 z] w fun e w' => ∃ ad cap, e = .returned (.slice ad 0 cap) ∧ Sl w' w.heap.size 9 ad 0 cap [] ∧ Kept [] w w' := by
  subst hz; exact grow_nil n w hn

theorem Kept.cell {w w' : World} {ws : List Nat} (h : Kept ws w w') {b o : Nat} {v : Value} (hc : w.cell? ⟨b, o, none⟩ = some v) (hn : b ∉ ws := by simp) : w'.cell? ⟨b, o, none⟩ = some v := by
  have hb : b < w.heap.size := by
    apply Classical.byContradiction
    intro hx
    have e : w.heap[b]? = none := by simp; omega
    simp [World.cell?, e] at hc
  rw [World.cell?_of_block (w := w) (h.block b hb hn)]; exact hc

set_option maxRecDepth 100000 in
set_option maxHeartbeats 1000000 in
/-- slices.Concat of two slices. -/
theorem concat_two (q b1 b2 : Nat) (a1 a2 : Option Addr) (n1 n2 c1 c2 : Nat) (xs ys : List Value) (w : World) (h1 : n1 ≤ 300) (h2 : n2 ≤ 300)
    (k0 : w.cell? ⟨q, 0, none⟩ = some (.slice a1 n1 c1)) (k1 : w.cell? ⟨q, 1, none⟩ = some (.slice a2 n2 c2)) (s1 : Sl w b1 9 a1 n1 c1 xs) (s2 : Sl w b2 9 a2 n2 c2 ys)
    (o1 : ∀ u ∈ xs, u.oneCell' = true) (o2 : ∀ u ∈ ys, u.oneCell' = true) :
    Calls Ybad.prog 22 #[.slice (some ⟨q, 0, none⟩) 2 2] w fun e w' => ∃ ad cap, e = .returned (.slice ad (n1 + n2) cap) ∧ Sl w' w.heap.size 9 ad (n1 + n2) cap (xs ++ ys) ∧ Kept [] w w' := by
  obtain ⟨i0, hi, hz0, hz1, hz2⟩ := info_parts Ybad.info9
  have e1 : (n1 : Int) ≤ 300 := by omega
  have e2 : (n2 : Int) ≤ 300 := by omega
  go_enter Ybad.func22, Ybad.ntmps22
  go_wp2_with fail
  refine wp_loop_rounds 3 ?_
  rw [rounds_succ]
  go_wp2_with fail
  rw [rounds_succ]
  go_wp2_with fail
  rw [rounds_succ]
  go_wp2_with fail
  refine (grow_nil' (n1 + n2) _ _ (by omega) (by omega)).mono ?_
  rintro e w1 ⟨ad1, cap1, rfl, g1, kk1⟩
  have l0 := kk1.cell k0
  have l1 := kk1.cell k1
  have t1 := s1.keep kk1 (by simp)
  have hs1 := kk1.size
  have HK1 : Hid (Kept [] w w1) := kk1
  have HS1 : Hid (Sl w1 b1 9 a1 n1 c1 xs) := t1
  have HS2 : Hid (Sl w b2 9 a2 n2 c2 ys) := s2
  clear kk1 t1 s1 s2
  go_wp2_with fail
  refine wp_loop_rounds 3 ?_
  rw [rounds_succ]
  go_wp2_with (at_builtin; refine wpList_append_sl rfl _ _ 27 9 rfl w.heap.size i0 (.string ⟨#[]⟩) 16 Ybad.underlying27 hi hz0 hz1 hz2 rfl _ _ _ _ rfl g1 b1 _ _ _ _ rfl HS1.out o1 (by unfold maxLen; omega) (by omega) (by omega) ?_; intro ad2 cap2 w2 g2 gr2; simp only [Nat.zero_add, List.nil_append] at g2)
  have K2 : Kept [] w w2 := HK1.out.trans (Kept.grown gr2) (fun j hj => .inr (g1.row j hj).1)
  have l0' := K2.cell k0
  have l1' := K2.cell k1
  have t2 := HS2.out.keep K2 (by simp)
  have hs2 := K2.size
  have HK2 : Hid (Kept [] w w2) := K2
  have HT2 : Hid (Sl w2 b2 9 a2 n2 c2 ys) := t2
  clear l0 l1 HK1 HS1 HS2 K2 t2 gr2 g1
  rw [rounds_succ]
  go_wp2_with (at_builtin; refine wpList_append_sl rfl _ _ 27 9 rfl w.heap.size i0 (.string ⟨#[]⟩) 16 Ybad.underlying27 hi hz0 hz1 hz2 rfl _ _ _ _ rfl g2 b2 _ _ _ _ rfl HT2.out o2 (by unfold maxLen; omega) (by omega) (by omega) ?_; intro ad3 cap3 w3 g3 gr3)
  have K3 : Kept [] w w3 := HK2.out.trans (Kept.grown gr3) (fun j hj => .inr (g2.row j hj).1)
  have HK3 : Hid (Kept [] w w3) := K3
  clear l0' l1' HK2 HT2 K3 gr3 g2 k0 k1
  rw [rounds_succ]
  go_wp2_with fail
  go_ret
  exact ⟨ad3, cap3, rfl, g3, HK3.out⟩
end Go.Proofs.YbulkjbuDoor
