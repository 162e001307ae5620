/-
  Seat b0488aD: a region that draws its order, whose operations (all but the last ones) only make: each leaves a value of which something is true that no later making breaks. ONE proof an operation, not one an order. Whatever the program.
-/
import Derived.Test.YbulkjbuDoorBase
import Derived.Orders
namespace Go.Proofs.YbulkjbuDoor
open Go

section
variable {P : Program} {md : Region.Mode} {ops : Array Oper} {Q : Exit → Act → World → Prop}

/-- What is known in the midst of the region: which of the first m operations have run, what they left, and that all else is as it was. -/
structure Flow (ops : Array Oper) (m : Nat) (R : Nat → Value → World → Prop) (a0 : Act) (w0 : World) (listed : Array Bool) (a : Act) (w : World) : Prop where
  defers : a.defers = a0.defers
  size : a.tmps.size = a0.tmps.size
  other : ∀ t, (∀ i o, i < m → ops[i]? = some o → o.dst ≠ some t) → a.tmps.getD t undef = a0.tmps.getD t undef
  done : ∀ i o d, i < m → listed.getD i false = true → ops[i]? = some o → o.dst = some d → R i (a.tmps.getD d undef) w
  kept : Kept [] w0 w

/-- What an operation of the region is asked for. -/
def FlowOp (P : Program) (md : Region.Mode) (ops : Array Oper) (Q : Exit → Act → World → Prop) (m : Nat) (R : Nat → Value → World → Prop) (a0 : Act) (w0 : World) (i : Nat) (o : Oper) : Prop :=
  ∀ a w, (∀ t, (∀ i o, i < m → ops[i]? = some o → o.dst ≠ some t) → a.tmps.getD t undef = a0.tmps.getD t undef) →
    (∀ e ∈ o.after.toList, Region.binds md e = true → ∀ oj d, ops[e.on]? = some oj → oj.dst = some d → R e.on (a.tmps.getD d undef) w) → Kept [] w0 w →
    o.wp P a w (fun a' w' => ∃ v, a' = a.put o.dst v ∧ R i v w' ∧ Kept [] w w') Q

theorem ready_mem {listed : Array Bool} {i : Nat} (h : i ∈ Region.ready md ops listed) : i < ops.size ∧ listed.getD i true = false ∧ ∃ o, ops[i]? = some o ∧ ∀ e ∈ o.after.toList, Region.binds md e = true → listed.getD e.on false = true := by
  unfold Region.ready at h
  simp only [List.mem_filter, List.mem_range, Bool.and_eq_true, Bool.not_eq_true'] at h
  obtain ⟨h1, h2, h3⟩ := h
  refine ⟨h1, h2, ops[i], by simp [h1], fun e he hb => ?_⟩
  have hg : ops[i]? = some ops[i] := by simp [h1]
  rw [hg] at h3
  simp only [Option.map_some, Option.getD_some, Array.all_eq_true_iff_forall_mem] at h3
  have := h3 e (by simpa using he)
  simpa [hb] using this
theorem mem_ready {listed : Array Bool} {i : Nat} {o : Oper} (ho : ops[i]? = some o) (hl : listed.getD i true = false) (h : ∀ e ∈ o.after.toList, Region.binds md e = true → listed.getD e.on false = true) : i ∈ Region.ready md ops listed := by
  have hi : i < ops.size := (Array.getElem?_eq_some_iff.1 ho).1
  unfold Region.ready
  simp only [List.mem_filter, List.mem_range, Bool.and_eq_true, Bool.not_eq_true']
  refine ⟨hi, hl, ?_⟩
  rw [ho]
  simp only [Option.map_some, Option.getD_some, Array.all_eq_true_iff_forall_mem]
  intro e he
  cases hb : Region.binds md e with
  | false => simp
  | true => simpa [hb] using h e (by simpa using he) hb

theorem getD_set (a : Array Bool) (i j : Nat) (h : i < a.size) (d : Bool) : (a.setIfInBounds i true).getD j d = if j = i then true else a.getD j d := by
  simp only [Array.getD_eq_getD_getElem?, Array.getElem?_setIfInBounds]
  by_cases e : i = j
  · subst e; simp [h]
  · have : j ≠ i := fun h => e h.symm
    simp [e, this]

/-- How many of the first m are still to come. -/
def toCome (listed : Array Bool) (m : Nat) : Nat := ((List.range m).filter fun i => !listed.getD i false).length

theorem toCome_set (listed : Array Bool) (m i : Nat) (hi : i < m) (hs : i < listed.size) (h : listed.getD i false = false) : toCome (listed.setIfInBounds i true) m + 1 = toCome listed m := by
  unfold toCome
  induction m with
  | zero => omega
  | succ m ih =>
    rw [List.range_succ, List.filter_append, List.filter_append, List.length_append, List.length_append]
    by_cases e : i = m
    · subst e
      have e1 : (List.range i).filter (fun j => !(listed.setIfInBounds i true).getD j false) = (List.range i).filter (fun j => !listed.getD j false) := by
        apply List.filter_congr
        intro j hj
        have := List.mem_range.1 hj
        rw [getD_set _ _ _ hs, if_neg (by omega)]
      have e2 : (listed.setIfInBounds i true).getD i false = true := by rw [getD_set _ _ _ hs, if_pos rfl]
      rw [e1, List.filter_cons, List.filter_cons, e2, h]
      rfl
    · have := ih (by omega)
      have hm : (listed.setIfInBounds i true).getD m false = listed.getD m false := by rw [getD_set _ _ _ hs, if_neg (by omega)]
      simp only [List.filter_cons, List.filter_nil, hm]
      omega

theorem toCome_zero {listed : Array Bool} {m : Nat} (h : toCome listed m = 0) : ∀ i, i < m → listed.getD i false = true := by
  intro i hi
  unfold toCome at h
  have := List.length_eq_zero_iff.1 h
  rw [List.filter_eq_nil_iff] at this
  have := this i (List.mem_range.2 hi)
  simpa using this

theorem exists_first {listed : Array Bool} {m : Nat} (h : toCome listed m ≠ 0) : ∃ i, i < m ∧ listed.getD i false = false ∧ ∀ j, j < i → listed.getD j false = true := by
  induction m with
  | zero => simp [toCome] at h
  | succ m ih =>
    by_cases h0 : toCome listed m = 0
    · refine ⟨m, by omega, ?_, toCome_zero h0⟩
      unfold toCome at h h0
      rw [List.range_succ, List.filter_append, List.length_append, h0] at h
      cases hm : listed.getD m false with
      | false => rfl
      | true =>
        rw [List.filter_cons, hm] at h
        exact absurd rfl h
    · obtain ⟨i, h1, h2, h3⟩ := ih h0
      exact ⟨i, by omega, h2, h3⟩

/-- The first m have run, none of the rest has. -/
def ranM (n m : Nat) : Array Bool := Array.replicate m true ++ Array.replicate (n - m) false

theorem put_getD (a : Act) (d t : Nat) (v : Value) (hd : d < a.tmps.size) : (a.put (some d) v).tmps.getD t undef = if t = d then v else a.tmps.getD t undef := by
  simp only [Act.put, Array.getD_eq_getD_getElem?, Array.getElem?_setIfInBounds]
  by_cases e : d = t
  · subst e; simp [hd]
  · have : t ≠ d := fun h => e h.symm
    simp [e, this]

/-- What has run ran behind what it waits for. -/
def Closed (md : Region.Mode) (ops : Array Oper) (listed : Array Bool) : Prop := ∀ i o, listed.getD i false = true → ops[i]? = some o → ∀ e ∈ o.after.toList, Region.binds md e = true → listed.getD e.on false = true

/-- THE LAW. -/
theorem wpAny_flow {m : Nat} {R : Nat → Value → World → Prop} {a0 : Act} {w0 : World} {rest : Nat} (hm : m ≤ ops.size)
    (hback : ∀ i o, i < m → ops[i]? = some o → o.guard = none ∧ (∃ d, o.dst = some d ∧ d < a0.tmps.size) ∧ ∀ e ∈ o.after.toList, e.on < i)
    (hdist : ∀ i j o p, i < m → j < m → ops[i]? = some o → ops[j]? = some p → o.dst = p.dst → i = j)
    (hlate : ∀ i o, m ≤ i → ops[i]? = some o → ∀ listed : Array Bool, Closed md ops listed → (∀ e ∈ o.after.toList, Region.binds md e = true → listed.getD e.on false = true) → ∀ j, j < m → listed.getD j false = true)
    (hkeep : ∀ i v w w', Kept [] w w' → R i v w → R i v w')
    (hop : ∀ i o, i < m → ops[i]? = some o → FlowOp P md ops Q m R a0 w0 i o)
    (hfin : ∀ a w, Flow ops m R a0 w0 (ranM ops.size m) a w → wpAny P md ops Q rest (ranM ops.size m) a w) :
    ∀ (k : Nat) (listed : Array Bool) (a : Act) (w : World), listed.size = ops.size → (∀ i, m ≤ i → listed.getD i false = false) → toCome listed m = k → Closed md ops listed → Flow ops m R a0 w0 listed a w → wpAny P md ops Q (k + rest) listed a w := by
  intro k
  induction k with
  | zero =>
    intro listed a w hs hl hk hcl hf
    have e : listed = ranM ops.size m := by
      have hz := toCome_zero hk
      apply Array.ext
      · simp [ranM, hs]; omega
      · intro i h1 h2
        have e1 : listed[i] = listed.getD i false := by simp [h1]
        rw [e1]
        by_cases hi : i < m
        · rw [hz i hi]; simp [ranM, hi]
        · rw [hl i (by omega)]; simp [ranM, Array.getElem_append, hi]
    subst e
    rw [Nat.zero_add]
    exact hfin a w hf
  | succ k ih =>
    intro listed a w hs hl hk hcl hf
    rw [show k + 1 + rest = (k + rest) + 1 by omega]
    refine ⟨fun h0 => ?_, fun i hi => ?_⟩
    · exfalso
      obtain ⟨i, h1, h2, h3⟩ := exists_first (listed := listed) (m := m) (by omega)
      have hg : ops[i]? = some ops[i] := by simp
      have hlt : listed.getD i true = false := by
        have : i < listed.size := by omega
        simp [this] at h2 ⊢; exact h2
      have := mem_ready (md := md) hg hlt (fun e he _ => h3 _ ((hback i _ h1 hg).2.2 e he))
      rw [h0] at this
      cases this
    · obtain ⟨hi1, hi2, o, ho, hdep⟩ := ready_mem hi
      have him : i < m := by
        apply Classical.byContradiction
        intro hge
        obtain ⟨j, h1, h2, _⟩ := exists_first (listed := listed) (m := m) (by omega)
        have := hlate i o (by omega) ho listed hcl hdep j h1
        rw [h2] at this
        cases this
      obtain ⟨hg, ⟨d, hd, hds⟩, hbk⟩ := hback i o him ho
      have hw : Region.wanted o (yielded ops a.tmps) = true := by simp [Region.wanted, hg]
      have hli : listed.getD i false = false := by
        have : i < listed.size := by omega
        simp [this] at hi2 ⊢; exact hi2
      unfold wpOp
      simp only [ho, hw, if_true]
      refine .inl (Oper.wp_mono ?_ (hop i o him ho a w hf.other (fun e he hb oj d hj hd => hf.done e.on oj d (by have := hbk e he; omega) (hdep e he hb) hj hd) hf.kept))
      rintro a' w' ⟨v, rfl, hR, hK⟩
      refine ih _ _ _ (by simp [hs]) (fun j hj => ?_) ?_ ?_ ?_
      · rw [getD_set _ _ _ (by omega), if_neg (by omega)]; exact hl j hj
      · have := toCome_set listed m i him (by omega) hli; omega
      · intro j oj hj hoj e he hb
        rw [getD_set _ _ _ (by omega)] at hj ⊢
        split
        · rfl
        · by_cases e1 : j = i
          · subst e1
            rw [ho] at hoj; cases hoj
            exact hdep e he hb
          · rw [if_neg e1] at hj
            exact hcl j oj hj hoj e he hb
      · rw [hd]
        have hds' : d < a.tmps.size := by rw [hf.size]; exact hds
        refine ⟨hf.defers, by simp [Act.put, hf.size], fun t ht => ?_, fun j oj dj hj hlj hoj hdj => ?_, hf.kept.trans hK (by simp)⟩
        · rw [put_getD _ _ _ _ hds', if_neg (fun e => ht i o him ho (by rw [hd, e]))]
          exact hf.other t ht
        · rw [put_getD _ _ _ _ hds']
          by_cases e : j = i
          · subst e
            rw [ho] at hoj; cases hoj
            rw [hd] at hdj; cases hdj
            rw [if_pos rfl]; exact hR
          · have hne : dj ≠ d := fun h => e (hdist j i oj o hj him hoj ho (by rw [hdj, hd, h]))
            rw [if_neg hne]
            rw [getD_set _ _ _ (by omega), if_neg e] at hlj
            exact hkeep j _ _ _ hK (hf.done j oj dj hj hlj hoj hdj)

theorem getD_of_lt (a : Array Value) (t : Nat) (h : t < a.size) : a[t] = a.getD t undef := by
  rw [Array.getD_eq_getD_getElem?, Array.getElem?_eq_getElem h]; rfl
theorem ranM_last (m : Nat) : (ranM (m + 1) m).getD m true = false := by
  unfold ranM
  rw [Array.getD_eq_getD_getElem?, Array.getElem?_append_right (by simp)]
  simp
theorem rep_getD (n i : Nat) : (Array.replicate n false).getD i false = false := by
  rw [Array.getD_eq_getD_getElem?, Array.getElem?_replicate]
  split <;> rfl
/-- The slot that operation i leaves its value in. -/
def dstOf (ops : Array Oper) (i : Nat) : Option Tmp := (ops[i]?).bind (·.dst)
/-- The frame, behind the listed operations. -/
def puts (ops : Array Oper) (vs : Nat → Value) (l : List Nat) (a : Act) : Act := l.foldl (fun acc i => acc.put (dstOf ops i) (vs i)) a

theorem puts_defers (vs : Nat → Value) : ∀ (l : List Nat) (a : Act), (puts ops vs l a).defers = a.defers
  | [], a => rfl
  | i :: l, a => by
    show (puts ops vs l (a.put (dstOf ops i) (vs i))).defers = a.defers
    rw [puts_defers vs l]
    cases dstOf ops i <;> rfl
theorem puts_size (vs : Nat → Value) : ∀ (l : List Nat) (a : Act), (puts ops vs l a).tmps.size = a.tmps.size
  | [], a => rfl
  | i :: l, a => by
    show (puts ops vs l (a.put (dstOf ops i) (vs i))).tmps.size = a.tmps.size
    rw [puts_size vs l]
    cases dstOf ops i <;> simp [Act.put]
theorem puts_getD (b : Act) : ∀ (l : List Nat) (a : Act) (t : Nat), (∀ i ∈ l, ∀ d, dstOf ops i = some d → d < a.tmps.size) →
    (puts ops (fun i => b.tmps.getD ((dstOf ops i).getD 0) undef) l a).tmps.getD t undef = if (∃ i ∈ l, dstOf ops i = some t) then b.tmps.getD t undef else a.tmps.getD t undef
  | [], a, t, _ => by simp [puts]
  | i :: l, a, t, h => by
    show (puts ops _ l (a.put (dstOf ops i) (b.tmps.getD ((dstOf ops i).getD 0) undef))).tmps.getD t undef = _
    rw [puts_getD b l _ t (fun j hj d hd => by
      have := h j (List.mem_cons_of_mem _ hj) d hd
      cases dstOf ops i <;> simp [Act.put] <;> exact this)]
    by_cases h1 : ∃ j ∈ l, dstOf ops j = some t
    · obtain ⟨j, hj, hd⟩ := h1
      rw [if_pos ⟨j, hj, hd⟩, if_pos ⟨j, List.mem_cons_of_mem _ hj, hd⟩]
    · rw [if_neg h1]
      cases hd : dstOf ops i with
      | none =>
        rw [if_neg]
        · rfl
        · rintro ⟨j, hj, hdj⟩
          rcases List.mem_cons.1 hj with rfl | hj
          · rw [hd] at hdj; cases hdj
          · exact h1 ⟨j, hj, hdj⟩
      | some d =>
        rw [put_getD _ _ _ _ (h i (List.mem_cons_self ..) d hd)]
        by_cases e : t = d
        · subst e
          rw [if_pos rfl, if_pos ⟨i, List.mem_cons_self .., hd⟩]; rfl
        · rw [if_neg e, if_neg]
          rintro ⟨j, hj, hdj⟩
          rcases List.mem_cons.1 hj with rfl | hj
          · rw [hd] at hdj; exact e (by cases hdj; rfl)
          · exact h1 ⟨j, hj, hdj⟩

theorem Flow.frame {m : Nat} {R : Nat → Value → World → Prop} {a0 a : Act} {w0 w : World} {listed : Array Bool} (h : Flow ops m R a0 w0 listed a w) (hd : ∀ i o, i < m → ops[i]? = some o → ∃ d, o.dst = some d ∧ d < a0.tmps.size) (hm : m ≤ ops.size) :
    a = puts ops (fun i => a.tmps.getD ((dstOf ops i).getD 0) undef) (List.range m) a0 := by
  have hdd : ∀ i, i < m → ∃ d, dstOf ops i = some d ∧ d < a0.tmps.size := fun i hi => by
    have hg : ops[i]? = some (ops[i]'(by omega)) := by simp
    obtain ⟨d, h1, h2⟩ := hd i _ hi hg
    exact ⟨d, by simp [dstOf, hg, h1], h2⟩
  obtain ⟨ta, da⟩ := a
  have e1 : da = (puts ops (fun i => ta.getD ((dstOf ops i).getD 0) undef) (List.range m) a0).defers := by rw [puts_defers]; exact h.defers
  have e2 : ta = (puts ops (fun i => ta.getD ((dstOf ops i).getD 0) undef) (List.range m) a0).tmps := by
    apply Array.ext
    · rw [puts_size]; exact h.size
    · intro t h1 h2
      have g := puts_getD (ops := ops) ⟨ta, da⟩ (List.range m) a0 t (fun i hi d hd => by
        obtain ⟨d', h1, h2⟩ := hdd i (List.mem_range.1 hi)
        rw [hd] at h1; cases h1; exact h2)
      have x1 : ta[t] = ta.getD t undef := getD_of_lt _ _ h1
      have x2 : (puts ops (fun i => ta.getD ((dstOf ops i).getD 0) undef) (List.range m) a0).tmps[t] = (puts ops (fun i => ta.getD ((dstOf ops i).getD 0) undef) (List.range m) a0).tmps.getD t undef := getD_of_lt _ _ h2
      rw [x1, x2]
      refine Eq.trans ?_ g.symm
      by_cases hex : ∃ i ∈ List.range m, dstOf ops i = some t
      · rw [if_pos hex]
      · rw [if_neg hex]
        exact h.other t (fun i o hi ho e => hex ⟨i, List.mem_range.2 hi, by simp [dstOf, ho, e]⟩)
  calc (⟨ta, da⟩ : Act) = ⟨(puts ops (fun i => ta.getD ((dstOf ops i).getD 0) undef) (List.range m) a0).tmps, (puts ops (fun i => ta.getD ((dstOf ops i).getD 0) undef) (List.range m) a0).defers⟩ := by rw [← e1, ← e2]
    _ = _ := rfl

theorem toCome_none (n : Nat) : ∀ m, m ≤ n → toCome (Array.replicate n false) m = m
  | 0, _ => rfl
  | m + 1, h => by
    have ih := toCome_none n m (by omega)
    unfold toCome at ih ⊢
    rw [List.range_succ, List.filter_append, List.length_append, ih]
    have : m < n := by omega
    simp [this]

/-- A region that draws its order, of m operations that make and one last that stores. -/
theorem wp_region_flow {id m : Nat} {R : Nat → Value → World → Prop} {a0 : Act} {w : World} {ol : Oper} (hmix : P.follows .mixedOrders = true) (hn : ops.size = m + 1) (hl : ops[m]? = some ol) (hlg : ol.guard = none)
    (hback : ∀ i o, i < m → ops[i]? = some o → o.guard = none ∧ (∃ d, o.dst = some d ∧ d < a0.tmps.size) ∧ ∀ e ∈ o.after.toList, e.on < i)
    (hdist : ∀ i j o p, i < m → j < m → ops[i]? = some o → ops[j]? = some p → o.dst = p.dst → i = j)
    (hlate : ∀ j, j < m → ∃ k, j < k ∧ k ≤ m ∧ ∃ ok, ops[k]? = some ok ∧ ∃ e ∈ ok.after.toList, Region.binds .any e = true ∧ e.on = j) (hlate2 : ∀ e ∈ ol.after.toList, e.on < m)
    (hkeep : ∀ i v w w', Kept [] w w' → R i v w → R i v w')
    (hop : ∀ i o, i < m → ops[i]? = some o → FlowOp P .any ops Q m R a0 w.drew i o)
    (hfin : ∀ (vs : Nat → Value) (w' : World), (∀ i, i < m → R i (vs i) w') → Kept [] w w' → ol.wp P (puts ops vs (List.range m) a0) w' (fun a w => Q .normal a w) Q) :
    (Code.region id ops true).wp P Q a0 w := by
  refine wp_region_any hmix ?_
  rw [hn]
  refine wpAny_flow (R := R) (a0 := a0) (w0 := w.drew) (by omega) hback hdist (fun i o hi ho => ?_) hkeep hop ?_ m _ a0 w.drew (by simp [hn]) (fun i hi => ?_) (by rw [← hn]; exact toCome_none _ _ (by omega)) (fun i o hi => by rw [rep_getD] at hi; cases hi) ?_
  · have him : i = m := by have := (Array.getElem?_eq_some_iff.1 ho).1; omega
    subst him
    rw [hl] at ho; cases ho
    intro listed hcl hdep j hj
    obtain ⟨n, hn'⟩ : ∃ n, n = i - j := ⟨_, rfl⟩
    induction n using Nat.strongRecOn generalizing j with
    | ind n ih =>
      obtain ⟨k, h1, h2, ok, hok, e, he, hb, hj'⟩ := hlate j hj
      by_cases hk : k = i
      · subst hk
        rw [hl] at hok; cases hok
        rw [← hj']; exact hdep e he hb
      · have := ih (i - k) (by omega) k (by omega) rfl
        rw [← hj']; exact hcl k ok this hok e he hb
  · intro a w' hf
    have hfr := hf.frame (fun i o hi ho => (hback i o hi ho).2.1) (by omega)
    have hvs : ∀ i, i < m → R i (a.tmps.getD ((dstOf ops i).getD 0) undef) w' := fun i hi => by
      have hg : ops[i]? = some (ops[i]'(by omega)) := by simp
      obtain ⟨_, ⟨d, hd, _⟩, _⟩ := hback i _ hi hg
      have := hf.done i _ d hi (by simp [ranM, Array.getElem?_append, hi]) hg hd
      simpa [dstOf, hg, hd] using this
    have hw := hfin (fun i => a.tmps.getD ((dstOf ops i).getD 0) undef) w' hvs ((Kept.drew w).trans hf.kept (by simp))
    rw [← hfr] at hw
    have hrl : ∀ i, i < m → (ranM ops.size m).getD i false = true := fun i hi => by simp [ranM, Array.getElem?_append, hi]
    have hmem : m ∈ Region.ready .any ops (ranM ops.size m) := mem_ready hl (by rw [hn]; exact ranM_last m) (fun e he _ => hrl _ (hlate2 e he))
    refine ⟨fun h0 => absurd (h0 ▸ hmem) (List.not_mem_nil), fun i hi => ?_⟩
    obtain ⟨hi1, hi2, _⟩ := ready_mem hi
    have him : i = m := by
      apply Classical.byContradiction
      intro hne
      have : i < m := by omega
      have h1 : (ranM ops.size m).getD i true = true := by simp [ranM, Array.getElem?_append, this]
      rw [h1] at hi2; cases hi2
    subst him
    unfold wpOp
    have hwd : Region.wanted ol (yielded ops a.tmps) = true := by simp [Region.wanted, hlg]
    simp only [hl, hwd, if_true]
    refine .inl (Oper.wp_mono (fun a' w'' h => ?_) hw)
    refine ⟨?_, h⟩
    rw [List.eq_nil_iff_forall_not_mem]
    intro j hj
    obtain ⟨h1, h2, _⟩ := ready_mem hj
    have hsz : (ranM ops.size i).size = i + 1 := by simp [ranM, hn]
    have : ((ranM ops.size i).setIfInBounds i true).getD j true = true := by
      rw [getD_set _ _ _ (by omega)]
      split
      · rfl
      · have : j < i := by omega
        simp [ranM, Array.getElem?_append, this]
    rw [this] at h2; cases h2
  · exact rep_getD _ _
  · refine ⟨rfl, rfl, fun _ _ => rfl, fun i o d hi hli _ _ => ?_, Kept.refl _ _⟩
    rw [rep_getD] at hli; cases hli

/-- A goal kept shut: a goal headed by the operation's own calculus makes every tactic reckon it out. -/
structure Later (p : Prop) : Prop where
  out : p
/-- The side conditions, by reckoning. -/
def flowOk (ops : Array Oper) (m sz : Nat) : Bool :=
  ops.size == m + 1 &&
  (List.range m).all (fun i => match ops[i]? with
    | none => false
    | some o => o.guard.isNone && (match o.dst with | some d => decide (d < sz) | none => false) && o.after.toList.all (fun e => decide (e.on < i))) &&
  (List.range m).all (fun i => (List.range m).all fun j => i == j || !(dstOf ops i == dstOf ops j)) &&
  (match ops[m]? with
    | none => false
    | some ol => ol.guard.isNone && (List.range m).all (fun j => (List.range (m + 1)).any (fun k => decide (j < k) && (match ops[k]? with | none => false | some ok => ok.after.toList.any (fun e => Region.binds .any e && e.on == j)))) && ol.after.toList.all (fun e => decide (e.on < m)))

/-- Slot t is left alone by the first m operations. -/
def outside (ops : Array Oper) (m t : Nat) : Bool := (List.range m).all fun j => !(dstOf ops j == some t)

/-- .. and the law with them. The operations are met by their numbers; 'a.eval (.tmp t)' of a slot that the region does not write is what it was. -/
theorem region_flow {id : Nat} (m : Nat) (R : Nat → Value → World → Prop) {a0 : Act} {w : World} (hmix : P.follows .mixedOrders = true) (hok : flowOk ops m a0.tmps.size = true)
    (hkeep : ∀ i v w w', Kept [] w w' → R i v w → R i v w')
    (hop : ∀ i, i < m → ∀ o, ops[i]? = some o → ∀ (a : Act) (w' : World), (∀ t, outside ops m t = true → a.eval (.tmp t) = a0.eval (.tmp t)) →
      (∀ e ∈ o.after.toList, R e.on (a.eval (.tmp ((dstOf ops e.on).getD 0))) w') → Kept [] w w' →
      o.wp P a w' (fun a' w'' => ∃ v, a' = a.put o.dst v ∧ R i v w'' ∧ Kept [] w' w'') Q)
    (hgr : ops.toList.all (fun o => o.after.toList.all (fun e => Region.binds .any e)) = true)
    (hfin : ∀ (vs : Nat → Value) (w' : World), (∀ i, i < m → R i (vs i) w') → Kept [] w w' → ∀ ol, ops[m]? = some ol → Later (ol.wp P (puts ops vs (List.range m) a0) w' (fun a w => Q .normal a w) Q)) :
    (Code.region id ops true).wp P Q a0 w := by
  unfold flowOk at hok
  simp only [Bool.and_eq_true, beq_iff_eq, List.all_eq_true, List.mem_range] at hok
  obtain ⟨⟨⟨hn, h1⟩, h2⟩, h3⟩ := hok
  cases hl : ops[m]? with
  | none => rw [hl] at h3; cases h3
  | some ol =>
    rw [hl] at h3
    simp only [Bool.and_eq_true, List.all_eq_true, List.any_eq_true, List.mem_range, decide_eq_true_eq, Option.isNone_iff_eq_none] at h3
    obtain ⟨⟨g1, g2⟩, g3⟩ := h3
    have hb : ∀ i o, i < m → ops[i]? = some o → o.guard = none ∧ (∃ d, o.dst = some d ∧ d < a0.tmps.size) ∧ ∀ e ∈ o.after.toList, e.on < i := by
      intro i o hi ho
      have := h1 i hi
      rw [ho] at this
      simp only [Bool.and_eq_true, List.all_eq_true, decide_eq_true_eq, Option.isNone_iff_eq_none] at this
      obtain ⟨⟨k1, k2⟩, k3⟩ := this
      cases hd : o.dst with
      | none => rw [hd] at k2; cases k2
      | some d => rw [hd] at k2; exact ⟨k1, ⟨d, rfl, by simpa using k2⟩, k3⟩
    refine wp_region_flow (R := R) hmix hn hl g1 hb ?_ (fun j hj => ?_) g3 hkeep ?_ (fun vs w' hv hk => (hfin vs w' hv hk ol hl).out)
    · intro i j o p hi hj ho hp hd
      have := h2 i hi j hj
      simp only [Bool.or_eq_true, beq_iff_eq, Bool.not_eq_true', beq_eq_false_iff_ne, ne_eq] at this
      rcases this with h | h
      · exact h
      · exact absurd (by simp [dstOf, ho, hp, hd]) h
    · obtain ⟨k, hk, hjk, hok⟩ := g2 j hj
      cases hk' : ops[k]? with
      | none => rw [hk'] at hok; cases hok
      | some ok =>
        rw [hk'] at hok
        simp only [List.any_eq_true, Bool.and_eq_true, beq_iff_eq] at hok
        obtain ⟨e, he, hb1, hb2⟩ := hok
        exact ⟨k, hjk, by omega, ok, hk', e, he, hb1, hb2⟩
    · intro i o hi ho a w' hoth hdep hk
      refine hop i hi o ho a w' (fun t ht => hoth t (fun j oj hj hoj e => by
        simp only [outside, List.all_eq_true, List.mem_range, Bool.not_eq_true', beq_eq_false_iff_ne, ne_eq] at ht
        exact ht j hj (by simp [dstOf, hoj, e]))) (fun e he => ?_) ((Kept.drew w).trans hk (by simp))
      have hlt := (hb i o hi ho).2.2 e he
      have hg : ops[e.on]? = some (ops[e.on]'(by omega)) := by simp
      obtain ⟨_, ⟨d, hd, _⟩, _⟩ := hb e.on _ (by omega) hg
      have hgi := hgr
      rw [List.all_eq_true] at hgi
      have hgi := hgi o (Array.mem_toList_iff.2 (Array.mem_of_getElem? ho))
      rw [List.all_eq_true] at hgi
      have := hdep e he (hgi e he) _ d hg hd
      simpa [dstOf, hg, hd, Act.eval] using this

/-- An operation that yields. -/
theorem flow_value {o : Oper} {a : Act} {w w' : World} {R : Value → World → Prop} {v : Value} (hrun : (execOp a.eval o).run P w = .ok (.value v) w') (hR : R v w') (hK : Kept [] w w') :
    o.wp P a w (fun a' w'' => ∃ v, a' = a.put o.dst v ∧ R v w'' ∧ Kept [] w w'') Q := by
  unfold Oper.wp
  rw [hrun]
  exact ⟨v, rfl, hR, hK⟩
/-- A call. -/
theorem flow_call {o : Oper} {a : Act} {w : World} {R : Value → World → Prop} {f : FuncId} {args : Array Value} (hrun : (execOp a.eval o).run P w = .ok (.enter f args) w) (hc : Calls P f args w fun e w' => ∃ v, e = .returned v ∧ R v w' ∧ Kept [] w w') :
    o.wp P a w (fun a' w'' => ∃ v, a' = a.put o.dst v ∧ R v w'' ∧ Kept [] w w'') Q := by
  unfold Oper.wp
  rw [hrun]
  refine hc.mono fun e w' h => ?_
  obtain ⟨v, rfl, h1, h2⟩ := h
  exact ⟨v, rfl, h1, h2⟩

theorem wp_at {o : Oper} {a : Act} (a' : Act) {w : World} {K : Act → World → Prop} (h : a = a') (g : Later (o.wp P a' w K Q)) : Later (o.wp P a w K Q) := by rw [h]; exact g
theorem wp_later {o : Oper} {a : Act} {w : World} {K : Act → World → Prop} (g : o.upon P a K Q ((execOp a.eval o).run P w)) : Later (o.wp P a w K Q) := ⟨g⟩
end
end Go.Proofs.YbulkjbuDoor
