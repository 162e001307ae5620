/-
  Seat b0488aD: structs stored into, and read out of, the midst of a row; the flow law with a store or an assignment as its last operation. Whatever the program.
-/
import Derived.Test.YbulkjbuDoorFlow
import Derived.Deep.MidRow
namespace Go.Proofs.YbulkjbuDoor
open Go Go.RowKit

/-- The row with the cells from o on turned. -/
def splice (old : List Value) (o : Nat) (new : List Value) : List Value := old.take o ++ (new ++ old.drop (o + new.length))
theorem splice_nil (old : List Value) (o : Nat) : splice old o [] = old := by simp [splice]
theorem splice_cons (old : List Value) (o : Nat) (v : Value) (r : List Value) (h : o < old.length) : splice (old.set o v) (o + 1) r = splice old o (v :: r) := by
  unfold splice
  rw [List.take_set, List.drop_set_of_lt (by omega)]
  have e : o + (v :: r).length = o + 1 + r.length := by simp; omega
  rw [e, List.take_succ_eq_append_getElem h, List.set_append_right _ _ (by simp; omega)]
  simp [Nat.min_eq_left (Nat.le_of_lt h)]
theorem length_splice (old : List Value) (o : Nat) (new : List Value) (h : o + new.length ≤ old.length) : (splice old o new).length = old.length := by simp [splice]; omega

theorem Row.sets {t : TypeId} {b : Nat} : ∀ (new : List Value) (o : Nat) {w : World} {vs : List Value}, Row w b vs t → o + new.length ≤ vs.length → Row (w.setCells b o new) b (splice vs o new) t
  | [], o, w, vs, h, _ => by rw [splice_nil]; exact h
  | v :: r, o, w, vs, h, hl => by
    have := Row.sets r (o + 1) (h.set o v) (by simp at hl ⊢; omega)
    rw [splice_cons _ _ _ _ (by simp at hl; omega)] at this
    exact this
theorem Kept.sets (b : Nat) : ∀ (new : List Value) (o : Nat) (w : World), Kept [b] w (w.setCells b o new)
  | [], o, w => Kept.refl _ w
  | v :: r, o, w => (Kept.setCell w b o v).trans (Kept.sets b r (o + 1) _) (by simp)
theorem size_sets (b : Nat) : ∀ (new : List Value) (o : Nat) (w : World), (w.setCells b o new).heap.size = w.heap.size
  | [], o, w => rfl
  | v :: r, o, w => by
    show ((w.setCell ⟨b, o, none⟩ v).setCells b (o + 1) r).heap.size = _
    rw [size_sets b r]; simp
theorem Row.range {w : World} {b : Nat} {vs : List Value} {t : TypeId} (h : Row w b vs t) (o n : Nat) : w.rangeAt b o ((vs.drop o).take n) := by
  intro j v hv
  refine h.cell (o + j) ?_
  rw [List.getElem?_take] at hv
  split at hv
  · rw [List.getElem?_drop] at hv; exact hv
  · cases hv
theorem Row.there {w : World} {b : Nat} {vs : List Value} {t : TypeId} (h : Row w b vs t) (o n : Nat) (hl : o + n ≤ vs.length) : w.there b o n := fun j hj =>
  ⟨by rw [h.cell (o + j) (List.getElem?_eq_getElem (by omega))]; rfl, h.free _⟩

section
variable {P : Program} {w : World} {md : Region.Mode} {ops : Array Oper} {rest : List Oper} {o : Oper} {a : Act} {Q : Exit → Act → World → Prop}

theorem Row.loads {b : Nat} {vs : List Value} {t : TypeId} (h : Row w b vs t) (off : Nat) (ty : TypeId) (cs : List Value) (d : TypeDesc) (hu : P.underlying ty = some d) (hd : d.isRow = true) (hi : (P.info? ty).map (·.size) = some cs.length) (hcs : (vs.drop off).take cs.length = cs) :
    (Instr.loadAt ty (.pointer (some ⟨b, off, none⟩))).run P w = .ok (.agg cs.toArray) w :=
  run_loadAt_mid w b off ty cs d (by have := h.range off cs.length; rw [hcs] at this; exact this) hu hd hi
theorem Row.stores {b : Nat} {vs : List Value} {t : TypeId} (h : Row w b vs t) (off : Nat) (ty : TypeId) (cs : List Value) (hi : (P.info? ty).map (·.size) = some cs.length) (hl : off + cs.length ≤ vs.length) (h1 : cs.all (·.oneCell') = true) :
    (Instr.storeAt ty (.pointer (some ⟨b, off, none⟩)) (.agg cs.toArray)).run P w = .ok () (w.setCells b off cs) := by
  have := run_storeAt_mid (P := P) w b off ty cs.toArray (by simpa using h.there off cs.length hl) (by simpa using hi) (by simpa using h1)
  simpa using this

theorem wpList_stores (hg : o.guard = none) (ty : TypeId) (x y : Operand) (ho : o.op = .store ty x y) (g off : Nat) (cs : List Value) (hx : a.eval x = .pointer (some ⟨g, off, none⟩)) (hy : a.eval y = .agg cs.toArray)
    {old : List Value} {t : TypeId} (hr : Row w g old t) (hi : (P.info? ty).map (·.size) = some cs.length) (hl : off + cs.length ≤ old.length) (h1 : cs.all (·.oneCell') = true)
    (hK : ∀ w', Row w' g (splice old off cs) t → Kept [g] w w' → w'.heap.size = w.heap.size → wpList P ops Q rest (a.put o.dst undef) w') : wpList P ops Q (o :: rest) a w := by
  refine wpList_plain hg fun K' hK' => ?_
  unfold Oper.wp
  simp [execOp, ho, hx, hy, hr.stores (P := P) off ty cs hi hl h1, Result.andThen]
  exact hK' _ _ (hK _ (hr.sets cs off hl) (Kept.sets g cs off w) (size_sets g cs off w))
theorem wpList_loads (hg : o.guard = none) (ty : TypeId) (x : Operand) (ho : o.op = .load ty x) (g off : Nat) (cs : List Value) (d : TypeDesc) (hx : a.eval x = .pointer (some ⟨g, off, none⟩))
    {old : List Value} {t : TypeId} (hr : Row w g old t) (hu : P.underlying ty = some d) (hd : d.isRow = true) (hi : (P.info? ty).map (·.size) = some cs.length) (hcs : (old.drop off).take cs.length = cs)
    (hK : wpList P ops Q rest (a.put o.dst (.agg cs.toArray)) w) : wpList P ops Q (o :: rest) a w := by
  refine wpList_plain hg fun K' hK' => ?_
  unfold Oper.wp
  simp [execOp, ho, hx, hr.loads (P := P) off ty cs d hu hd hi hcs, Result.andThen]
  exact hK' _ _ hK

/-- A function whose one result is a struct that lies in a variable. -/
theorem bodyPost_cell {fn : Func} {R : Ending → World → Prop} {a : Act} (c : Nat) (ty : TypeId) (B : Nat) (cs : List Value) (d : TypeDesc) {old : List Value} {t : TypeId} (hres : fn.results = #[.cell c ty]) (hc : a.tmps.getD c undef = .pointer (some ⟨B, 0, none⟩)) (hr : Row w B old t)
    (hu : P.underlying ty = some d) (hd : d.isRow = true) (hi : (P.info? ty).map (·.size) = some cs.length) (hcs : (old.drop 0).take cs.length = cs) (hdf : a.defers = []) (hR : R (.returned (.agg cs.toArray)) w) : bodyPost P fn R .ret a w := by
  refine bodyPost_ret (v := .agg cs.toArray) ?_ hdf hR
  have hl : (loadVar ty ⟨B, 0, none⟩).run P w = .ok (.agg cs.toArray) w := run_loadVar_mid w B 0 ty cs d (by have := hr.range 0 cs.length; rw [hcs] at this; exact this) hu hd hi
  have hc' : a.tmps[c]?.getD undef = .pointer (some ⟨B, 0, none⟩) := by simpa using hc
  simp [results, hres, hc', asAddr, hl]

/-- The flow law, where the last operation stores a struct. -/
theorem region_store {id : Nat} (m : Nat) (R : Nat → Value → World → Prop) (frame : (Nat → Value) → Act) {a0 : Act} {w : World} (ty : TypeId) (x y : Operand) (hmix : P.follows .mixedOrders = true) (hok : flowOk ops m a0.tmps.size = true)
    (hgr : ops.toList.all (fun o => o.after.toList.all (fun e => Region.binds .any e)) = true)
    (hlast : ops[m]?.map (fun o => (o.op, o.dst)) = some (.store ty x y, none))
    (hframe : ∀ vs, puts ops vs (List.range m) a0 = frame vs)
    (hkeep : ∀ i v w w', Kept [] w w' → R i v w → R i v w')
    (hop : ∀ i, i < m → ∀ o, ops[i]? = some o → ∀ (a : Act) (w' : World), (∀ t, outside ops m t = true → a.eval (.tmp t) = a0.eval (.tmp t)) →
      (∀ e ∈ o.after.toList, R e.on (a.eval (.tmp ((dstOf ops e.on).getD 0))) w') → Kept [] w w' →
      o.wp P a w' (fun a' w'' => ∃ v, a' = a.put o.dst v ∧ R i v w'' ∧ Kept [] w' w'') Q)
    (hfin : ∀ (vs : Nat → Value) (W : World), (∀ i, i < m → R i (vs i) W) → Kept [] w W → ∃ g off cs old t, (frame vs).eval x = .pointer (some ⟨g, off, none⟩) ∧ (frame vs).eval y = .agg (List.toArray cs) ∧ Row W g old t ∧
      (P.info? ty).map (·.size) = some cs.length ∧ off + cs.length ≤ old.length ∧ cs.all (·.oneCell') = true ∧
      ∀ w', Row w' g (splice old off cs) t → Kept [g] W w' → w'.heap.size = W.heap.size → Q .normal (frame vs) w') :
    (Code.region id ops true).wp P Q a0 w := by
  refine region_flow m R hmix hok hkeep hop hgr (fun vs W hv hk ol hol => ⟨?_⟩)
  rw [hol] at hlast
  simp only [Option.map_some, Option.some.injEq, Prod.mk.injEq] at hlast
  obtain ⟨g, off, cs, old, t, hx, hy, hr, hi, hl, h1, hK⟩ := hfin vs W hv hk
  rw [hframe]
  unfold Oper.wp
  simp only [execOp, hlast.1, hx, hy, Sem.run_bind, hr.stores (P := P) off ty cs hi hl h1, Result.andThen, Sem.run_pure]
  show Q .normal ((frame vs).put ol.dst undef) _
  rw [hlast.2]
  exact hK _ (hr.sets cs off hl) (Kept.sets g cs off W) (size_sets g cs off W)

/-- .. where it calls a Go function. -/
theorem region_calls {id : Nat} (m : Nat) (R : Nat → Value → World → Prop) (frame : (Nat → Value) → Act) {a0 : Act} {w : World} (d : Option Nat) (hmix : P.follows .mixedOrders = true) (hok : flowOk ops m a0.tmps.size = true)
    (hgr : ops.toList.all (fun o => o.after.toList.all (fun e => Region.binds .any e)) = true)
    (hlast : ops[m]?.map (fun o => o.dst) = some d)
    (hframe : ∀ vs, puts ops vs (List.range m) a0 = frame vs)
    (hkeep : ∀ i v w w', Kept [] w w' → R i v w → R i v w')
    (hop : ∀ i, i < m → ∀ o, ops[i]? = some o → ∀ (a : Act) (w' : World), (∀ t, outside ops m t = true → a.eval (.tmp t) = a0.eval (.tmp t)) →
      (∀ e ∈ o.after.toList, R e.on (a.eval (.tmp ((dstOf ops e.on).getD 0))) w') → Kept [] w w' →
      o.wp P a w' (fun a' w'' => ∃ v, a' = a.put o.dst v ∧ R i v w'' ∧ Kept [] w' w'') Q)
    (hfin : ∀ (vs : Nat → Value) (W : World), (∀ i, i < m → R i (vs i) W) → Kept [] w W → ∃ f args, (∀ ol, ops[m]? = some ol → (execOp (frame vs).eval ol).run P W = .ok (.enter f args) W) ∧
      Calls P f args W (fun e w' => ∃ v, e = .returned v ∧ Q .normal ((frame vs).put d v) w')) :
    (Code.region id ops true).wp P Q a0 w := by
  refine region_flow m R hmix hok hkeep hop hgr (fun vs W hv hk ol hol => ⟨?_⟩)
  rw [hol] at hlast
  simp only [Option.map_some, Option.some.injEq] at hlast
  obtain ⟨f, args, hrun, hc⟩ := hfin vs W hv hk
  rw [hframe]
  unfold Oper.wp
  rw [hrun ol hol]
  refine hc.mono fun e w' h => ?_
  obtain ⟨v, rfl, h⟩ := h
  show Q .normal ((frame vs).put ol.dst v) _
  rw [hlast]
  exact h

/-- .. where it only moves a value into a slot. -/
theorem region_moves {id : Nat} (m : Nat) (R : Nat → Value → World → Prop) (frame : (Nat → Value) → Act) {a0 : Act} {w : World} (x : Operand) (d : Nat) (hmix : P.follows .mixedOrders = true) (hok : flowOk ops m a0.tmps.size = true)
    (hgr : ops.toList.all (fun o => o.after.toList.all (fun e => Region.binds .any e)) = true)
    (hlast : ops[m]?.map (fun o => (o.op, o.dst)) = some (.assign x, some d))
    (hframe : ∀ vs, (puts ops vs (List.range m) a0).put (some d) ((puts ops vs (List.range m) a0).eval x) = frame vs)
    (hkeep : ∀ i v w w', Kept [] w w' → R i v w → R i v w')
    (hop : ∀ i, i < m → ∀ o, ops[i]? = some o → ∀ (a : Act) (w' : World), (∀ t, outside ops m t = true → a.eval (.tmp t) = a0.eval (.tmp t)) →
      (∀ e ∈ o.after.toList, R e.on (a.eval (.tmp ((dstOf ops e.on).getD 0))) w') → Kept [] w w' →
      o.wp P a w' (fun a' w'' => ∃ v, a' = a.put o.dst v ∧ R i v w'' ∧ Kept [] w' w'') Q)
    (hfin : ∀ (vs : Nat → Value) (W : World), (∀ i, i < m → R i (vs i) W) → Kept [] w W → Q .normal (frame vs) W) :
    (Code.region id ops true).wp P Q a0 w := by
  refine region_flow m R hmix hok hkeep hop hgr (fun vs W hv hk ol hol => ⟨?_⟩)
  rw [hol] at hlast
  simp only [Option.map_some, Option.some.injEq, Prod.mk.injEq] at hlast
  have := hfin vs W hv hk
  unfold Oper.wp
  simp only [execOp, hlast.1, Sem.run_pure]
  show Q .normal ((puts ops vs (List.range m) a0).put ol.dst ((puts ops vs (List.range m) a0).eval x)) _
  rw [hlast.2, hframe vs]
  exact this
end
end Go.Proofs.YbulkjbuDoor
