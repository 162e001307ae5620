/-
  Seat b0488aD: pvlvSettings.params: 122 operations in a region that draws its order, in 20 groups of six.
-/
import Derived.Test.YbulkjbuDoorExt
import Derived.Test.YbulkjbuDoorFlowOps
import Derived.Great.BuildSlice
namespace Go.Proofs.YbulkjbuDoor
open Go.RowKit

/-- The parameters: name, default, bounds, the place of the setting. -/
def tbl : List (ByteArray × Nat × Nat × Nat × Nat) := [
    (⟨#[66, 76, 65, 46, 116, 104, 114, 101, 115, 104, 111, 108, 100]⟩, 4596373779694328218, 0, 4607182418800017408, 0),
    (⟨#[66, 76, 65, 46, 103, 97, 105, 110]⟩, 4616189618054758400, 0, 4636737291354636288, 1),
    (⟨#[68, 49, 46, 103, 97, 105, 110]⟩, 4602678819172646912, 0, 4621819117588971520, 2),
    (⟨#[68, 50, 46, 103, 97, 105, 110]⟩, 4598175219545276416, 0, 4621819117588971520, 3),
    (⟨#[66, 76, 65, 46, 78, 101, 103, 68, 101, 108, 116, 97, 76, 82, 97, 116, 101]⟩, 4591870180066957722, 0, 4607182418800017408, 4),
    (⟨#[66, 76, 65, 112, 111, 115, 65, 99, 113, 68, 49, 46, 108, 114, 97, 116, 101]⟩, 4587366580439587226, 0, 4607182418800017408, 5),
    (⟨#[66, 76, 65, 110, 101, 103, 65, 99, 113, 68, 50, 46, 108, 114, 97, 116, 101]⟩, 4587366580439587226, 0, 4607182418800017408, 10),
    (⟨#[66, 76, 65, 112, 111, 115, 69, 120, 116, 68, 50, 46, 108, 114, 97, 116, 101]⟩, 4600877379321698714, 0, 4607182418800017408, 7),
    (⟨#[66, 76, 65, 112, 111, 115, 69, 120, 116, 68, 50, 46, 117, 110, 108, 101, 97, 114, 110]⟩, 4601958243232267633, 0, 4607182418800017408, 8),
    (⟨#[66, 76, 65, 112, 111, 115, 69, 120, 116, 68, 50, 46, 104, 97, 108, 102]⟩, 4613937818241073152, 4607182418800017408, 4666723172467343360, 9),
    (⟨#[66, 76, 65, 112, 111, 115, 69, 120, 116, 68, 50, 46, 69, 120, 116, 84, 111, 65, 99, 113]⟩, 4602678819172646912, 0, 4621819117588971520, 6),
    (⟨#[66, 76, 65, 110, 101, 103, 69, 120, 116, 68, 49, 46, 108, 114, 97, 116, 101]⟩, 4599075939470750515, 0, 4607182418800017408, 12),
    (⟨#[66, 76, 65, 110, 101, 103, 69, 120, 116, 68, 49, 46, 69, 120, 116, 84, 111, 65, 99, 113]⟩, 4608308318706860032, 0, 4621819117588971520, 11),
    (⟨#[86, 83, 80, 97, 116, 99, 104, 46, 108, 114, 97, 116, 101]⟩, 4599075939470750515, 0, 4602678819172646912, 16),
    (⟨#[86, 83, 80, 97, 116, 99, 104, 46, 105, 110, 105, 116]⟩, 4591870180066957722, 0, 4607182418800017408, 15),
    (⟨#[86, 83, 80, 97, 116, 99, 104, 46, 104, 97, 108, 102]⟩, 4626322717216342016, 4607182418800017408, 4666723172467343360, 17),
    (⟨#[71, 105, 118, 101, 85, 112, 46, 85]⟩, 4607182418800017408, 4576918229304087675, 4636737291354636288, 18),
    (⟨#[71, 105, 118, 101, 85, 112, 46, 84]⟩, 4636737291354636288, 0, 4666723172467343360, 19),
    (⟨#[71, 105, 118, 101, 85, 112, 46, 99, 111, 115, 116]⟩, 4517329193108106637, 0, 4607182418800017408, 20),
    (⟨#[71, 105, 118, 101, 85, 112, 46, 114, 97, 116, 101]⟩, 4602678819172646912, 4576918229304087675, 4607182418800017408, 21)]
def prow (g : Nat) (p : ByteArray × Nat × Nat × Nat × Nat) : List Value := [.string p.1, .float .f64 p.2.1, .float .f64 p.2.2.1, .float .f64 p.2.2.2.1, .pointer (some ⟨g, p.2.2.2.2, none⟩)]
def pcells (g : Nat) : List Value := tbl.flatMap (prow g)
def par (k : Nat) : ByteArray × Nat × Nat × Nat × Nat := tbl.getD k (⟨#[]⟩, 0, 0, 0, 0)
def poff (k : Nat) : Nat := (par k).2.2.2.2
/-- Which part of the settings, of which type, from where on. -/
def pfld (o : Nat) : Nat := if o < 5 then 0 else if o < 10 then 1 else if o < 15 then 2 else if o < 18 then 3 else 4
def ptyp (o : Nat) : Nat := if o < 5 then 55 else if o < 15 then 46 else if o < 18 then 65 else 60
def pbas (o : Nat) : Nat := if o < 5 then 0 else if o < 10 then 5 else if o < 15 then 10 else if o < 18 then 15 else 18

/-- What an operation is, and which ones it waits for. -/
def view (o : Oper) : Op × List Nat := (o.op, o.after.toList.map (·.on))

def parR (g b i : Nat) (v : Value) (w : World) : Prop :=
  if i = 120 then ∃ gb, v = .slice (some ⟨gb, 0, none⟩) 20 20 ∧ b ≤ gb ∧ Row w gb (pcells g) 97
  else if i % 6 = 0 then v = .agg #[.string (par (i / 6)).1, .float .f64 (par (i / 6)).2.1, .float .f64 (par (i / 6)).2.2.1, .float .f64 (par (i / 6)).2.2.2.1]
  else if i % 6 = 3 then v = .pointer (some ⟨g, pbas (poff (i / 6)), none⟩)
  else if i % 6 = 4 then v = .pointer (some ⟨g, poff (i / 6), none⟩)
  else if i % 6 = 5 then v = .agg (prow g (par (i / 6))).toArray
  else v = .pointer (some ⟨g, 0, none⟩)
theorem parR_keep (g b i : Nat) (v : Value) (w w' : World) (k : Kept [] w w') (h : parR g b i v w) : parR g b i v w' := by
  unfold parR at *
  split
  · rename_i e
    rw [if_pos e] at h
    obtain ⟨gb, h1, h2, h3⟩ := h
    exact ⟨gb, h1, h2, h3.keep k (by simp)⟩
  · rename_i e
    rw [if_neg e] at h
    exact h
theorem parR_0 (g b k : Nat) (v : Value) (w : World) (hk : k < 20) : parR g b (6 * k) v w = (v = .agg #[.string (par k).1, .float .f64 (par k).2.1, .float .f64 (par k).2.2.1, .float .f64 (par k).2.2.2.1]) := by
  have e : (6 * k) / 6 = k := by omega
  unfold parR; rw [if_neg (by omega), if_pos (by omega), e]
theorem parR_1 (g b k : Nat) (v : Value) (w : World) : parR g b (6 * k + 1) v w = (v = .pointer (some ⟨g, 0, none⟩)) := by
  unfold parR; rw [if_neg (by omega), if_neg (by omega), if_neg (by omega), if_neg (by omega), if_neg (by omega)]
theorem parR_2 (g b k : Nat) (v : Value) (w : World) : parR g b (6 * k + 2) v w = (v = .pointer (some ⟨g, 0, none⟩)) := by
  unfold parR; rw [if_neg (by omega), if_neg (by omega), if_neg (by omega), if_neg (by omega), if_neg (by omega)]
theorem parR_3 (g b k : Nat) (v : Value) (w : World) : parR g b (6 * k + 3) v w = (v = .pointer (some ⟨g, pbas (poff k), none⟩)) := by
  have e : (6 * k + 3) / 6 = k := by omega
  unfold parR; rw [if_neg (by omega), if_neg (by omega), if_pos (by omega), e]
theorem parR_4 (g b k : Nat) (v : Value) (w : World) : parR g b (6 * k + 4) v w = (v = .pointer (some ⟨g, poff k, none⟩)) := by
  have e : (6 * k + 4) / 6 = k := by omega
  unfold parR; rw [if_neg (by omega), if_neg (by omega), if_neg (by omega), if_pos (by omega), e]
theorem parR_5 (g b k : Nat) (v : Value) (w : World) : parR g b (6 * k + 5) v w = (v = .agg (prow g (par k)).toArray) := by
  have e : (6 * k + 5) / 6 = k := by omega
  unfold parR; rw [if_neg (by omega), if_neg (by omega), if_neg (by omega), if_neg (by omega), if_pos (by omega), e]
theorem parR_6 (g b : Nat) (v : Value) (w : World) : parR g b 120 v w = ∃ gb, v = .slice (some ⟨gb, 0, none⟩) 20 20 ∧ b ≤ gb ∧ Row w gb (pcells g) 97 := by
  unfold parR; rw [if_pos rfl]

theorem par_field (g k : Nat) (hk : k < 20) (W : World) : (Instr.fieldAt 80 (.pointer (some ⟨g, 0, none⟩)) (pfld (poff k))).run Ybad.prog W = .ok (.pointer (some ⟨g, pbas (poff k), none⟩)) W := by
  rcases (by omega : k = 0 ∨ k = 1 ∨ k = 2 ∨ k = 3 ∨ k = 4 ∨ k = 5 ∨ k = 6 ∨ k = 7 ∨ k = 8 ∨ k = 9 ∨ k = 10 ∨ k = 11 ∨ k = 12 ∨ k = 13 ∨ k = 14 ∨ k = 15 ∨ k = 16 ∨ k = 17 ∨ k = 18 ∨ k = 19) with rfl | rfl | rfl | rfl | rfl | rfl | rfl | rfl | rfl | rfl | rfl | rfl | rfl | rfl | rfl | rfl | rfl | rfl | rfl | rfl <;> simp [pfld, pbas, poff, par, tbl, go_sem]
theorem par_sub (g k : Nat) (hk : k < 20) (W : World) : (Instr.fieldAt (ptyp (poff k)) (.pointer (some ⟨g, pbas (poff k), none⟩)) (poff k - pbas (poff k))).run Ybad.prog W = .ok (.pointer (some ⟨g, poff k, none⟩)) W := by
  rcases (by omega : k = 0 ∨ k = 1 ∨ k = 2 ∨ k = 3 ∨ k = 4 ∨ k = 5 ∨ k = 6 ∨ k = 7 ∨ k = 8 ∨ k = 9 ∨ k = 10 ∨ k = 11 ∨ k = 12 ∨ k = 13 ∨ k = 14 ∨ k = 15 ∨ k = 16 ∨ k = 17 ∨ k = 18 ∨ k = 19) with rfl | rfl | rfl | rfl | rfl | rfl | rfl | rfl | rfl | rfl | rfl | rfl | rfl | rfl | rfl | rfl | rfl | rfl | rfl | rfl <;> simp [ptyp, pbas, poff, par, tbl, go_sem]
theorem par_built (n : ByteArray) (x y z : Nat) : Ybad.prog.built 94 [(0, .string n), (1, .float .f64 x), (2, .float .f64 y), (3, .float .f64 z)] = some #[.string n, .float .f64 x, .float .f64 y, .float .f64 z] := by kernel_rfl
theorem par_built2 (n : ByteArray) (x y z : Nat) (p : Option Addr) : Ybad.prog.built 97 [(0, .agg #[.string n, .float .f64 x, .float .f64 y, .float .f64 z]), (1, .pointer p)] = some #[.string n, .float .f64 x, .float .f64 y, .float .f64 z, .pointer p] := by kernel_rfl

section
variable {o : Oper} {a : Act} {w : World} {R : Value → World → Prop} {Q : Exit → Act → World → Prop}
theorem flow_build {t : TypeId} {parts : Array (Nat × Operand)} {vals : List (Nat × Value)} {cells : Array Value} (ho : o.op = .build t parts) (hv' : (parts.toList.map fun (i, x) => (i, a.eval x)) = vals) (hb : Ybad.prog.built t vals = some cells) (hR : R (.agg cells) w) :
    o.wp Ybad.prog a w (fun a' w'' => ∃ v, a' = a.put o.dst v ∧ R v w'' ∧ Kept [] w w'') Q := by
  have hv : (parts.map fun (i, x) => (i, a.eval x)).toList = vals := by rw [Array.toList_map]; exact hv'
  refine wp_build t parts ho (by rw [hv, hb]; rfl) ?_
  rw [hv, hb]
  exact ⟨_, rfl, hR, Kept.refl _ _⟩
end

set_option maxRecDepth 100000 in
set_option maxHeartbeats 4000000 in
theorem par_fill (g : Nat) : ∃ ie z, Ybad.prog.info? 97 = some ie ∧ ie.zero = some z ∧ (¬ 20 * ie.size > 2 ^ 24) ∧ (¬ 20 * ie.size = 0) ∧ Instr.fill (fun i => some (i * ie.size, ie.size)) ((Array.range (20 * ie.size)).map (z.cells[· % z.cells.size]!)) ((List.range 20).map fun k => (k, Value.agg (prow g (par k)).toArray)) = some (pcells g).toArray :=
  ⟨_, _, rfl, rfl, by decide, by decide, by kernel_rfl⟩

theorem dst_all {ops : Array Oper} {n : Nat} (h : (List.range n).all (fun j => dstOf ops j == some (j + 3)) = true) (j : Nat) (hj : j < n) : dstOf ops j = some (j + 3) := by
  have := List.all_eq_true.1 h j (List.mem_range.2 hj)
  simpa using this

set_option maxRecDepth 100000 in
theorem params_region {ops : Array Oper} {Q : Exit → Act → World → Prop} {id : Nat} (g : Nat) {a0 : Act} {w : World} (frame : (Nat → Value) → Act) (hs0 : a0.eval (.tmp 0) = .pointer (some ⟨g, 0, none⟩)) (hout : outside ops 121 0 = true)
    (hok : flowOk ops 121 a0.tmps.size = true) (hgr : ops.toList.all (fun o => o.after.toList.all (fun e => Region.binds .any e)) = true) (hlast : ops[121]?.map (fun o => (o.op, o.dst)) = some (.assign (.tmp 123), some 2))
    (hframe : ∀ vs, (puts ops vs (List.range 121) a0).put (some 2) ((puts ops vs (List.range 121) a0).eval (.tmp 123)) = frame vs)
    (hdst : ∀ j, j < 121 → dstOf ops j = some (j + 3))
    (h0 : ∀ k : Nat, k < 20 → ops[6 * k]?.map view = some (.build 94 #[(0, .const (.string (par k).1)), (1, .const (.float .f64 (par k).2.1)), (2, .const (.float .f64 (par k).2.2.1)), (3, .const (.float .f64 (par k).2.2.2.1))], []))
    (h1 : ∀ k : Nat, k < 20 → ops[6 * k + 1]?.map view = some (.move (.tmp 0), []))
    (h2 : ∀ k : Nat, k < 20 → ops[6 * k + 2]?.map view = some (.nilCheck (.tmp (6 * k + 4)), [6 * k + 1]))
    (h3 : ∀ k : Nat, k < 20 → ops[6 * k + 3]?.map view = some (.fieldAddr 80 (.tmp (6 * k + 5)) (pfld (poff k)), [6 * k + 2]))
    (h4 : ∀ k : Nat, k < 20 → ops[6 * k + 4]?.map view = some (.fieldAddr (ptyp (poff k)) (.tmp (6 * k + 6)) (poff k - pbas (poff k)), [6 * k + 3]))
    (h5 : ∀ k : Nat, k < 20 → ops[6 * k + 5]?.map view = some (.build 97 #[(0, .tmp (6 * k + 3)), (1, .tmp (6 * k + 7))], [6 * k, 6 * k + 4]))
    (h6 : ops[120]?.map view = some (.buildSlice 91 20 ((List.range 20).map fun k => (k, .tmp (6 * k + 8))).toArray, (List.range 20).map fun k => 6 * k + 5))
    (hfin : ∀ (vs : Nat → Value) (W : World) (gb : Nat), vs 120 = .slice (some ⟨gb, 0, none⟩) 20 20 → w.heap.size ≤ gb → Row W gb (pcells g) 97 → Kept [] w W → Q .normal (frame vs) W) :
    (Code.region id ops true).wp Ybad.prog Q a0 w := by
  refine region_moves 121 (parR g w.heap.size) frame (.tmp 123) 2 (by kernel_rfl) hok hgr hlast hframe (parR_keep g w.heap.size) ?_ ?_
  · intro i hi o ho a w' hoth hdep hk
    have s0 : a.eval (.tmp 0) = .pointer (some ⟨g, 0, none⟩) := (hoth 0 hout).trans hs0
    have hd : ∀ op ons, ops[i]?.map view = some (op, ons) → o.op = op ∧ ∀ j ∈ ons, j < 121 → parR g w.heap.size j (a.eval (.tmp (j + 3))) w' := by
      intro op ons h
      rw [ho] at h
      simp only [Option.map_some, Option.some.injEq, view, Prod.mk.injEq] at h
      refine ⟨h.1, fun j hj hlt => ?_⟩
      rw [← h.2, List.mem_map] at hj
      obtain ⟨e, he, rfl⟩ := hj
      have := hdep e he
      rw [hdst _ hlt] at this
      exact this
    by_cases h120 : i = 120
    · subst h120
      obtain ⟨e, hj⟩ := hd _ _ h6
      obtain ⟨ie, z, p1, p2, p3, p4, p5⟩ := par_fill g
      have hv : ((((List.range 20).map fun k => (k, Operand.tmp (6 * k + 8))).toArray.map fun (i, x) => (i, a.eval x)).toList) = (List.range 20).map fun k => (k, Value.agg (prow g (par k)).toArray) := by
        rw [Array.toList_map, List.map_map]
        apply List.map_congr_left
        intro k hk'
        have hk20 := List.mem_range.1 hk'
        have := hj (6 * k + 5) (List.mem_map.2 ⟨k, hk', rfl⟩) (by omega)
        rw [parR_5] at this
        simp only [Function.comp_apply]
        rw [this]
      refine wp_buildSlice 91 97 20 _ e (pcells g).toArray ie z Ybad.underlying91 p1 p2 p3 p4 (by rw [hv]; exact p5) ?_
      refine ⟨_, rfl, ?_, Kept.alloc _ _⟩
      rw [parR_6]
      exact ⟨_, rfl, hk.size, Row.made _ _ _⟩
    · obtain ⟨k, r, hr, rfl⟩ : ∃ k r, r < 6 ∧ i = 6 * k + r := ⟨i / 6, i % 6, Nat.mod_lt _ (by omega), by omega⟩
      have hk20 : k < 20 := by omega
      match r, hr with
      | 0, _ =>
        obtain ⟨e, _⟩ := hd _ _ (h0 k hk20)
        refine flow_build e rfl (par_built _ _ _ _) ?_
        rw [Nat.add_zero, parR_0 _ _ _ _ _ hk20]
      | 1, _ =>
        obtain ⟨e, _⟩ := hd _ _ (h1 k hk20)
        refine flow_move e s0 ?_
        rw [parR_1]
      | 2, _ =>
        obtain ⟨e, hj⟩ := hd _ _ (h2 k hk20)
        have d := hj (6 * k + 1) (by simp) (by omega)
        rw [parR_1] at d
        refine flow_nil e d ?_
        rw [parR_2]
      | 3, _ =>
        obtain ⟨e, hj⟩ := hd _ _ (h3 k hk20)
        have d := hj (6 * k + 2) (by simp) (by omega)
        rw [parR_2] at d
        refine flow_value (v := .pointer (some ⟨g, pbas (poff k), none⟩)) ?_ (by rw [parR_3]) (Kept.refl _ _)
        unfold execOp
        simp only [e]
        rw [show a.eval (.tmp (6 * k + 5)) = .pointer (some ⟨g, 0, none⟩) from d, Sem.run_bind, par_field g k hk20]
        rfl
      | 4, _ =>
        obtain ⟨e, hj⟩ := hd _ _ (h4 k hk20)
        have d := hj (6 * k + 3) (by simp) (by omega)
        rw [parR_3] at d
        refine flow_value (v := .pointer (some ⟨g, poff k, none⟩)) ?_ (by rw [parR_4]) (Kept.refl _ _)
        unfold execOp
        simp only [e]
        rw [show a.eval (.tmp (6 * k + 6)) = .pointer (some ⟨g, pbas (poff k), none⟩) from d, Sem.run_bind, par_sub g k hk20]
        rfl
      | 5, _ =>
        obtain ⟨e, hj⟩ := hd _ _ (h5 k hk20)
        have d := hj (6 * k) (by simp) (by omega)
        have d' := hj (6 * k + 4) (by simp) (by omega)
        rw [parR_0 _ _ _ _ _ hk20] at d
        rw [parR_4] at d'
        have d1 : a.eval (.tmp (6 * k + 7)) = .pointer (some ⟨g, poff k, none⟩) := d'
        have hb : Ybad.prog.built 97 [(0, a.eval (.tmp (6 * k + 3))), (1, a.eval (.tmp (6 * k + 7)))] = some (prow g (par k)).toArray := by rw [d, d1]; exact par_built2 _ _ _ _ _
        refine flow_build (vals := [(0, a.eval (.tmp (6 * k + 3))), (1, a.eval (.tmp (6 * k + 7)))]) e rfl hb ?_
        rw [parR_5]
  · intro vs W hR hk
    have := hR 120 (by omega)
    rw [parR_6] at this
    obtain ⟨gb, e1, e2, e3⟩ := this
    exact hfin vs W gb e1 e2 e3 hk

set_option maxRecDepth 100000 in
set_option maxHeartbeats 4000000 in
theorem params_any (g : Nat) (w : World) : Calls Ybad.prog 20 #[.pointer (some ⟨g, 0, none⟩)] w fun e w' => ∃ gb, e = .returned (.slice (some ⟨gb, 0, none⟩) 20 20) ∧ w.heap.size ≤ gb ∧ Row w' gb (pcells g) 97 ∧ Kept [] w w' := by
  go_enter Ybad.func20, Ybad.ntmps20
  go_wp2_with fail
  refine params_region g (fun vs => ⟨List.toArray (Value.pointer (some ⟨g, 0, none⟩) :: undef :: vs 120 :: vs 0 :: vs 1 :: vs 2 :: vs 3 :: vs 4 :: vs 5 :: vs 6 :: vs 7 :: vs 8 :: vs 9 :: vs 10 :: vs 11 :: vs 12 :: vs 13 :: vs 14 :: vs 15 :: vs 16 :: vs 17 :: vs 18 :: vs 19 :: vs 20 :: vs 21 :: vs 22 :: vs 23 :: vs 24 :: vs 25 :: vs 26 :: vs 27 :: vs 28 :: vs 29 :: vs 30 :: vs 31 :: vs 32 :: vs 33 :: vs 34 :: vs 35 :: vs 36 :: vs 37 :: vs 38 :: vs 39 :: vs 40 :: vs 41 :: vs 42 :: vs 43 :: vs 44 :: vs 45 :: vs 46 :: vs 47 :: vs 48 :: vs 49 :: vs 50 :: vs 51 :: vs 52 :: vs 53 :: vs 54 :: vs 55 :: vs 56 :: vs 57 :: vs 58 :: vs 59 :: vs 60 :: vs 61 :: vs 62 :: vs 63 :: vs 64 :: vs 65 :: vs 66 :: vs 67 :: vs 68 :: vs 69 :: vs 70 :: vs 71 :: vs 72 :: vs 73 :: vs 74 :: vs 75 :: vs 76 :: vs 77 :: vs 78 :: vs 79 :: vs 80 :: vs 81 :: vs 82 :: vs 83 :: vs 84 :: vs 85 :: vs 86 :: vs 87 :: vs 88 :: vs 89 :: vs 90 :: vs 91 :: vs 92 :: vs 93 :: vs 94 :: vs 95 :: vs 96 :: vs 97 :: vs 98 :: vs 99 :: vs 100 :: vs 101 :: vs 102 :: vs 103 :: vs 104 :: vs 105 :: vs 106 :: vs 107 :: vs 108 :: vs 109 :: vs 110 :: vs 111 :: vs 112 :: vs 113 :: vs 114 :: vs 115 :: vs 116 :: vs 117 :: vs 118 :: vs 119 :: vs 120 :: []), []⟩) rfl (by kernel_rfl) (by kernel_rfl) (by kernel_rfl) (by kernel_rfl) (fun vs => by kernel_rfl) ?_ ?_ ?_ ?_ ?_ ?_ ?_ (by kernel_rfl) ?_
  · intro j hj
    exact dst_all (by kernel_rfl) j hj
  · intro k hk
    rcases (by omega : k = 0 ∨ k = 1 ∨ k = 2 ∨ k = 3 ∨ k = 4 ∨ k = 5 ∨ k = 6 ∨ k = 7 ∨ k = 8 ∨ k = 9 ∨ k = 10 ∨ k = 11 ∨ k = 12 ∨ k = 13 ∨ k = 14 ∨ k = 15 ∨ k = 16 ∨ k = 17 ∨ k = 18 ∨ k = 19) with rfl | rfl | rfl | rfl | rfl | rfl | rfl | rfl | rfl | rfl | rfl | rfl | rfl | rfl | rfl | rfl | rfl | rfl | rfl | rfl <;> kernel_rfl
  · intro k hk
    rcases (by omega : k = 0 ∨ k = 1 ∨ k = 2 ∨ k = 3 ∨ k = 4 ∨ k = 5 ∨ k = 6 ∨ k = 7 ∨ k = 8 ∨ k = 9 ∨ k = 10 ∨ k = 11 ∨ k = 12 ∨ k = 13 ∨ k = 14 ∨ k = 15 ∨ k = 16 ∨ k = 17 ∨ k = 18 ∨ k = 19) with rfl | rfl | rfl | rfl | rfl | rfl | rfl | rfl | rfl | rfl | rfl | rfl | rfl | rfl | rfl | rfl | rfl | rfl | rfl | rfl <;> kernel_rfl
  · intro k hk
    rcases (by omega : k = 0 ∨ k = 1 ∨ k = 2 ∨ k = 3 ∨ k = 4 ∨ k = 5 ∨ k = 6 ∨ k = 7 ∨ k = 8 ∨ k = 9 ∨ k = 10 ∨ k = 11 ∨ k = 12 ∨ k = 13 ∨ k = 14 ∨ k = 15 ∨ k = 16 ∨ k = 17 ∨ k = 18 ∨ k = 19) with rfl | rfl | rfl | rfl | rfl | rfl | rfl | rfl | rfl | rfl | rfl | rfl | rfl | rfl | rfl | rfl | rfl | rfl | rfl | rfl <;> kernel_rfl
  · intro k hk
    rcases (by omega : k = 0 ∨ k = 1 ∨ k = 2 ∨ k = 3 ∨ k = 4 ∨ k = 5 ∨ k = 6 ∨ k = 7 ∨ k = 8 ∨ k = 9 ∨ k = 10 ∨ k = 11 ∨ k = 12 ∨ k = 13 ∨ k = 14 ∨ k = 15 ∨ k = 16 ∨ k = 17 ∨ k = 18 ∨ k = 19) with rfl | rfl | rfl | rfl | rfl | rfl | rfl | rfl | rfl | rfl | rfl | rfl | rfl | rfl | rfl | rfl | rfl | rfl | rfl | rfl <;> kernel_rfl
  · intro k hk
    rcases (by omega : k = 0 ∨ k = 1 ∨ k = 2 ∨ k = 3 ∨ k = 4 ∨ k = 5 ∨ k = 6 ∨ k = 7 ∨ k = 8 ∨ k = 9 ∨ k = 10 ∨ k = 11 ∨ k = 12 ∨ k = 13 ∨ k = 14 ∨ k = 15 ∨ k = 16 ∨ k = 17 ∨ k = 18 ∨ k = 19) with rfl | rfl | rfl | rfl | rfl | rfl | rfl | rfl | rfl | rfl | rfl | rfl | rfl | rfl | rfl | rfl | rfl | rfl | rfl | rfl <;> kernel_rfl
  · intro k hk
    rcases (by omega : k = 0 ∨ k = 1 ∨ k = 2 ∨ k = 3 ∨ k = 4 ∨ k = 5 ∨ k = 6 ∨ k = 7 ∨ k = 8 ∨ k = 9 ∨ k = 10 ∨ k = 11 ∨ k = 12 ∨ k = 13 ∨ k = 14 ∨ k = 15 ∨ k = 16 ∨ k = 17 ∨ k = 18 ∨ k = 19) with rfl | rfl | rfl | rfl | rfl | rfl | rfl | rfl | rfl | rfl | rfl | rfl | rfl | rfl | rfl | rfl | rfl | rfl | rfl | rfl <;> kernel_rfl
  · intro vs W gb e1 e2 e3 hk
    rename_i Q' K hK
    refine hK _ _ ?_
    rw [e1]
    go_wp2_with fail
    go_ret
    exact ⟨gb, rfl, e2, e3, hk⟩
end Go.Proofs.YbulkjbuDoor
