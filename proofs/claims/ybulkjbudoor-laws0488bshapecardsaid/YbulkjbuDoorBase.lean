/-
  Seat b0488aD (from the same prover's text for seat b0488a): what a call keeps ('Kept'), a row of cells, and a map keyed by strings ('HasMap': its entries as a list, in the order in which they were laid). Whatever the program.
-/
import Derived.WalkKit
import Derived.Below
import Derived.MapKept
import Derived.Maps.Own
namespace Go.Proofs.YbulkjbuDoor
open Go.RowKit

/-! ### what is kept -/
/-- Of what was there only the listed blocks have turned. -/
structure Kept (ws : List Nat) (w w' : World) : Prop where
  os : w'.os = w.os
  tape : w'.tape = w.tape
  output : w'.output = w.output
  size : w.heap.size ≤ w'.heap.size
  block : ∀ k, k < w.heap.size → k ∉ ws → w'.heap[k]? = w.heap[k]?

theorem Kept.refl (ws : List Nat) (w : World) : Kept ws w w := ⟨rfl, rfl, rfl, Nat.le_refl _, fun _ _ _ => rfl⟩
theorem Kept.trans {ws ws' : List Nat} {a b c : World} (h : Kept ws a b) (k : Kept ws' b c) (hs : ∀ j ∈ ws', j ∈ ws ∨ a.heap.size ≤ j) : Kept ws a c :=
  ⟨k.os.trans h.os, k.tape.trans h.tape, k.output.trans h.output, Nat.le_trans h.size k.size, fun i hi hn =>
    (k.block i (Nat.lt_of_lt_of_le hi h.size) (fun hm => by rcases hs i hm with h1 | h1; exact hn h1; omega)).trans (h.block i hi hn)⟩
theorem Kept.mono {ws ws' : List Nat} {a b : World} (h : Kept ws a b) (hs : ∀ j ∈ ws, j ∈ ws' ∨ a.heap.size ≤ j) : Kept ws' a b :=
  ⟨h.os, h.tape, h.output, h.size, fun i hi hn => h.block i hi (fun hm => by rcases hs i hm with h1 | h1; exact hn h1; omega)⟩
theorem Kept.grown {row : Option Nat} {a b : World} (h : a.grownBy b row) : Kept row.toList a b :=
  ⟨h.os, h.tape, h.output, h.size, fun i hi hn => h.block i hi (fun e => hn (by rw [← e]; simp))⟩
theorem Kept.alloc (w : World) (o : Obj) : Kept [] w (w.alloc o) := ⟨rfl, rfl, rfl, by simp, fun k hk _ => Below.heap_alloc w o k hk⟩
theorem Kept.drew (w : World) : Kept [] w w.drew := ⟨rfl, rfl, rfl, Nat.le_refl _, fun _ _ _ => rfl⟩
theorem Kept.setCell (w : World) (b o : Nat) (v : Value) : Kept [b] w (w.setCell ⟨b, o, none⟩ v) :=
  ⟨rfl, rfl, rfl, by simp, fun k _ hn => Below.heap_setCell w ⟨b, o, none⟩ v k (by simpa using hn)⟩
theorem Kept.below {B : Nat} {ws : List Nat} {w w' : World} (h : Kept ws w w') (hB : B ≤ w.heap.size) (hs : ∀ j ∈ ws, B ≤ j) : Below B w w' :=
  ⟨h.os, h.tape, h.output, h.size, fun k hk => h.block k (by omega) (fun hm => by have := hs k hm; omega)⟩
theorem Kept.of_below {w w' : World} (h : Below w.heap.size w w') : Kept [] w w' := ⟨h.os, h.tape, h.output, h.size, fun k hk _ => h.block k hk⟩

theorem lt_of_heap {w : World} {b : Nat} {o : Obj} (h : w.heap[b]? = some o) : b < w.heap.size := (Array.getElem?_eq_some_iff.1 h).1

/-! ### a row of cells -/
def Row (w : World) (b : Nat) (vs : List Value) (t : TypeId) : Prop := w.heap[b]? = some (.cells vs.toArray t (0, 0))
theorem Row.lt {w : World} {b : Nat} {vs : List Value} {t : TypeId} (h : Row w b vs t) : b < w.heap.size := lt_of_heap h
theorem Row.cell {w : World} {b : Nat} {vs : List Value} {t : TypeId} (h : Row w b vs t) (i : Nat) {v : Value} (hv : vs[i]? = some v) : w.cell? ⟨b, i, none⟩ = some v := by
  unfold Row at h; simp [World.cell?, h, hv]
theorem Row.free {w : World} {b : Nat} {vs : List Value} {t : TypeId} (h : Row w b vs t) (i : Nat) : w.frozen? ⟨b, i, none⟩ = false := by
  unfold Row at h; simp [World.frozen?, h]
theorem Row.keep {w w' : World} {b : Nat} {vs : List Value} {t : TypeId} {ws : List Nat} (h : Row w b vs t) (k : Kept ws w w') (hn : b ∉ ws) : Row w' b vs t := by
  unfold Row at h ⊢; rw [k.block b (lt_of_heap h) hn, h]
theorem Row.set {w : World} {b : Nat} {vs : List Value} {t : TypeId} (h : Row w b vs t) (i : Nat) (v : Value) : Row (w.setCell ⟨b, i, none⟩ v) b (vs.set i v) t := by
  unfold Row at h ⊢
  simp only [World.setCell, Array.getElem?_modify, h]
  simp
theorem Row.made (w : World) (vs : List Value) (t : TypeId) : Row (w.alloc (.cells vs.toArray t)) w.heap.size vs t := by
  unfold Row; exact (MapKept.heap_alloc w _).1

/-! ### a map keyed by strings -/
def look (k : ByteArray) : List (ByteArray × Value) → Option Value
  | [] => none
  | p :: r => if k == p.1 then some p.2 else look k r

def HasMap (w : World) (b : Nat) (l : List (ByteArray × Value)) : Prop :=
  ∃ es clock, w.heap[b]? = some (.map es clock) ∧ es.toList.map (fun e => (e.key, e.val)) = l.map (fun p => (Value.string p.1, p.2)) ∧
    es.toList.Pairwise (fun x y => x.born ≠ y.born) ∧ ∀ e ∈ es.toList, e.born < clock

theorem HasMap.lt {w : World} {b : Nat} {l : List (ByteArray × Value)} (h : HasMap w b l) : b < w.heap.size := by
  obtain ⟨es, c, h, _⟩ := h; exact lt_of_heap h
theorem HasMap.keep {w w' : World} {b : Nat} {l : List (ByteArray × Value)} {ws : List Nat} (h : HasMap w b l) (k : Kept ws w w') (hn : b ∉ ws) : HasMap w' b l := by
  have hlt := h.lt
  obtain ⟨es, c, h, r⟩ := h
  exact ⟨es, c, (k.block b hlt hn).trans h, r⟩
theorem HasMap.made (w : World) : HasMap (w.alloc (.map #[] 0)) w.heap.size [] :=
  ⟨#[], 0, (MapKept.heap_alloc w _).1, rfl, by simp, by simp⟩
theorem HasMap.setCell {w : World} {b : Nat} {l : List (ByteArray × Value)} (h : HasMap w b l) (a : Nat) (o : Nat) (v : Value) (hn : a ≠ b) : HasMap (w.setCell ⟨a, o, none⟩ v) b l :=
  h.keep (Kept.setCell w a o v) (by simpa using fun e => hn e.symm)

theorem findNow_look (k : ByteArray) : ∀ (es : List MapEntry) (l : List (ByteArray × Value)) (i : Nat), es.map (fun e => (e.key, e.val)) = l.map (fun p => (Value.string p.1, p.2)) →
    (look k l = none → Instr.findNow .string (.string k) es i = some none) ∧ (∀ v, look k l = some v → ∃ j, Instr.findNow .string (.string k) es i = some (some (j, v)))
  | [], [], i, _ => by simp [look, Instr.findNow]
  | [], _ :: _, i, h => by simp at h
  | _ :: _, [], i, h => by simp at h
  | e :: es, p :: l, i, h => by
    simp only [List.map_cons, List.cons.injEq, Prod.mk.injEq] at h
    obtain ⟨⟨hk, hv⟩, hr⟩ := h
    have ih := findNow_look k es l (i + 1) hr
    by_cases hkp : (k == p.1) = true
    · simp [look, Instr.findNow, hk, Instr.sameNow, hkp, hv]
    · have hkp' : (k == p.1) = false := by simpa using hkp
      simp only [look, Instr.findNow, hk, Instr.sameNow, hkp']
      exact ih

section
variable {P : Program} {w : World} {b : Nat} {l : List (ByteArray × Value)} {t kt et : TypeId}

theorem run_check {w : World} {kt : TypeId} (hk : P.underlying kt = some .string) (e : Bool) (n : Nat) (k : ByteArray) : (Instr.checkKey e (n + 1) kt (.string k)).run P w = .ok () w :=
  MapKept.run_checkKey hk (by simp [MapKept.IsKey]) e n

theorem HasMap.look_some (h : HasMap w b l) (ht : P.underlying t = some (.map kt et)) (hk : P.underlying kt = some .string) (k : ByteArray) (v : Value) (hv : look k l = some v) (ok : Bool) :
    (Instr.lookup t (.map (some b)) (.string k) ok).run P w = .ok (if ok then .tuple #[v, .bool true] else v) w := by
  obtain ⟨es, c, hb, hl, _⟩ := h
  obtain ⟨j, hj⟩ := (findNow_look k es.toList l 0 hl).2 v hv
  simp [Instr.lookup, run_underlying ht, MapKept.run_getObj_map hb, run_check hk, MapKept.run_findKey hk hj, Result.andThen]

theorem HasMap.look_none (h : HasMap w b l) (ht : P.underlying t = some (.map kt et)) (hk : P.underlying kt = some .string) {z : Value} (hz : (zeroValue et).run P w = .ok z w) (k : ByteArray) (hv : look k l = none) (ok : Bool) :
    (Instr.lookup t (.map (some b)) (.string k) ok).run P w = .ok (if ok then .tuple #[z, .bool false] else z) w := by
  obtain ⟨es, c, hb, hl, _⟩ := h
  have hj := (findNow_look k es.toList l 0 hl).1 hv
  simp [Instr.lookup, run_underlying ht, MapKept.run_getObj_map hb, run_check hk, MapKept.run_findKey hk hj, hz, Result.andThen]

/-- A store at a new key. -/
theorem HasMap.put (h : HasMap w b l) (ht : P.underlying t = some (.map kt et)) (hk : P.underlying kt = some .string) (k : ByteArray) (v : Value) (hv : look k l = none) :
    ∃ w', (Instr.mapUpdate t (.map (some b)) (.string k) v).run P w = .ok () w' ∧ HasMap w' b (l ++ [(k, v)]) ∧ Kept [b] w w' ∧ w'.heap.size = w.heap.size := by
  obtain ⟨es, c, hb, hl, hp, hc⟩ := h
  have hj := (findNow_look k es.toList l 0 hl).1 hv
  have hlt := lt_of_heap hb
  refine ⟨{ w with heap := w.heap.setIfInBounds b (.map (es.push { key := .string k, val := v, born := c }) (c + 1)) }, ?_, ?_, ?_, by simp⟩
  · simp [Instr.mapUpdate, run_underlying ht, MapKept.run_getObj_map hb, run_check hk, MapKept.run_findKey hk hj, MapKept.run_setObj_map _ hb, Result.andThen]
  · refine ⟨_, _, by rw [Array.getElem?_setIfInBounds_self_of_lt hlt], by simp [hl], ?_, ?_⟩
    · simp only [Array.toList_push]
      rw [List.pairwise_append]
      refine ⟨hp, by simp, fun x hx y hy => ?_⟩
      simp at hy; subst hy
      have := hc x hx
      simp; omega
    · intro e he
      simp only [Array.toList_push, List.mem_append, List.mem_singleton] at he
      rcases he with he | he
      · have := hc e he; omega
      · subst he; simp
  · refine ⟨rfl, rfl, rfl, by simp, fun i hi hn => ?_⟩
    simp only [List.mem_singleton] at hn
    rw [Array.getElem?_setIfInBounds, if_neg (fun e => hn e.symm)]

theorem HasMap.len (h : HasMap w b l) (ht : P.underlying t = some (.map kt et)) (ty : TypeId) :
    (Builtin.len_ #[t] ty #[.map (some b)]).run P w = .ok (.int .i64 l.length) w := by
  obtain ⟨es, c, hb, hl, _⟩ := h
  have : es.size = l.length := by simpa using congrArg List.length hl
  simp [Builtin.len_, run_underlying ht, MapKept.run_getObj_map hb, goInt, this, Result.andThen]
end
end Go.Proofs.YbulkjbuDoor
