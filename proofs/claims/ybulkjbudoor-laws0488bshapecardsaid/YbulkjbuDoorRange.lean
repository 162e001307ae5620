/-
  Seat b0488aD (from the same prover's text for seat b0488a): ranging over a map keyed by strings that the round does not write.
-/
import Derived.Test.YbulkjbuDoorBase
import Derived.Maps.RangeRun
namespace Go.Proofs.YbulkjbuDoor
open Go.RowKit
open Go.ChangeMaps (setBlock)

def strOf : Value → ByteArray | .string s => s | _ => ByteArray.empty
def kvOf (e : MapEntry) : ByteArray × Value := (strOf e.key, e.val)

theorem kv_of_map : ∀ (es : List MapEntry) (l : List (ByteArray × Value)), es.map (fun e => (e.key, e.val)) = l.map (fun p => (Value.string p.1, p.2)) →
    l = es.map kvOf ∧ ∀ e ∈ es, e.key = .string (kvOf e).1
  | [], [], _ => by simp
  | [], _ :: _, h => by simp at h
  | _ :: _, [], h => by simp at h
  | e :: es, p :: l, h => by
    simp only [List.map_cons, List.cons.injEq, Prod.mk.injEq] at h
    obtain ⟨⟨hk, hv⟩, hr⟩ := h
    obtain ⟨h1, h2⟩ := kv_of_map es l hr
    have e1 : kvOf e = p := by obtain ⟨a, b⟩ := p; simp only at hk hv; simp [kvOf, hk, hv, strOf]
    refine ⟨by rw [List.map_cons, e1, ← h1], fun x hx => ?_⟩
    rcases List.mem_cons.1 hx with rfl | hx
    · rw [e1]; exact hk
    · exact h2 x hx

theorem map_of_kv {es : List MapEntry} (h : ∀ e ∈ es, e.key = .string (kvOf e).1) : es.map (fun e => (e.key, e.val)) = (es.map kvOf).map (fun p => (Value.string p.1, p.2)) := by
  rw [List.map_map]
  apply List.map_congr_left
  intro e he
  simp only [Function.comp]
  rw [← h e he]; rfl

/-- Block r ranges over the map in block b, whose entries are l; 'left' are still to come. -/
def Ranging (w : World) (b r : Nat) (l left : List (ByteArray × Value)) : Prop :=
  ∃ es clock seen, w.heap[b]? = some (.map es clock) ∧ l = es.toList.map kvOf ∧ (∀ e ∈ es.toList, e.key = .string (kvOf e).1) ∧
    es.toList.Pairwise (fun x y => x.born ≠ y.born) ∧ (∀ e ∈ es.toList, e.born < clock) ∧ w.heap[r]? = some (.mapIter (some b) clock seen clock) ∧
    left = (leftOf es seen).toList.map kvOf

theorem Ranging.hasMap {w : World} {b r : Nat} {l left : List (ByteArray × Value)} (h : Ranging w b r l left) : HasMap w b l := by
  obtain ⟨es, c, seen, hb, rfl, hk, hp, hc, _⟩ := h
  exact ⟨es, c, hb, map_of_kv hk, hp, hc⟩
theorem Ranging.ne {w : World} {b r : Nat} {l left : List (ByteArray × Value)} (h : Ranging w b r l left) : r ≠ b := by
  obtain ⟨es, c, seen, hb, _, _, _, _, hr, _⟩ := h
  rintro rfl
  rw [hb] at hr; simp at hr
theorem Ranging.lt {w : World} {b r : Nat} {l left : List (ByteArray × Value)} (h : Ranging w b r l left) : r < w.heap.size := by
  obtain ⟨es, c, seen, hb, _, _, _, _, hr, _⟩ := h
  exact lt_of_heap hr
theorem Ranging.keep {w w' : World} {b r : Nat} {l left : List (ByteArray × Value)} {ws : List Nat} (h : Ranging w b r l left) (k : Kept ws w w') (hb : b ∉ ws) (hr : r ∉ ws) : Ranging w' b r l left := by
  have h1 := h.hasMap.lt
  have h2 := h.lt
  obtain ⟨es, c, seen, e1, e2, e3, e4, e5, e6, e7⟩ := h
  exact ⟨es, c, seen, (k.block b h1 hb).trans e1, e2, e3, e4, e5, (k.block r h2 hr).trans e6, e7⟩

theorem perm_pick : ∀ {L : List MapEntry}, L.Pairwise (fun x y => x.born ≠ y.born) → ∀ {e : MapEntry}, e ∈ L → L.Perm (e :: L.filter (fun x => !(x.born == e.born)))
  | [], _, e, h => by simp at h
  | a :: L, hp, e, h => by
    rw [List.pairwise_cons] at hp
    rcases List.mem_cons.1 h with rfl | h
    · have : L.filter (fun x => !(x.born == e.born)) = L := List.filter_eq_self.2 (fun x hx => by have := hp.1 x hx; simp; exact fun q => this q.symm)
      rw [List.filter_cons]; simp [this]
    · have hne : a.born ≠ e.born := hp.1 e h
      rw [List.filter_cons]
      have : (!(a.born == e.born)) = true := by simpa using hne
      rw [if_pos this]
      exact ((perm_pick hp.2 h).cons a).trans (List.Perm.swap e a _)

section
variable {P : Program} {w : World} {b r : Nat} {l left : List (ByteArray × Value)} {t kt et : TypeId}

theorem HasMap.range (h : HasMap w b l) (ht : P.underlying t = some (.map kt et)) :
    ∃ w', (Instr.range t (.map (some b))).run P w = .ok (.pointer (some ⟨w.heap.size, 0, none⟩)) w' ∧ Ranging w' b w.heap.size l l ∧ Kept [] w w' ∧ w'.heap.size = w.heap.size + 1 := by
  have hlt := h.lt
  obtain ⟨es, c, hb, hl, hp, hc⟩ := h
  obtain ⟨h1, h2⟩ := kv_of_map es.toList l hl
  refine ⟨_, run_range_map w t kt et b es c ht hb, ⟨es, c, #[], (Below.heap_alloc w _ b hlt).trans hb, h1, h2, hp, hc, (MapKept.heap_alloc w _).1, ?_⟩, Kept.alloc w _, by simp⟩
  have : leftOf es #[] = es := by simp [leftOf]
  rw [this]; exact h1

theorem Ranging.next (h : Ranging w b r l left) (ty : TypeId) :
    (left = [] ∧ (Instr.next (.pointer (some ⟨r, 0, none⟩)) false ty).run P w = .ok (.tuple #[.bool false]) w) ∨
    ∃ (k : ByteArray) (v : Value) (left' : List (ByteArray × Value)) (w' : World), left.Perm ((k, v) :: left') ∧
      (Instr.next (.pointer (some ⟨r, 0, none⟩)) false ty).run P w = .ok (.tuple #[.bool true, .string k, v]) w' ∧ Ranging w' b r l left' ∧ Kept [r] w w' ∧ w'.heap.size = w.heap.size ∧
      (Instr.entry (.pointer (some ⟨r, 0, none⟩))).run P w' = .ok (.tuple #[.string k, v]) w' := by
  have hne := h.ne
  obtain ⟨es, c, seen, hb, hl, hk, hp, hc, hr, hleft⟩ := h
  rcases run_next_at (P := P) w ty r b c c seen es c hr hb hc (Nat.le_refl _) with ⟨h0, hrun⟩ | ⟨e, he, w1, hal, hrun⟩
  · refine Or.inl ⟨?_, hrun⟩
    rw [hleft, Array.eq_empty_of_size_eq_zero h0]; rfl
  · have hem : e ∈ es.toList := by
      have : e ∈ (leftOf es seen).toList := he
      simp only [leftOf, Array.toList_filter, List.mem_filter] at this
      exact this.1
    have hke := hk e hem
    have hr1 : w1.heap[r]? = some (.mapIter (some b) c seen c) := by rcases hal with rfl | rfl <;> exact hr
    have hb1 : w1.heap[b]? = some (.map es c) := by rcases hal with rfl | rfl <;> exact hb
    have hset := MapKept.heap_set (o' := .mapIter (some b) c (seen.push e.born) c) hr1
    have hb' : (setBlock w1 r (.mapIter (some b) c (seen.push e.born) c)).heap[b]? = some (.map es c) := (hset.2 b (fun e1 => hne e1.symm)).trans hb1
    have hnd : (es.toList.map (·.born)).Nodup := by
      rw [List.Nodup, List.pairwise_map]; exact hp
    refine Or.inr ⟨(kvOf e).1, e.val, (leftOf es (seen.push e.born)).toList.map kvOf, _, ?_, by rw [hrun, hke], ⟨es, c, seen.push e.born, hb', hl, hk, hp, hc, hset.1, rfl⟩, ?_, ?_, ?_⟩
    · rw [hleft]
      have hpl : (leftOf es seen).toList.Pairwise (fun x y => x.born ≠ y.born) := by
        simp only [leftOf, Array.toList_filter]; exact hp.filter _
      have := perm_pick hpl he
      have e2 : (leftOf es (seen.push e.born)).toList = (leftOf es seen).toList.filter (fun x => !(x.born == e.born)) := by
        simp only [leftOf, Array.toList_filter, List.filter_filter]
        apply List.filter_congr
        intro x _
        by_cases hx : x.born = e.born <;> simp [hx]
      rw [e2]
      exact this.map kvOf
    · rcases hal with rfl | rfl <;> exact ⟨rfl, rfl, rfl, by simp [setBlock], fun i _ hi => hset.2 i (by simpa using hi)⟩
    · rcases hal with rfl | rfl <;> simp [setBlock]
    · rw [run_entry_at _ r b c seen es c e hset.1 hb' hem hnd, hke]
end

/-! ### lists of keys and values -/
theorem look_append (k : ByteArray) : ∀ (a b : List (ByteArray × Value)), look k (a ++ b) = (look k a).or (look k b)
  | [], b => by simp [look]
  | p :: a, b => by
    simp only [List.cons_append, look]
    split
    · simp
    · exact look_append k a b
theorem look_none_iff (k : ByteArray) : ∀ (l : List (ByteArray × Value)), look k l = none ↔ ∀ p ∈ l, p.1 ≠ k
  | [] => by simp [look]
  | p :: r => by
    simp only [look, List.mem_cons, forall_eq_or_imp]
    by_cases h : (k == p.1) = true
    · rw [if_pos h]
      have := (MapKept.bytes_beq _ _).1 h
      simp [this]
    · rw [if_neg h, look_none_iff k r]
      have : p.1 ≠ k := fun e => h ((MapKept.bytes_beq _ _).2 e.symm)
      simp [this]
theorem look_mem {k : ByteArray} {v : Value} : ∀ {l : List (ByteArray × Value)}, (l.map Prod.fst).Nodup → (k, v) ∈ l → look k l = some v
  | [], _, h => by simp at h
  | p :: r, hn, h => by
    simp only [List.map_cons, List.nodup_cons] at hn
    simp only [look]
    rcases List.mem_cons.1 h with rfl | h
    · rw [if_pos ((MapKept.bytes_beq _ _).2 rfl)]
    · have : p.1 ≠ k := fun e => hn.1 (by rw [e]; exact List.mem_map.2 ⟨_, h, rfl⟩)
      rw [if_neg (fun q => this ((MapKept.bytes_beq _ _).1 q).symm)]
      exact look_mem hn.2 h
theorem mem_of_look {k : ByteArray} {v : Value} : ∀ {l : List (ByteArray × Value)}, look k l = some v → (k, v) ∈ l
  | [], h => by simp [look] at h
  | p :: r, h => by
    simp only [look] at h
    split at h
    · rename_i hk
      have := (MapKept.bytes_beq _ _).1 hk
      obtain ⟨a, b⟩ := p
      simp only at this h
      cases h; subst this; simp
    · exact List.mem_cons_of_mem _ (mem_of_look h)
theorem look_perm {a b : List (ByteArray × Value)} (h : a.Perm b) (hn : (b.map Prod.fst).Nodup) (k : ByteArray) : look k a = look k b := by
  have ha : (a.map Prod.fst).Nodup := (h.map Prod.fst).nodup_iff.2 hn
  cases hb : look k b with
  | none => rw [look_none_iff] at hb ⊢; exact fun p hp => hb p (h.mem_iff.1 hp)
  | some v => exact look_mem ha (h.mem_iff.2 (mem_of_look hb))
end Go.Proofs.YbulkjbuDoor
