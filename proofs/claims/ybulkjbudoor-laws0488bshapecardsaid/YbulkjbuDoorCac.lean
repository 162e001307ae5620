/-
  Seat b0488aD (from the same prover's text for seat b0488a): setup.cuesAndContexts.
-/
import Derived.Test.YbulkjbuDoorCopy
namespace Go.Proofs.YbulkjbuDoor
open Go.RowKit

/-- The first n strings of f, as values. -/
def strs (f : Nat → ByteArray) (n : Nat) : List Value := (List.range n).map fun i => Value.string (f i)
/-- The first n strings of f, each at its place, counted from c. -/
def kvs (f : Nat → ByteArray) (c n : Nat) : List (ByteArray × Value) := (List.range n).map fun i => (f i, Value.int .i64 ((c : Int) + (i : Int)))

theorem strs_at (f : Nat → ByteArray) (n j : Nat) (hj : j < n) : (strs f n)[j]? = some (.string (f j)) := by simp [strs, hj]
theorem strs_len (f : Nat → ByteArray) (n : Nat) : (strs f n).length = n := by simp [strs]
theorem strs_one (f : Nat → ByteArray) (n : Nat) : ∀ u ∈ strs f n, u.oneCell' = true := by
  intro u hu; simp only [strs, List.mem_map] at hu; obtain ⟨i, _, rfl⟩ := hu; rfl
theorem strs_succ (f : Nat → ByteArray) (n : Nat) : strs f (n + 1) = strs f n ++ [.string (f n)] := by simp [strs, List.range_succ]
theorem kvs_succ (f : Nat → ByteArray) (c n : Nat) : kvs f c (n + 1) = kvs f c n ++ [(f n, .int .i64 ((c : Int) + (n : Int)))] := by simp [kvs, List.range_succ]
theorem kvs_len (f : Nat → ByteArray) (c n : Nat) : (kvs f c n).length = n := by simp [kvs]
theorem kvs_fresh (f : Nat → ByteArray) (c n : Nat) (k : ByteArray) (h : ∀ i, i < n → f i ≠ k) : look k (kvs f c n) = none := by
  rw [look_none_iff]; intro p hp
  simp only [kvs, List.mem_map, List.mem_range] at hp
  obtain ⟨i, hi, rfl⟩ := hp; exact h i hi
theorem kvs_keys (f : Nat → ByteArray) (c n : Nat) : (kvs f c n).map Prod.fst = (List.range n).map f := by simp [kvs]
theorem kvs_nodup (f : Nat → ByteArray) (c n : Nat) (h : ∀ i j, i < n → j < n → f i = f j → i = j) : ((kvs f c n).map Prod.fst).Nodup := by
  rw [kvs_keys, List.Nodup, List.pairwise_map]
  apply List.Pairwise.imp_of_mem _ (List.nodup_range (n := n))
  intro a b ha hb hne e
  exact hne (h a b (List.mem_range.1 ha) (List.mem_range.1 hb) e)
theorem kvs_look (f : Nat → ByteArray) (c n j : Nat) (hj : j < n) (h : ∀ i j, i < n → j < n → f i = f j → i = j) : look (f j) (kvs f c n) = some (.int .i64 ((c : Int) + (j : Int))) := by
  apply look_mem (kvs_nodup f c n h)
  simp only [kvs, List.mem_map, List.mem_range]
  exact ⟨j, hj, rfl⟩

theorem run_makeMap_hint {P : Program} (w : World) (t kt et : TypeId) (k : IntKind) (n : Int) (ht : P.underlying t = some (.map kt et)) : (Instr.makeMap t (some (.int k n))).run P w = .ok (.map (some w.heap.size)) (w.alloc (.map #[] 0)) := by
  simp [Instr.makeMap, run_underlying ht, asInt, asIntOf, Result.andThen]

set_option maxRecDepth 100000 in
set_option maxHeartbeats 1000000 in
theorem cac_any (f g : Nat → ByteArray) (a1 a2 a3 : Option Addr) (n1 n2 n3 c1 c2 c3 b1 b2 m1 m2 mu mp : Nat) (l1 : List (ByteArray × Value)) (gs gl sd : Int) (gu : Option Nat) (w : World) (h1 : n1 ≤ 100) (h2 : n2 ≤ 100)
    (s1 : Sl w b1 9 a1 n1 c1 (strs f n1)) (s2 : Sl w b2 9 a2 n2 c2 (strs g n2)) (hm1 : HasMap w m1 l1) (hn1 : (l1.map Prod.fst).Nodup)
    (hg1 : ∀ i, i < n2 → look (g i) l1 = none) (hg2 : ∀ i j, i < n2 → j < n2 → g i = g j → i = j) :
    Calls Ybad.prog 12 #[.agg #[.slice a1 n1 c1, .map (some m1), .slice a2 n2 c2, .map (some m2), .slice a3 n3 c3, .map (some mu), .map (some mp), .int .i64 gs, .int .i64 gl, .map gu, .int .u64 sd]] w fun e w' =>
      ∃ ad cap p l, e = .returned (.tuple #[.slice ad (n1 + n2) cap, .map (some p)]) ∧ Sl w' w.heap.size 9 ad (n1 + n2) cap (strs f n1 ++ strs g n2) ∧ HasMap w' p (l ++ kvs g n1 n2) ∧ l.Perm l1 ∧ w.heap.size < p ∧ (∀ g', ad = some ⟨g', 0, none⟩ → g' < p) ∧ Kept [] w w' := by
  have e1 : (n1 : Int) ≤ 100 := by omega
  have e2 : (n2 : Int) ≤ 100 := by omega
  have hmk := fun w n => run_makeMap_hint (P := Ybad.prog) w 28 9 3 .i64 n Ybad.underlying28
  go_enter Ybad.func12, Ybad.ntmps12
  go_wp2_with fail
  have ka := (Kept.alloc w (.cells #[.slice a1 n1 c1, .map (some m1), .slice a2 n2 c2, .map (some m2), .slice a3 n3 c3, .map (some mu), .map (some mp), .int .i64 gs, .int .i64 gl, .map gu, .int .u64 sd] 32)).trans (Kept.alloc _ (.cells #[.slice a1 n1 c1, .slice a2 n2 c2] 27)) (by simp)
  refine (concat_two (w.heap.size + 1) b1 b2 a1 a2 n1 n2 c1 c2 _ _ _ (by omega) (by omega) (by simp [go_sem]) (by simp [go_sem]) (s1.keep ka (by simp)) (s2.keep ka (by simp)) (strs_one _ _) (strs_one _ _)).mono ?_
  rintro e w1 ⟨ad, cap, rfl, t1, k1⟩
  have q0 := k1.cell (b := w.heap.size) (o := 0) (v := .slice a1 n1 c1) (by simp [go_sem])
  have q1 := k1.cell (b := w.heap.size) (o := 1) (v := .map (some m1)) (by simp [go_sem])
  have q2 := k1.cell (b := w.heap.size) (o := 2) (v := .slice a2 n2 c2) (by simp [go_sem])
  have k2 := ka.trans k1 (by simp)
  have hz : w.heap.size < w1.heap.size := by have := k1.size; simp at this; omega
  have hz' := t1.mono (base' := w.heap.size) (by simp; omega)
  have HT : Hid (Sl w1 w.heap.size 9 ad (n1 + n2) cap (strs f n1 ++ strs g n2)) := hz'
  have HM : Hid (HasMap w m1 l1) := hm1
  have HS2 : Hid (Sl w b2 9 a2 n2 c2 (strs g n2)) := s2
  have HK : Hid (Kept [] w w1) := k2
  clear ka t1 k1 k2 hm1 s1 s2 hz'
  go_wp2_with fail
  have kb := Kept.alloc w1 (.map #[] 0)
  have hlt1 := HM.out.lt
  refine (copy_any w1.heap.size m1 l1 _ (by omega) (HasMap.made w1) ((HM.out.keep HK.out (by simp)).keep kb (by simp)) hn1).mono ?_
  rintro e w2 ⟨rfl, l, hpl, hm, k2⟩
  have k12 : Kept [] w1 w2 := kb.trans k2 (by simp)
  have q0' := k12.cell q0
  have q2' := k12.cell q2
  have hz2 := k12.size
  have HT2 : Hid (Sl w2 w.heap.size 9 ad (n1 + n2) cap (strs f n1 ++ strs g n2)) := HT.out.keep k12 (by simp)
  have HK2 : Hid (Kept [] w w2) := HK.out.trans k12 (by simp)
  have HPL : Hid (l.Perm l1) := hpl
  have HR : Hid (∀ g', ad = some ⟨g', 0, none⟩ → g' < w1.heap.size) := fun g' hg' => (HT.out.lt' g' hg').2
  have hdl := hm.lt
  have hlook : ∀ i, i < n2 → look (g i) l = none := fun i hi => by rw [look_none_iff]; intro p hp; exact (look_none_iff _ _).1 (hg1 i hi) p (hpl.mem_iff.1 hp)
  clear kb k2 hpl HM HK HT k12 q0 q1 q2 hlt1 hn1 hg1
  generalize hd : w1.heap.size = d at *
  have HD : Hid (w.heap.size < d) := by show _ < _; omega
  clear hd
  go_wp2_with fail
  go_loopw [24] (fun i wr => ∃ k : Nat, k ≤ n2 ∧ i = .int .i64 k ∧ HasMap wr d (l ++ kvs g n1 k) ∧ Kept [d] w2 wr) (fun i _ => n2 - (intOf i).toNat)
  case atStart => exact ⟨0, Nat.zero_le _, rfl, by simpa [kvs] using hm, Kept.refl _ _⟩
  case round =>
    obtain ⟨k, hk, rfl, hmk2, hkk⟩ := hrel
    have hS := HS2.out
    have hDlt := HD.out
    have r0 := hkk.cell q0' (by simp; omega)
    by_cases hlt : k < n2
    · rcases hS.cases with ⟨_, h0, _⟩ | ⟨gb, hga, hgb, hgl, hgc, _⟩
      · omega
      · have c0 := (HK2.out.cell ((hgc k hlt).trans (strs_at g n2 k hlt)))
        have c1 := hkk.cell c0 (by simp; omega)
        have hfr : look (g k) (l ++ kvs g n1 k) = none := by
          rw [look_append, hlook k hlt, kvs_fresh g n1 k (g k) (fun i hi e => by have := hg2 i k (by omega) hlt e; omega)]; rfl
        subst hga
        clear hgc c0 hS
        go_wp2_with (at_mapUpdate; refine wpList_put _ rfl _ _ _ 28 9 3 rfl Ybad.underlying28 Ybad.underlying9 d _ rfl hmk2 (g k) (.int .i64 ((n1 : Int) + (k : Int))) rfl rfl hfr ?_; intro w5 hm5 k5 hs5)
        go_roundw
        case rel => exact ⟨k + 1, by omega, by go_num, by rw [kvs_succ, ← List.append_assoc]; exact hm5, hkk.trans k5 (by simp)⟩
        case measure => simp [intOf]; omega
    · obtain rfl : k = n2 := by omega
      go_wp2_with fail
      go_ret2
      exact ⟨ad, cap, d, l, rfl, HT2.out.keep2 hkk (fun g' hg' => by have := HR.out g' hg'; simp; omega), hmk2, HPL.out, by omega, HR.out, HK2.out.trans hkk (by simp; omega)⟩
end Go.Proofs.YbulkjbuDoor
