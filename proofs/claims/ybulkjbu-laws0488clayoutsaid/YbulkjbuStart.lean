/-
  Seat b0488a: startRescorlaWagner.
-/
import Derived.Test.YbulkjbuCac
import Derived.Deep.OwnRows
import Derived.BigRegion
namespace Go.Proofs.Ybulkjbu
open Go.RowKit

theorem Yba.info23 : (Yba.prog.info? 23).map (fun i => (i.zero, i.size, i.bytes)) = some (some (.float .f64 0), 1, 8) := by kernel_rfl
theorem Yba.info3 : (Yba.prog.info? 3).map (fun i => (i.zero, i.size, i.bytes)) = some (some (.int .i64 0), 1, 8) := by kernel_rfl
theorem Yba.zero23 (w : World) : (zeroValue 23).run Yba.prog w = .ok (.float .f64 0) w := by kernel_rfl

/-- The product: the number, or some bits that are no number. -/
def Rate (a b rt : Nat) : Prop := match FloatKind.f64.format.mul a b with
  | some r => rt = r
  | none => ∃ n fr, FloatKind.f64.format.read rt = .nan n fr

/-- The first k magnitudes, the rest nought. -/
def mags (fl : Nat → Nat) (n k : Nat) : List Value := (List.range n).map fun i => Value.float .f64 (if i < k then fl i else 0)

theorem made_list (z : Value) (n : Nat) : (madeCells #[z] n) = (List.replicate n z).toArray := by
  apply Array.ext
  · simp [size_madeCells]
  · intro i h1 h2
    simp [madeCells, Nat.mod_one]
theorem mags_zero (fl : Nat → Nat) (n : Nat) : mags fl n 0 = List.replicate n (.float .f64 0) := by
  unfold mags
  rw [List.eq_replicate_iff]
  refine ⟨by simp, fun b hb => ?_⟩
  simp only [List.mem_map] at hb
  obtain ⟨i, _, rfl⟩ := hb
  simp
theorem mags_succ (fl : Nat → Nat) (n k : Nat) (hk : k < n) : (mags fl n k).set k (.float .f64 (fl k)) = mags fl n (k + 1) := by
  apply List.ext_getElem?
  intro j
  unfold mags
  rw [List.getElem?_set]
  by_cases hj : j < n
  · by_cases hjk : k = j
    · subst hjk; simp [hk]
    · rw [if_neg hjk]
      simp only [List.getElem?_map, List.getElem?_range hj, Option.map_some]
      have : (j < k ↔ j < k + 1) := by omega
      simp [this]
  · have e1 : (List.range n)[j]? = none := by simp; omega
    by_cases hjk : k = j
    · omega
    · simp [hjk, e1]
theorem mags_at (fl : Nat → Nat) (n k j : Nat) (hj : j < n) : (mags fl n k)[j]? = some (.float .f64 (if j < k then fl j else 0)) := by simp [mags, hj]

theorem nan_read (x y : Nat) (hy : y < 4503599627370495) : ∃ n fr, FloatKind.f64.format.read (x % 2 * 9223372036854775808 + 9218868437227405312 + 1 + y) = .nan n fr := by
  have e1 : FloatKind.f64.format.signWeight = 9223372036854775808 := by decide +kernel
  have e2 : FloatKind.f64.format.binade = 4503599627370496 := by decide +kernel
  have e3 : FloatKind.f64.format.infRung = 9218868437227405312 := by decide +kernel
  have hr : (x % 2 * 9223372036854775808 + 9218868437227405312 + 1 + y) % 9223372036854775808 = 9218868437227405312 + 1 + y := by omega
  unfold Ieee.Format.read
  simp only [e1, e2, e3, hr]
  rw [if_neg (by omega), if_neg (by omega), if_neg (by omega)]
  exact ⟨_, _, rfl⟩
theorem nan_cut (a b t : Nat) : ∃ n fr, FloatKind.f64.format.read (Question.cut (.nanBits .f64 a b) t) = .nan n fr := by
  have e : Question.cut (.nanBits .f64 a b) t = t % 2 * 9223372036854775808 + 9218868437227405312 + 1 + t / 2 % 4503599627370495 := by
    unfold Question.cut
    simp only [Nat.reducePow, Nat.reduceSub]
  rw [e]
  exact nan_read t (t / 2 % 4503599627370495) (Nat.mod_lt _ (by decide))
theorem nan_order (a b : Nat) (h : ∃ n fr, FloatKind.f64.format.read a = .nan n fr) : FloatKind.f64.format.order a b = none := by
  obtain ⟨n, fr, h⟩ := h
  unfold Ieee.Format.order
  rw [h]
  rfl
theorem keep3 (w : World) (a b c : Obj) : Kept [] w (((w.alloc a).alloc b).alloc c).drew :=
  (((Kept.alloc w a).trans (Kept.alloc _ b) (by simp)).trans (Kept.alloc _ c) (by simp)).trans (Kept.drew _) (by simp)
theorem keep4 (w : World) (a b c : Obj) : Kept [] w (((w.alloc a).alloc b).alloc c).drew.drew := (keep3 w a b c).trans (Kept.drew _) (by simp)
theorem row3 (w : World) (a b : Obj) (vs : List Value) (t : TypeId) : Row (((w.alloc a).alloc b).alloc (.cells vs.toArray t)).drew (w.heap.size + 1 + 1) vs t := by
  have h : ((w.alloc a).alloc b).heap.size = w.heap.size + 1 + 1 := by simp
  have := Row.made ((w.alloc a).alloc b) vs t
  rw [h] at this; exact this
theorem row1 (w : World) (n : Nat) (z : Value) (t : TypeId) (b c : Obj) : Row (((w.alloc (.cells (madeCells #[z] n) t)).alloc b).alloc c).drew w.heap.size (List.replicate n z) t := by
  have h1 : Row (w.alloc (.cells (madeCells #[z] n) t)) w.heap.size (List.replicate n z) t := by rw [made_list]; exact Row.made _ _ _
  have h2 := (h1.keep (Kept.alloc _ b) (by simp)).keep (Kept.alloc _ c) (by simp)
  exact h2
theorem row2 (w : World) (n : Nat) (z : Value) (t : TypeId) (a c : Obj) : Row (((w.alloc a).alloc (.cells (madeCells #[z] n) t)).alloc c).drew (w.heap.size + 1) (List.replicate n z) t := by
  have h1 : Row ((w.alloc a).alloc (.cells (madeCells #[z] n) t)) (w.heap.size + 1) (List.replicate n z) t := by
    have h : (w.alloc a).heap.size = w.heap.size + 1 := by simp
    rw [made_list, ← h]; exact Row.made _ _ _
  have h2 := h1.keep (Kept.alloc _ c) (by simp)
  exact h2

set_option maxRecDepth 100000 in
set_option maxHeartbeats 2000000 in
theorem start_any (f g h : Nat → ByteArray) (fl : Nat → Nat) (a1 a2 a3 : Option Addr) (n1 n2 n3 c1 c2 c3 b1 b2 b3 m1 m2 mu mp alpha beta : Nat) (l1 lu lp : List (ByteArray × Value)) (w : World) (h1 : n1 ≤ 100) (h2 : n2 ≤ 100) (h3 : n3 ≤ 100)
    (s1 : Sl w b1 9 a1 n1 c1 (strs f n1)) (s2 : Sl w b2 9 a2 n2 c2 (strs g n2)) (s3 : Sl w b3 9 a3 n3 c3 (strs h n3)) (hm1 : HasMap w m1 l1) (hmu : HasMap w mu lu) (hmp : HasMap w mp lp) (hn1 : (l1.map Prod.fst).Nodup)
    (hg1 : ∀ i, i < n2 → look (g i) l1 = none) (hg2 : ∀ i j, i < n2 → j < n2 → g i = g j → i = j)
    (hh1 : ∀ i, i < n3 → look (h i) l1 = none) (hh2 : ∀ i j, i < n3 → j < n2 → g j ≠ h i) (hh3 : ∀ i j, i < n3 → j < n3 → h i = h j → i = j)
    (hu : ∀ i, i < n3 → look (h i) lu = some (.float .f64 (fl i)) ∨ (look (h i) lu = none ∧ fl i = 0))
    (ha : look ⟨#[97, 108, 112, 104, 97]⟩ lp = some (.float .f64 alpha)) (hb : look ⟨#[98, 101, 116, 97]⟩ lp = some (.float .f64 beta)) :
    Calls Yba.prog 5 #[.agg #[.slice a1 n1 c1, .map (some m1), .slice a2 n2 c2, .map (some m2), .slice a3 n3 c3, .map (some mu), .map (some mp), .int .i64 0, .int .i64 0, .map none, .int .u64 0]] w fun e w' =>
      ∃ L ad cap p l gm gv gc rt, e = .returned (.iface 36 (.pointer (some ⟨L, 0, none⟩))) ∧
        Row w' L [.float .f64 rt, .slice ad (n1 + n2) cap, .map (some p), .slice (some ⟨gm, 0, none⟩) n3 n3, .slice (some ⟨gv, 0, none⟩) (n1 + n2) (n1 + n2), .int .i64 0, .slice (some ⟨gc, 0, none⟩) (n1 + n2 + n3) (n1 + n2 + n3), .slice none 0 0] 41 ∧
        Sl w' w.heap.size 9 ad (n1 + n2) cap (strs f n1 ++ strs g n2) ∧ HasMap w' p (l ++ kvs g n1 n2 ++ kvs h (n1 + n2) n3) ∧ l.Perm l1 ∧
        Row w' gm (mags fl n3 n3) 23 ∧ Row w' gv (List.replicate (n1 + n2) (.float .f64 0)) 23 ∧ Row w' gc (List.replicate (n1 + n2 + n3) (.int .i64 0)) 3 ∧ Rate alpha beta rt ∧ Kept [] w w' := by
  have e1 : (n1 : Int) ≤ 100 := by omega
  have e2 : (n2 : Int) ≤ 100 := by omega
  have e3 : (n3 : Int) ≤ 100 := by omega
  have hmk := fun W => run_make_row' (P := Yba.prog) 22 23 (.float .f64 0) 8 Yba.underlying22 Yba.info23 rfl .i64 .i64 n3 (by omega) (by omega) W
  go_enter Yba.func5, Yba.ntmps5
  go_wp2_with fail
  have ka := (Kept.alloc w (.cells #[.slice a1 n1 c1, .map (some m1), .slice a2 n2 c2, .map (some m2), .slice a3 n3 c3, .map (some mu), .map (some mp), .int .i64 0, .int .i64 0, .map none, .int .u64 0] 31))
  refine (cac_any f g a1 a2 a3 n1 n2 n3 c1 c2 c3 b1 b2 m1 m2 mu mp l1 _ h1 h2 (s1.keep ka (by simp)) (s2.keep ka (by simp)) (hm1.keep ka (by simp)) hn1 hg1 hg2).mono ?_
  rintro e w1 ⟨ad, cap, p, l, rfl, t1, hp, hpl, hpp, hrow, k1⟩
  have q4 := k1.cell (b := w.heap.size) (o := 4) (v := .slice a3 n3 c3) (by simp [go_sem])
  have q5 := k1.cell (b := w.heap.size) (o := 5) (v := .map (some mu)) (by simp [go_sem])
  have q6 := k1.cell (b := w.heap.size) (o := 6) (v := .map (some mp)) (by simp [go_sem])
  have hz : w.heap.size < w1.heap.size := by have := k1.size; simp at this; omega
  have K1 : Hid (Kept [] w w1) := ka.trans k1 (by simp)
  have T1 : Hid (Sl w1 (w.heap.size + 1) 9 ad (n1 + n2) cap (strs f n1 ++ strs g n2)) := by have := t1; rw [World.size_alloc] at this; exact this
  have HP : Hid (HasMap w1 p (l ++ kvs g n1 n2)) := hp
  have hpp' : w.heap.size < p := by simp at hpp; omega
  have HPL : Hid (l.Perm l1) := hpl
  have HS3 : Hid (Sl w b3 9 a3 n3 c3 (strs h n3)) := s3
  have HMU : Hid (HasMap w mu lu) := hmu
  have HMP : Hid (HasMap w mp lp) := hmp
  have hpl1 := hp.lt
  clear ka t1 k1 hp hpl hpp s1 s2 s3 hm1 hmu hmp hn1 hg1 hg2
  go_wp2_with fail
  have kb := Kept.alloc w1 (.cells (madeCells #[.float .f64 0] n3) 23)
  have r0 : Row (w1.alloc (.cells (madeCells #[.float .f64 0] n3) 23)) w1.heap.size (mags fl n3 0) 23 := by rw [mags_zero, made_list]; exact Row.made _ _ _
  have hp1 := HP.out.keep kb (by simp)
  have q5' := kb.cell q5
  have q4' := kb.cell q4
  have q6' := kb.cell q6
  have K2 : Hid (Kept [] w _) := K1.out.trans kb (by simp)
  have T2 : Hid (Sl _ (w.heap.size + 1) 9 ad (n1 + n2) cap (strs f n1 ++ strs g n2)) := T1.out.keep kb (by simp)
  have HR : Hid (∀ g', ad = some ⟨g', 0, none⟩ → g' < p) := hrow
  have hpg : p < w1.heap.size := hpl1
  clear q4 q5 q6 HP K1 T1 kb hrow hpl1
  generalize hW : w1.alloc (.cells (madeCells #[.float .f64 0] n3) 23) = W1 at *
  clear hW
  generalize hgm : w1.heap.size = gm at *
  clear hgm w1
  go_loopw [20] (fun i wr => ∃ k : Nat, k ≤ n3 ∧ i = .int .i64 k ∧ HasMap wr p (l ++ kvs g n1 n2 ++ kvs h (n1 + n2) k) ∧ Row wr gm (mags fl n3 k) 23 ∧ Kept [p, gm] W1 wr) (fun i _ => n3 - (intOf i).toNat)
  case atStart => exact ⟨0, Nat.zero_le _, rfl, by simpa [kvs] using hp1, r0, Kept.refl _ _⟩
  case round =>
    obtain ⟨k, hk, rfl, hm, hr, hkk⟩ := hrel
    by_cases hlt : k < n3
    · rcases HS3.out.cases with ⟨_, h0, _⟩ | ⟨g3, hg3, _, hgl, hgc, _⟩
      · omega
      · have c0 := hkk.cell (K2.out.cell ((hgc k hlt).trans (strs_at h n3 k hlt))) (by simp; omega)
        have c5 := hkk.cell q5' (by simp; omega)
        have hml := HMU.out.lt
        have hmu := (HMU.out.keep K2.out (by simp)).keep hkk (by simp; omega)
        have hfr : look (h k) (l ++ kvs g n1 n2 ++ kvs h (n1 + n2) k) = none := by
          rw [look_append, look_append, kvs_fresh h (n1 + n2) k (h k) (fun i hi e => by have := hh3 i k (by omega) hlt e; omega), kvs_fresh g n1 n2 (h k) (fun i hi => hh2 k i hlt hi)]
          have : look (h k) l = none := by rw [look_none_iff]; intro p hp; exact (look_none_iff _ _).1 (hh1 k hlt) p (HPL.out.mem_iff.1 hp)
          rw [this]; rfl
        have hlk : ∀ W, HasMap W mu lu → (Instr.lookup 25 (.map (some mu)) (.string (h k)) false).run Yba.prog W = .ok (.float .f64 (fl k)) W := by
          intro W hW
          rcases hu k hlt with hs | ⟨hs, h0⟩
          · exact hW.look_some Yba.underlying25 Yba.underlying9 _ _ hs false
          · rw [h0]; exact hW.look_none Yba.underlying25 Yba.underlying9 (Yba.zero23 W) _ hs false
        have HLK : Hid (∀ W, HasMap W mu lu → (Instr.lookup 25 (.map (some mu)) (.string (h k)) false).run Yba.prog W = .ok (.float .f64 (fl k)) W) := hlk
        have HMUr : Hid (HasMap wr mu lu) := hmu
        have HRr : Hid (Row wr gm (mags fl n3 k) 23) := hr
        have hgm0 := hr.lt
        subst hg3
        clear hgc hlk hmu hr
        go_wp2_with (at_mapUpdate; refine wpList_put _ rfl _ _ _ 24 9 3 rfl Yba.underlying24 Yba.underlying9 p _ rfl hm (h k) (.int .i64 ((n1 : Int) + (n2 : Int) + (k : Int))) rfl rfl hfr ?_; intro w5 hm5 k5 hs5; have c5' := k5.cell c5 (by simp; omega); have hlk5 := HLK.out w5 (HMUr.out.keep k5 (by simp; omega)); have hr5 := (HRr.out.keep k5 (by simp; omega)); have cg := hr5.cell k (mags_at fl n3 k k hlt); have fg := hr5.free k)
        go_roundw
        case rel =>
          refine ⟨k + 1, by omega, by go_num, ?_, ?_, ?_⟩
          · rw [kvs_succ, ← List.append_assoc]
            have hnn : (((n1 + n2 : Nat) : Int) + (k : Int)) = (n1 : Int) + (n2 : Int) + (k : Int) := by omega
            rw [hnn]
            exact hm5.setCell gm k _ (by omega)
          · rw [← mags_succ fl n3 k hlt]; exact hr5.set k _
          · exact (hkk.trans k5 (by simp)).trans (Kept.setCell _ _ _ _) (by simp)
        case measure => simp [intOf]; omega
    · obtain rfl : k = n3 := by omega
      have hmpl := HMP.out.lt
      have hbw : w.heap.size < wr.heap.size := by have := hr.lt; omega
      have q4r := hkk.cell q4' (by simp; omega)
      have q6r := hkk.cell q6' (by simp; omega)
      have hmp := (HMP.out.keep K2.out (by simp)).keep hkk (by simp; omega)
      have hc1 : ∀ W o, HasMap W mp lp → HasMap (W.alloc o) mp lp := fun W o h => h.keep (Kept.alloc W o) (by simp)
      have hc2 : ∀ W, HasMap W mp lp → HasMap W.drew mp lp := fun W h => h
      have hla : ∀ W, HasMap W mp lp → (Instr.lookup 25 (.map (some mp)) (.string ⟨#[97, 108, 112, 104, 97]⟩) false).run Yba.prog W = .ok (.float .f64 alpha) W := fun W hW => hW.look_some Yba.underlying25 Yba.underlying9 _ _ ha false
      have hlb : ∀ W, HasMap W mp lp → (Instr.lookup 25 (.map (some mp)) (.string ⟨#[98, 101, 116, 97]⟩) false).run Yba.prog W = .ok (.float .f64 beta) W := fun W hW => hW.look_some Yba.underlying25 Yba.underlying9 _ _ hb false
      have hla0 := hla wr.drew hmp
      have hlb0 := hlb wr.drew hmp
      have hla1 := fun o => hla (wr.alloc o).drew (hc1 _ o hmp)
      have hlb1 := fun o => hlb (wr.alloc o).drew (hc1 _ o hmp)
      have hla2 := fun o o' => hla ((wr.alloc o).alloc o').drew (hc1 _ o' (hc1 _ o hmp))
      have hlb2 := fun o o' => hlb ((wr.alloc o).alloc o').drew (hc1 _ o' (hc1 _ o hmp))
      clear hla hlb hc1 hc2
      have hmk1 : ∀ W, (Instr.makeSlice 22 (.int .i64 ((n1 : Int) + (n2 : Int))) (.int .i64 ((n1 : Int) + (n2 : Int)))).run Yba.prog W = .ok (.slice (some ⟨W.heap.size, 0, none⟩) (n1 + n2) (n1 + n2)) (W.alloc (.cells (madeCells #[.float .f64 0] (n1 + n2)) 23)) := fun W => by
        have := run_make_row' (P := Yba.prog) 22 23 (.float .f64 0) 8 Yba.underlying22 Yba.info23 rfl .i64 .i64 (n1 + n2) (by omega) (by omega) W
        rw [Int.natCast_add] at this; exact this
      have hmk2 : ∀ W, (Instr.makeSlice 39 (.int .i64 ((n1 : Int) + (n2 : Int) + (k : Int))) (.int .i64 ((n1 : Int) + (n2 : Int) + (k : Int)))).run Yba.prog W = .ok (.slice (some ⟨W.heap.size, 0, none⟩) (n1 + n2 + k) (n1 + n2 + k)) (W.alloc (.cells (madeCells #[.int .i64 0] (n1 + n2 + k)) 3)) := fun W => by
        have := run_make_row' (P := Yba.prog) 39 3 (.int .i64 0) 8 Yba.underlying39 Yba.info3 rfl .i64 .i64 (n1 + n2 + k) (by omega) (by omega) W
        rw [Int.natCast_add, Int.natCast_add] at this; exact this
      have hkw := K2.out.trans (ws := []) hkk (by simp; omega)
      have fin : ∀ (W' : World) (L gv gc rt : Nat), Kept [] wr W' → Row W' L [.float .f64 rt, .slice ad (n1 + n2) cap, .map (some p), .slice (some ⟨gm, 0, none⟩) k k, .slice (some ⟨gv, 0, none⟩) (n1 + n2) (n1 + n2), .int .i64 0, .slice (some ⟨gc, 0, none⟩) (n1 + n2 + k) (n1 + n2 + k), .slice none 0 0] 41 →
          Row W' gv (List.replicate (n1 + n2) (.float .f64 0)) 23 → Row W' gc (List.replicate (n1 + n2 + k) (.int .i64 0)) 3 → Rate alpha beta rt →
          ∃ L' ad' cap' p' l' gm' gv' gc' rt', Ending.returned (Value.iface 36 (.pointer (some ⟨L, 0, none⟩))) = .returned (.iface 36 (.pointer (some ⟨L', 0, none⟩))) ∧
            Row W' L' [.float .f64 rt', .slice ad' (n1 + n2) cap', .map (some p'), .slice (some ⟨gm', 0, none⟩) k k, .slice (some ⟨gv', 0, none⟩) (n1 + n2) (n1 + n2), .int .i64 0, .slice (some ⟨gc', 0, none⟩) (n1 + n2 + k) (n1 + n2 + k), .slice none 0 0] 41 ∧
            Sl W' w.heap.size 9 ad' (n1 + n2) cap' (strs f n1 ++ strs g n2) ∧ HasMap W' p' (l' ++ kvs g n1 n2 ++ kvs h (n1 + n2) k) ∧ l'.Perm l1 ∧
            Row W' gm' (mags fl k k) 23 ∧ Row W' gv' (List.replicate (n1 + n2) (.float .f64 0)) 23 ∧ Row W' gc' (List.replicate (n1 + n2 + k) (.int .i64 0)) 3 ∧ Rate alpha beta rt' ∧ Kept [] w W' := by
        intro W' L gv gc rt kk rL rv rc hrt
        have T3 := T2.out.keep2 hkk (fun g' hg' => by have := HR.out g' hg'; simp; omega)
        exact ⟨L, ad, cap, p, l, gm, gv, gc, rt, rfl, rL, (T3.mono (by omega)).keep kk (by simp), hm.keep kk (by simp), HPL.out, hr.keep kk (by simp), rv, rc, hrt, hkw.trans kk (by simp)⟩
      have FIN : Hid (∀ (W' : World) (L gv gc rt : Nat), Kept [] wr W' → Row W' L [.float .f64 rt, .slice ad (n1 + n2) cap, .map (some p), .slice (some ⟨gm, 0, none⟩) k k, .slice (some ⟨gv, 0, none⟩) (n1 + n2) (n1 + n2), .int .i64 0, .slice (some ⟨gc, 0, none⟩) (n1 + n2 + k) (n1 + n2 + k), .slice none 0 0] 41 →
          Row W' gv (List.replicate (n1 + n2) (.float .f64 0)) 23 → Row W' gc (List.replicate (n1 + n2 + k) (.int .i64 0)) 3 → Rate alpha beta rt → _) := fin
      clear fin hkw hm hr hkk q4' q5' q6' r0 hp1 hu hh1 hh2 hh3 ha hb
      cases hmul : FloatKind.f64.format.mul alpha beta with
      | some r =>
        have hmu : ∀ W, (binOp .mul 23 (.float .f64 alpha) (.float .f64 beta)).run Yba.prog W = .ok (.float .f64 r) W := fun W => by simp [binOp, Op.floatArith, hmul]
        have HRT : Hid (Rate alpha beta r) := by show Rate _ _ _; simp [Rate, hmul]
        clear hmul
        go_wp2_with fail
        go_region
        · go_wp2
          go_ret
          exact FIN.out _ _ _ _ r (keep3 _ _ _ _) (row3 _ _ _ _ _) (row1 _ _ _ _ _ _) (row2 _ _ _ _ _ _) HRT.out
        · go_wp2
          go_ret
          exact FIN.out _ _ _ _ r (keep3 _ _ _ _) (row3 _ _ _ _ _) (row2 _ _ _ _ _ _) (row1 _ _ _ _ _ _) HRT.out
      | none =>
        have hmu : ∀ W, (binOp .mul 23 (.float .f64 alpha) (.float .f64 beta)).run Yba.prog W = .ok (.float .f64 (Question.cut (.nanBits .f64 alpha beta) (W.tape W.drawn (.nanBits .f64 alpha beta)))) W.drew := fun W => by
          simp [binOp, Op.floatArith, hmul, choose, Sem.run, Question.forced]
        have HRT : Hid (∀ t, Rate alpha beta (Question.cut (.nanBits .f64 alpha beta) t)) := by
          intro t; simp only [Rate, hmul]; exact nan_cut alpha beta t
        clear hmul
        go_wp2_with fail
        go_region
        · go_wp2
          go_ret
          exact FIN.out _ _ _ _ _ (keep4 _ _ _ _) (row3 _ _ _ _ _) (row1 _ _ _ _ _ _) (row2 _ _ _ _ _ _) (HRT.out _)
        · go_wp2
          go_ret
          exact FIN.out _ _ _ _ _ (keep4 _ _ _ _) (row3 _ _ _ _ _) (row2 _ _ _ _ _ _) (row1 _ _ _ _ _ _) (HRT.out _)
end Go.Proofs.Ybulkjbu
