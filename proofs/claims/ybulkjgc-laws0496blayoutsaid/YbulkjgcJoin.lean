/-
  Seat b0496a: Graph.join.
-/
import Derived.Test.YbulkjgcClone
import Derived.Deep.OwnRows
import Derived.LoopN
import Derived.Deep.RegionHeld3
namespace Go.Proofs.Ybulkjgc
open Go.RowKit

/-- A row of links, cell by cell. -/
def lf (u v : Nat → Nat) (st : Nat → Int) (j : Nat) : Int := if j % 3 = 0 then (u (j / 3) : Int) else if j % 3 = 1 then (v (j / 3) : Int) else st (j / 3)
theorem lf0 (u v : Nat → Nat) (st : Nat → Int) (i : Nat) : lf u v st (i * 3) = u i := by
  have h1 : i * 3 % 3 = 0 := by omega
  have h2 : i * 3 / 3 = i := by omega
  simp [lf, h1, h2]
theorem lf1 (u v : Nat → Nat) (st : Nat → Int) (i : Nat) : lf u v st (i * 3 + 1) = v i := by
  have h1 : (i * 3 + 1) % 3 = 1 := by omega
  have h2 : (i * 3 + 1) / 3 = i := by omega
  simp [lf, h1, h2]
theorem lf2 (u v : Nat → Nat) (st : Nat → Int) (i : Nat) : lf u v st (i * 3 + 2) = st i := by
  have h1 : (i * 3 + 2) % 3 = 2 := by omega
  have h2 : (i * 3 + 2) / 3 = i := by omega
  simp [lf, h1, h2]

theorem made_list (z : Value) (n : Nat) : (madeCells #[z] n) = (List.replicate n z).toArray := by
  apply Array.ext
  · simp [size_madeCells]
  · intro i h1 h2
    simp [madeCells, Nat.mod_one]
theorem made_nums (w : World) (n : Nat) (t : TypeId) : Nums (w.alloc (.cells (madeCells #[.int .i64 0] n) t)) w.heap.size n (fun _ => 0) := by
  rw [made_list]; exact Nums.made _ _ _
theorem Yba.info2 : (Yba.prog.info? 2).map (fun i => (i.zero, i.size, i.bytes)) = some (some (.int .i64 0), 1, 8) := by kernel_rfl
theorem mk_first (n : Nat) (hn : n ≤ 300) (W : World) : (Instr.makeSlice 32 (.int .i64 ((n : Int) + 1)) (.int .i64 ((n : Int) + 1))).run Yba.prog W = .ok (.slice (some ⟨W.heap.size, 0, none⟩) (n + 1) (n + 1)) (W.alloc (.cells (madeCells #[.int .i64 0] (n + 1)) 3)) := by
  have := run_make_row' (P := Yba.prog) 32 3 (.int .i64 0) 8 Yba.underlying32 Yba.info3 rfl .i64 .i64 (n + 1) (by omega) (by omega) W
  rw [Int.natCast_add] at this; exact this
theorem mk_to (L : Nat) (hL : L ≤ 1024) (W : World) : (Instr.makeSlice 32 (.int .i64 (2 * (L : Int))) (.int .i64 (2 * (L : Int)))).run Yba.prog W = .ok (.slice (some ⟨W.heap.size, 0, none⟩) (2 * L) (2 * L)) (W.alloc (.cells (madeCells #[.int .i64 0] (2 * L)) 3)) := by
  have := run_make_row' (P := Yba.prog) 32 3 (.int .i64 0) 8 Yba.underlying32 Yba.info3 rfl .i64 .i64 (2 * L) (by omega) (by omega) W
  rw [Int.natCast_mul] at this; exact this
theorem mk_steps (L : Nat) (hL : L ≤ 1024) (W : World) : (Instr.makeSlice 30 (.int .i64 (2 * (L : Int))) (.int .i64 (2 * (L : Int)))).run Yba.prog W = .ok (.slice (some ⟨W.heap.size, 0, none⟩) (2 * L) (2 * L)) (W.alloc (.cells (madeCells #[.int .i64 0] (2 * L)) 2)) := by
  have := run_make_row' (P := Yba.prog) 30 2 (.int .i64 0) 8 Yba.underlying30 Yba.info2 rfl .i64 .i64 (2 * L) (by omega) (by omega) W
  rw [Int.natCast_mul] at this; exact this

/-- 'first', while the ends are counted. -/
def cnt (u v : Nat → Nat) (k : Nat) (x : Nat) : Int := if x = 0 then 0 else (ends u v (x - 1) k : Int)

theorem cnt_mid (u v : Nat → Nat) (k : Nat) : upd (cnt u v k) (u k + 1) ((ends u v (u k) k : Int) + 1) (v k + 1) = ((ends u v (v k) k + (if u k = v k then 1 else 0) : Nat) : Int) := by
  by_cases h : u k = v k
  · simp [upd, h]
  · have : v k ≠ u k := fun e => h e.symm
    simp [upd, cnt, h, this]
theorem cnt_step (u v : Nat → Nat) (k x : Nat) : upd (upd (cnt u v k) (u k + 1) ((ends u v (u k) k : Int) + 1)) (v k + 1) (((ends u v (v k) k + (if u k = v k then 1 else 0) : Nat) : Int) + 1) x = cnt u v (k + 1) x := by
  cases x with
  | zero => simp [upd, cnt]
  | succ x =>
    by_cases h1 : x = v k
    · subst h1
      by_cases h2 : u k = v k <;> simp [upd, cnt, ends, h2]
    · have h1' : v k ≠ x := fun e => h1 e.symm
      by_cases h2 : x = u k
      · subst h2; simp [upd, cnt, ends, h1, h1']
      · have h2' : u k ≠ x := fun e => h2 e.symm
        simp [upd, cnt, ends, h1, h1', h2, h2']
/-- 'first', while it is summed up. -/
def acc (u v : Nat → Nat) (L k x : Nat) : Int := if x ≤ k then (beg u v L x : Int) else cnt u v L x
theorem acc_zero (u v : Nat → Nat) (L x : Nat) : cnt u v L x = acc u v L 0 x := by
  by_cases h : x = 0 <;> simp [acc, cnt, beg, upto, h]
theorem acc_step (u v : Nat → Nat) (L k x : Nat) : upd (acc u v L k) (k + 1) ((ends u v k L : Int) + (beg u v L k : Int)) x = acc u v L (k + 1) x := by
  by_cases h : x = k + 1
  · subst h; simp [upd, acc, beg, upto]; omega
  · by_cases h2 : x ≤ k
    · have : x ≤ k + 1 := by omega
      simp [upd, acc, h, h2, this]
    · have : ¬ x ≤ k + 1 := by omega
      simp [upd, acc, h, h2, this]
theorem next_mid (u v : Nat → Nat) (L k : Nat) : upd (fun x => ((beg u v L x + ends u v x k : Nat) : Int)) (u k) ((pu u v L k : Int) + 1) (v k) = (pv u v L k : Int) := by
  by_cases h : u k = v k
  · simp [upd, h, pu, pv]; omega
  · have : v k ≠ u k := fun e => h e.symm
    simp [upd, pv, h, this]
theorem next_step (u v : Nat → Nat) (L k x : Nat) : upd (upd (fun x => ((beg u v L x + ends u v x k : Nat) : Int)) (u k) ((pu u v L k : Int) + 1)) (v k) ((pv u v L k : Int) + 1) x = ((beg u v L x + ends u v x (k + 1) : Nat) : Int) := by
  by_cases h1 : x = v k
  · subst h1
    by_cases h2 : u k = v k <;> simp [upd, ends, pv, h2] <;> omega
  · have h1' : v k ≠ x := fun e => h1 e.symm
    by_cases h2 : x = u k
    · subst h2; simp [upd, ends, pu, h1, h1']; omega
    · have h2' : u k ≠ x := fun e => h2 e.symm
      simp [upd, ends, h1, h1', h2, h2']

theorem two_made (W : World) (G m : Nat) (a b c d e : Value) (h : Row W G [a, b, c, d, e] 34) :
    Row ((((W.setCell ⟨G, 3, none⟩ (.slice (some ⟨W.heap.size, 0, none⟩) m m)).setCell ⟨G, 4, none⟩ (.slice (some ⟨W.heap.size + 1, 0, none⟩) m m)).alloc (.cells (madeCells #[.int .i64 0] m) 3)).alloc (.cells (madeCells #[.int .i64 0] m) 2)) G
      [a, b, c, .slice (some ⟨W.heap.size, 0, none⟩) m m, .slice (some ⟨W.heap.size + 1, 0, none⟩) m m] 34 ∧
    Nums ((((W.setCell ⟨G, 3, none⟩ (.slice (some ⟨W.heap.size, 0, none⟩) m m)).setCell ⟨G, 4, none⟩ (.slice (some ⟨W.heap.size + 1, 0, none⟩) m m)).alloc (.cells (madeCells #[.int .i64 0] m) 3)).alloc (.cells (madeCells #[.int .i64 0] m) 2)) W.heap.size m (fun _ => 0) ∧
    Nums ((((W.setCell ⟨G, 3, none⟩ (.slice (some ⟨W.heap.size, 0, none⟩) m m)).setCell ⟨G, 4, none⟩ (.slice (some ⟨W.heap.size + 1, 0, none⟩) m m)).alloc (.cells (madeCells #[.int .i64 0] m) 3)).alloc (.cells (madeCells #[.int .i64 0] m) 2)) (W.heap.size + 1) m (fun _ => 0) ∧
    Kept [G] W ((((W.setCell ⟨G, 3, none⟩ (.slice (some ⟨W.heap.size, 0, none⟩) m m)).setCell ⟨G, 4, none⟩ (.slice (some ⟨W.heap.size + 1, 0, none⟩) m m)).alloc (.cells (madeCells #[.int .i64 0] m) 3)).alloc (.cells (madeCells #[.int .i64 0] m) 2)) := by
  refine ⟨?_, ?_, ?_, ?_⟩
  · exact (((h.set 3 _).set 4 _).keep (Kept.alloc _ _) (by simp)).keep (Kept.alloc _ _) (by simp)
  · have h1 := made_nums ((W.setCell ⟨G, 3, none⟩ (.slice (some ⟨W.heap.size, 0, none⟩) m m)).setCell ⟨G, 4, none⟩ (.slice (some ⟨W.heap.size + 1, 0, none⟩) m m)) m 3
    rw [World.size_setCell, World.size_setCell] at h1
    exact h1.keep (Kept.alloc _ _) (by simp)
  · have h1 := made_nums (((W.setCell ⟨G, 3, none⟩ (.slice (some ⟨W.heap.size, 0, none⟩) m m)).setCell ⟨G, 4, none⟩ (.slice (some ⟨W.heap.size + 1, 0, none⟩) m m)).alloc (.cells (madeCells #[.int .i64 0] m) 3)) m 2
    rw [World.size_alloc, World.size_setCell, World.size_setCell] at h1
    exact h1
  · exact (((Kept.setCell _ _ _ _).trans (Kept.setCell _ _ _ _) (by simp)).trans (Kept.alloc _ _) (by simp)).trans (Kept.alloc _ _) (by simp)

set_option maxRecDepth 100000 in
set_option maxHeartbeats 4000000 in
theorem join_any (G I B n L : Nat) (u v : Nat → Nat) (st : Nat → Int) (w : World) (hn0 : 0 < n) (hn : n ≤ 300) (hL : L ≤ 1024) (hu : ∀ i, i < L → u i < n) (hv : ∀ i, i < L → v i < n)
    (hG : Row w G [.slice (some ⟨I, 0, none⟩) n n, .map none, .slice none 0 0, .slice none 0 0, .slice none 0 0] 34) (hB : Nums w B (3 * L) (lf u v st)) (hGB : G ≠ B) :
    Calls Yba.prog 4 #[.pointer (some ⟨G, 0, none⟩), .slice (some ⟨B, 0, none⟩) L L] w fun e w' => e = .returned (.tuple #[]) ∧ ∃ F T S f s, Row w' G [.slice (some ⟨I, 0, none⟩) n n, .map none, .slice (some ⟨F, 0, none⟩) (n + 1) (n + 1), .slice (some ⟨T, 0, none⟩) (2 * L) (2 * L), .slice (some ⟨S, 0, none⟩) (2 * L) (2 * L)] 34 ∧
      Nums w' F (n + 1) (fun x => beg u v L x) ∧ Nums w' T (2 * L) (fun p => (f p : Nat)) ∧ Nums w' S (2 * L) s ∧ Laid u v L L f s st ∧ Kept [G] w w' := by
  have b1 : (n : Int) ≤ 300 := by omega
  have b2 : (L : Int) ≤ 1024 := by omega
  have c0 := hG.cell 0 rfl
  have c2 := hG.cell 2 rfl
  have z0 := hG.free 0
  have z2 := hG.free 2
  have hlt := hG.lt
  have hm1 := mk_first n hn
  go_enter Yba.func4, Yba.ntmps4
  go_wp2_with fail
  have k1 : Kept [G] w ((w.setCell ⟨G, 2, none⟩ (.slice (some ⟨w.heap.size, 0, none⟩) (n + 1) (n + 1))).alloc (.cells (madeCells #[.int .i64 0] (n + 1)) 3)) := (Kept.setCell _ _ _ _).trans (Kept.alloc _ _) (by simp)
  have G1 := (hG.set 2 (.slice (some ⟨w.heap.size, 0, none⟩) (n + 1) (n + 1))).keep (Kept.alloc _ (.cells (madeCells #[.int .i64 0] (n + 1)) 3)) (by simp)
  have F1 : Nums ((w.setCell ⟨G, 2, none⟩ (.slice (some ⟨w.heap.size, 0, none⟩) (n + 1) (n + 1))).alloc (.cells (madeCells #[.int .i64 0] (n + 1)) 3)) w.heap.size (n + 1) (cnt u v 0) :=
    by
      have h := made_nums (w.setCell ⟨G, 2, none⟩ (.slice (some ⟨w.heap.size, 0, none⟩) (n + 1) (n + 1))) (n + 1) 3
      rw [World.size_setCell] at h
      exact h.eq (fun i _ => by simp [cnt, ends])
  generalize hW : (w.setCell ⟨G, 2, none⟩ (.slice (some ⟨w.heap.size, 0, none⟩) (n + 1) (n + 1))).alloc (.cells (madeCells #[.int .i64 0] (n + 1)) 3) = W1 at *
  have hBlt := hB.lt
  obtain ⟨F, hF⟩ : ∃ F, F = w.heap.size := ⟨_, rfl⟩
  rw [← hF] at G1 F1 ⊢
  have HF : Hid (F = w.heap.size) := hF
  have hFG : F ≠ G := by omega
  have hFB : F ≠ B := by omega
  have B1 := hB.keep k1 (by simp; exact fun h => hGB h.symm)
  have K1 : Hid (Kept [G] w W1) := k1
  simp only [List.set_cons_succ, List.set_cons_zero] at G1
  clear hW k1 hF c0 c2 z0 z2 hlt hBlt hB hG hm1
  go_loopw [24] (fun i wr => ∃ k : Nat, k ≤ L ∧ i = .int .i64 k ∧ Nums wr F (n + 1) (cnt u v k) ∧ Kept [F] W1 wr) (fun i _ => L - (intOf i).toNat)
  case atStart => exact ⟨0, Nat.zero_le _, rfl, F1, Kept.refl _ _⟩
  case round =>
    obtain ⟨k, hk, rfl, hN, hkk⟩ := hrel
    by_cases hlt : k < L
    · have g2 := (G1.keep hkk (by simp; omega)).cell 2 rfl
      have l0 := (B1.keep hkk (by simp; omega)).cell (k * 3) (by omega)
      have l1 := (B1.keep hkk (by simp; omega)).cell (k * 3 + 1) (by omega)
      have l2 := (B1.keep hkk (by simp; omega)).cell (k * 3 + 2) (by omega)
      rw [lf0] at l0
      rw [lf1] at l1
      rw [lf2] at l2
      have hun := hu k hlt
      have hvn := hv k hlt
      have e0 := hN.cell (u k + 1) (by omega)
      have hwl := hN.lt
      have gl := (G1.keep hkk (by simp; omega)).lt
      go_wp2_with fail
      have ka := Kept.alloc wr (.cells #[.int .i64 (u k), .int .i64 (v k), .int .i64 (st k)] 28)
      have q0 : (wr.alloc (.cells #[.int .i64 (u k), .int .i64 (v k), .int .i64 (st k)] 28)).cell? ⟨wr.heap.size, 0, none⟩ = some (.int .i64 (u k)) := by simp [go_sem]
      have q1 : (wr.alloc (.cells #[.int .i64 (u k), .int .i64 (v k), .int .i64 (st k)] 28)).cell? ⟨wr.heap.size, 1, none⟩ = some (.int .i64 (v k)) := by simp [go_sem]
      have N2 := hN.keep ka (by simp)
      have g2' := ka.cell g2 (by simp)
      generalize hW2 : wr.alloc (.cells #[.int .i64 (u k), .int .i64 (v k), .int .i64 (st k)] 28) = W2 at *
      obtain ⟨q, hq⟩ : ∃ q, q = wr.heap.size := ⟨_, rfl⟩
      rw [← hq] at q0 q1 ⊢
      have hqF : q ≠ F := by omega
      have K2 : Hid (Kept [F] W1 W2) := hkk.trans ka (by simp)
      have HN2 : Hid (Nums W2 F (n + 1) (cnt u v k)) := N2
      have f0 := N2.cell (u k + 1) (by omega)
      have z0 := N2.free (u k + 1)
      have bc := ends_le u v (u k) k
      have ec : cnt u v k (u k + 1) = (ends u v (u k) k : Int) := by simp [cnt]
      rw [ec] at f0
      have bu : ((u k : Nat) : Int) ≤ 299 := by omega
      have bv : ((v k : Nat) : Int) ≤ 299 := by omega
      have be : (ends u v (u k) k : Int) ≤ 2048 := by omega
      have hun' : ((u k : Nat) : Int) < (n : Int) := by omega
      clear hW2 hq ka g2 l0 l1 l2 e0 hwl gl hN hkk N2 ec
      go_region
      have k3 := (Kept.setCell W2 F (u k + 1) (.int .i64 ((ends u v (u k) k : Int) + 1))).trans (Kept.drew _) (by simp)
      have N3 := (HN2.out.set (u k + 1) ((ends u v (u k) k : Int) + 1) (by omega)).keep (Kept.drew _) (by simp)
      have q1' := k3.cell q1 (by simp; omega)
      have g3 := k3.cell g2' (by simp; omega)
      generalize hW3 : (W2.setCell ⟨F, u k + 1, none⟩ (.int .i64 ((ends u v (u k) k : Int) + 1))).drew = W3 at *
      have K3 : Hid (Kept [F] W1 W3) := K2.out.trans k3 (by simp)
      have f1 := N3.cell (v k + 1) (by omega)
      have z1 := N3.free (v k + 1)
      rw [cnt_mid] at f1
      have HN3 : Hid (Nums W3 F (n + 1) _) := N3
      have bd := ends_le u v (v k) k
      have bd' : (ends u v (v k) k + (if u k = v k then 1 else 0)) ≤ 2050 := by split <;> omega
      have hst := cnt_step u v k
      generalize hX : (ends u v (v k) k + (if u k = v k then 1 else 0)) = X at *
      have bX : (X : Int) ≤ 2050 := by omega
      have hvn' : ((v k : Nat) : Int) < (n : Int) := by omega
      clear hW3 N3 k3 f0 z0 q0 q1 g2' K2 HN2 hX
      go_wp2_with fail
      go_region
      have N4 := ((HN3.out.set (v k + 1) ((X : Int) + 1) (by omega)).keep (Kept.drew _) (by simp)).eq (fun x _ => hst x)
      have K4 := (K3.out.trans (Kept.setCell W3 F (v k + 1) (.int .i64 ((X : Int) + 1))) (by simp)).trans (Kept.drew _) (by simp)
      go_wp2_with fail
      go_roundw
      case rel => exact ⟨k + 1, by omega, by go_num, N4, K4⟩
      case measure => simp [intOf]; omega
    · obtain rfl : k = L := by omega
      obtain ⟨W2, rfl⟩ : ∃ W2, W2 = wr := ⟨_, rfl⟩
      have G2 : Hid (Row W2 G _ 34) := G1.keep hkk (by simp; omega)
      have B2 : Hid (Nums W2 B (3 * k) (lf u v st)) := B1.keep hkk (by simp; omega)
      have K2 : Hid (Kept [G] w W2) := K1.out.trans hkk (by have := HF.out; simp; omega)
      have N2 : Hid (Nums W2 F (n + 1) (acc u v k 0)) := hN.eq (fun x _ => acc_zero u v k x)
      clear hN hkk G1 B1 K1 F1
      go_wp2_with fail
      go_loopw [52] (fun i wr => ∃ x : Nat, x ≤ n ∧ i = .int .i64 x ∧ Nums wr F (n + 1) (acc u v k x) ∧ Kept [F] W2 wr) (fun i _ => n - (intOf i).toNat)
      case atStart => exact ⟨0, Nat.zero_le _, rfl, N2.out, Kept.refl _ _⟩
      case round =>
        obtain ⟨x, hx, rfl, hN, hkk⟩ := hrel
        by_cases hlt : x < n
        · have g2 := (G2.out.keep hkk (by simp; omega)).cell 2 rfl
          have f0 := hN.cell x (by omega)
          have f1 := hN.cell (x + 1) (by omega)
          have z1 := hN.free (x + 1)
          have e0 : acc u v k x x = (beg u v k x : Int) := by simp [acc]
          have e1 : acc u v k x (x + 1) = (ends u v x k : Int) := by
            have : ¬ x + 1 ≤ x := by omega
            simp only [acc, if_neg this, cnt]
            simp
          rw [e0] at f0
          rw [e1] at f1
          have be := ends_le u v x k
          have bb : beg u v k x ≤ 2048 := by
            have := upto_all u v n k hu hv
            have := upto_mono (fun x => ends u v x k) hx
            unfold beg; omega
          have be' : (ends u v x k : Int) ≤ 2048 := by omega
          have bb' : (beg u v k x : Int) ≤ 2048 := by omega
          have hlt' : (x : Int) < (n : Int) := by omega
          have HN : Hid (Nums wr F (n + 1) (acc u v k x)) := hN
          have HK : Hid (Kept [F] W2 wr) := hkk
          clear hN hkk e0 e1 be bb
          go_wp2_with fail
          go_region
          have N4 := ((HN.out.set (x + 1) ((ends u v x k : Int) + (beg u v k x : Int)) (by omega)).keep (Kept.drew _) (by simp)).eq (fun y _ => acc_step u v k x y)
          have K4 := (HK.out.trans (Kept.setCell wr F (x + 1) (.int .i64 ((ends u v x k : Int) + (beg u v k x : Int)))) (by simp)).trans (Kept.drew _) (by simp)
          go_wp2_with fail
          go_roundw
          case rel => exact ⟨x + 1, by omega, by go_num, N4, K4⟩
          case measure => simp [intOf]; omega
        · obtain rfl : x = n := by omega
          have hm2 := mk_to k hL
          have hm3 := mk_steps k hL
          have G3 := G2.out.keep hkk (by simp; omega)
          have B3 : Hid (Nums wr B (3 * k) (lf u v st)) := B2.out.keep hkk (by simp; omega)
          have K3 : Hid (Kept [G] w wr) := K2.out.trans hkk (by have := HF.out; simp; omega)
          have N3 : Hid (Nums wr F (x + 1) (fun y => (beg u v k y : Int))) := hN.eq (fun y hy => by simp [acc, show y ≤ x by omega])
          have c2 := G3.cell 2 rfl
          have c3 := G3.cell 3 rfl
          have c4 := G3.cell 4 rfl
          have z3 := G3.free 3
          have z4 := G3.free 4
          have glt := G3.lt
          have HG3 : Hid (Row wr G _ 34) := G3
          have flt := hN.lt
          clear hN hkk G2 B2 K2 N2 G3
          obtain ⟨W3, rfl⟩ : ∃ W3, W3 = wr := ⟨_, rfl⟩
          go_wp2_with fail
          obtain ⟨G4, T4, S4, K4⟩ := two_made W3 G (2 * k) _ _ _ _ _ HG3.out
          generalize hW4 : ((((W3.setCell ⟨G, 3, none⟩ (.slice (some ⟨W3.heap.size, 0, none⟩) (2 * k) (2 * k))).setCell ⟨G, 4, none⟩ (.slice (some ⟨W3.heap.size + 1, 0, none⟩) (2 * k) (2 * k))).alloc (.cells (madeCells #[.int .i64 0] (2 * k)) 3)).alloc (.cells (madeCells #[.int .i64 0] (2 * k)) 2)) = W4 at *
          have N4 := N3.out.keep K4 (by simp; omega)
          have B4 := B3.out.keep K4 (by simp; omega)
          have K5 := K3.out.trans K4 (by simp)
          have blt := B3.out.lt
          obtain ⟨T, hT⟩ : ∃ T, T = W3.heap.size := ⟨_, rfl⟩
          obtain ⟨S, hS⟩ : ∃ S, S = W3.heap.size + 1 := ⟨_, rfl⟩
          rw [← hS, ← hT] at G4
          rw [← hT] at T4
          rw [← hS] at S4
          rw [← hS, ← hT]
          have hsz := S4.lt
          have hT0 : w.heap.size ≤ T := by rw [hT]; exact K3.out.size
          have hS0 : w.heap.size ≤ S := by omega
          have hd : T ≠ S ∧ T ≠ G ∧ T ≠ F ∧ T ≠ B ∧ S ≠ G ∧ S ≠ F ∧ S ≠ B := by omega
          clear hW4 K4 N3 B3 K3 HG3 c2 c3 c4 z3 z4 glt flt hm2 hm3 hT hS blt
          refine (clone_any F x (x + 1) (fun y => (beg u v k y : Int)) W4 ⟨_, _, N4.choose_spec.choose_spec.1, fun i hi => N4.choose_spec.choose_spec.2 i (by omega)⟩ (by omega) (by omega)).mono ?_
          rintro e W5 ⟨N, cN, rfl, hN, C5, k5⟩
          have G5 := G4.keep k5 (by simp)
          have T5 := T4.keep k5 (by simp)
          have S5 := S4.keep k5 (by simp)
          have B5 := B4.keep k5 (by simp)
          have F5 := N4.keep k5 (by simp)
          have K6 : Hid (Kept [G] w W5) := K5.trans k5 (by simp)
          have hNs : N ≠ T ∧ N ≠ S ∧ N ≠ G ∧ N ≠ F ∧ N ≠ B := by
            have := T4.lt; have := S4.lt; have := G4.lt; have := N4.lt; have := B4.lt
            omega
          have hN0 : w.heap.size ≤ N := Nat.le_trans K5.size hN
          clear k5 G4 T4 S4 B4 N4 K5
          go_wp2_with fail
          go_loopw [96] (fun i wr => ∃ (j : Nat) (f : Nat → Nat) (s : Nat → Int), j ≤ k ∧ i = .int .i64 j ∧ Nums wr T (2 * k) (fun p => (f p : Int)) ∧ Nums wr S (2 * k) s ∧ Laid u v k j f s st ∧ Nums wr N x (fun y => ((beg u v k y + ends u v y j : Nat) : Int)) ∧ Kept [T, S, N] W5 wr) (fun i _ => k - (intOf i).toNat)
          case atStart => exact ⟨0, fun _ => 0, fun _ => 0, Nat.zero_le _, rfl, T5, S5, laid_zero _ _ _ _ _ _, C5.eq (fun y _ => by simp [ends]), Kept.refl _ _⟩
          case round =>
            obtain ⟨j, f, s, hj, rfl, hT, hS, hla, hN2, hkk⟩ := hrel
            by_cases hlt : j < k
            · have l0 := (B5.keep hkk (by simp; omega)).cell (j * 3) (by omega)
              have l1 := (B5.keep hkk (by simp; omega)).cell (j * 3 + 1) (by omega)
              have l2 := (B5.keep hkk (by simp; omega)).cell (j * 3 + 2) (by omega)
              rw [lf0] at l0
              rw [lf1] at l1
              rw [lf2] at l2
              have Hg : Hid (Row wr G _ 34) := G5.keep hkk (by simp; omega)
              have HT : Hid (Nums wr T (2 * k) (fun p => (f p : Int))) := hT
              have HS : Hid (Nums wr S (2 * k) s) := hS
              have HL : Hid (Laid u v k j f s st) := hla
              have HN : Hid (Nums wr N x (fun y => ((beg u v k y + ends u v y j : Nat) : Int))) := hN2
              have HK : Hid (Kept [T, S, N] W5 wr) := hkk
              have hun := hu j hlt
              have hvn := hv j hlt
              have hq0 : N < wr.heap.size ∧ T < wr.heap.size ∧ S < wr.heap.size ∧ G < wr.heap.size := ⟨hN2.lt, hT.lt, hS.lt, Hg.out.lt⟩
              clear hT hS hla hN2 hkk
              go_wp2_with fail
              have ka := Kept.alloc wr (.cells #[.int .i64 (u j), .int .i64 (v j), .int .i64 (st j)] 28)
              have q0 : (wr.alloc (.cells #[.int .i64 (u j), .int .i64 (v j), .int .i64 (st j)] 28)).cell? ⟨wr.heap.size, 0, none⟩ = some (.int .i64 (u j)) := by simp [go_sem]
              have q1 : (wr.alloc (.cells #[.int .i64 (u j), .int .i64 (v j), .int .i64 (st j)] 28)).cell? ⟨wr.heap.size, 1, none⟩ = some (.int .i64 (v j)) := by simp [go_sem]
              have q2 : (wr.alloc (.cells #[.int .i64 (u j), .int .i64 (v j), .int .i64 (st j)] 28)).cell? ⟨wr.heap.size, 2, none⟩ = some (.int .i64 (st j)) := by simp [go_sem]
              have G6 : Hid (Row _ G _ 34) := Hg.out.keep ka (by simp)
              have T6 : Hid (Nums _ T (2 * k) (fun p => (f p : Int))) := HT.out.keep ka (by simp)
              have S6 : Hid (Nums _ S (2 * k) s) := HS.out.keep ka (by simp)
              have N6 : Hid (Nums _ N x (fun y => ((beg u v k y + ends u v y j : Nat) : Int))) := HN.out.keep ka (by simp)
              have K7 : Hid (Kept [T, S, N] W5 _) := HK.out.trans ka (by simp)
              generalize hW6 : wr.alloc (.cells #[.int .i64 (u j), .int .i64 (v j), .int .i64 (st j)] 28) = W6 at *
              obtain ⟨q, hq⟩ : ∃ q, q = wr.heap.size := ⟨_, rfl⟩
              rw [← hq] at q0 q1 q2 ⊢
              have hqN : N ≠ q := by omega
              have hqT : T ≠ q := by omega
              have hqS : S ≠ q := by omega
              obtain ⟨d1, d2, d3, d4, d5, d6, d7⟩ := hd
              obtain ⟨e1, e2, e3, e4, e5⟩ := hNs
              have e1' : T ≠ N := fun h => e1 h.symm
              have e2' : S ≠ N := fun h => e2 h.symm
              clear hW6 hq ka l0 l1 l2 Hg HT HS HN HK hq0
              have g3 := G6.out.cell 3 rfl
              have g4 := G6.out.cell 4 rfl
              have n0 : W6.cell? ⟨N, u j, none⟩ = some (.int .i64 ((pu u v k j : Nat) : Int)) := N6.out.cell (u j) hun
              have pl := pu_lt u v k x j hu hv hlt
              have pl2 := pv_lt u v k x j hu hv hlt
              have t0 := T6.out.cell (pu u v k j) pl
              have s0 := S6.out.cell (pu u v k j) pl
              have zt := T6.out.free (pu u v k j)
              have zs := S6.out.free (pu u v k j)
              have bu : ((u j : Nat) : Int) < (x : Int) := by omega
              have bv : ((v j : Nat) : Int) < (x : Int) := by omega
              have bp : ((pu u v k j : Nat) : Int) < 2 * (k : Int) := by omega
              have bp2 : ((pv u v k j : Nat) : Int) < 2 * (k : Int) := by omega
              go_region_held3 (fun w' => w'.cell? ⟨G, 3, none⟩ = some (.slice (some ⟨T, 0, none⟩) (2 * k) (2 * k)) ∧ w'.cell? ⟨G, 4, none⟩ = some (.slice (some ⟨S, 0, none⟩) (2 * k) (2 * k)) ∧ w'.cell? ⟨N, u j, none⟩ = some (.int .i64 ((pu u v k j : Nat) : Int)) ∧ w'.cell? ⟨q, 0, none⟩ = some (.int .i64 (u j)) ∧ w'.cell? ⟨q, 1, none⟩ = some (.int .i64 (v j)) ∧ w'.cell? ⟨q, 2, none⟩ = some (.int .i64 (st j))) (go_keep) (fail)
              have k7 := ((Kept.setCell W6 T (pu u v k j) (.int .i64 (v j))).mono (ws' := [T, S]) (by simp)).trans ((Kept.setCell _ S (pu u v k j) (.int .i64 (st j))).trans (Kept.drew _) (by simp)) (by simp)
              have T7 := (((T6.out.set (pu u v k j) (v j) pl).keep (Kept.setCell _ S (pu u v k j) (.int .i64 (st j))) (by simp; omega)).keep (Kept.drew _) (by simp)).eq (g := fun p => ((upd f (pu u v k j) (v j) p : Nat) : Int)) (fun p _ => by unfold upd; split <;> rfl)
              have S7 := ((S6.out.keep (Kept.setCell _ T (pu u v k j) (.int .i64 (v j))) (by simp; omega)).set (pu u v k j) (st j) pl).keep (Kept.drew _) (by simp)
              have N7 := N6.out.keep k7 (by simp; omega)
              have G7 := G6.out.keep k7 (by simp; omega)
              have q0' := k7.cell q0 (by simp; omega)
              have q1' := k7.cell q1 (by simp; omega)
              have q2' := k7.cell q2 (by simp; omega)
              have K8 : Hid (Kept [T, S, N] W5 _) := K7.out.trans k7 (by simp)
              generalize hW7 : ((W6.setCell ⟨T, pu u v k j, none⟩ (.int .i64 (v j))).setCell ⟨S, pu u v k j, none⟩ (.int .i64 (st j))).drew = W7 at *
              clear hW7 k7 K7 T6 S6 N6 G6 q0 q1 q2 g3 g4 n0 t0 s0 zt zs
              have n0 : W7.cell? ⟨N, u j, none⟩ = some (.int .i64 ((pu u v k j : Nat) : Int)) := N7.cell (u j) hun
              have zn := N7.free (u j)
              have HT7 : Hid (Nums W7 T _ _) := T7
              have HS7 : Hid (Nums W7 S _ _) := S7
              have HN7 : Hid (Nums W7 N _ _) := N7
              have HG7 : Hid (Row W7 G _ 34) := G7
              clear T7 S7 N7 G7
              go_wp2_with fail
              have k8 := Kept.setCell W7 N (u j) (.int .i64 ((pu u v k j : Int) + 1))
              have T8 : Hid (Nums _ T _ _) := HT7.out.keep k8 (by simp; omega)
              have S8 : Hid (Nums _ S _ _) := HS7.out.keep k8 (by simp; omega)
              have G8 : Hid (Row _ G _ 34) := HG7.out.keep k8 (by simp; omega)
              have N8 : Hid (Nums _ N x _) := HN7.out.set (u j) ((pu u v k j : Int) + 1) hun
              have Q0 := k8.cell q0' (by simp; omega)
              have Q1 := k8.cell q1' (by simp; omega)
              have Q2 := k8.cell q2' (by simp; omega)
              have K9 : Hid (Kept [T, S, N] W5 _) := K8.out.trans k8 (by simp)
              generalize hW8 : W7.setCell ⟨N, u j, none⟩ (.int .i64 ((pu u v k j : Int) + 1)) = W8 at *
              clear hW8 k8 K8 HT7 HS7 HG7 HN7 q0' q1' q2' n0 zn
              have g3 := G8.out.cell 3 rfl
              have g4 := G8.out.cell 4 rfl
              have n1 := N8.out.cell (v j) hvn
              rw [next_mid] at n1
              have t0 := T8.out.cell (pv u v k j) pl2
              have s0 := S8.out.cell (pv u v k j) pl2
              have zt := T8.out.free (pv u v k j)
              have zs := S8.out.free (pv u v k j)
              go_region_held3 (fun w' => w'.cell? ⟨G, 3, none⟩ = some (.slice (some ⟨T, 0, none⟩) (2 * k) (2 * k)) ∧ w'.cell? ⟨G, 4, none⟩ = some (.slice (some ⟨S, 0, none⟩) (2 * k) (2 * k)) ∧ w'.cell? ⟨N, v j, none⟩ = some (.int .i64 ((pv u v k j : Nat) : Int)) ∧ w'.cell? ⟨q, 0, none⟩ = some (.int .i64 (u j)) ∧ w'.cell? ⟨q, 1, none⟩ = some (.int .i64 (v j)) ∧ w'.cell? ⟨q, 2, none⟩ = some (.int .i64 (st j))) (go_keep) (fail)
              have k7 := ((Kept.setCell W8 T (pv u v k j) (.int .i64 (u j))).mono (ws' := [T, S]) (by simp)).trans ((Kept.setCell _ S (pv u v k j) (.int .i64 (st j))).trans (Kept.drew _) (by simp)) (by simp)
              have T7 := (((T8.out.set (pv u v k j) (u j) pl2).keep (Kept.setCell _ S (pv u v k j) (.int .i64 (st j))) (by simp; omega)).keep (Kept.drew _) (by simp)).eq (g := fun p => ((upd (upd f (pu u v k j) (v j)) (pv u v k j) (u j) p : Nat) : Int)) (fun p _ => by unfold upd; split <;> rfl)
              have S7 := ((S8.out.keep (Kept.setCell _ T (pv u v k j) (.int .i64 (u j))) (by simp; omega)).set (pv u v k j) (st j) pl2).keep (Kept.drew _) (by simp)
              have N7 := N8.out.keep k7 (by simp; omega)
              have q1' := k7.cell Q1 (by simp; omega)
              have K8 : Hid (Kept [T, S, N] W5 _) := K9.out.trans k7 (by simp)
              generalize hW7 : ((W8.setCell ⟨T, pv u v k j, none⟩ (.int .i64 (u j))).setCell ⟨S, pv u v k j, none⟩ (.int .i64 (st j))).drew = W9 at *
              clear hW7 k7 K9 T8 S8 N8 G8 Q0 Q1 Q2 g3 g4 n1 t0 s0 zt zs
              have n1 := N7.cell (v j) hvn
              rw [next_mid] at n1
              have zn := N7.free (v j)
              have HT7 : Hid (Nums W9 T _ _) := T7
              have HS7 : Hid (Nums W9 S _ _) := S7
              have HN7 : Hid (Nums W9 N _ _) := N7
              clear T7 S7 N7
              go_wp2_with fail
              have k8 := Kept.setCell W9 N (v j) (.int .i64 ((pv u v k j : Int) + 1))
              have r1 := HT7.out.keep k8 (by simp; omega)
              have r2 := HS7.out.keep k8 (by simp; omega)
              have r3 := laid_step u v k j hlt f s st HL.out
              have r4 := (HN7.out.set (v j) ((pv u v k j : Int) + 1) hvn).eq (fun y _ => next_step u v k j y)
              have r5 := K8.out.trans k8 (by simp)
              clear HT7 HS7 HN7 K8 HL n1 zn q1' k8
              generalize W9.setCell ⟨N, v j, none⟩ (.int .i64 ((pv u v k j : Int) + 1)) = W10 at *
              generalize upd (upd f (pu u v k j) (v j)) (pv u v k j) (u j) = f' at *
              generalize upd (upd s (pu u v k j) (st j)) (pv u v k j) (st j) = s' at *
              clear d1 d2 d3 d4 d5 d6 d7 e1 e2 e3 e4 e5 e1' e2' hqN hqT hqS hFG hFB hGB
              have hj1 : j + 1 ≤ k := hlt
              refine And.intro ⟨j + 1, f', s', hj1, by go_num, r1, r2, r3, r4, r5⟩ ?_
              clear r1 r2 r3 r4 r5 hu hv bu bv bp bp2 pl pl2
              simp only [intOf]
              omega
            · obtain rfl : j = k := by omega
              have G7 := G5.keep hkk (by simp; omega)
              have F7 := F5.keep hkk (by simp; omega)
              have K7 := K6.out.trans hkk (by simp only [List.mem_cons, List.not_mem_nil, or_false]; rintro i (rfl | rfl | rfl) <;> right <;> omega)
              clear G5 F5 K6
              go_wp2_with fail
              go_end0
              exact ⟨rfl, F, T, S, f, s, G7, F7, hT, hS, hla, K7⟩
end Go.Proofs.Ybulkjgc
