/-
  Seat b0496a: the law's own walk.
-/
import Derived.Test.YbulkjgcJoin
import Derived.Laws.MakeOwn
import Derived.BigQuiet
import Derived.Deep.Cut
namespace Go.Proofs.Ybulkjgc
open Go.RowKit

theorem Yba.info28 : (Yba.prog.info? 28).map (fun i => (i.zero, i.size, i.bytes)) = some (some (.agg #[.int .i64 0, .int .i64 0, .int .i64 0]), 3, 24) := by kernel_rfl
theorem mk_links (L : Nat) (hL : L ≤ 1024) (W : World) : (Instr.makeSlice 24 (.int .i64 (L : Int)) (.int .i64 (L : Int))).run Yba.prog W = .ok (.slice (some ⟨W.heap.size, 0, none⟩) L L) (W.alloc (.cells (madeCells #[.int .i64 0, .int .i64 0, .int .i64 0] (L * 3)) 28)) := by
  obtain ⟨i0, hi, hz⟩ := info_parts Yba.info28
  simp only [Prod.mk.injEq] at hz
  obtain ⟨hz0, hz1, hz2⟩ := hz
  have := run_makeSlice (P := Yba.prog) W 24 28 i0 _ Yba.underlying24 hi hz0 .i64 .i64 (L : Int) (L : Int) (by omega) (Int.le_refl _) (by rw [hz1]; simp; omega) (by rw [hz2]; omega) (by omega)
  rw [hz1, Int.toNat_natCast] at this
  exact this
theorem mk_ids (n : Nat) (hn : n ≤ 300) (W : World) : (Instr.makeSlice 30 (.int .i64 (n : Int)) (.int .i64 (n : Int))).run Yba.prog W = .ok (.slice (some ⟨W.heap.size, 0, none⟩) n n) (W.alloc (.cells (madeCells #[.int .i64 0] n) 2)) :=
  run_make_row' (P := Yba.prog) 30 2 (.int .i64 0) 8 Yba.underlying30 Yba.info2 rfl .i64 .i64 n (by omega) (by omega) W
theorem made3 (w : World) (L : Nat) : Nums (w.alloc (.cells (madeCells #[.int .i64 0, .int .i64 0, .int .i64 0] (L * 3)) 28)) w.heap.size (3 * L) (fun _ => 0) := by
  refine ⟨(madeCells #[.int .i64 0, .int .i64 0, .int .i64 0] (L * 3)).toList, 28, ?_, fun i hi => ?_⟩
  · have := Row.made w (madeCells #[.int .i64 0, .int .i64 0, .int .i64 0] (L * 3)).toList 28
    simpa using this
  · have h3 : i % 3 = 0 ∨ i % 3 = 1 ∨ i % 3 = 2 := by omega
    have hlt : i < L * 3 := by omega
    rcases h3 with h | h | h <;> simp [madeCells, h, hlt]
theorem cell_lt {w : World} {b o : Nat} {v : Value} (hc : w.cell? ⟨b, o, none⟩ = some v) : b < w.heap.size := by
  apply Classical.byContradiction
  intro hx
  have e : w.heap[b]? = none := by simp; omega
  simp [World.cell?, e] at hc
theorem num_half (G T k : Nat) (w : World) (hk : k ≤ 1024) (hT : w.cell? ⟨G, 3, none⟩ = some (.slice (some ⟨T, 0, none⟩) (2 * k) (2 * k))) :
    Calls Yba.prog 5 #[.pointer (some ⟨G, 0, none⟩)] w fun e w' => e = .returned (.int .i64 (k : Int)) ∧ w' = w := by
  have := num_links G T (2 * k) w (by omega) hT
  have e : ((2 * k : Nat) : Int) / 2 = (k : Int) := by omega
  rw [e] at this
  exact this
theorem Kept.drewN (w : World) (n : Nat) : Kept [] w (w.drewN n) := ⟨rfl, rfl, rfl, Nat.le_refl _, fun _ _ _ => rfl⟩
/-- The row of links, the first k of them laid. -/
def lfk (u v : Nat → Nat) (st : Nat → Int) (k j : Nat) : Int := if j < 3 * k then lf u v st j else 0

theorem lfk_step (u v : Nat → Nat) (st : Nat → Int) (k j : Nat) : upd (upd (upd (lfk u v st k) (k * 3) (u k)) (k * 3 + 1) (v k)) (k * 3 + 2) (st k) j = lfk u v st (k + 1) j := by
  by_cases h2 : j = k * 3 + 2
  · subst h2
    have : k * 3 + 2 < 3 * (k + 1) := by omega
    simp only [upd, lfk, if_pos this, lf2, if_true]
  by_cases h1 : j = k * 3 + 1
  · subst h1
    have : k * 3 + 1 < 3 * (k + 1) := by omega
    simp only [upd, lfk, if_pos this, lf1, if_true, if_neg h2]
  by_cases h0 : j = k * 3
  · subst h0
    have : k * 3 < 3 * (k + 1) := by omega
    simp only [upd, lfk, if_pos this, lf0, if_true, if_neg h1, if_neg h2]
  · simp only [upd, if_neg h0, if_neg h1, if_neg h2, lfk]
    by_cases h : j < 3 * k
    · rw [if_pos h, if_pos (by omega)]
    · rw [if_neg h, if_neg (by omega)]

set_option maxRecDepth 100000 in
set_option maxHeartbeats 4000000 in
theorem walk_in (a0 : Int) (n : Nat) (ma : Option Addr) (L cap : Nat) (U V : Nat → Nat) (st : Nat → Int) (w : World) (r0 : 0 ≤ a0) (r0' : a0 ≤ 65535) (hn : a0 % 300 + 1 = n) (hL : L ≤ 1024)
    (hU : ∀ j, j < L → U j ≤ 65535) (hV : ∀ j, j < L → V j ≤ 65535)
    (hcells : ∀ j, j < L → ∃ b o, ma = some ⟨b, o, none⟩ ∧ w.cell? ⟨b, o + j * 3, none⟩ = some (.int .u16 (U j)) ∧ w.cell? ⟨b, o + j * 3 + 1, none⟩ = some (.int .u16 (V j)) ∧ w.cell? ⟨b, o + j * 3 + 2, none⟩ = some (.int .i64 (st j))) :
    Calls Yba.prog 3 #[.int .u16 a0, .slice ma L cap] w fun e w' => e = .returned (.bool true) ∧ Below w.heap.size w w' := by
  have hl : (L : Int) ≤ 1024 := by omega
  have hm1 := mk_links L hL
  have hn0 : 0 < n := by omega
  have hn3 : n ≤ 300 := by omega
  have hn4 : (n : Int) ≤ 300 := by omega
  have hn5 : (0 : Int) < (n : Int) := by omega
  go_enter Yba.func3, Yba.ntmps3
  go_wp2_with fail
  have k1 := Kept.alloc w (.cells (madeCells #[.int .i64 0, .int .i64 0, .int .i64 0] (L * 3)) 28)
  have B1 := made3 w L
  generalize hW : w.alloc (.cells (madeCells #[.int .i64 0, .int .i64 0, .int .i64 0] (L * 3)) 28) = W1 at *
  obtain ⟨B, hB⟩ : ∃ B, B = w.heap.size := ⟨_, rfl⟩
  rw [← hB] at B1 ⊢
  have K1 : Hid (Kept [] w W1) := k1
  have HB : Hid (B = w.heap.size) := hB
  clear hW hm1
  go_loopw [29] (fun i wr => ∃ k : Nat, k ≤ L ∧ i = .int .i64 k ∧ Nums wr B (3 * L) (lfk (fun j => U j % n) (fun j => V j % n) st k) ∧ Kept [B] W1 wr) (fun i _ => L - (intOf i).toNat)
  case atStart => exact ⟨0, Nat.zero_le _, rfl, B1.eq (fun i _ => by simp [lfk]), Kept.refl _ _⟩
  case round =>
    obtain ⟨k, hk, rfl, hN, hkk⟩ := hrel
    by_cases hlt : k < L
    · obtain ⟨b, o, rfl, x0, x1, x2⟩ := hcells k hlt
      have hbB : b ≠ B := by have := cell_lt x0; omega
      have x0 := hkk.cell (k1.cell x0 (by simp)) (by simpa using hbB)
      have x1 := hkk.cell (k1.cell x1 (by simp)) (by simpa using hbB)
      have x2 := hkk.cell (k1.cell x2 (by simp)) (by simpa using hbB)
      have bu := hU k hlt
      have bv := hV k hlt
      have bu' : ((U k : Nat) : Int) ≤ 65535 := by omega
      have bv' : ((V k : Nat) : Int) ≤ 65535 := by omega
      have nlt := hN.lt
      clear k1 hB
      go_wp2_with fail
      have ka := Kept.alloc wr (.cells #[.int .u16 (U k), .int .u16 (V k), .int .i64 (st k)] 26)
      have q0 : (wr.alloc (.cells #[.int .u16 (U k), .int .u16 (V k), .int .i64 (st k)] 26)).cell? ⟨wr.heap.size, 0, none⟩ = some (.int .u16 (U k)) := by simp [go_sem]
      have q1 : (wr.alloc (.cells #[.int .u16 (U k), .int .u16 (V k), .int .i64 (st k)] 26)).cell? ⟨wr.heap.size, 1, none⟩ = some (.int .u16 (V k)) := by simp [go_sem]
      have q2 : (wr.alloc (.cells #[.int .u16 (U k), .int .u16 (V k), .int .i64 (st k)] 26)).cell? ⟨wr.heap.size, 2, none⟩ = some (.int .i64 (st k)) := by simp [go_sem]
      have N2 := hN.keep ka (by simp)
      have K2 : Hid (Kept [B] W1 _) := hkk.trans ka (by simp)
      generalize hW2 : wr.alloc (.cells #[.int .u16 (U k), .int .u16 (V k), .int .i64 (st k)] 26) = W2 at *
      obtain ⟨q, hq⟩ : ∃ q, q = wr.heap.size := ⟨_, rfl⟩
      rw [← hq] at q0 q1 q2 ⊢
      have hqB : B ≠ q := by omega
      have y0 := N2.cell (k * 3) (by omega)
      have y1 := N2.cell (k * 3 + 1) (by omega)
      have y2 := N2.cell (k * 3 + 2) (by omega)
      have z0 := N2.free (k * 3)
      have z1 := N2.free (k * 3 + 1)
      have z2 := N2.free (k * 3 + 2)
      have HN : Hid (Nums W2 B _ _) := N2
      have hlt' : (k : Int) < (L : Int) := by omega
      clear hW2 hq ka hN hkk N2 x0 x1 x2 nlt
      have hnz : ¬ (n = 0) := by omega
      have hr1 : ((U k : Nat) : Int).tmod (n : Int) = (U k : Int) % (n : Int) := Int.tmod_eq_emod_of_nonneg (by omega)
      have hr2 : ((V k : Nat) : Int).tmod (n : Int) = (V k : Int) % (n : Int) := Int.tmod_eq_emod_of_nonneg (by omega)
      go_region
      have N3 := ((((HN.out.set (k * 3) ((U k : Int) % (n : Int)) (by omega)).set (k * 3 + 1) ((V k : Int) % (n : Int)) (by omega)).set (k * 3 + 2) (st k) (by omega)).keep (Kept.drew _) (by simp)).eq (g := lfk (fun j => U j % n) (fun j => V j % n) st (k + 1)) (fun j _ => by
        rw [← lfk_step]; simp only [Int.natCast_emod])
      have K3 := (((K2.out.trans (Kept.setCell W2 B (k * 3) (.int .i64 ((U k : Int) % (n : Int)))) (by simp)).trans (Kept.setCell _ B (k * 3 + 1) (.int .i64 ((V k : Int) % (n : Int)))) (by simp)).trans (Kept.setCell _ B (k * 3 + 2) (.int .i64 (st k))) (by simp)).trans (Kept.drew _) (by simp)
      go_wp2_with fail
      go_roundw
      case rel => exact ⟨k + 1, by omega, by go_num, N3, K3⟩
      case measure => simp [intOf]; omega
    · obtain rfl : k = L := by omega
      have hm2 := mk_ids n hn3
      obtain ⟨W2, rfl⟩ : ∃ W2, W2 = wr := ⟨_, rfl⟩
      have N2 : Nums W2 B (3 * k) (lf (fun j => U j % n) (fun j => V j % n) st) := hN.eq (fun i hi => by simp [lfk, hi])
      have K2 : Hid (Kept [] w W2) := K1.out.trans hkk (by have := HB.out; simp; omega)
      have nlt := N2.lt
      clear hN hkk B1 k1 K1 hB
      go_wp2_with fail
      have ka := (Kept.alloc W2 (.cells (madeCells #[.int .i64 0] n) 2)).trans (Kept.alloc _ (.cells #[.slice (some ⟨W2.heap.size, 0, none⟩) n n, .map none, .slice none 0 0, .slice none 0 0, .slice none 0 0] 34)) (by simp)
      have G3 := Row.made (W2.alloc (.cells (madeCells #[.int .i64 0] n) 2)) [.slice (some ⟨W2.heap.size, 0, none⟩) n n, .map none, .slice none 0 0, .slice none 0 0, .slice none 0 0] 34
      rw [World.size_alloc] at G3
      refine (join_any (W2.heap.size + 1) W2.heap.size B n k (fun j => U j % n) (fun j => V j % n) st _ hn0 hn3 hL (fun i _ => Nat.mod_lt _ hn0) (fun i _ => Nat.mod_lt _ hn0) G3 (N2.keep ka (by simp)) (by omega)).mono ?_
      rintro e W3 ⟨rfl, F, T, S, f, s, G4, F4, T4, S4, hla, k4⟩
      have B4 := (N2.keep ka (by simp)).keep k4 (by simp; omega)
      have K4 : Hid (Kept [] w W3) := (K2.out.trans ka (by simp)).trans k4 (by have := K2.out.size; simp; omega)
      have hul : ∀ i, (fun j => U j % n) i < n := fun i => Nat.mod_lt _ hn0
      have hvl : ∀ i, (fun j => V j % n) i < n := fun i => Nat.mod_lt _ hn0
      generalize hG : W2.heap.size + 1 = G at *
      clear ka k4 G3 hG hm2 nlt
      generalize (fun j => U j % n) = u at *
      generalize (fun j => V j % n) = v at *
      have HB4 : Hid (Nums W3 B (3 * k) _) := B4
      have HF4 : Hid (Nums W3 F (n + 1) _) := F4
      have HT4 : Hid (Nums W3 T (2 * k) _) := T4
      have HS4 : Hid (Nums W3 S (2 * k) s) := S4
      have HLA : Hid (Laid u v k k f s st) := hla
      have HG4 : Hid (Row W3 G _ 34) := G4
      have g2 := G4.cell 2 rfl
      have g3 := G4.cell 3 rfl
      have g4 := G4.cell 4 rfl
      have f0 := F4.cell 0 (by omega)
      have fn := F4.cell n (by omega)
      have en : beg u v k n = 2 * k := upto_all _ _ n k (fun i _ => hul i) (fun i _ => hvl i)
      have e0 : beg u v k 0 = 0 := rfl
      simp only [en] at fn
      simp only [e0] at f0
      have HEN : Hid (beg u v k n = 2 * k) := en
      clear F4 T4 S4 hla G4 B4 N2 K2 en e0 hU hV hcells
      have hl : (k : Int) ≤ 1024 := by omega
      go_wp2_with fail
      go_loopw [11] (fun i wr => ∃ x : Nat, x ≤ n ∧ i = .int .i64 x ∧ Kept [] W3 wr) (fun i _ => n - (intOf i).toNat)
      case atStart => exact ⟨0, Nat.zero_le _, rfl, Kept.refl _ _⟩
      case round =>
        obtain ⟨x, hx, rfl, hkk⟩ := hrel
        by_cases hlt : x < n
        · have hlt' : (x : Int) < (n : Int) := by omega
          have a1 := hkk.cell g2 (by simp)
          have a2 := (HF4.out.keep hkk (by simp)).cell x (by omega)
          have a3 := (HF4.out.keep hkk (by simp)).cell (x + 1) (by omega)
          have hle : (beg u v k x : Int) ≤ (beg u v k (x + 1) : Int) := by
            have : beg u v k x ≤ beg u v k (x + 1) := upto_mono _ (by omega)
            omega
          generalize beg u v k x = P at *
          generalize beg u v k (x + 1) = E at *
          have HK : Hid (Kept [] W3 wr) := hkk
          clear hkk g2 g3 g4 f0 fn
          go_wp2_with fail
          go_region
          go_wp2_with fail
          go_roundw
          case rel => exact ⟨x + 1, by omega, by go_num, HK.out.trans (Kept.drew _) (by simp)⟩
          case measure => simp [intOf]; omega
        · obtain rfl : x = n := by omega
          obtain ⟨W4, rfl⟩ : ∃ W4, W4 = wr := ⟨_, rfl⟩
          have HK4 : Hid (Kept [] w W4) := K4.out.trans hkk (by simp)
          have HB5 : Hid (Nums W4 B (3 * k) _) := HB4.out.keep hkk (by simp)
          have HF5 : Hid (Nums W4 F (x + 1) _) := HF4.out.keep hkk (by simp)
          have HT5 : Hid (Nums W4 T (2 * k) _) := HT4.out.keep hkk (by simp)
          have HS5 : Hid (Nums W4 S (2 * k) s) := HS4.out.keep hkk (by simp)
          have HG5 : Hid (Row W4 G _ 34) := HG4.out.keep hkk (by simp)
          clear HB4 HF4 HT4 HS4 HG4 K4 hkk g2 g3 g4 f0 fn
          go_wp2_with fail
          refine (num_half G T k W4 hL (HG5.out.cell 3 rfl)).mono ?_
          rintro e W5 ⟨rfl, rfl⟩
          go_wp2_with fail
          go_loopw [12] (fun i wr => ∃ y : Nat, y ≤ x ∧ i = .int .i64 y ∧ Kept [] W5 wr) (fun i _ => x - (intOf i).toNat)
          case atStart => exact ⟨0, Nat.zero_le _, rfl, Kept.refl _ _⟩
          case round =>
            obtain ⟨y, hy, rfl, hkk⟩ := hrel
            by_cases hlt : y < x
            · have hlt' : (y : Int) < (x : Int) := by omega
              obtain ⟨W6, rfl⟩ : ∃ W6, W6 = wr := ⟨_, rfl⟩
              have HK6 : Hid (Kept [] W5 W6) := hkk
              have HB6 : Hid (Nums W6 B (3 * k) _) := HB5.out.keep hkk (by simp)
              have HT6 : Hid (Nums W6 T (2 * k) _) := HT5.out.keep hkk (by simp)
              have HS6 : Hid (Nums W6 S (2 * k) s) := HS5.out.keep hkk (by simp)
              have HG6 : Hid (Row W6 G _ 34) := HG5.out.keep hkk (by simp)
              have a1 := HG6.out.cell 2 rfl
              have a2 := (HF5.out.keep hkk (by simp)).cell y (by omega)
              have a3 := (HF5.out.keep hkk (by simp)).cell (y + 1) (by omega)
              have hsum : beg u v k y + ends u v y k = beg u v k (y + 1) := rfl
              have hE2 : beg u v k (y + 1) ≤ 2 * k := by rw [← HEN.out]; exact upto_mono _ (by omega)
              obtain ⟨A, hA⟩ : ∃ A, A = beg u v k y := ⟨_, rfl⟩
              obtain ⟨E, hE⟩ : ∃ E, E = beg u v k (y + 1) := ⟨_, rfl⟩
              simp only [← hA, ← hE] at a2 a3 hsum hE2
              have HA : Hid (A = beg u v k y) := hA
              have HE : Hid (E = beg u v k (y + 1)) := hE
              clear hA hE
              have bE : (E : Int) ≤ 2048 := by omega
              have bA : (A : Int) ≤ 2048 := by omega
              clear hkk
              go_wp2_with fail
              clear a1 a2 a3
              go_loopw [13, 153] (fun p i wr => ∃ (j P : Nat), j ≤ k ∧ i = .int .i64 j ∧ p = .int .i64 P ∧ P = A + ends u v y j ∧ Kept [] W6 wr) (fun p i _ => k - (intOf i).toNat)
              case atStart => exact ⟨0, A, Nat.zero_le _, rfl, rfl, rfl, Kept.refl _ _⟩
              case round =>
                obtain ⟨j, P, hj, rfl, rfl, hP, hkk⟩ := hrel
                by_cases hjk : j < k
                · have l0 := (HB6.out.keep hkk (by simp)).cell (j * 3) (by omega)
                  have l1 := (HB6.out.keep hkk (by simp)).cell (j * 3 + 1) (by omega)
                  have l2 := (HB6.out.keep hkk (by simp)).cell (j * 3 + 2) (by omega)
                  rw [lf0] at l0
                  rw [lf1] at l1
                  rw [lf2] at l2
                  have hjk' : (j : Int) < (k : Int) := by omega
                  go_upto_region 32 with fail
                  have hla := HLA.out j hjk
                  have ka := Kept.alloc wr (.cells #[.int .i64 (u j), .int .i64 (v j), .int .i64 (st j)] 28)
                  have q0 : (wr.alloc (.cells #[.int .i64 (u j), .int .i64 (v j), .int .i64 (st j)] 28)).cell? ⟨wr.heap.size, 0, none⟩ = some (.int .i64 (u j)) := by simp [go_sem]
                  have q1 : (wr.alloc (.cells #[.int .i64 (u j), .int .i64 (v j), .int .i64 (st j)] 28)).cell? ⟨wr.heap.size, 1, none⟩ = some (.int .i64 (v j)) := by simp [go_sem]
                  have q2 : (wr.alloc (.cells #[.int .i64 (u j), .int .i64 (v j), .int .i64 (st j)] 28)).cell? ⟨wr.heap.size, 2, none⟩ = some (.int .i64 (st j)) := by simp [go_sem]
                  have k7 := hkk.trans ka (by simp)
                  have g3 := (HG6.out.keep k7 (by simp)).cell 3 rfl
                  have g4 := (HG6.out.keep k7 (by simp)).cell 4 rfl
                  have T7 := HT6.out.keep k7 (by simp)
                  have S7 := HS6.out.keep k7 (by simp)
                  have HK7 : Hid (Kept [] W6 _) := k7
                  generalize hW7 : wr.alloc (.cells #[.int .i64 (u j), .int .i64 (v j), .int .i64 (st j)] 28) = W7 at *
                  obtain ⟨q, hq⟩ : ∃ q, q = wr.heap.size := ⟨_, rfl⟩
                  rw [← hq] at q0 q1 q2 ⊢
                  clear hW7 hq ka l0 l1 l2 hkk k7
                  have hst : ends u v y (j + 1) = ends u v y j + (if u j = y then 1 else 0) + (if v j = y then 1 else 0) := rfl
                  have hmo := ends_mono u v y (show j + 1 ≤ k by omega)
                  have hPu : u j = y → pu u v k j = P := fun e => by unfold pu; rw [e, hP, HA.out]
                  have hPv : v j = y → pv u v k j = P + (if u j = y then 1 else 0) := fun e => by unfold pv; rw [e, hP, HA.out]; omega
                  have HR : Hid (ends u v y (j + 1) = ends u v y j + (if u j = y then 1 else 0) + (if v j = y then 1 else 0)) := hst
                  have HPP : Hid (P = A + ends u v y j) := hP
                  have HLT : Hid (y < x ∧ j < k) := ⟨hlt, hjk⟩
                  by_cases e1 : u j = y
                  · have eu := hPu e1
                    rw [eu] at hla
                    by_cases e2 : v j = y
                    · have ev := hPv e2
                      rw [if_pos e1] at ev
                      rw [ev] at hla
                      rw [if_pos e1, if_pos e2] at hst
                      have hP1 : P + 1 < E := by omega
                      have t0 := T7.cell P (by omega)
                      have t1 := T7.cell (P + 1) (by omega)
                      have s0 := S7.cell P (by omega)
                      have s1 := S7.cell (P + 1) (by omega)
                      simp only [hla] at t0 t1 s0 s1
                      have hd1 : decide ((E : Int) ≤ (P : Int)) = false := by simp; omega
                      have hd2 : decide ((E : Int) ≤ (P : Int) + 1) = false := by simp; omega
                      have hd3 : decide (E ≤ P) = false := by simp; omega
                      have hd4 : decide (E ≤ P + 1) = false := by simp; omega
                      have b1 : (P : Int) + 1 < 2 * (k : Int) := by omega
                      have b2 : (P : Int) < 2 * (k : Int) := by omega
                      clear T7 S7 hst hmo hPu hPv hla eu ev hP1 hP hsum hE2 hlt
                      go_wp2_with fail
                      go_quiet (fail)
                      have kd := Kept.drewN W7 nq
                      have g3 := kd.cell g3 (by simp)
                      have g4 := kd.cell g4 (by simp)
                      have q0 := kd.cell q0 (by simp)
                      have q1 := kd.cell q1 (by simp)
                      have q2 := kd.cell q2 (by simp)
                      have t1 := kd.cell t1 (by simp)
                      have s1 := kd.cell s1 (by simp)
                      have HK8 : Hid (Kept [] W6 (W7.drewN nq)) := HK7.out.trans kd (by simp)
                      clear kd HK7
                      generalize W7.drewN nq = W8 at *
                      go_wp2_with fail
                      go_quiet (fail)
                      have HK9 : Hid (Kept [] W6 (W8.drewN nq)) := HK8.out.trans (Kept.drewN W8 nq) (by simp)
                      clear HK8
                      generalize W8.drewN nq = W9 at *
                      go_wp2_with fail
                      refine And.intro ⟨j + 1, P + 1 + 1, HLT.out.2, by go_num, by go_num, by rw [HR.out, if_pos e1, if_pos e2]; have := HPP.out; omega, HK9.out⟩ ?_
                      have hl2 := HLT.out.2
                      simp only [intOf]
                      omega
                    · rw [if_pos e1, if_neg e2] at hst
                      have hP1 : P < E := by omega
                      have t0 := T7.cell P (by omega)
                      have s0 := S7.cell P (by omega)
                      simp only [hla] at t0 s0
                      have hd1 : decide ((E : Int) ≤ (P : Int)) = false := by simp; omega
                      have hd3 : decide (E ≤ P) = false := by simp; omega
                      have b2 : (P : Int) < 2 * (k : Int) := by omega
                      clear T7 S7 hst hmo hPu hPv hla eu hP1 hP hsum hE2 hlt
                      go_wp2_with fail
                      go_quiet (fail)
                      have kd := Kept.drewN W7 nq
                      have q1 := kd.cell q1 (by simp)
                      have HK8 : Hid (Kept [] W6 (W7.drewN nq)) := HK7.out.trans kd (by simp)
                      clear kd HK7
                      generalize W7.drewN nq = W8 at *
                      go_wp2_with fail
                      refine And.intro ⟨j + 1, P + 1, HLT.out.2, by go_num, by go_num, by rw [HR.out, if_pos e1, if_neg e2]; have := HPP.out; omega, HK8.out⟩ ?_
                      have hl2 := HLT.out.2
                      simp only [intOf]
                      omega
                  · by_cases e2 : v j = y
                    · have ev := hPv e2
                      rw [if_neg e1, Nat.add_zero] at ev
                      rw [ev] at hla
                      rw [if_neg e1, if_pos e2] at hst
                      have hP1 : P < E := by omega
                      have t0 := T7.cell P (by omega)
                      have s0 := S7.cell P (by omega)
                      simp only [hla] at t0 s0
                      have hd1 : decide ((E : Int) ≤ (P : Int)) = false := by simp; omega
                      have hd3 : decide (E ≤ P) = false := by simp; omega
                      have b2 : (P : Int) < 2 * (k : Int) := by omega
                      clear T7 S7 hst hmo hPu hPv hla ev hP1 hP hsum hE2 hlt
                      go_wp2_with fail
                      go_quiet (fail)
                      have HK8 : Hid (Kept [] W6 (W7.drewN nq)) := HK7.out.trans (Kept.drewN W7 nq) (by simp)
                      clear HK7
                      generalize W7.drewN nq = W8 at *
                      go_wp2_with fail
                      refine And.intro ⟨j + 1, P + 1, HLT.out.2, by go_num, by go_num, by rw [HR.out, if_neg e1, if_pos e2]; have := HPP.out; omega, HK8.out⟩ ?_
                      have hl2 := HLT.out.2
                      simp only [intOf]
                      omega
                    · clear T7 S7 hst hmo hPu hPv hla hP hsum hE2 hlt
                      go_wp2_with fail
                      refine And.intro ⟨j + 1, P, HLT.out.2, by go_num, rfl, by rw [HR.out, if_neg e1, if_neg e2]; have := HPP.out; omega, HK7.out⟩ ?_
                      have hl2 := HLT.out.2
                      simp only [intOf]
                      omega
                · obtain rfl : j = k := by omega
                  have HK7 : Hid (Kept [] W5 wr) := HK6.out.trans hkk (by simp)
                  have hPE : P = E := by omega
                  have hbn : ((P : Int) != (E : Int)) = false := by simp [hPE]
                  have hP2 : (P : Int) ≤ 2048 := by omega
                  clear hkk hPE hP hsum
                  go_wp2_with fail
                  go_roundw
                  case rel => exact ⟨y + 1, by omega, by go_num, HK7.out⟩
                  case measure => simp [intOf]; omega
            · have HK7 : Hid (Kept [] w wr) := HK4.out.trans hkk (by simp)
              clear hkk
              go_wp2_with fail
              go_ret
              exact ⟨rfl, HK7.out.below (Nat.le_refl _) (by simp)⟩
end Go.Proofs.Ybulkjgc
