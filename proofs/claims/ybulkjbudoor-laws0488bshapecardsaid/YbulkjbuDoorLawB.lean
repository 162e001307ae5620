/-
  Seat b0488aD: the law LawS0488BShape, walked.
-/
import Derived.Test.YbulkjbuDoorLawA
import Derived.Test.YbulkjbuDoorLawB0
import Derived.Test.YbulkjbuDoorLawB1
namespace Go.Proofs.YbulkjbuDoor
open Go.RowKit

/-- The law's parameters. -/
def lpar1 (x : Nat) : List (ByteArray × Value) := [((par 14).1, .float .f64 x)]
theorem vlook_ok1 (t : Nat) (x : ByteArray) : (look x (lpar1 t) = none ∧ vlook (lpar1 t) x = 0) ∨ look x (lpar1 t) = some (.float .f64 (vlook (lpar1 t) x)) := by
  unfold vlook lpar1 look
  by_cases h0 : (x == (par 14).1) = true
  · simp [h0]
  · simp [h0, look]
theorem sw15 (t : Nat) : sval (vlook (lpar1 t)) 15 = t := by kernel_rfl

theorem Sl.at {w : World} {b : Nat} {e : TypeId} {ad : Option Addr} {n c : Nat} {xs : List Value} (h : Sl w b e ad n c xs) (j : Nat) (hj : j < n) : ∃ g, ad = some ⟨g, 0, none⟩ ∧ w.cell? ⟨g, j, none⟩ = xs[j]? := by
  rcases h.cases with ⟨_, h0, _⟩ | ⟨g, hg, _, _, hc, _⟩
  · omega
  · exact ⟨g, hg, hc j hj⟩
theorem names_at (p : Nat → Bool) (k j : Nat) (hj : j < (picks p k).length) : (names p k)[j]? = some (.string (nm 117 (pick p k j))) := by
  rw [names_picked]; simp [hj]
theorem flts_at (p : Nat → Bool) (f : Nat → Nat) (k j : Nat) (hj : j < (picks p k).length) : (flts p f k)[j]? = some (.float .f64 (f (pick p k j))) := by
  unfold flts pick
  rw [List.getElem?_map, List.getElem?_eq_getElem hj, List.getD_eq_getElem?_getD, List.getElem?_eq_getElem hj]; rfl
theorem pick_yes (p : Nat → Bool) (k j : Nat) (hj : j < (picks p k).length) : p (pick p k j) = true := by
  have := pick_mem p k j hj
  simp only [picks, List.mem_filter] at this
  exact this.2

theorem run_neg (x : Nat) (W : World) : (Op.unary .neg (.float .f64 x)).run Ybad.prog W = .ok (.float .f64 (Op.negFloat .f64 x)) W := rfl

set_option maxRecDepth 100000 in
set_option maxHeartbeats 8000000 in
theorem shape_law (a0 a1 a3 a4 : Int) (nc nx steps seed len cap : Nat) (ma : Option Addr) (ms : Nat → Int) (p0 p1 p2 n0 n1 n2 : ByteArray) (pi pj ni nj : Int) (w : World) (r0 : 0 ≤ a0) (r0' : a0 ≤ 255) (r1 : 0 ≤ a1) (r1' : a1 ≤ 255) (r3 : 0 ≤ a3) (r3' : a3 ≤ 255) (r4 : -128 ≤ a4) (r4' : a4 ≤ 127)
    (hnc : a0 % 12 = nc) (hnx : a1 % 6 = nx) (hst : a3 % 16 = steps) (hlen : len ≤ 256) (hms : ∀ j, j < len → -128 ≤ ms j ∧ ms j ≤ 127)
    (hcells : ∀ j, j < len → ∃ b o, ma = some ⟨b, o, none⟩ ∧ w.cell? ⟨b, o + j, none⟩ = some (.int .i8 (ms j)))
    (ht : Tab w) (sp : Spec w 0 p0 p1 p2 pi pj) (sn : Spec w 1 n0 n1 n2 ni nj) :
    Calls Ybad.prog 3 #[.int .u8 a0, .int .u8 a1, .slice ma len cap, .int .u8 a3, .int .i8 a4, .int .u64 seed] w fun e w' => e = .returned (.bool true) ∧ Kept [] w w' := by
  have hlI : (len : Int) ≤ 256 := by omega
  obtain ⟨ini, q16, o16⟩ := quo_ok okq16 a4 r4 r4'
  have hmm := @run_makeMap Ybad.prog
  have p1' := run_put_last (P := Ybad.prog) w #[] 0 26 9 25 Ybad.underlying26 Ybad.underlying9 ⟨#[86, 83, 80, 97, 116, 99, 104, 46, 105, 110, 105, 116]⟩ (.float .f64 ini) w.heap.size rfl rfl
  simp only [List.push_toArray, List.nil_append, Nat.zero_add] at p1'
  go_enter Ybad.func3, Ybad.ntmps3
  go_wp2_with fail
  rw [hnc, hnx, hst]
  clear p1' hmm q16
  have bnc : nc < 12 := by omega
  have bnx : nx < 6 := by omega
  have bst : steps < 16 := by omega
  have kA := Kept.alloc w (.map #[⟨.string ⟨#[86, 83, 80, 97, 116, 99, 104, 46, 105, 110, 105, 116]⟩, .float .f64 ini, 0⟩] 1)
  have mpA : HasMap (w.alloc (.map #[⟨.string ⟨#[86, 83, 80, 97, 116, 99, 104, 46, 105, 110, 105, 116]⟩, .float .f64 ini, 0⟩] 1)) w.heap.size (lpar1 ini) := ⟨_, _, (MapKept.heap_alloc _ _).1, rfl, by simp, by simp⟩
  refine (build_any nc nx len steps seed w.heap.size ma cap ms (fun j => floatOfInt .f64 (ms j)) _ (by omega) (by omega) (by omega) (by omega) (ht.keep kA (by simp)) (fun j hj => by
    obtain ⟨b, o, h1, h2⟩ := hcells j hj
    exact ⟨b, o, h1, kA.cell h2⟩) (fun j hj W => by simp [go_sem])).mono ?_
  rintro e w1 ⟨u1, v1, u2, v2, u3, v3, b1, b2, b3, m1, m2, mu, rfl, t1, t2, t3, k1, k2, ku, kk⟩
  have kW1 := kA.trans kk (by simp)
  have HMP : Hid (HasMap w1 w.heap.size (lpar1 ini)) := mpA.keep kk (by simp)
  have HK1 : Hid (Kept [] w w1) := kW1
  have HT1 : Hid (Sl w1 b1 9 u1 nc v1 (strs (nm 99) nc)) := t1
  have HT2 : Hid (Sl w1 b2 9 u2 nx v2 (strs (nm 120) nx)) := t2
  have HT3 : Hid (Sl w1 b3 9 u3 len v3 (strs (nm 117) len)) := t3
  have HM1 : Hid (HasMap w1 m1 (kvs (nm 99) 0 nc)) := k1
  have HMU : Hid (HasMap w1 mu (usl (fun j => floatOfInt .f64 (ms j)) len)) := ku
  have HSP : Hid (Spec w 0 p0 p1 p2 pi pj) := sp
  have HSN : Hid (Spec w 1 n0 n1 n2 ni nj) := sn
  have HTB : Hid (Tab w) := ht
  have HMS : Hid (∀ j, j < len → -128 ≤ ms j ∧ ms j ≤ 127) := hms
  have hwz : w.heap.size < w1.heap.size := HMP.out.lt
  clear kA mpA kk kW1 t1 t2 t3 k1 k2 ku sp sn ht hms hnc hnx hst
  obtain ⟨fl, hfl⟩ : ∃ fl, fl = fun j : Nat => floatOfInt .f64 (ms j) := ⟨_, rfl⟩
  rw [← hfl] at HMU
  have HFL : Hid (fl = fun j : Nat => floatOfInt .f64 (ms j)) := hfl
  clear hfl
  go_wp2_with (first | (refine wpList_stores rfl 32 _ _ rfl w1.heap.size 0 [_, _, _, _, _, _, _, _, _, _, _] rfl rfl (Row.made w1 _ 32) (by kernel_rfl) (by simp) rfl ?_; intro w2 h2 k2 s2) | (refine wpList_loads rfl 32 _ rfl w1.heap.size 0 [_, _, _, _, _, _, _, _, _, _, _] _ rfl h2 Ybad.underlying32 rfl (by kernel_rfl) rfl ?_))
  have kW12 := (Kept.alloc w1 _).trans k2 (by simp)
  have kW2 := HK1.out.trans kW12 (by simp)
  refine (start_any u1 u2 u3 nc v1 nx v2 len v3 m1 m2 mu w.heap.size steps seed b1 b2 b3 _ (some mu) (lpar1 ini) (vlook (lpar1 ini)) fl p0 p1 p2 n0 n1 n2 pi pj ni nj w2 (by omega) (by omega) (by omega) (HT1.out.keep kW12 (by simp)) (HT2.out.keep kW12 (by simp)) (HT3.out.keep kW12 (by simp)) (HM1.out.keep kW12 (by simp)) (HMU.out.keep kW12 (by simp)) (HMP.out.keep kW12 (by simp)) (vlook_ok1 ini) (HSP.out.keep kW2 (by simp)) (HSN.out.keep kW2 (by simp))).mono ?_
  rintro e w3 ⟨L, lc, p, x1, x2, x3, gs, lpos, lneg, lvs, oc, e1, r1, e2, r2, bs, gz, thr', bp, bn, rfl, hrow, hvp, hvn, hgl, hvc, hvt, hgz, hs1, hs2, hmp, hperm, k3⟩
  have kW3 := kW2.trans k3 (by simp)
  have hra := run_assert ⟨L, 0, none⟩ w3
  have HK3 : Hid (Kept [] w w3) := kW3
  have HROW : Hid (Row w3 L _ 73) := hrow
  have HVP : Hid (IsVal w3 bp p0 p1 p2 pi pj _ _ _ _ _ (some ⟨L, 3, none⟩) e1 _ r1 nc nx _ lpos) := hvp
  have HVN : Hid (IsVal w3 bn n0 n1 n2 ni nj _ _ _ _ _ (some ⟨L, 3, none⟩) e2 _ r2 nc nx _ lneg) := hvn
  have HGL : Hid (gs.length = 20) := hgl
  have HVC : Hid (VsCells _ oc lvs) := hvc
  have HVT : Hid (VsTo w3 lvs _ _ _ 2) := hvt
  have HGZ : Hid (Row w3 gz _ 25) := hgz
  have HS1 : Hid (Sl w3 bs 9 e1 _ r1 (names (above fl) len)) := hs1
  have HS2 : Hid (Sl w3 bs 9 e2 _ r2 (names (below fl) len)) := hs2
  have HMPP : Hid (HasMap w3 p (lc ++ kvs (nm 120) nc nx) ∧ lc.Perm (kvs (nm 99) 0 nc)) := ⟨hmp, hperm⟩
  have HT3' : Hid (Tab w3) := HTB.out.keep kW3 (by simp)
  clear hrow hvp hvn hgl hvc hvt hgz hs1 hs2 hmp hperm k3 kW3 kW2 kW12 HT1 HT2 HT3 HM1 HMU HMP HSP HSN h2 k2 s2 hwz HK1
  obtain ⟨i9, hi9, hz90, hz91, hz92⟩ := info_parts Ybad.info9
  obtain ⟨i25, hi25, hz250, hz251, hz252⟩ := info_parts Ybad.info25
  go_wp2_with fail
  go_loopw [22, 23, 24, 25, 26] (fun v22 v23 v24 v25 i wr => ∃ (k : Nat) (g1 : Option Addr) (d1 : Nat) (g2 : Option Addr) (d2 : Nat) (g3 : Option Addr) (d3 : Nat) (g4 : Option Addr) (d4 : Nat), k ≤ len ∧ i = .int .i64 k ∧ v22 = .slice g1 (picks (above fl) k).length d1 ∧ v23 = .slice g2 (picks (below fl) k).length d2 ∧ v24 = .slice g3 (picks (above fl) k).length d3 ∧ v25 = .slice g4 (picks (below fl) k).length d4 ∧
      Sl wr w3.heap.size 9 g1 (picks (above fl) k).length d1 (names (above fl) k) ∧ Sl wr w3.heap.size 9 g2 (picks (below fl) k).length d2 (names (below fl) k) ∧ Sl wr w3.heap.size 25 g3 (picks (above fl) k).length d3 (flts (above fl) fl k) ∧ Sl wr w3.heap.size 25 g4 (picks (below fl) k).length d4 (flts (below fl) (fun j => Op.negFloat .f64 (fl j)) k) ∧ (∀ g, g1 = some ⟨g, 0, none⟩ → g2 ≠ some ⟨g, 0, none⟩) ∧ (∀ g, g3 = some ⟨g, 0, none⟩ → g4 ≠ some ⟨g, 0, none⟩) ∧ Kept [] w3 wr) (fun _ _ _ _ i _ => len - (intOf i).toNat)
  case atStart => exact ⟨0, none, 0, none, 0, none, 0, none, 0, Nat.zero_le _, rfl, rfl, rfl, rfl, rfl, Sl.nil _ _ _, Sl.nil _ _ _, Sl.nil _ _ _, Sl.nil _ _ _, by simp, by simp, Kept.refl _ _⟩
  case round =>
    obtain ⟨k, g1, d1, g2, d2, g3, d3, g4, d4, hk, rfl, rfl, rfl, rfl, rfl, s1, s2, s3, s4, hd12, hd34, hkk⟩ := hrel
    have hl1 := len_le (above fl) k
    have hl2 := len_le (below fl) k
    by_cases hlt : k < len
    · obtain ⟨mb, mo, rfl, hmc⟩ := hcells k hlt
      have hmk := HMS.out k hlt
      have hab := above_iff (ms k) hmk.1 hmk.2
      have hfk : fl k = floatOfInt .f64 (ms k) := by rw [HFL.out]
      have hds := dg_small k (by omega)
      have hmw := (HK3.out.trans hkk (by simp)).cell hmc
      have HAB : Hid ((FloatKind.f64.format.order (fl k) 0 == some .gt) = decide (0 < ms k) ∧ (FloatKind.f64.format.order (fl k) 0 == some .lt) = decide (ms k < 0)) := by rw [hfk]; exact hab
      have HFK : Hid (fl k = floatOfInt .f64 (ms k)) := hfk
      have H1 : Hid (Sl wr w3.heap.size 9 g1 (picks (above fl) k).length d1 (names (above fl) k)) := s1
      have H2 : Hid (Sl wr w3.heap.size 9 g2 (picks (below fl) k).length d2 (names (below fl) k)) := s2
      have H3 : Hid (Sl wr w3.heap.size 25 g3 (picks (above fl) k).length d3 (flts (above fl) fl k)) := s3
      have H4 : Hid (Sl wr w3.heap.size 25 g4 (picks (below fl) k).length d4 (flts (below fl) (fun j => Op.negFloat .f64 (fl j)) k)) := s4
      have HD12 : Hid (∀ g, g1 = some ⟨g, 0, none⟩ → g2 ≠ some ⟨g, 0, none⟩) := hd12
      have HD34 : Hid (∀ g, g3 = some ⟨g, 0, none⟩ → g4 ≠ some ⟨g, 0, none⟩) := hd34
      have HKK : Hid (Kept [] w3 wr) := hkk
      have htw : Tab wr := HT3'.out.keep hkk (by simp)
      have HMW : Hid (wr.cell? ⟨mb, mo + k, none⟩ = some (.int .i8 (ms k))) := hmw
      clear s1 s2 s3 s4 hd12 hd34 hkk hab hfk hmc hmw
      go_wp2_with fail
      refine (itoa_any k _ (by omega) htw).mono ?_
      rintro e w1 ⟨rfl, k1⟩
      have hmw1 := k1.cell HMW.out
      have K1 : Hid (Kept [] w3 w1) := HKK.out.trans k1 (by simp)
      have J1 : Hid (Sl w1 w3.heap.size 9 g1 (picks (above fl) k).length d1 (names (above fl) k)) := H1.out.keep k1 (by simp)
      have J2 : Hid (Sl w1 w3.heap.size 9 g2 (picks (below fl) k).length d2 (names (below fl) k)) := H2.out.keep k1 (by simp)
      have J3 : Hid (Sl w1 w3.heap.size 25 g3 (picks (above fl) k).length d3 (flts (above fl) fl k)) := H3.out.keep k1 (by simp)
      have J4 : Hid (Sl w1 w3.heap.size 25 g4 (picks (below fl) k).length d4 (flts (below fl) (fun j => Op.negFloat .f64 (fl j)) k)) := H4.out.keep k1 (by simp)
      have hsz1 := K1.out.size
      clear k1 H1 H2 H3 H4 HKK HMW htw
      by_cases hpos : 0 < ms k
      · have hP : above fl k = true := by unfold above; rw [HAB.out.1]; simpa using hpos
        have hN : below fl k = false := by simp only [below, HAB.out.1]; simp [hpos]
        go_wp2_with (first | (at_builtin; refine wpList_append_one rfl _ _ 27 9 rfl w3.heap.size i9 (.string ⟨#[]⟩) 16 Ybad.underlying27 hi9 hz90 hz91 hz92 rfl _ _ _ _ rfl (J1.out.keep (Kept.alloc w1 (.cells #[.string (nm 117 k)] 9)) (by simp)) w1.heap.size 1 (.string (nm 117 k)) rfl (by simp [go_sem]; rfl) rfl (by unfold maxLen; omega) (by omega) (by simp; omega) ?_; intro ad' cp' w2 hsl2 gr2 hwh; have I2 := app_keep J1.out J2.out gr2 HD12.out; have I3 := app_keep J1.out J3.out gr2 (J1.out.apart J3.out (by decide)); have I4 := app_keep J1.out J4.out gr2 (J1.out.apart J4.out (by decide)); have A2 := app_apart J2.out hwh HD12.out; have K2 := app_kept K1.out J1.out (Nat.le_refl _) gr2; have hsz2 := K2.size; have G2 : Hid (Sl w2 w3.heap.size 9 ad' ((picks (above fl) k).length + 1) cp' (names (above fl) k ++ [.string (nm 117 k)]) ∧ Sl w2 w3.heap.size 9 g2 (picks (below fl) k).length d2 (names (below fl) k) ∧ Sl w2 w3.heap.size 25 g3 (picks (above fl) k).length d3 (flts (above fl) fl k) ∧ Sl w2 w3.heap.size 25 g4 (picks (below fl) k).length d4 (flts (below fl) (fun j => Op.negFloat .f64 (fl j)) k) ∧ (∀ g, ad' = some ⟨g, 0, none⟩ → g2 ≠ some ⟨g, 0, none⟩) ∧ Kept [] w3 w2) := ⟨hsl2, I2, I3, I4, A2, K2⟩; clear I2 I3 I4 A2 K2 hsl2 gr2 hwh) | (at_builtin; refine wpList_append_one rfl _ _ 39 25 rfl w3.heap.size i25 (.float .f64 0) 8 Ybad.underlying39 hi25 hz250 hz251 hz252 rfl _ _ _ _ rfl (G2.out.2.2.1.keep (Kept.alloc w2 (.cells #[.float .f64 (floatOfInt .f64 (ms k))] 25)) (by simp)) w2.heap.size 1 (.float .f64 (floatOfInt .f64 (ms k))) rfl (by simp [go_sem]) rfl (by unfold maxLen; omega) (by omega) (by simp; omega) ?_; intro ad3 cp3 w4 hsl4 gr4 hwh4))
        have G := G2.out
        have I1 := app_keep G.2.2.1 G.1 gr4 (G.2.2.1.apart G.1 (by decide))
        have I2 := app_keep G.2.2.1 G.2.1 gr4 (G.2.2.1.apart G.2.1 (by decide))
        have I4 := app_keep G.2.2.1 G.2.2.2.1 gr4 HD34.out
        have A4 := app_apart G.2.2.2.1 hwh4 HD34.out
        have K4 := app_kept G.2.2.2.2.2 G.2.2.1 (Nat.le_refl _) gr4
        go_roundw
        case rel => exact ⟨k + 1, ad', cp', g2, d2, ad3, cp3, g4, d4, by omega, by go_num, by rw [len_yes _ _ hP], by rw [len_no _ _ hN], by rw [len_yes _ _ hP], by rw [len_no _ _ hN], by rw [names_yes _ _ hP, len_yes _ _ hP]; exact I1, by rw [names_no _ _ hN, len_no _ _ hN]; exact I2, by rw [flts_yes _ _ _ hP, len_yes _ _ hP, HFK.out]; exact hsl4, by rw [flts_no _ _ _ hN, len_no _ _ hN]; exact I4, G.2.2.2.2.1, A4, K4⟩
        case measure => simp [intOf]; omega
      · by_cases hneg : ms k < 0
        · have hun := run_neg
          have hP : above fl k = false := by unfold above; rw [HAB.out.1]; simpa using hpos
          have hN : below fl k = true := by simp only [below, HAB.out.1, HAB.out.2]; simp [hpos, hneg]
          go_wp2_with (first | (at_builtin; refine wpList_append_one rfl _ _ 27 9 rfl w3.heap.size i9 (.string ⟨#[]⟩) 16 Ybad.underlying27 hi9 hz90 hz91 hz92 rfl _ _ _ _ rfl (J2.out.keep (Kept.alloc w1 (.cells #[.string (nm 117 k)] 9)) (by simp)) w1.heap.size 1 (.string (nm 117 k)) rfl (by simp [go_sem]; rfl) rfl (by unfold maxLen; omega) (by omega) (by simp; omega) ?_; intro ad' cp' w2 hsl2 gr2 hwh; have I2 := app_keep J2.out J1.out gr2 (fun g h1 h2 => HD12.out g h2 h1); have I3 := app_keep J2.out J4.out gr2 (J2.out.apart J4.out (by decide)); have I4 := app_keep J2.out J3.out gr2 (J2.out.apart J3.out (by decide)); have A2 := app_apart J1.out hwh (fun g h1 h2 => HD12.out g h2 h1); have K2 := app_kept K1.out J2.out (Nat.le_refl _) gr2; have hsz2 := K2.size; have G2 : Hid (Sl w2 w3.heap.size 9 ad' ((picks (below fl) k).length + 1) cp' (names (below fl) k ++ [.string (nm 117 k)]) ∧ Sl w2 w3.heap.size 9 g1 (picks (above fl) k).length d1 (names (above fl) k) ∧ Sl w2 w3.heap.size 25 g4 (picks (below fl) k).length d4 (flts (below fl) (fun j => Op.negFloat .f64 (fl j)) k) ∧ Sl w2 w3.heap.size 25 g3 (picks (above fl) k).length d3 (flts (above fl) fl k) ∧ (∀ g, ad' = some ⟨g, 0, none⟩ → g1 ≠ some ⟨g, 0, none⟩) ∧ Kept [] w3 w2) := ⟨hsl2, I2, I3, I4, A2, K2⟩; clear I2 I3 I4 A2 K2 hsl2 gr2 hwh) | (at_builtin; refine wpList_append_one rfl _ _ 39 25 rfl w3.heap.size i25 (.float .f64 0) 8 Ybad.underlying39 hi25 hz250 hz251 hz252 rfl _ _ _ _ rfl (G2.out.2.2.1.keep (Kept.alloc w2 (.cells #[.float .f64 (Op.negFloat .f64 (floatOfInt .f64 (ms k)))] 25)) (by simp)) w2.heap.size 1 (.float .f64 (Op.negFloat .f64 (floatOfInt .f64 (ms k)))) rfl (by simp [go_sem]) rfl (by unfold maxLen; omega) (by omega) (by simp; omega) ?_; intro ad3 cp3 w4 hsl4 gr4 hwh4))
          have G := G2.out
          have I1 := app_keep G.2.2.1 G.1 gr4 (G.2.2.1.apart G.1 (by decide))
          have I2 := app_keep G.2.2.1 G.2.1 gr4 (G.2.2.1.apart G.2.1 (by decide))
          have I4 := app_keep G.2.2.1 G.2.2.2.1 gr4 (fun g h1 h2 => HD34.out g h2 h1)
          have A4 := app_apart G.2.2.2.1 hwh4 (fun g h1 h2 => HD34.out g h2 h1)
          have K4 := app_kept G.2.2.2.2.2 G.2.2.1 (Nat.le_refl _) gr4
          go_roundw
          case rel => exact ⟨k + 1, g1, d1, ad', cp', g3, d3, ad3, cp3, by omega, by go_num, by rw [len_no _ _ hP], by rw [len_yes _ _ hN], by rw [len_no _ _ hP], by rw [len_yes _ _ hN], by rw [names_no _ _ hP, len_no _ _ hP]; exact I2, by rw [names_yes _ _ hN, len_yes _ _ hN]; exact I1, by rw [flts_no _ _ _ hP, len_no _ _ hP]; exact I4, by rw [flts_yes _ _ _ hN, len_yes _ _ hN]; simp only [HFK.out]; exact hsl4, fun g h1 h2 => G.2.2.2.2.1 g h2 h1, fun g h1 h2 => A4 g h2 h1, K4⟩
          case measure => simp [intOf]; omega
        · have hP : above fl k = false := by unfold above; rw [HAB.out.1]; simpa using hpos
          have hN : below fl k = false := by simp only [below, HAB.out.1, HAB.out.2]; simp [hneg]
          go_wp2_with fail
          go_roundw
          case rel => exact ⟨k + 1, g1, d1, g2, d2, g3, d3, g4, d4, by omega, by go_num, by rw [len_no _ _ hP], by rw [len_no _ _ hN], by rw [len_no _ _ hP], by rw [len_no _ _ hN], by rw [names_no _ _ hP, len_no _ _ hP]; exact J1.out, by rw [names_no _ _ hN, len_no _ _ hN]; exact J2.out, by rw [flts_no _ _ _ hP, len_no _ _ hP]; exact J3.out, by rw [flts_no _ _ _ hN, len_no _ _ hN]; exact J4.out, HD12.out, HD34.out, K1.out⟩
          case measure => simp [intOf]; omega
    · obtain rfl : k = len := by omega
      have H1 : Hid (Sl wr w3.heap.size 9 g1 (picks (above fl) k).length d1 (names (above fl) k)) := s1
      have H2 : Hid (Sl wr w3.heap.size 9 g2 (picks (below fl) k).length d2 (names (below fl) k)) := s2
      have H3 : Hid (Sl wr w3.heap.size 25 g3 (picks (above fl) k).length d3 (flts (above fl) fl k)) := s3
      have H4 : Hid (Sl wr w3.heap.size 25 g4 (picks (below fl) k).length d4 (flts (below fl) (fun j => Op.negFloat .f64 (fl j)) k)) := s4
      have HKK : Hid (Kept [] w3 wr) := hkk
      have hlp := HVP.out.len
      have hln := HVN.out.len
      have hrow := HROW.out.keep hkk (by simp)
      have hgl := HGL.out
      have hvl := HVC.out.len
      clear s1 s2 s3 s4 hd12 hd34
      obtain ⟨mq, gq, q5, q6, q9, z1, z2, z3, z4, z5, y1, y2, y3, y4, y5, eq5, _, rq⟩ := HVP.out
      obtain ⟨mr, gr, s5, s6, s9, j1, j2, j3, j4, j5, i1, i2, i3, i4, i5, eq6, _, rr⟩ := HVN.out
      have c20 := hrow.cell 20 ((lrn_pos rfl hlp 10 (by omega)).trans (by rw [eq5]; rfl))
      have c22 := hrow.cell 22 ((lrn_pos rfl hlp 12 (by omega)).trans (by rw [eq5]; rfl))
      have c26 := hrow.cell 26 ((lrn_pos rfl hlp 16 (by omega)).trans (by rw [eq5]; rfl))
      have c33 := hrow.cell 33 ((lrn_pos rfl hlp 23 (by omega)).trans (by rw [eq5]; rfl))
      have c50 := hrow.cell 50 ((lrn_neg rfl hlp hln 10 (by omega)).trans (by rw [eq6]; rfl))
      have c52 := hrow.cell 52 ((lrn_neg rfl hlp hln 12 (by omega)).trans (by rw [eq6]; rfl))
      have c56 := hrow.cell 56 ((lrn_neg rfl hlp hln 16 (by omega)).trans (by rw [eq6]; rfl))
      have c63 := hrow.cell 63 ((lrn_neg rfl hlp hln 23 (by omega)).trans (by rw [eq6]; rfl))
      have c70 := hrow.cell 70 ((lrn_T rfl hlp hln rfl 0 (by omega)).trans rfl)
      have c71 := hrow.cell 71 ((lrn_T rfl hlp hln rfl 1 (by omega)).trans rfl)
      have c72 := hrow.cell 72 ((lrn_T rfl hlp hln rfl 2 (by omega)).trans rfl)
      have c9 := hrow.cell 9 ((lrn_A rfl 9 (by omega)).trans rfl)
      have c0 := hrow.cell 0 ((lrn_A rfl 0 (by omega)).trans rfl)
      have c108 := hrow.cell 108 (lrn_thr rfl hlp hln rfl hgl hvl)
      have hpre := HVC.out.pre
      have v3 := congrArg (fun l => l[3]?) hpre
      have v4 := congrArg (fun l => l[4]?) hpre
      have v5 := congrArg (fun l => l[5]?) hpre
      simp only [List.getElem?_take, Nat.reduceLT, if_true, List.getElem?_cons_succ, List.getElem?_cons_zero] at v3 v4 v5
      have c100 := hrow.cell 100 ((lrn_vs rfl hlp hln rfl hgl hvl 3 (by omega)).trans v3)
      have c101 := hrow.cell 101 ((lrn_vs rfl hlp hln rfl hgl hvl 4 (by omega)).trans v4)
      have c102 := hrow.cell 102 ((lrn_vs rfl hlp hln rfl hgl hvl 5 (by omega)).trans v5)
      have hEs : ∀ W, Kept [] wr W → Calls Ybad.prog 8 #[.slice e1 (picks (above fl) k).length r1, .slice g1 (picks (above fl) k).length d1] W fun e w' => e = .returned (.bool true) ∧ Kept [] W w' := fun W kW =>
        eq_strings e1 g1 _ r1 d1 (fun j => nm 117 (pick (above fl) k j)) W (by omega) (fun j hj => by obtain ⟨g, h1, h2⟩ := (HS1.out.keep (hkk.trans kW (by simp)) (by simp)).at j hj; exact ⟨g, h1, h2.trans (names_at _ _ j hj)⟩) (fun j hj => by obtain ⟨g, h1, h2⟩ := (H1.out.keep kW (by simp)).at j hj; exact ⟨g, h1, h2.trans (names_at _ _ j hj)⟩)
      have hEt : ∀ W, Kept [] wr W → Calls Ybad.prog 8 #[.slice e2 (picks (below fl) k).length r2, .slice g2 (picks (below fl) k).length d2] W fun e w' => e = .returned (.bool true) ∧ Kept [] W w' := fun W kW =>
        eq_strings e2 g2 _ r2 d2 (fun j => nm 117 (pick (below fl) k j)) W (by omega) (fun j hj => by obtain ⟨g, h1, h2⟩ := (HS2.out.keep (hkk.trans kW (by simp)) (by simp)).at j hj; exact ⟨g, h1, h2.trans (names_at _ _ j hj)⟩) (fun j hj => by obtain ⟨g, h1, h2⟩ := (H2.out.keep kW (by simp)).at j hj; exact ⟨g, h1, h2.trans (names_at _ _ j hj)⟩)
      have hEu : ∀ G, Row w3 G (mags (fun j => absBits (fl (pick (above fl) k j))) (picks (above fl) k).length (picks (above fl) k).length) 25 → ∀ W, Kept [] wr W → Calls Ybad.prog 9 #[.slice (some ⟨G, 0, none⟩) (picks (above fl) k).length (picks (above fl) k).length, .slice g3 (picks (above fl) k).length d3] W fun e w' => e = .returned (.bool true) ∧ Kept [] W w' := fun G hG W kW =>
        eq_floats (some ⟨G, 0, none⟩) g3 _ _ d3 (fun j => absBits (fl (pick (above fl) k j))) (fun j => fl (pick (above fl) k j)) W (by omega) (fun j hj => ⟨G, rfl, by have := (hG.keep (hkk.trans kW (by simp)) (by simp)).cell j (mags_at _ _ _ j hj); rw [if_pos hj] at this; exact this⟩) (fun j hj => by obtain ⟨g, h1, h2⟩ := (H3.out.keep kW (by simp)).at j hj; exact ⟨g, h1, h2.trans (flts_at _ _ _ j hj)⟩) (fun j hj => by
          have hlt := pick_lt (above fl) k j hj
          have hy := pick_yes (above fl) k j hj
          have hb := HMS.out _ hlt
          have hf : fl (pick (above fl) k j) = floatOfInt .f64 (ms (pick (above fl) k j)) := congrFun HFL.out _
          have hy2 : (FloatKind.f64.format.order (fl (pick (above fl) k j)) 0 == some Ordering.gt) = true := hy
          rw [hf, (above_iff _ hb.1 hb.2).1] at hy2
          rw [hf]
          exact pos_same _ (by simpa using hy2) hb.2)
      have hEv : ∀ W, Kept [] wr W → Calls Ybad.prog 9 #[.slice (some ⟨gr, 0, none⟩) (picks (below fl) k).length (picks (below fl) k).length, .slice g4 (picks (below fl) k).length d4] W fun e w' => e = .returned (.bool true) ∧ Kept [] W w' := fun W kW =>
        eq_floats (some ⟨gr, 0, none⟩) g4 _ _ d4 (fun j => absBits (fl (pick (below fl) k j))) (fun j => Op.negFloat .f64 (fl (pick (below fl) k j))) W (by omega) (fun j hj => ⟨gr, rfl, by have := (rr.keep (hkk.trans kW (by simp)) (by simp)).cell j (mags_at _ _ _ j hj); rw [if_pos hj] at this; exact this⟩) (fun j hj => by obtain ⟨g, h1, h2⟩ := (H4.out.keep kW (by simp)).at j hj; exact ⟨g, h1, h2.trans (flts_at _ _ _ j hj)⟩) (fun j hj => by
          have hlt := pick_lt (below fl) k j hj
          have hy := pick_yes (below fl) k j hj
          have hb := HMS.out _ hlt
          have hf : fl (pick (below fl) k j) = floatOfInt .f64 (ms (pick (below fl) k j)) := congrFun HFL.out _
          have hy2 : (FloatKind.f64.format.order (fl (pick (below fl) k j)) 0 == some Ordering.lt) = true := by
            have := hy
            simp only [below, Bool.and_eq_true] at this
            exact this.2
          rw [hf, (above_iff _ hb.1 hb.2).2] at hy2
          rw [hf]
          exact neg_same _ hb.1 (by simpa using hy2))
      have hEq := hEu gq rq
      have hEz := hEu gz HGZ.out
      have kW : Kept [] wr wr := Kept.refl _ _
      have HE : Hid (True) := trivial
      clear hpre v3 v4 v5 hrow hEu rq rr eq5 eq6 hlp hln hgl hvl hkk
      have D22 : Hid _ := c22
      have D26 : Hid _ := c26
      have D33 : Hid _ := c33
      have D50 : Hid _ := c50
      have D52 : Hid _ := c52
      have D56 : Hid _ := c56
      have D63 : Hid _ := c63
      have D70 : Hid _ := c70
      have D71 : Hid _ := c71
      have D72 : Hid _ := c72
      have D9 : Hid _ := c9
      have D0 : Hid _ := c0
      have D108 : Hid _ := c108
      have D100 : Hid _ := c100
      have D101 : Hid _ := c101
      have D102 : Hid _ := c102
      have HEs : Hid _ := hEs
      have HEt : Hid _ := hEt
      have HEq : Hid _ := hEq
      have HEv : Hid _ := hEv
      have HEz : Hid _ := hEz
      have HKW : Hid (Kept [] wr wr) := kW
      clear hEs hEt hEq hEv hEz kW c22 c26 c33 c50 c52 c56 c63 c70 c71 c72 c9 c0 c108 c100 c101 c102
      go_wp2_with fail
      refine (HEs.out _ HKW.out).mono ?_
      rintro e w5 ⟨rfl, k5⟩
      have K5 : Hid (Kept [] wr w5) := HKW.out.trans k5 (by simp)
      have c50 := K5.out.cell D50.out
      clear k5 c20
      go_wp2_with fail
      refine (HEt.out _ K5.out).mono ?_
      rintro e w6 ⟨rfl, k6⟩
      have K6 : Hid (Kept [] wr w6) := K5.out.trans k6 (by simp)
      have c22 := K6.out.cell D22.out
      clear k6 c50
      go_wp2_with fail
      refine (HEq.out _ K6.out).mono ?_
      rintro e w7 ⟨rfl, k7⟩
      have K7 : Hid (Kept [] wr w7) := K6.out.trans k7 (by simp)
      have c52 := K7.out.cell D52.out
      clear k7 c22
      go_wp2_with fail
      refine (HEv.out _ K7.out).mono ?_
      rintro e w8 ⟨rfl, k8⟩
      have K8 : Hid (Kept [] wr w8) := K7.out.trans k8 (by simp)
      have c108 := K8.out.cell D108.out
      have c100 := K8.out.cell D100.out
      clear k8 c52
      go_wp2_with fail
      refine (HEs.out _ K8.out).mono ?_
      rintro e w9 ⟨rfl, k9⟩
      have K9 : Hid (Kept [] wr w9) := K8.out.trans k9 (by simp)
      have c101 := K9.out.cell D101.out
      clear k9 c108 c100
      go_wp2_with fail
      refine (HEz.out _ K9.out).mono ?_
      rintro e w10 ⟨rfl, k10⟩
      have K10 : Hid (Kept [] wr w10) := K9.out.trans k10 (by simp)
      have c102 := K10.out.cell D102.out
      clear k10 c101
      go_wp2_with fail
      have kX := HKK.out.trans K10.out (by simp)
      have HRX : Hid (Row w10 L _ 73) := HROW.out.keep kX (by simp)
      have HVX : Hid (VsTo w10 lvs (picks (above fl) k).length ((picks (above fl) k).length * steps) (sval (vlook (lpar1 ini)) 15) 2) := fun j hj => by
        obtain ⟨g, h1, h2⟩ := HVT.out j hj
        exact ⟨g, h1, h2.keep kX (by simp) (by simp)⟩
      have hlp := HVP.out.len
      have hln := HVN.out.len
      have hgl := HGL.out
      have hvl := HVC.out.len
      clear kX c102
      go_loopw [29] (fun i wr2 => ∃ r : Nat, r ≤ 2 ∧ i = .int .i64 r ∧ Kept [] w10 wr2) (fun i _ => 2 - (intOf i).toNat)
      case atStart => exact ⟨0, Nat.zero_le _, rfl, Kept.refl _ _⟩
      case round =>
        obtain ⟨r, hr, rfl, hk2⟩ := hrel
        by_cases hltr : r < 2
        · obtain ⟨gw, e6, hrt⟩ := HVX.out r hltr
          have cw := (HRX.out.keep hk2 (by simp)).cell (103 + r) (by rw [show 103 + r = 97 + (6 + r) by omega]; exact (lrn_vs rfl hlp hln rfl hgl hvl (6 + r) (by omega)).trans e6)
          have hrI : (r : Int) < 2 := by omega
          have HRT : Hid (RowsTo w10 gw (picks (above fl) k).length ((picks (above fl) k).length * steps) (sval (vlook (lpar1 ini)) 15) (picks (above fl) k).length) := hrt
          have HK2 : Hid (Kept [] w10 wr) := hk2
          clear hrt hk2 e6 hlp hln hgl hvl
          go_wp2_with fail
          have HCW : Hid (wr.cell? ⟨L, 103 + r, none⟩ = some (.slice (some ⟨gw, 0, none⟩) (picks (above fl) k).length (picks (above fl) k).length)) := cw
          obtain ⟨wq, hwq⟩ : ∃ wq, wq = wr := ⟨_, rfl⟩
          have HK2' : Hid (Kept [] w10 wq) := by rw [hwq]; exact HK2.out
          have HCW' : Hid (wq.cell? ⟨L, 103 + r, none⟩ = some (.slice (some ⟨gw, 0, none⟩) (picks (above fl) k).length (picks (above fl) k).length)) := by rw [hwq]; exact HCW.out
          rw [← hwq]
          clear hwq cw HCW HK2
          go_loopw [30] (fun i wr3 => ∃ pp : Nat, pp ≤ (picks (above fl) k).length ∧ i = .int .i64 pp ∧ Kept [] wq wr3) (fun i _ => (picks (above fl) k).length - (intOf i).toNat)
          case atStart => exact ⟨0, Nat.zero_le _, rfl, Kept.refl _ _⟩
          case round =>
            obtain ⟨pp, hpp, rfl, hk3⟩ := hrel
            by_cases hltp : pp < (picks (above fl) k).length
            · obtain ⟨l, hl1, hl2, hl3⟩ := HRT.out
              obtain ⟨v, hv1, gp, rfl, hgp⟩ := hl3 pp hltp
              have k10 := HK2'.out.trans hk3 (by simp)
              have cw := hk3.cell HCW'.out
              have cp := (hl1.keep k10 (by simp)).cell pp hv1
              have hpI : (pp : Int) < ((picks (above fl) k).length : Int) := by omega
              clear hl1 hl2 hl3 hv1 k10
              have hnp := len_le (above fl) k
              have hnU : (picks (above fl) k).length * steps ≤ 256 * 16 := Nat.mul_le_mul (by omega) (by omega)
              obtain ⟨x, hx⟩ : ∃ x, x = sval (vlook (lpar1 ini)) 15 := ⟨_, rfl⟩
              rw [← hx] at hgp
              have ho : (FloatKind.f64.format.order x ini != some .eq) = false := by rw [hx, sw15]; exact o16
              have HO : Hid ((FloatKind.f64.format.order x ini != some .eq) = false) := ho
              have HGP : Hid (Row w10 gp (mags (fun _ => x) ((picks (above fl) k).length * steps) ((picks (above fl) k).length * steps)) 25) := hgp
              have HK3 : Hid (Kept [] wq wr) := hk3
              clear hx ho hgp hk3
              go_wp2_with fail
              clear cw cp
              obtain ⟨wz, hwz⟩ : ∃ wz, wz = wr := ⟨_, rfl⟩
              have HK4 : Hid (Kept [] wq wz) := by rw [hwz]; exact HK3.out
              rw [← hwz]
              clear hwz HK3
              generalize hU : (picks (above fl) k).length * steps = U at *
              clear hU
              go_loopw [32] (fun i wr4 => ∃ u : Nat, u ≤ U ∧ i = .int .i64 u ∧ Kept [] wz wr4) (fun i _ => U - (intOf i).toNat)
              case atStart => exact ⟨0, Nat.zero_le _, rfl, Kept.refl _ _⟩
              case round =>
                obtain ⟨u, hu, rfl, hk5⟩ := hrel
                by_cases hltu : u < U
                · have cu := (HGP.out.keep ((HK2'.out.trans HK4.out (by simp)).trans hk5 (by simp)) (by simp)).cell u (mags_at _ _ _ u hltu)
                  rw [if_pos hltu] at cu
                  have huI : (u : Int) < (U : Int) := by omega
                  have ho := HO.out
                  have HK5 : Hid (Kept [] wz wr) := hk5
                  clear hk5
                  go_wp2_with fail
                  go_roundw
                  case rel => exact ⟨u + 1, by omega, by go_num, HK5.out⟩
                  case measure => simp [intOf]; omega
                · obtain rfl : u = U := by omega
                  have HK5 : Hid (Kept [] wz wr) := hk5
                  clear hk5
                  go_wp2_with fail
                  go_roundw
                  case rel => exact ⟨pp + 1, by omega, by go_num, HK4.out.trans HK5.out (by simp)⟩
                  case measure => simp [intOf]; omega
            · obtain rfl : pp = (picks (above fl) k).length := by omega
              have HK3 : Hid (Kept [] wq wr) := hk3
              clear hk3
              go_wp2_with fail
              go_roundw
              case rel => exact ⟨r + 1, by omega, by go_num, HK2'.out.trans HK3.out (by simp)⟩
              case measure => simp [intOf]; omega
        · obtain rfl : r = 2 := by omega
          have K11' := K10.out.trans hk2 (by simp)
          obtain ⟨wq, hwq⟩ : ∃ wq, wq = wr := ⟨_, rfl⟩
          rw [← hwq] at K11' ⊢
          have K11 : Hid _ := K11'
          clear hwq K11' hk2 hlp hln hgl hvl HEs HEt HEq HEv HEz HKW K5 K6 K7 K8 K9 H1 H2 H3 H4 HVX HRX
          have c70 := K11.out.cell D70.out
          have c71 := K11.out.cell D71.out
          have c72 := K11.out.cell D72.out
          have c9 := K11.out.cell D9.out
          have HMQ : Hid (HasMap wq p (lc ++ kvs (nm 120) nc nx)) := HMPP.out.1.keep (HKK.out.trans K11.out (by simp)) (by simp)
          have hml : ∀ ty, (Builtin.len_ #[28] ty #[.map (some p)]).run Ybad.prog wq = .ok (.int .i64 ((nc + nx : Nat) : Int)) wq := fun ty => by
            have := HMQ.out.len Ybad.underlying28 ty
            rw [row_len HMPP.out.2] at this
            exact this
          go_wp2_with fail
          have HC9 : Hid (wq.cell? ⟨L, 9, none⟩ = some (.map (some p))) := c9
          clear c70 c71 c72 c9 hml
          go_loopw [33] (fun i wr5 => ∃ t : Nat, t ≤ nc ∧ i = .int .i64 t ∧ Kept [] wq wr5) (fun i _ => nc - (intOf i).toNat)
          case atStart => exact ⟨0, Nat.zero_le _, rfl, Kept.refl _ _⟩
          case round =>
            obtain ⟨t, ht, rfl, hk6⟩ := hrel
            by_cases hltt : t < nc
            · have c9 := hk6.cell HC9.out
              have hlk : ∀ n, (Instr.lookup 28 (.map (some p)) (.string (⟨#[99]⟩ ++ dg t)) true).run Ybad.prog (wr.drewN n) = .ok (.tuple #[.int .i64 t, .bool true]) (wr.drewN n) := fun n => by
                have := (HMQ.out.keep (hk6.trans (Kept.drewN _ n) (by simp)) (by simp)).look_some Ybad.underlying28 Ybad.underlying9 (nm 99 t) _ (row_c HMPP.out.2 t hltt) true
                exact this
              have htI : (t : Int) < (nc : Int) := by omega
              have hds := dg_small t (by omega)
              have hit : ∀ W, Calls Ybad.prog 7 #[.int .i64 t] W fun e w' => e = .returned (.string (dg t)) ∧ w' = W := fun W => Ybad.strconv_Itoa_small t (by omega) W
              have HIT : Hid (∀ W, Calls Ybad.prog 7 #[.int .i64 t] W fun e w' => e = .returned (.string (dg t)) ∧ w' = W) := hit
              clear hit
              have HK6 : Hid (Kept [] wq wr) := hk6
              clear hk6
              go_wp2_with fail
              go_quiet (first | (go_at_call 7; refine Calls.quiet_of_same (HIT.out _)))
              go_wp2_with fail
              go_roundw
              case rel => exact ⟨t + 1, by omega, by go_num, HK6.out.trans (Kept.drewN _ _) (by simp)⟩
              case measure => simp [intOf]; omega
            · obtain rfl : nc = t := by omega
              have HK6' := hk6
              obtain ⟨wz, hwz⟩ : ∃ wz, wz = wr := ⟨_, rfl⟩
              rw [← hwz] at HK6' ⊢
              have HK6 : Hid (Kept [] wq wz) := HK6'
              have HC9' : Hid (wz.cell? ⟨L, 9, none⟩ = some (.map (some p))) := HK6'.cell HC9.out
              clear hk6 HK6' hwz
              go_wp2_with fail
              go_loopw [36] (fun i wr6 => ∃ t : Nat, t ≤ nx ∧ i = .int .i64 t ∧ Kept [] wz wr6) (fun i _ => nx - (intOf i).toNat)
              case atStart => exact ⟨0, Nat.zero_le _, rfl, Kept.refl _ _⟩
              case round =>
                obtain ⟨t, ht, rfl, hk7⟩ := hrel
                by_cases hltt : t < nx
                · have c9 := hk7.cell HC9'.out
                  have hlk : ∀ n, (Instr.lookup 28 (.map (some p)) (.string (⟨#[120]⟩ ++ dg t)) true).run Ybad.prog (wr.drewN n) = .ok (.tuple #[.int .i64 ((nc : Int) + (t : Int)), .bool true]) (wr.drewN n) := fun n => by
                    have := (HMQ.out.keep ((HK6.out.trans hk7 (by simp)).trans (Kept.drewN _ n) (by simp)) (by simp)).look_some Ybad.underlying28 Ybad.underlying9 (nm 120 t) _ (row_x HMPP.out.2 t hltt) true
                    exact this
                  have htI : (t : Int) < (nx : Int) := by omega
                  have hds := dg_small t (by omega)
                  have HIT : Hid (∀ W, Calls Ybad.prog 7 #[.int .i64 t] W fun e w' => e = .returned (.string (dg t)) ∧ w' = W) := fun W => Ybad.strconv_Itoa_small t (by omega) W
                  have HK7 : Hid (Kept [] wz wr) := hk7
                  clear hk7
                  go_wp2_with fail
                  go_quiet (first | (go_at_call 7; refine Calls.quiet_of_same (HIT.out _)))
                  go_wp2_with fail
                  go_roundw
                  case rel => exact ⟨t + 1, by omega, by go_num, HK7.out.trans (Kept.drewN _ _) (by simp)⟩
                  case measure => simp [intOf]; omega
                · obtain rfl : nx = t := by omega
                  have k8 := HK6.out.trans hk7 (by simp)
                  have k9 := K11.out.trans k8 (by simp)
                  have c26 := k9.cell D26.out
                  have c33 := k9.cell D33.out
                  have c56 := k9.cell D56.out
                  have c63 := k9.cell D63.out
                  have c0 := k9.cell D0.out
                  have HK9 : Hid (Kept [] w wr) := HK3.out.trans (HKK.out.trans k9 (by simp)) (by simp)
                  clear hk7 k8 k9
                  go_wp2_with fail
                  go_ret
                  exact ⟨rfl, HK9.out⟩
end Go.Proofs.YbulkjbuDoor
