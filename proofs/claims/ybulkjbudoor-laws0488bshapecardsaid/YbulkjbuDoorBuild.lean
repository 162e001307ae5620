/-
  Seat b0488aD: the names; zzs0488bbuild.
-/
import Derived.Test.YbulkjbuDoorItoa
import Derived.Test.YbulkjbuDoorCac
import Derived.Test.YbulkjbuDoorInit
import Derived.Deep.OwnRows
import Derived.Lib.ItoaLen
namespace Go.Proofs.YbulkjbuDoor
open Go.RowKit

/-! ### the names -/
/-- The digits of a number. -/
def dg (i : Nat) : ByteArray := ⟨(Lib.decDigits i).toArray⟩
def nm (p : UInt8) (i : Nat) : ByteArray := (⟨#[p]⟩ : ByteArray) ++ dg i
def val (l : List UInt8) : Nat := l.foldl (fun a d => a * 10 + (d.toNat - 48)) 0
theorem val_digits (u : Nat) : val (Lib.decDigits u) = u := by
  induction u using Nat.strongRecOn with
  | ind u ih =>
    unfold Lib.decDigits
    split
    · rename_i h
      have : (UInt8.ofNat (48 + u)).toNat = 48 + u := by rw [UInt8.toNat_ofNat']; omega
      show 0 * 10 + ((UInt8.ofNat (48 + u)).toNat - 48) = u
      rw [this]; omega
    · rename_i h
      have e := ih (u / 10) (by omega)
      have : (UInt8.ofNat (48 + u % 10)).toNat = 48 + u % 10 := by rw [UInt8.toNat_ofNat']; omega
      unfold val at e ⊢
      rw [List.foldl_append, e]
      simp only [List.foldl_cons, List.foldl_nil, this]
      omega
theorem nm_list (p : UInt8) (i : Nat) : (nm p i).data.toList = p :: Lib.decDigits i := by
  simp [nm, dg]
theorem nm_inj {p q : UInt8} {i j : Nat} (h : nm p i = nm q j) : p = q ∧ i = j := by
  have h' := congrArg (fun b : ByteArray => b.data.toList) h
  simp only [nm_list, List.cons.injEq] at h'
  have := congrArg val h'.2
  rw [val_digits, val_digits] at this
  exact ⟨h'.1, this⟩

/-! ### strconv.Itoa -/
/-- The library's table of powers of ten is as its text lays it. -/
def Tab (w : World) : Prop := Lib.TabIs Ybad.prog w "internal/strconv.uint64pow10" .u64 Lib.pow10Tab
theorem tab_at : Ybad.prog.globalNamed "internal/strconv.uint64pow10" = some 4 := by kernel_rfl
theorem Tab.keep {w w' : World} {ws : List Nat} (h : Tab w) (k : Kept ws w w') (hn : 4 ∉ ws) : Tab w' := by
  unfold Tab Lib.TabIs World.var? at *
  rw [tab_at] at *
  simp only [Option.bind_some] at *
  cases hb : w.heap[4]? with
  | none => rw [hb] at h; cases h
  | some o => rw [k.block 4 (lt_of_heap hb) hn]; exact h
theorem Tab.lt {w : World} (h : Tab w) : 4 < w.heap.size := by
  unfold Tab Lib.TabIs World.var? at h
  rw [tab_at] at h
  simp only [Option.bind_some] at h
  cases hb : w.heap[4]? with
  | none => rw [hb] at h; cases h
  | some o => exact lt_of_heap hb
theorem itoa_any (i : Nat) (w : World) (hi : i ≤ 100000) (ht : Tab w) : Calls Ybad.prog 7 #[.int .i64 i] w fun e w' => e = .returned (.string (dg i)) ∧ Kept [] w w' := by
  refine (Ybad.strconv_Itoa (i : Int) (by omega) (by omega) w ht).mono ?_
  rintro e w' ⟨rfl, k, os, rfl⟩
  have hn : ¬ ((i : Int) < 0) := by omega
  refine ⟨by simp [dg, Lib.itoa, hn], rfl, rfl, rfl, by simp [Sort.grow, World.drewN], fun j hj _ => ?_⟩
  show (w.heap ++ os)[j]? = w.heap[j]?
  rw [Array.getElem?_append_left hj]

theorem dg_small (i : Nat) (hi : i ≤ 100000) : ¬ 9223372036854775807 < 1 + (dg i).size := by
  have h1 : (dg i).size = (Lib.decDigits i).length := by simp [dg, ByteArray.size]
  have h2 := Lib.nDigits_le20 i (by omega)
  rw [h1, Lib.decDigits_length]; omega
/-- The one new cell that 'append' of one value lays. -/
theorem Sl.one (w : World) (v : Value) (e : TypeId) : Sl (w.alloc (.cells #[v] e)) w.heap.size e (some ⟨w.heap.size, 0, none⟩) 1 1 [v] :=
  World.ownsRow_lit w #[v] 1 (Nat.le_refl _) (by unfold maxLen; omega) rfl

/-- What one round of a filling loop does to the struct in block S, its field i, and the slice in it. -/
theorem round_keeps {W0 wr w1 w2 w4 : World} {S i m k cp cp' : Nat} {ad ad' : Option Addr} {vs xs ys : List Value} {o : Obj}
    (hS : Row wr S vs 32) (hsl : Sl wr W0.heap.size 9 ad k cp xs) (kk : Kept [S, m] W0 wr) (hSB : S < W0.heap.size) (hmB : m < W0.heap.size)
    (k1 : Kept [] wr w1) (hsl2 : Sl w2 W0.heap.size 9 ad' (k + 1) cp' ys) (gr2 : (w1.alloc o).grownBy w2 (Value.slice ad k cp).ownBlock)
    (k3 : Kept [m] (w2.setCell ⟨S, i, none⟩ (.slice ad' (k + 1) cp')) w4) (hSm : S ≠ m) :
    Row w4 S (vs.set i (.slice ad' (k + 1) cp')) 32 ∧ Sl w4 W0.heap.size 9 ad' (k + 1) cp' ys ∧ Kept [S, m] W0 w4 := by
  have hrow : ∀ j ∈ (Value.slice ad k cp).ownBlock.toList, W0.heap.size ≤ j := fun j hj => (hsl.row j hj).1
  have K1 := k1.trans (Kept.alloc w1 o) (by simp)
  have R2 := (hS.keep K1 (by simp)).keep (Kept.grown gr2) (fun h => by have := hrow S h; omega)
  refine ⟨((R2.set i _).keep k3 (by simpa using hSm)), ?_, ?_⟩
  · have h1 := hsl2.keep (Kept.setCell w2 S i (.slice ad' (k + 1) cp')) (by simp; omega)
    exact h1.keep k3 (by simp; omega)
  · exact (((kk.trans K1 (by simp)).trans (Kept.grown gr2) (fun j hj => .inr (hrow j hj))).trans (Kept.setCell w2 S i _) (by simp)).trans k3 (by simp)

/-- The magnitudes by name, the first k. -/
def usl (fl : Nat → Nat) (k : Nat) : List (ByteArray × Value) := (List.range k).map fun i => (nm 117 i, Value.float .f64 (fl i))
theorem usl_succ (fl : Nat → Nat) (k : Nat) : usl fl (k + 1) = usl fl k ++ [(nm 117 k, .float .f64 (fl k))] := by simp [usl, List.range_succ]
theorem usl_fresh (fl : Nat → Nat) (k : Nat) : look (nm 117 k) (usl fl k) = none := by
  rw [look_none_iff]; intro p hp
  simp only [usl, List.mem_map, List.mem_range] at hp
  obtain ⟨i, hi, rfl⟩ := hp
  intro e
  have := (nm_inj e).2
  omega
theorem usl_nodup (fl : Nat → Nat) (k : Nat) : ((usl fl k).map Prod.fst).Nodup := by
  have e : (usl fl k).map Prod.fst = (List.range k).map (nm 117) := by simp [usl]
  rw [e, List.Nodup, List.pairwise_map]
  apply List.Pairwise.imp_of_mem _ (List.nodup_range (n := k))
  intro a b _ _ hne e
  exact hne (nm_inj e).2
theorem usl_look (fl : Nat → Nat) (k j : Nat) (hj : j < k) : look (nm 117 j) (usl fl k) = some (.float .f64 (fl j)) := by
  apply look_mem (usl_nodup fl k)
  simp only [usl, List.mem_map, List.mem_range]
  exact ⟨j, hj, rfl⟩

theorem bsetup (w W0 : World) (mp seed : Nat) (hW : (((((w.alloc (.cells #[.slice none 0 0, .map none, .slice none 0 0, .map none, .slice none 0 0, .map none, .map none, .int .i64 0, .int .i64 0, .map none, .int .u64 0] 32)).alloc (.map #[] 0)).alloc (.map #[] 0)).alloc (.map #[] 0)).alloc (.cells #[.slice none 0 0, .map (some (w.heap.size + 1)), .slice none 0 0, .map (some (w.heap.size + 1 + 1)), .slice none 0 0, .map (some (w.heap.size + 1 + 1 + 1)), .map (some mp), .int .i64 0, .int .i64 0, .map none, .int .u64 seed] 32)) = W0) :
    Row W0 w.heap.size [.slice none 0 0, .map none, .slice none 0 0, .map none, .slice none 0 0, .map none, .map none, .int .i64 0, .int .i64 0, .map none, .int .u64 0] 32 ∧ HasMap W0 (w.heap.size + 1) [] ∧ HasMap W0 (w.heap.size + 1 + 1) [] ∧ HasMap W0 (w.heap.size + 1 + 1 + 1) [] ∧
    Row W0 (w.heap.size + 1 + 1 + 1 + 1) [.slice none 0 0, .map (some (w.heap.size + 1)), .slice none 0 0, .map (some (w.heap.size + 1 + 1)), .slice none 0 0, .map (some (w.heap.size + 1 + 1 + 1)), .map (some mp), .int .i64 0, .int .i64 0, .map none, .int .u64 seed] 32 ∧ W0.heap.size = w.heap.size + 1 + 1 + 1 + 1 + 1 ∧ Kept [] w W0 := by
  subst hW
  refine ⟨?_, ?_, ?_, ?_, ?_, by simp, ?_⟩
  · exact ((((Row.made w _ 32).keep (Kept.alloc _ _) (by simp)).keep (Kept.alloc _ _) (by simp)).keep (Kept.alloc _ _) (by simp)).keep (Kept.alloc _ _) (by simp)
  · have h := HasMap.made (w.alloc (.cells #[.slice none 0 0, .map none, .slice none 0 0, .map none, .slice none 0 0, .map none, .map none, .int .i64 0, .int .i64 0, .map none, .int .u64 0] 32))
    rw [show (w.alloc (.cells #[.slice none 0 0, .map none, .slice none 0 0, .map none, .slice none 0 0, .map none, .map none, .int .i64 0, .int .i64 0, .map none, .int .u64 0] 32)).heap.size = w.heap.size + 1 from by simp] at h
    exact ((h.keep (Kept.alloc _ _) (by simp)).keep (Kept.alloc _ _) (by simp)).keep (Kept.alloc _ _) (by simp)
  · have h := HasMap.made ((w.alloc (.cells #[.slice none 0 0, .map none, .slice none 0 0, .map none, .slice none 0 0, .map none, .map none, .int .i64 0, .int .i64 0, .map none, .int .u64 0] 32)).alloc (.map #[] 0))
    rw [show ((w.alloc (.cells #[.slice none 0 0, .map none, .slice none 0 0, .map none, .slice none 0 0, .map none, .map none, .int .i64 0, .int .i64 0, .map none, .int .u64 0] 32)).alloc (.map #[] 0)).heap.size = w.heap.size + 1 + 1 from by simp] at h
    exact (h.keep (Kept.alloc _ _) (by simp)).keep (Kept.alloc _ _) (by simp)
  · have h := HasMap.made (((w.alloc (.cells #[.slice none 0 0, .map none, .slice none 0 0, .map none, .slice none 0 0, .map none, .map none, .int .i64 0, .int .i64 0, .map none, .int .u64 0] 32)).alloc (.map #[] 0)).alloc (.map #[] 0))
    rw [show (((w.alloc (.cells #[.slice none 0 0, .map none, .slice none 0 0, .map none, .slice none 0 0, .map none, .map none, .int .i64 0, .int .i64 0, .map none, .int .u64 0] 32)).alloc (.map #[] 0)).alloc (.map #[] 0)).heap.size = w.heap.size + 1 + 1 + 1 from by simp] at h
    exact h.keep (Kept.alloc _ _) (by simp)
  · have z4 : ((((w.alloc (.cells #[.slice none 0 0, .map none, .slice none 0 0, .map none, .slice none 0 0, .map none, .map none, .int .i64 0, .int .i64 0, .map none, .int .u64 0] 32)).alloc (.map #[] 0)).alloc (.map #[] 0)).alloc (.map #[] 0)).heap.size = w.heap.size + 1 + 1 + 1 + 1 := by simp
    rw [← z4]
    exact Row.made _ _ _
  · exact ((((Kept.alloc w _).trans (Kept.alloc _ _) (by simp)).trans (Kept.alloc _ _) (by simp)).trans (Kept.alloc _ _) (by simp)).trans (Kept.alloc _ _) (by simp)

set_option maxRecDepth 100000 in
set_option maxHeartbeats 4000000 in
theorem build_any (nc nx n steps seed mp : Nat) (ma : Option Addr) (cap : Nat) (ms : Nat → Int) (fl : Nat → Nat) (w : World) (hnc : nc ≤ 100) (hnx : nx ≤ 100) (hn : n ≤ 1000) (hst : steps ≤ 1000) (ht : Tab w)
    (hcells : ∀ j, j < n → ∃ b o, ma = some ⟨b, o, none⟩ ∧ w.cell? ⟨b, o + j, none⟩ = some (.int .i8 (ms j)))
    (hcv : ∀ j, j < n → ∀ W, (convert 23 25 (.int .i8 (ms j))).run Ybad.prog W = .ok (.float .f64 (fl j)) W) :
    Calls Ybad.prog 5 #[.int .i64 nc, .int .i64 nx, .slice ma n cap, .int .i64 steps, .map (some mp), .int .u64 seed] w fun e w' =>
      ∃ a1 c1 a2 c2 a3 c3 b1 b2 b3 m1 m2 mu, e = .returned (.agg #[.slice a1 nc c1, .map (some m1), .slice a2 nx c2, .map (some m2), .slice a3 n c3, .map (some mu), .map (some mp), .int .i64 steps, .int .i64 ((steps / 2 : Nat) : Int), .map (some mu), .int .u64 seed]) ∧
      Sl w' b1 9 a1 nc c1 (strs (nm 99) nc) ∧ Sl w' b2 9 a2 nx c2 (strs (nm 120) nx) ∧ Sl w' b3 9 a3 n c3 (strs (nm 117) n) ∧ HasMap w' m1 (kvs (nm 99) 0 nc) ∧ HasMap w' m2 (kvs (nm 120) 0 nx) ∧ HasMap w' mu (usl fl n) ∧ Kept [] w w' := by
  have hmm := @run_makeMap Ybad.prog
  have hncI : (nc : Int) ≤ 100 := by omega
  have hnxI : (nx : Int) ≤ 100 := by omega
  have hnI : (n : Int) ≤ 1000 := by omega
  have hstI : (steps : Int) ≤ 1000 := by omega
  go_enter Ybad.func5, Ybad.ntmps5
  go_wp2_with fail
  generalize hW : (((((w.alloc (.cells #[.slice none 0 0, .map none, .slice none 0 0, .map none, .slice none 0 0, .map none, .map none, .int .i64 0, .int .i64 0, .map none, .int .u64 0] 32)).alloc (.map #[] 0)).alloc (.map #[] 0)).alloc (.map #[] 0)).alloc (.cells #[.slice none 0 0, .map (some (w.heap.size + 1)), .slice none 0 0, .map (some (w.heap.size + 1 + 1)), .slice none 0 0, .map (some (w.heap.size + 1 + 1 + 1)), .map (some mp), .int .i64 0, .int .i64 0, .map none, .int .u64 seed] 32)) = W0
  obtain ⟨hz, hm1, hm2, hmu, hS, hsz, kw⟩ := bsetup w W0 mp seed hW
  have HKW : Hid (Kept [] w W0) := kw
  have HT0 : Hid (Tab W0) := ht.keep kw (by simp)
  have HB4 : Hid (4 < w.heap.size) := ht.lt
  have hSB : w.heap.size + 1 + 1 + 1 + 1 < W0.heap.size := by omega
  clear hsz
  clear hW hmm kw ht
  generalize hB0 : w.heap.size = B0 at *
  have HB : Hid (w.heap.size = B0) := hB0
  clear hB0
  obtain ⟨i0, hi, hz0, hz1, hz2⟩ := info_parts Ybad.info9
  go_loopw [14] (fun i wr => ∃ (t1 : Nat) (a1 : Option Addr) (c1 : Nat), t1 ≤ nc ∧ i = .int .i64 t1 ∧ Row wr (B0 + 1 + 1 + 1 + 1) [.slice a1 t1 c1, .map (some (B0 + 1)), .slice none 0 0, .map (some (B0 + 1 + 1)), .slice none 0 0, .map (some (B0 + 1 + 1 + 1)), .map (some mp), .int .i64 0, .int .i64 0, .map none, .int .u64 seed] 32 ∧
      Sl wr W0.heap.size 9 a1 t1 c1 (strs (nm 99) t1) ∧ HasMap wr (B0 + 1) (kvs (nm 99) 0 t1) ∧ Kept [B0 + 1 + 1 + 1 + 1, (B0 + 1)] W0 wr) (fun i _ => nc - (intOf i).toNat)
  case atStart => exact ⟨0, none, 0, Nat.zero_le _, rfl, hS, Sl.nil _ _ _, by simpa [kvs] using hm1, Kept.refl _ _⟩
  case round =>
    obtain ⟨t1, a1, c1, hkt1, rfl, rS, hsl, hm, kk⟩ := hrel
    by_cases hltt1 : t1 < nc
    · have hfr : look (nm 99 t1) (kvs (nm 99) 0 t1) = none := kvs_fresh _ _ _ _ (fun i hi e => by have := (nm_inj e).2; omega)
      have HrS : Hid (Row wr (B0 + 1 + 1 + 1 + 1) [.slice a1 t1 c1, .map (some (B0 + 1)), .slice none 0 0, .map (some (B0 + 1 + 1)), .slice none 0 0, .map (some (B0 + 1 + 1 + 1)), .map (some mp), .int .i64 0, .int .i64 0, .map none, .int .u64 seed] 32) := rS
      have Hsl : Hid (Sl wr W0.heap.size 9 a1 t1 c1 (strs (nm 99) t1)) := hsl
      have Hm : Hid (HasMap wr (B0 + 1) (kvs (nm 99) 0 t1)) := hm
      have Hkk : Hid (Kept [B0 + 1 + 1 + 1 + 1, (B0 + 1)] W0 wr) := kk
      have htw : Tab wr := HT0.out.keep kk (by have := HB4.out; simp; omega)
      clear rS hsl hm kk
      go_wp2_with fail
      have hds := dg_small t1 (by omega)
      refine (itoa_any t1 _ (by omega) htw).mono ?_
      rintro e w1 ⟨rfl, k1⟩
      have c0 := (HrS.out.keep k1 (by simp)).cell 0 rfl
      have s1 := Hsl.out.keep k1 (by simp)
      have hlt1 := (HrS.out.keep k1 (by simp)).lt
      have hB1 : W0.heap.size ≤ w1.heap.size := Nat.le_trans Hkk.out.size k1.size
      go_wp2_with (first | (at_mapUpdate; refine wpList_put _ rfl _ _ _ 28 9 3 rfl Ybad.underlying28 Ybad.underlying9 (B0 + 1) _ rfl (hm2'.setCell _ _ _ (by omega)) (nm 99 t1) (.int .i64 (t1 : Int)) rfl rfl hfr ?_; intro w4 hm4 k4 hs4) | (at_builtin; refine wpList_append_sl rfl _ _ 27 9 rfl W0.heap.size i0 (.string ⟨#[]⟩) 16 Ybad.underlying27 hi hz0 hz1 hz2 rfl _ _ _ _ rfl (s1.keep (Kept.alloc _ _) (by simp)) w1.heap.size _ 1 1 [.string (nm 99 t1)] rfl (Sl.one w1 _ 9) (by simp [Value.oneCell']) (by unfold maxLen; omega) (by omega) (by simp; omega) ?_; intro ad' cp' w2 hsl2 gr2; have R2 := ((HrS.out.keep k1 (by simp)).keep (Kept.alloc w1 _) (by simp)).keep (Kept.grown gr2) (fun h => by have := (s1.row _ h).1; omega); have d0 := R2.cell 0 rfl; have d1 := R2.cell (0 + 1) rfl; have f0 := R2.free 0; have hm2' := ((Hm.out.keep k1 (by simp)).keep (Kept.alloc w1 _) (by simp)).keep (Kept.grown gr2) (fun h => by have := (s1.row _ h).1; omega); clear R2))
      have R := round_keeps HrS.out Hsl.out Hkk.out hSB (by omega) k1 hsl2 gr2 k4 (by omega)
      go_roundw
      case rel =>
        refine ⟨t1 + 1, ad', cp', by omega, by go_num, R.1, by rw [strs_succ]; exact R.2.1, ?_, R.2.2⟩
        rw [kvs_succ, show ((0 : Nat) : Int) + (t1 : Int) = (t1 : Int) from by omega]
        exact hm4
      case measure => simp [intOf]; omega
    · obtain rfl : t1 = nc := by omega
      obtain ⟨W1, rfl⟩ : ∃ W1, W1 = wr := ⟨_, rfl⟩
      have HS1 : Hid (Sl W1 W0.heap.size 9 a1 t1 c1 (strs (nm 99) t1)) := hsl
      have HM1 : Hid (HasMap W1 (B0 + 1) (kvs (nm 99) 0 t1)) := hm
      have HM2 : Hid (HasMap W1 (B0 + 1 + 1) []) := hm2.keep kk (by simp)
      have HU1 : Hid (HasMap W1 (B0 + 1 + 1 + 1) []) := hmu.keep kk (by simp; omega)
      have HZ1 : Hid (Row W1 B0 [.slice none 0 0, .map none, .slice none 0 0, .map none, .slice none 0 0, .map none, .map none, .int .i64 0, .int .i64 0, .map none, .int .u64 0] 32) := hz.keep kk (by simp; omega)
      have HT1 : Hid (Tab W1) := HT0.out.keep kk (by have := HB4.out; simp; omega)
      have HR1 : Hid (Row W1 (B0 + 1 + 1 + 1 + 1) [.slice a1 t1 c1, .map (some (B0 + 1)), .slice none 0 0, .map (some (B0 + 1 + 1)), .slice none 0 0, .map (some (B0 + 1 + 1 + 1)), .map (some mp), .int .i64 0, .int .i64 0, .map none, .int .u64 seed] 32) := rS
      have HK1 : Hid (Kept [] w W1) := HKW.out.trans kk (by have := HB.out; simp; omega)
      have hSB1 : B0 + 1 + 1 + 1 + 1 < W1.heap.size := Nat.lt_of_lt_of_le hSB kk.size
      have HSB0 : Hid (B0 + 1 + 1 + 1 + 1 < W0.heap.size) := hSB
      clear rS hsl hm kk hm1 hm2 hmu hz hS hSB HKW HT0
      go_wp2_with fail
      go_loopw [16] (fun i wr => ∃ (t2 : Nat) (a2 : Option Addr) (c2 : Nat), t2 ≤ nx ∧ i = .int .i64 t2 ∧ Row wr (B0 + 1 + 1 + 1 + 1) [.slice a1 t1 c1, .map (some (B0 + 1)), .slice a2 t2 c2, .map (some (B0 + 1 + 1)), .slice none 0 0, .map (some (B0 + 1 + 1 + 1)), .map (some mp), .int .i64 0, .int .i64 0, .map none, .int .u64 seed] 32 ∧
          Sl wr W1.heap.size 9 a2 t2 c2 (strs (nm 120) t2) ∧ HasMap wr (B0 + 1 + 1) (kvs (nm 120) 0 t2) ∧ Kept [B0 + 1 + 1 + 1 + 1, (B0 + 1 + 1)] W1 wr) (fun i _ => nx - (intOf i).toNat)
      case atStart => exact ⟨0, none, 0, Nat.zero_le _, rfl, HR1.out, Sl.nil _ _ _, by simpa [kvs] using HM2.out, Kept.refl _ _⟩
      case round =>
        obtain ⟨t2, a2, c2, hkt2, rfl, rS, hsl, hm, kk⟩ := hrel
        by_cases hltt2 : t2 < nx
        · have hfr : look (nm 120 t2) (kvs (nm 120) 0 t2) = none := kvs_fresh _ _ _ _ (fun i hi e => by have := (nm_inj e).2; omega)
          have HrS : Hid (Row wr (B0 + 1 + 1 + 1 + 1) [.slice a1 t1 c1, .map (some (B0 + 1)), .slice a2 t2 c2, .map (some (B0 + 1 + 1)), .slice none 0 0, .map (some (B0 + 1 + 1 + 1)), .map (some mp), .int .i64 0, .int .i64 0, .map none, .int .u64 seed] 32) := rS
          have Hsl : Hid (Sl wr W1.heap.size 9 a2 t2 c2 (strs (nm 120) t2)) := hsl
          have Hm : Hid (HasMap wr (B0 + 1 + 1) (kvs (nm 120) 0 t2)) := hm
          have Hkk : Hid (Kept [B0 + 1 + 1 + 1 + 1, (B0 + 1 + 1)] W1 wr) := kk
          have htw : Tab wr := HT1.out.keep kk (by have := HB4.out; simp; omega)
          clear rS hsl hm kk
          go_wp2_with fail
          have hds := dg_small t2 (by omega)
          refine (itoa_any t2 _ (by omega) htw).mono ?_
          rintro e w1 ⟨rfl, k1⟩
          have c0 := (HrS.out.keep k1 (by simp)).cell 2 rfl
          have s1 := Hsl.out.keep k1 (by simp)
          have hlt1 := (HrS.out.keep k1 (by simp)).lt
          have hB1 : W1.heap.size ≤ w1.heap.size := Nat.le_trans Hkk.out.size k1.size
          go_wp2_with (first | (at_mapUpdate; refine wpList_put _ rfl _ _ _ 28 9 3 rfl Ybad.underlying28 Ybad.underlying9 (B0 + 1 + 1) _ rfl (hm2'.setCell _ _ _ (by omega)) (nm 120 t2) (.int .i64 (t2 : Int)) rfl rfl hfr ?_; intro w4 hm4 k4 hs4) | (at_builtin; refine wpList_append_sl rfl _ _ 27 9 rfl W1.heap.size i0 (.string ⟨#[]⟩) 16 Ybad.underlying27 hi hz0 hz1 hz2 rfl _ _ _ _ rfl (s1.keep (Kept.alloc _ _) (by simp)) w1.heap.size _ 1 1 [.string (nm 120 t2)] rfl (Sl.one w1 _ 9) (by simp [Value.oneCell']) (by unfold maxLen; omega) (by omega) (by simp; omega) ?_; intro ad' cp' w2 hsl2 gr2; have R2 := ((HrS.out.keep k1 (by simp)).keep (Kept.alloc w1 _) (by simp)).keep (Kept.grown gr2) (fun h => by have := (s1.row _ h).1; omega); have d0 := R2.cell 2 rfl; have d1 := R2.cell (2 + 1) rfl; have f0 := R2.free 2; have hm2' := ((Hm.out.keep k1 (by simp)).keep (Kept.alloc w1 _) (by simp)).keep (Kept.grown gr2) (fun h => by have := (s1.row _ h).1; omega); clear R2))
          have R := round_keeps HrS.out Hsl.out Hkk.out hSB1 (by omega) k1 hsl2 gr2 k4 (by omega)
          go_roundw
          case rel =>
            refine ⟨t2 + 1, ad', cp', by omega, by go_num, R.1, by rw [strs_succ]; exact R.2.1, ?_, R.2.2⟩
            rw [kvs_succ, show ((0 : Nat) : Int) + (t2 : Int) = (t2 : Int) from by omega]
            exact hm4
          case measure => simp [intOf]; omega
        · obtain rfl : t2 = nx := by omega
          obtain ⟨W2, rfl⟩ : ∃ W2, W2 = wr := ⟨_, rfl⟩
          have HS1' : Hid (Sl W2 W0.heap.size 9 a1 t1 c1 (strs (nm 99) t1)) := HS1.out.keep kk (by have := HSB0.out; simp; omega)
          have HM1' : Hid (HasMap W2 (B0 + 1) (kvs (nm 99) 0 t1)) := HM1.out.keep kk (by simp)
          have HS2 : Hid (Sl W2 W1.heap.size 9 a2 t2 c2 (strs (nm 120) t2)) := hsl
          have HM2' : Hid (HasMap W2 (B0 + 1 + 1) (kvs (nm 120) 0 t2)) := hm
          have HU2 : Hid (HasMap W2 (B0 + 1 + 1 + 1) []) := HU1.out.keep kk (by simp)
          have HZ2 : Hid (Row W2 B0 [.slice none 0 0, .map none, .slice none 0 0, .map none, .slice none 0 0, .map none, .map none, .int .i64 0, .int .i64 0, .map none, .int .u64 0] 32) := HZ1.out.keep kk (by simp; omega)
          have HT2 : Hid (Tab W2) := HT1.out.keep kk (by have := HB4.out; simp; omega)
          have HR2 : Hid (Row W2 (B0 + 1 + 1 + 1 + 1) [.slice a1 t1 c1, .map (some (B0 + 1)), .slice a2 t2 c2, .map (some (B0 + 1 + 1)), .slice none 0 0, .map (some (B0 + 1 + 1 + 1)), .map (some mp), .int .i64 0, .int .i64 0, .map none, .int .u64 seed] 32) := rS
          have HK2 : Hid (Kept [] w W2) := HK1.out.trans kk (by have := HB.out; simp; omega)
          have hSB2 : B0 + 1 + 1 + 1 + 1 < W2.heap.size := Nat.lt_of_lt_of_le hSB1 kk.size
          have HSB1 : Hid (B0 + 1 + 1 + 1 + 1 < W1.heap.size) := hSB1
          clear rS hsl hm kk HS1 HM1 HM2 HU1 HZ1 HT1 HR1 HK1 hSB1
          go_wp2_with fail
          go_loopw [18] (fun i wr => ∃ (t3 : Nat) (a3 : Option Addr) (c3 : Nat), t3 ≤ n ∧ i = .int .i64 t3 ∧ Row wr (B0 + 1 + 1 + 1 + 1) [.slice a1 t1 c1, .map (some (B0 + 1)), .slice a2 t2 c2, .map (some (B0 + 1 + 1)), .slice a3 t3 c3, .map (some (B0 + 1 + 1 + 1)), .map (some mp), .int .i64 0, .int .i64 0, .map none, .int .u64 seed] 32 ∧
              Sl wr W2.heap.size 9 a3 t3 c3 (strs (nm 117) t3) ∧ HasMap wr (B0 + 1 + 1 + 1) (usl fl t3) ∧ Kept [B0 + 1 + 1 + 1 + 1, B0 + 1 + 1 + 1] W2 wr) (fun i _ => n - (intOf i).toNat)
          case atStart => exact ⟨0, none, 0, Nat.zero_le _, rfl, HR2.out, Sl.nil _ _ _, by simpa [usl] using HU2.out, Kept.refl _ _⟩
          case round =>
            obtain ⟨t3, a3, c3, ht3, rfl, rS, hsl, hm, kk⟩ := hrel
            by_cases hlt3 : t3 < n
            · have hfr := usl_fresh fl t3
              have HrS : Hid (Row wr (B0 + 1 + 1 + 1 + 1) [.slice a1 t1 c1, .map (some (B0 + 1)), .slice a2 t2 c2, .map (some (B0 + 1 + 1)), .slice a3 t3 c3, .map (some (B0 + 1 + 1 + 1)), .map (some mp), .int .i64 0, .int .i64 0, .map none, .int .u64 seed] 32) := rS
              have Hsl : Hid (Sl wr W2.heap.size 9 a3 t3 c3 (strs (nm 117) t3)) := hsl
              have Hm : Hid (HasMap wr (B0 + 1 + 1 + 1) (usl fl t3)) := hm
              have Hkk : Hid (Kept [B0 + 1 + 1 + 1 + 1, B0 + 1 + 1 + 1] W2 wr) := kk
              have htw : Tab wr := HT2.out.keep kk (by have := HB4.out; simp; omega)
              clear rS hsl hm kk
              obtain ⟨mb, mo, rfl, hmc⟩ := hcells t3 hlt3
              have HMC : Hid (w.cell? ⟨mb, mo + t3, none⟩ = some (.int .i8 (ms t3))) := hmc
              have hcv3 := hcv t3 hlt3
              clear hmc
              go_wp2_with fail
              have hds := dg_small t3 (by omega)
              refine (itoa_any t3 _ (by omega) htw).mono ?_
              rintro e w1 ⟨rfl, k1⟩
              have c0 := (HrS.out.keep k1 (by simp)).cell 4 rfl
              have s1 := Hsl.out.keep k1 (by simp)
              have hlt1 := (HrS.out.keep k1 (by simp)).lt
              have hB1 : W2.heap.size ≤ w1.heap.size := Nat.le_trans Hkk.out.size k1.size
              go_wp2_with (at_builtin; refine wpList_append_sl rfl _ _ 27 9 rfl W2.heap.size i0 (.string ⟨#[]⟩) 16 Ybad.underlying27 hi hz0 hz1 hz2 rfl _ _ _ _ rfl (s1.keep (Kept.alloc _ _) (by simp)) w1.heap.size _ 1 1 [.string (nm 117 t3)] rfl (Sl.one w1 _ 9) (by simp [Value.oneCell']) (by unfold maxLen; omega) (by omega) (by simp; omega) ?_; intro ad' cp' w2 hsl2 gr2; have R2 := ((HrS.out.keep k1 (by simp)).keep (Kept.alloc w1 _) (by simp)).keep (Kept.grown gr2) (fun h => by have := (s1.row _ h).1; omega); have d0 := R2.cell 4 rfl; have d1 := R2.cell 5 rfl; have f0 := R2.free 4; have hm2' := ((Hm.out.keep k1 (by simp)).keep (Kept.alloc w1 _) (by simp)).keep (Kept.grown gr2) (fun h => by have := (s1.row _ h).1; omega); clear R2)
              have hB0 := HB.out
              have kw2 : Kept [] w w2 := (((HK2.out.trans Hkk.out (by simp; omega)).trans k1 (by simp)).trans (Kept.alloc w1 _) (by simp)).trans (Kept.grown gr2) (fun j hj => .inr (by have := (s1.row j hj).1; have := HK2.out.size; omega))
              have hmbl : mb < w.heap.size := by
                apply Classical.byContradiction
                intro hx
                have e : w.heap[mb]? = none := by simp; omega
                have := HMC.out
                simp [World.cell?, e] at this
              have hmw := kw2.cell HMC.out
              have hmw' := (World.cell?_setCell_other w2 ⟨B0 + 1 + 1 + 1 + 1, 4, none⟩ ⟨mb, mo + t3, none⟩ (.slice ad' (t3 + 1) cp') (fun h => by have := congrArg Addr.block h; simp at this; omega)).trans hmw
              obtain ⟨w5, hrun5, hm5, k5, hs5⟩ := HasMap.put (P := Ybad.prog) (w := (w2.setCell ⟨B0 + 1 + 1 + 1 + 1, 4, none⟩ (.slice ad' (t3 + 1) cp')).drew) (t := 26) (hm2'.setCell _ _ _ (by omega)) Ybad.underlying26 Ybad.underlying9 (nm 117 t3) (.float .f64 (fl t3)) hfr
              have k5' : Kept [B0 + 1 + 1 + 1] (w2.setCell ⟨B0 + 1 + 1 + 1 + 1, 4, none⟩ (.slice ad' (t3 + 1) cp')) w5 := ((Kept.drew _).mono (by simp)).trans k5 (by simp)
              have R := round_keeps HrS.out Hsl.out Hkk.out hSB2 (by omega) k1 hsl2 gr2 k5' (by omega)
              have HRr := R
              have HRR : Hid (_ ∧ _ ∧ _) := HRr
              have HM5 : Hid (HasMap w5 (B0 + 1 + 1 + 1) (usl fl t3 ++ [(nm 117 t3, .float .f64 (fl t3))])) := hm5
              have hkI : (t3 : Int) < (n : Int) := by omega
              unfold nm at hrun5
              clear R HRr hm5 k5 k5' kw2 hmw hm2' gr2 hsl2 s1 k1 c0 hB0
              go_region
              go_wp2
              go_roundw
              case rel => exact ⟨t3 + 1, ad', cp', by omega, by go_num, HRR.out.1, by rw [strs_succ]; exact HRR.out.2.1, by rw [usl_succ]; exact HM5.out, HRR.out.2.2⟩
              case measure => simp [intOf]; omega
            · obtain rfl : t3 = n := by omega
              obtain ⟨W3, rfl⟩ : ∃ W3, W3 = wr := ⟨_, rfl⟩
              have T1 : Hid (Sl W3 W0.heap.size 9 a1 t1 c1 (strs (nm 99) t1)) := HS1'.out.keep kk (by have := HSB0.out; simp; omega)
              have T2 : Hid (Sl W3 W1.heap.size 9 a2 t2 c2 (strs (nm 120) t2)) := HS2.out.keep kk (by have := HSB1.out; simp; omega)
              have M1 : Hid (HasMap W3 (B0 + 1) (kvs (nm 99) 0 t1)) := HM1'.out.keep kk (by simp)
              have M2 : Hid (HasMap W3 (B0 + 1 + 1) (kvs (nm 120) 0 t2)) := HM2'.out.keep kk (by simp)
              have Z3 : Row W3 B0 [.slice none 0 0, .map none, .slice none 0 0, .map none, .slice none 0 0, .map none, .map none, .int .i64 0, .int .i64 0, .map none, .int .u64 0] 32 := HZ2.out.keep kk (by simp; omega)
              have K3 : Hid (Kept [] w W3) := HK2.out.trans kk (by have := HB.out; simp; omega)
              have T3 : Hid (Sl W3 W2.heap.size 9 a3 t3 c3 (strs (nm 117) t3)) := hsl
              have MU : Hid (HasMap W3 (B0 + 1 + 1 + 1) (usl fl t3)) := hm
              have HSB2 : Hid (B0 + 1 + 1 + 1 + 1 < W2.heap.size) := hSB2
              have d5 := rS.cell 5 rfl
              clear hsl hm kk HS1' HM1' HS2 HM2' HU2 HZ2 HR2 HK2 hSB2
              have hzS : B0 ≠ B0 + 1 + 1 + 1 + 1 := by omega
              go_wp2_with (first | (refine wpList_stores rfl 30 _ _ rfl (B0 + 1 + 1 + 1 + 1) 7 [_, _, _] rfl rfl rS (by kernel_rfl) (by simp) rfl ?_; intro w8 h8 k8 s8; have z8 := Z3.keep k8 (by simp; omega)) | (refine wpList_loads rfl 32 _ rfl (B0 + 1 + 1 + 1 + 1) 0 [_, _, _, _, _, _, _, _, _, _, _] _ rfl h8 Ybad.underlying32 rfl (by kernel_rfl) rfl ?_) | (refine wpList_stores rfl 32 _ _ rfl B0 0 [_, _, _, _, _, _, _, _, _, _, _] rfl rfl z8 (by kernel_rfl) (by simp) rfl ?_; intro w9 h9 k9 s9))
              have hB0 := HB.out
              have k89 : Kept [B0 + 1 + 1 + 1 + 1, B0] W3 w9 := (k8.mono (by simp)).trans k9 (by simp)
              have g0 := HSB0.out
              have g1 := HSB1.out
              have g2 := HSB2.out
              refine bodyPost_cell 12 32 B0 [.slice a1 t1 c1, .map (some (B0 + 1)), .slice a2 t2 c2, .map (some (B0 + 1 + 1)), .slice a3 t3 c3, .map (some (B0 + 1 + 1 + 1)), .map (some mp), .int .i64 steps, .int .i64 ((steps : Int) / 2), .map (some (B0 + 1 + 1 + 1)), .int .u64 seed] _ rfl rfl h9 Ybad.underlying32 rfl (by kernel_rfl) rfl rfl ⟨a1, c1, a2, c2, a3, c3, W0.heap.size, W1.heap.size, W2.heap.size, B0 + 1, B0 + 1 + 1, B0 + 1 + 1 + 1, ?_, T1.out.keep k89 (by simp <;> omega), T2.out.keep k89 (by simp <;> omega), T3.out.keep k89 (by simp <;> omega), M1.out.keep k89 (by simp <;> omega), M2.out.keep k89 (by simp <;> omega), MU.out.keep k89 (by simp <;> omega), K3.out.trans k89 (by simp <;> omega)⟩
              rw [show ((steps / 2 : Nat) : Int) = (steps : Int) / 2 from by omega]
end Go.Proofs.YbulkjbuDoor
