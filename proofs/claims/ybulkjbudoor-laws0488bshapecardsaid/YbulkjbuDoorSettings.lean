/-
  Seat b0488aD: newPVLVSettings.
-/
import Derived.Test.YbulkjbuDoorParams
import Derived.Test.YbulkjbuDoorCac
import Derived.Test.YbulkjbuDoorLe
import Derived.Test.YbulkjbuDoorBla
import Derived.Test.YbulkjbuDoorGoal2
import Derived.Deep.RegionWith
namespace Go.Proofs.YbulkjbuDoor
open Go.RowKit

/-- The settings, behind k parameters. -/
def setK (vb : ByteArray → Nat) (k : Nat) : List Value := (List.range k).foldl (fun acc i => acc.set (poff i) (.float .f64 (vb (par i).1))) (List.replicate 22 (.float .f64 0))
theorem setK_succ (vb : ByteArray → Nat) (k : Nat) : setK vb (k + 1) = (setK vb k).set (poff k) (.float .f64 (vb (par k).1)) := by
  unfold setK; rw [List.range_succ, List.foldl_append]; rfl
theorem setK_length (vb : ByteArray → Nat) : ∀ k, (setK vb k).length = 22
  | 0 => rfl
  | k + 1 => by rw [setK_succ, List.length_set]; exact setK_length vb k
theorem poff_lt (k : Nat) (hk : k < 20) : poff k < 22 := by
  have : (List.range 20).all (fun k => decide (poff k < 22)) = true := by kernel_rfl
  have := List.all_eq_true.1 this k (List.mem_range.2 hk)
  simpa using this
theorem setK_cell (vb : ByteArray → Nat) (k j : Nat) (hj : j < 22) : ∃ n, (setK vb k)[j]? = some (.float .f64 n) := by
  induction k with
  | zero =>
    refine ⟨0, ?_⟩
    show (List.replicate 22 (Value.float .f64 0))[j]? = _
    rw [List.getElem?_replicate, if_pos hj]
  | succ k ih =>
    obtain ⟨n, ih⟩ := ih
    rw [setK_succ, List.getElem?_set]
    split
    · rename_i e
      rw [if_pos (by rw [setK_length]; omega)]
      exact ⟨_, rfl⟩
    · exact ⟨n, ih⟩
theorem setK_one (vb : ByteArray → Nat) : ∀ k, (setK vb k).all (·.oneCell') = true
  | 0 => by
    show (List.replicate 22 (Value.float .f64 0)).all (·.oneCell') = true
    rfl
  | k + 1 => by rw [setK_succ]; exact all_set (setK_one vb k) rfl
theorem setK_12 (vb : ByteArray → Nat) : (setK vb 20)[12]? = some (.float .f64 (vb (par 11).1)) := by kernel_rfl
theorem pcells_row (g k : Nat) (hk : k < 20) : ((pcells g).drop (k * 5)).take 5 = prow g (par k) := by
  rcases (by omega : k = 0 ∨ k = 1 ∨ k = 2 ∨ k = 3 ∨ k = 4 ∨ k = 5 ∨ k = 6 ∨ k = 7 ∨ k = 8 ∨ k = 9 ∨ k = 10 ∨ k = 11 ∨ k = 12 ∨ k = 13 ∨ k = 14 ∨ k = 15 ∨ k = 16 ∨ k = 17 ∨ k = 18 ∨ k = 19) with rfl | rfl | rfl | rfl | rfl | rfl | rfl | rfl | rfl | rfl | rfl | rfl | rfl | rfl | rfl | rfl | rfl | rfl | rfl | rfl <;> kernel_rfl
theorem Ybad.zero25 (w : World) : (zeroValue 25).run Ybad.prog w = .ok (.float .f64 0) w := by kernel_rfl

set_option maxRecDepth 100000 in
set_option maxHeartbeats 2000000 in
theorem settings_any (mp : Nat) (l : List (ByteArray × Value)) (vb : ByteArray → Nat) (w : World) (hm : HasMap w mp l) (hv : ∀ n, (look n l = none ∧ vb n = 0) ∨ look n l = some (.float .f64 (vb n))) :
    Calls Ybad.prog 11 #[.map (some mp)] w fun e w' => e = .returned (.agg (((setK vb 20).set 13 (.float .f64 (vb (par 11).1))).set 14 (.float .f64 9218868437227405312)).toArray) ∧ Kept [] w w' := by
  have hlook : ∀ W n, HasMap W mp l → (Instr.lookup 26 (.map (some mp)) (.string n) false).run Ybad.prog W = .ok (.float .f64 (vb n)) W := by
    intro W n h
    rcases hv n with ⟨h1, h2⟩ | h1
    · rw [h.look_none Ybad.underlying26 Ybad.underlying9 (Ybad.zero25 W) n h1 false, h2]; rfl
    · rw [h.look_some Ybad.underlying26 Ybad.underlying9 n _ h1 false]; rfl
  have HL : Hid (∀ W n, HasMap W mp l → (Instr.lookup 26 (.map (some mp)) (.string n) false).run Ybad.prog W = .ok (.float .f64 (vb n)) W) := hlook
  have HM : Hid (HasMap w mp l) := hm
  clear hlook hm hv
  go_enter Ybad.func11, Ybad.ntmps11
  go_wp2_with fail
  refine (params_any (w.heap.size + 1) _).mono ?_
  rintro e w1 ⟨gb, rfl, hgb, hrp, k1⟩
  simp only [World.size_alloc] at hgb
  have z0 : Row w1 w.heap.size (List.replicate 22 (.float .f64 0)) 80 := ((Row.made w _ 80).keep (Kept.alloc _ _) (by simp)).keep k1 (by simp)
  have hz := (Row.made (w.alloc (.cells (List.replicate 22 (.float .f64 0)).toArray 80)) (List.replicate 22 (.float .f64 0)) 80).keep k1 (by simp)
  rw [show (w.alloc (.cells (List.replicate 22 (.float .f64 0)).toArray 80)).heap.size = w.heap.size + 1 from by simp] at hz
  have kk := ((Kept.alloc w _).trans (Kept.alloc _ _) (by simp)).trans k1 (by simp)
  have M1 : Hid (HasMap w1 mp l) := HM.out.keep kk (by simp)
  have hmp := HM.out.lt
  have HK : Hid (Kept [] w w1) := kk
  have HZ : Hid (Row w1 w.heap.size (List.replicate 22 (.float .f64 0)) 80) := z0
  have HP : Hid (Row w1 gb (pcells (w.heap.size + 1)) 97) := hrp
  have HG : Hid (Row w1 (w.heap.size + 1) (setK vb 0) 80) := hz
  have HGB : Hid (w.heap.size + 2 ≤ gb) := hgb
  have HMP : Hid (mp < w.heap.size) := hmp
  clear kk z0 hz hrp k1 HM hgb hmp
  generalize hB : w.heap.size = B at *
  have HB : Hid (w.heap.size = B) := hB
  clear hB
  go_wp2_with fail
  go_loopw [8] (fun i wr => ∃ k : Nat, k ≤ 20 ∧ i = .int .i64 k ∧ Row wr (B + 1) (setK vb k) 80 ∧ Kept [B + 1] w1 wr) (fun i _ => 20 - (intOf i).toNat)
  case atStart => exact ⟨0, Nat.zero_le _, rfl, HG.out, Kept.refl _ _⟩
  case round =>
    obtain ⟨k, hk, rfl, hrow, hkk⟩ := hrel
    have hgb := HGB.out
    have hmp := HMP.out
    by_cases hlt : k < 20
    · have hp := HP.out.keep hkk (by simp; omega)
      have hmm := M1.out.keep hkk (by simp; omega)
      have hlI : (k : Int) < 20 := by omega
      have HH : Hid (Row wr (B + 1) (setK vb k) 80) := hrow
      have HKK : Hid (Kept [B + 1] w1 wr) := hkk
      have HMM : Hid (HasMap wr mp l) := hmm
      clear hrow hkk hmm
      have hpl := hp.lt
      have hrg := hp.range (k * 5) 5
      rw [pcells_row _ k hlt] at hrg
      have c0 : wr.cell? ⟨gb, k * 5, none⟩ = some (.string (par k).1) := hrg 0 _ rfl
      have c1 : wr.cell? ⟨gb, k * 5 + 1, none⟩ = some (.float .f64 (par k).2.1) := hrg 1 _ rfl
      have c2 : wr.cell? ⟨gb, k * 5 + 2, none⟩ = some (.float .f64 (par k).2.2.1) := hrg 2 _ rfl
      have c3 : wr.cell? ⟨gb, k * 5 + 3, none⟩ = some (.float .f64 (par k).2.2.2.1) := hrg 3 _ rfl
      have c4 : wr.cell? ⟨gb, k * 5 + 4, none⟩ = some (.pointer (some ⟨B + 1, poff k, none⟩)) := hrg 4 _ rfl
      have hlk := HL.out _ (par k).1 (HMM.out.keep (Kept.alloc wr (.cells #[.string (par k).1, .float .f64 (par k).2.1, .float .f64 (par k).2.2.1, .float .f64 (par k).2.2.2.1, .pointer (some ⟨B + 1, poff k, none⟩)] 97)) (by simp))
      obtain ⟨n5, h5⟩ := setK_cell vb k (poff k) (poff_lt k hlt)
      have c5 := HH.out.cell (poff k) h5
      have f5 := HH.out.free (poff k)
      have l5 := HH.out.lt
      have l5' : B + 1 ≠ wr.heap.size := by omega
      clear hrg hp h5
      go_wp2_with fail
      go_roundw
      case rel =>
        refine ⟨k + 1, by omega, by go_num, ?_, ?_⟩
        · rw [setK_succ]
          exact (HH.out.set (poff k) _).keep (Kept.alloc _ _) (by simp)
        · exact HKK.out.trans ((Kept.setCell wr (B + 1) _ _).trans (Kept.alloc _ _) (by simp)) (by simp)
      case measure => simp [intOf]; omega
    · obtain rfl : k = 20 := by omega
      have HKK : Hid (Kept [B + 1] w1 wr) := hkk
      have q2 : wr.cell? ⟨B + 1, 12, none⟩ = some (.float .f64 (vb (par 11).1)) := hrow.cell 12 (setK_12 vb)
      obtain ⟨n3, h3⟩ := setK_cell vb 20 13 (by omega)
      obtain ⟨n4, h4⟩ := setK_cell vb 20 14 (by omega)
      have q3 := hrow.cell 13 h3
      have q4 := hrow.cell 14 h4
      have f3 := hrow.free 13
      have f4 := hrow.free 14
      have HH : Hid (Row wr (B + 1) (setK vb 20) 80) := hrow
      clear hkk hrow h3 h4
      go_wp2_with fail
      go_region_with (go_at_call 21; refine (inf_any _).mono ?_; rintro e w' ⟨rfl, rfl⟩)
      all_goals
        have hr9 := ((HH.out.set 13 (.float .f64 (vb (par 11).1))).set 14 (.float .f64 9218868437227405312)).keep (Kept.drew _) (by simp)
        have k9 := ((Kept.setCell wr (B + 1) 13 (.float .f64 (vb (par 11).1))).trans (Kept.setCell _ (B + 1) 14 (.float .f64 9218868437227405312)) (by simp)).trans (Kept.drew _) (by simp)
        generalize ((wr.setCell ⟨B + 1, 13, none⟩ (.float .f64 (vb (par 11).1))).setCell ⟨B + 1, 14, none⟩ (.float .f64 9218868437227405312)).drew = W9 at *
        have ho9 : (((setK vb 20).set 13 (.float .f64 (vb (par 11).1))).set 14 (.float .f64 9218868437227405312)).all (·.oneCell') = true := all_set (all_set (setK_one vb 20) rfl) rfl
        have hl9 : (((setK vb 20).set 13 (.float .f64 (vb (par 11).1))).set 14 (.float .f64 9218868437227405312)).length = 22 := by rw [List.length_set, List.length_set, setK_length]
        generalize hS9 : ((setK vb 20).set 13 (.float .f64 (vb (par 11).1))).set 14 (.float .f64 9218868437227405312) = S9 at *
        have HS : Hid (S9 = ((setK vb 20).set 13 (.float .f64 (vb (par 11).1))).set 14 (.float .f64 9218868437227405312)) := hS9.symm
        clear hS9
        have kw := HKK.out.trans k9 (by simp)
        have hz9 := HZ.out.keep kw (by simp)
        have HK9 : Hid (Kept [] w W9) := HK.out.trans kw (by have := HB.out; simp; omega)
        have hi : (Ybad.prog.info? 80).map (·.size) = some S9.length := by rw [hl9]; kernel_rfl
        clear kw k9 HKK HH HZ q2 q3 q4 f3 f4
        go_wp2_with (first | (refine wpList_loads rfl 80 _ rfl (B + 1) 0 S9 _ rfl hr9 Ybad.underlying80 rfl hi (by rw [List.drop_zero, List.take_length]) ?_) | (refine wpList_stores rfl 80 _ _ rfl B 0 S9 rfl rfl hz9 hi (by simp [hl9]) ho9 ?_; intro w10 h10 k10 s10))
        refine bodyPost_cell 2 80 B S9 _ rfl rfl h10 Ybad.underlying80 rfl hi (splice_take _ 0 S9 (Nat.zero_le _)) rfl ⟨by rw [HS.out], ?_⟩
        have hB := HB.out
        exact HK9.out.trans k10 (by simp; omega)
end Go.Proofs.YbulkjbuDoor
