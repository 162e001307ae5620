/-
  Seat b0487a: the law's helper, (time.Time).Before, Equal, and Turns' methods at, current.
-/
import Derived.Test.YbulkjbgTime
import Derived.Test.YbulkjbgBase
import Derived.Deep.RegionWith
import Derived.Deep.QuietTactic
import Derived.BigQuiet
namespace Go.Proofs.Ybulkjbg
open Go.MuLone Go.RowKit

abbrev muLink : Go.Conc.Locks.MuLink := { lock := 11, unlock := 12, ilock := 19, iunlock := 20, lockSlow := 26, unlockSlow := 29, disable := 22, enable := 24, acquire := 25, relMerge := 27, cas32 := 23, add32 := 28, tMutex := 34, tIMutex := 32, tPMutex := 48, tPIMutex := 51, tPI32 := 53, tUP := 55, tNoCopy := 29, tU32 := 30 }
theorem muLib : Go.Conc.Locks.MuLib Yba.prog muLink :=
  ⟨Yba.func11, Yba.func12, Yba.func19, Yba.func20, Yba.func22, Yba.func24, Yba.func25, Yba.func27, Yba.func23, Yba.func28, Yba.underlying32, Yba.runUnderlying32, Yba.sizeOf32, Yba.isAgg32, Yba.zeroValue32, Yba.underlying34, Yba.runUnderlying34, Yba.sizeOf34, Yba.isAgg34, Yba.zeroValue34, Yba.underlying48, Yba.runUnderlying48, Yba.sizeOf48, Yba.isAgg48, Yba.zeroValue48, Yba.underlying51, Yba.runUnderlying51, Yba.sizeOf51, Yba.isAgg51, Yba.zeroValue51, Yba.underlying53, Yba.runUnderlying53, Yba.sizeOf53, Yba.isAgg53, Yba.zeroValue53, Yba.underlying55, Yba.runUnderlying55, Yba.sizeOf55, Yba.isAgg55, Yba.zeroValue55, Yba.underlying29, Yba.runUnderlying29, Yba.sizeOf29, Yba.isAgg29, Yba.zeroValue29, Yba.underlying21, Yba.runUnderlying21, Yba.sizeOf21, Yba.isAgg21, Yba.zeroValue21, (by kernel_rfl)⟩

/-- A time by its nanoseconds since the zero time. -/
def tm (N S : Int) : Value := .agg #[.int .u64 N, .int .i64 S, .pointer none]

set_option maxRecDepth 100000 in
set_option maxHeartbeats 400000 in
theorem bat_any (d : Int) (w : World) (hd : (Lit.int .i64 d).wf = true) :
    Calls Yba.prog 5 #[.int .i64 d] w fun e w' => e = .returned (.agg #[.int .u64 (d % 1000000000), .int .i64 (d / 1000000000), .pointer none]) ∧ Gr w w' := by
  go_enter Yba.func5, Yba.ntmps5
  go_wp2_with fail
  refine (add_any 0 0 d (d % 1000000000) (d / 1000000000) _ (by omega) (by omega) (by omega) (by omega) hd (by omega) (by omega)).mono ?_
  rintro e w' ⟨rfl, rfl⟩
  go_wp2_with fail
  refine bodyPost_ret (v := .agg #[.int .u64 (d % 1000000000), .int .i64 (d / 1000000000), .pointer none]) ?_ rfl ⟨rfl, ?_⟩
  · simp [results, Yba.results5, go_sem]
  · exact ((Gr.alloc _ _ _).trans (Gr.alloc _ _ _)).trans (Gr.alloc _ _ _)


set_option maxRecDepth 100000 in
set_option maxHeartbeats 1000000 in
theorem before_lt (n1 s1 n2 s2 : Int) (w : World) (a0 : 0 ≤ n1) (a1 : n1 < 1000000000) (b0 : 0 ≤ n2) (b1 : n2 < 1000000000) (h : s1 < s2) :
    Calls Yba.prog 21 #[.agg #[.int .u64 n1, .int .i64 s1, .pointer none], .agg #[.int .u64 n2, .int .i64 s2, .pointer none]] w fun e w' =>
      e = .returned (.bool true) ∧ Gr w w' := by
  have e1 := and63' n1 n2 a0 (by omega) b0 (by omega)
  go_enter Yba.func21, Yba.ntmps21
  go_wp2_with fail
  refine (sec_any _ n1 s1 _ a0 (by omega) (by simp [go_sem]) (by simp [go_sem])).mono ?_
  rintro e w' ⟨rfl, rfl⟩
  go_wp2_with fail
  refine (sec_any _ n2 s2 _ b0 (by omega) (by simp [go_sem]) (by simp [go_sem])).mono ?_
  rintro e w' ⟨rfl, rfl⟩
  go_wp2_with fail
  go_ret
  exact ⟨rfl, (Gr.alloc _ _ _).trans (Gr.alloc _ _ _)⟩

set_option maxRecDepth 100000 in
set_option maxHeartbeats 1000000 in
theorem before_gt (n1 s1 n2 s2 : Int) (w : World) (a0 : 0 ≤ n1) (a1 : n1 < 1000000000) (b0 : 0 ≤ n2) (b1 : n2 < 1000000000) (h : s2 < s1) :
    Calls Yba.prog 21 #[.agg #[.int .u64 n1, .int .i64 s1, .pointer none], .agg #[.int .u64 n2, .int .i64 s2, .pointer none]] w fun e w' =>
      e = .returned (.bool false) ∧ Gr w w' := by
  have e1 := and63' n1 n2 a0 (by omega) b0 (by omega)
  have hne : (s1 == s2) = false := by rw [beq_eq_false_iff_ne]; omega
  have hlt : decide (s1 < s2) = false := by simp; omega
  go_enter Yba.func21, Yba.ntmps21
  go_wp2_with fail
  refine (sec_any _ n1 s1 _ a0 (by omega) (by simp [go_sem]) (by simp [go_sem])).mono ?_
  rintro e w' ⟨rfl, rfl⟩
  go_wp2_with fail
  refine (sec_any _ n2 s2 _ b0 (by omega) (by simp [go_sem]) (by simp [go_sem])).mono ?_
  rintro e w' ⟨rfl, rfl⟩
  go_wp2_with fail
  go_ret
  exact ⟨rfl, (Gr.alloc _ _ _).trans (Gr.alloc _ _ _)⟩

set_option maxRecDepth 100000 in
set_option maxHeartbeats 1000000 in
theorem before_eq (n1 s1 n2 : Int) (w : World) (a0 : 0 ≤ n1) (a1 : n1 < 1000000000) (b0 : 0 ≤ n2) (b1 : n2 < 1000000000)  :
    Calls Yba.prog 21 #[.agg #[.int .u64 n1, .int .i64 s1, .pointer none], .agg #[.int .u64 n2, .int .i64 s1, .pointer none]] w fun e w' =>
      e = .returned (.bool (decide (n1 < n2))) ∧ Gr w w' := by
  have e1 := and63' n1 n2 a0 (by omega) b0 (by omega)
  have hne : (s1 == s1) = true := by simp
  go_enter Yba.func21, Yba.ntmps21
  go_wp2_with fail
  refine (sec_any _ n1 s1 _ a0 (by omega) (by simp [go_sem]) (by simp [go_sem])).mono ?_
  rintro e w' ⟨rfl, rfl⟩
  go_wp2_with fail
  refine (sec_any _ n2 s1 _ b0 (by omega) (by simp [go_sem]) (by simp [go_sem])).mono ?_
  rintro e w' ⟨rfl, rfl⟩
  go_wp2_with fail
  refine (nsec_any _ n1 _ a0 (by omega) (by simp [go_sem])).mono ?_
  rintro e w' ⟨rfl, rfl⟩
  go_wp2_with fail
  refine (nsec_any _ n2 _ b0 (by omega) (by simp [go_sem])).mono ?_
  rintro e w' ⟨rfl, rfl⟩
  go_wp2_with fail
  go_ret
  exact ⟨rfl, (Gr.alloc _ _ _).trans (Gr.alloc _ _ _)⟩

theorem before_any (n1 s1 n2 s2 : Int) (w : World) (a0 : 0 ≤ n1) (a1 : n1 < 1000000000) (b0 : 0 ≤ n2) (b1 : n2 < 1000000000) :
    Calls Yba.prog 21 #[.agg #[.int .u64 n1, .int .i64 s1, .pointer none], .agg #[.int .u64 n2, .int .i64 s2, .pointer none]] w fun e w' =>
      e = .returned (.bool (decide (s1 * 1000000000 + n1 < s2 * 1000000000 + n2))) ∧ Gr w w' := by
  by_cases h : s1 < s2
  · rw [show decide (s1 * 1000000000 + n1 < s2 * 1000000000 + n2) = true from by simp; omega]
    exact before_lt n1 s1 n2 s2 w a0 a1 b0 b1 h
  · by_cases h2 : s2 < s1
    · rw [show decide (s1 * 1000000000 + n1 < s2 * 1000000000 + n2) = false from by simp; omega]
      exact before_gt n1 s1 n2 s2 w a0 a1 b0 b1 h2
    · obtain rfl : s1 = s2 := by omega
      rw [show decide (s1 * 1000000000 + n1 < s1 * 1000000000 + n2) = decide (n1 < n2) from by rw [decide_eq_decide]; omega]
      exact before_eq n1 s1 n2 w a0 a1 b0 b1

set_option maxRecDepth 100000 in
set_option maxHeartbeats 1000000 in
/-- (time.Time).Equal of a time and itself. -/
theorem equal_same (n1 s1 : Int) (w : World) (a0 : 0 ≤ n1) (a1 : n1 < 1000000000) :
    Calls Yba.prog 7 #[.agg #[.int .u64 n1, .int .i64 s1, .pointer none], .agg #[.int .u64 n1, .int .i64 s1, .pointer none]] w fun e w' =>
      e = .returned (.bool true) ∧ Gr w w' := by
  have e1 := and63' n1 n1 a0 (by omega) a0 (by omega)
  have hne : (s1 == s1) = true := by simp
  have hnn : (n1 == n1) = true := by simp
  go_enter Yba.func7, Yba.ntmps7
  go_wp2_with fail
  refine (sec_any _ n1 s1 _ a0 (by omega) (by simp [go_sem]) (by simp [go_sem])).mono ?_
  rintro e w' ⟨rfl, rfl⟩
  go_wp2_with fail
  refine (sec_any _ n1 s1 _ a0 (by omega) (by simp [go_sem]) (by simp [go_sem])).mono ?_
  rintro e w' ⟨rfl, rfl⟩
  go_wp2_with fail
  refine (nsec_any _ n1 _ a0 (by omega) (by simp [go_sem])).mono ?_
  rintro e w' ⟨rfl, rfl⟩
  go_wp2_with fail
  refine (nsec_any _ n1 _ a0 (by omega) (by simp [go_sem])).mono ?_
  rintro e w' ⟨rfl, rfl⟩
  go_wp2_with fail
  go_ret
  exact ⟨rfl, (Gr.alloc _ _ _).trans (Gr.alloc _ _ _)⟩


theorem before_yes (n1 s1 n2 s2 : Int) (w : World) (a0 : 0 ≤ n1) (a1 : n1 < 1000000000) (b0 : 0 ≤ n2) (b1 : n2 < 1000000000) (h : Hid (s1 * 1000000000 + n1 < s2 * 1000000000 + n2)) :
    Calls Yba.prog 21 #[.agg #[.int .u64 n1, .int .i64 s1, .pointer none], .agg #[.int .u64 n2, .int .i64 s2, .pointer none]] w fun e w' =>
      e = .returned (.bool true) ∧ Gr w w' := by
  have := before_any n1 s1 n2 s2 w a0 a1 b0 b1
  rwa [decide_eq_true h.out] at this
theorem before_no (n1 s1 n2 s2 : Int) (w : World) (a0 : 0 ≤ n1) (a1 : n1 < 1000000000) (b0 : 0 ≤ n2) (b1 : n2 < 1000000000) (h : Hid (s2 * 1000000000 + n2 ≤ s1 * 1000000000 + n1)) :
    Calls Yba.prog 21 #[.agg #[.int .u64 n1, .int .i64 s1, .pointer none], .agg #[.int .u64 n2, .int .i64 s2, .pointer none]] w fun e w' =>
      e = .returned (.bool false) ∧ Gr w w' := by
  have := before_any n1 s1 n2 s2 w a0 a1 b0 b1
  rwa [decide_eq_false (Int.not_lt.2 h.out)] at this

theorem Gr.old (w w1 : World) (o : Array Value) (t : TypeId) (n : Nat) (h : Gr ((w.alloc (.cells o t)).drewN n) w1) : Gr w w1 := ((Gr.alloc w o t).trans (Gr.drewN _ n)).trans h
theorem Gr.old1 (w w1 : World) (o : Array Value) (t : TypeId) (h : Gr ((w.alloc (.cells o t)).drew) w1) : Gr w w1 := ((Gr.alloc w o t).trans (Gr.drew _)).trans h

set_option maxRecDepth 100000 in
set_option maxHeartbeats 1000000 in
/-- Turns.at, now before until: the holder. -/
theorem at_yes (b off : Nat) (h : ByteArray) (n1 s1 n2 s2 : Int) (w : World) (a0 : 0 ≤ n1) (a1 : n1 < 1000000000) (b0 : 0 ≤ n2) (b1 : n2 < 1000000000) (hb : b < w.heap.size)
    (hh : w.cell? ⟨b, off + 2, none⟩ = some (.string h)) (c0 : w.cell? ⟨b, off + 3, none⟩ = some (.int .u64 n2)) (c1 : w.cell? ⟨b, off + 3 + 1, none⟩ = some (.int .i64 s2)) (c2 : w.cell? ⟨b, off + 3 + 2, none⟩ = some (.pointer none))
    (hlt : Hid (s1 * 1000000000 + n1 < s2 * 1000000000 + n2)) :
    Calls Yba.prog 13 #[.pointer (some ⟨b, off, none⟩), .agg #[.int .u64 n1, .int .i64 s1, .pointer none]] w fun e w' =>
      e = .returned (.string h) ∧ Gr w w' := by
  go_enter Yba.func13, Yba.ntmps13
  go_wp2_with fail
  go_region_with (go_at_call 21; refine (before_yes n1 s1 n2 s2 _ a0 a1 b0 b1 hlt).mono ?_; rintro e w' ⟨rfl, hg⟩)
  all_goals
    have hg0 := Gr.old1 _ _ _ _ hg
    have hh1 := hg0.cell hh
    have HG : Hid (Gr w _) := hg0
    clear hg hg0 hh c0 c1 c2
    go_wp2
    go_ret
    exact ⟨rfl, HG.out⟩

set_option maxRecDepth 100000 in
set_option maxHeartbeats 1000000 in
/-- Turns.at, now not before until: nothing. -/
theorem at_no (b off : Nat) (n1 s1 n2 s2 : Int) (w : World) (a0 : 0 ≤ n1) (a1 : n1 < 1000000000) (b0 : 0 ≤ n2) (b1 : n2 < 1000000000) (hb : b < w.heap.size)
    (c0 : w.cell? ⟨b, off + 3, none⟩ = some (.int .u64 n2)) (c1 : w.cell? ⟨b, off + 3 + 1, none⟩ = some (.int .i64 s2)) (c2 : w.cell? ⟨b, off + 3 + 2, none⟩ = some (.pointer none))
    (hlt : Hid (s2 * 1000000000 + n2 ≤ s1 * 1000000000 + n1)) :
    Calls Yba.prog 13 #[.pointer (some ⟨b, off, none⟩), .agg #[.int .u64 n1, .int .i64 s1, .pointer none]] w fun e w' =>
      e = .returned (.string ⟨#[]⟩) ∧ Gr w w' := by
  go_enter Yba.func13, Yba.ntmps13
  go_wp2_with fail
  go_region_with (go_at_call 21; refine (before_no n1 s1 n2 s2 _ a0 a1 b0 b1 hlt).mono ?_; rintro e w' ⟨rfl, hg⟩)
  all_goals
    have hg0 := Gr.old1 _ _ _ _ hg
    have HG : Hid (Gr w _) := hg0
    clear hg hg0 c0 c1 c2
    go_wp2
    go_ret
    exact ⟨rfl, HG.out⟩
end Go.Proofs.Ybulkjbg
