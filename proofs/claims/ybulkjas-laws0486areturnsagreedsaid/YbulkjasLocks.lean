/-
  The numbers under which the translation of seat b0486a holds sync.Mutex's functions and types, and the contract of TryLock on a free lock (the kit has Lock and Unlock alone). Checked by the kernel as it is compiled.
-/
import Derived.Test.YbulkjasProg
import Derived.Conc.MuLone
import Derived.WalkKit
import Derived.KernelRfl
namespace Go.Proofs.Ybulkjas
open Go.MuLone Go.RowKit

abbrev muLink : Go.Conc.Locks.MuLink := { lock := 7, unlock := 6, ilock := 10, iunlock := 9, lockSlow := 18, unlockSlow := 17, disable := 11, enable := 12, acquire := 14, relMerge := 15, cas32 := 13, add32 := 16, tMutex := 34, tIMutex := 32, tPMutex := 56, tPIMutex := 57, tPI32 := 59, tUP := 61, tNoCopy := 29, tU32 := 30 }
theorem muLib : Go.Conc.Locks.MuLib Yba.prog muLink :=
  ⟨Yba.func7, Yba.func6, Yba.func10, Yba.func9, Yba.func11, Yba.func12, Yba.func14, Yba.func15, Yba.func13, Yba.func16, Yba.underlying32, Yba.runUnderlying32, Yba.sizeOf32, Yba.isAgg32, Yba.zeroValue32, Yba.underlying34, Yba.runUnderlying34, Yba.sizeOf34, Yba.isAgg34, Yba.zeroValue34, Yba.underlying56, Yba.runUnderlying56, Yba.sizeOf56, Yba.isAgg56, Yba.zeroValue56, Yba.underlying57, Yba.runUnderlying57, Yba.sizeOf57, Yba.isAgg57, Yba.zeroValue57, Yba.underlying59, Yba.runUnderlying59, Yba.sizeOf59, Yba.isAgg59, Yba.zeroValue59, Yba.underlying61, Yba.runUnderlying61, Yba.sizeOf61, Yba.isAgg61, Yba.zeroValue61, Yba.underlying29, Yba.runUnderlying29, Yba.sizeOf29, Yba.isAgg29, Yba.zeroValue29, Yba.underlying21, Yba.runUnderlying21, Yba.sizeOf21, Yba.isAgg21, Yba.zeroValue21, (by kernel_rfl)⟩

/-- What the conversion of a pointer to an internal/sync.Mutex for the race detector's mark comes to. -/
theorem conv_steps (a : Addr) (w : World) : (convert 57 61 (.pointer (some a))).run Yba.prog w =
    (do
      let s ← Conv.seenAt a
      let nothing := match ← cellsIn s.block with
        | some cells => s.off ≥ cells && s.spot.isNone
        | none => false
      if (← Go.sizeOf 32) = 0 || nothing then pure (Value.pointer (some ⟨← newObj (.view s 32), 0, none⟩)) else
      pure (Value.pointer (some s)) : Sem Value).run Yba.prog w := by kernel_rfl
/-- Where a cell stands at the address: the same address. -/
theorem conv_same (a : Addr) (w : World) {v : Value} (hc : w.cell? a = some v) : (convert 57 61 (.pointer (some a))).run Yba.prog w = .ok (.pointer (some a)) w := by
  obtain ⟨e, n, hsh, hlt, hsp⟩ := World.shape?_of_cell? hc
  have hge : ¬ (n ≤ a.off) := by omega
  rw [conv_steps]
  simp [Conv.seenAt, viewAt, cellsIn, Yba.sizeOf32, hsh, hge, Result.andThen]

set_option maxRecDepth 100000 in
set_option maxHeartbeats 800000 in
/-- '(*internal/sync.Mutex).TryLock', free and nobody waiting (state 0): true, state 1. -/
theorem itry_free (a : Addr) (w : World) (hc : w.cell? a = some (.int .i32 0)) (hz : w.frozen? a = false) :
    Calls Yba.prog 8 #[.pointer (some a)] w fun e w' => e = .returned (.bool true) ∧ w' = w.setCell a (.int .i32 1) := by
  have hd := disable muLib
  have he := enable muLib
  have ha := acquire muLib
  have hc1 : (w.setCell a (.int .i32 1)).cell? a = some (.int .i32 1) := World.cell?_setCell_same w a _ hc
  have hcv := conv_same a _ hc1
  have hcas := run_call_cas_hit (P := Yba.prog) Yba.func13 (by kernel_rfl) (by kernel_rfl) (by kernel_rfl) .i32 (by kernel_rfl) (x := 0) (y := 1) hc hz
  go_enter Yba.func8, Yba.ntmps8
  go_wp2
  go_ret
  exact ⟨rfl, rfl⟩

set_option maxHeartbeats 800000 in
/-- '(*sync.Mutex).TryLock', free and nobody waiting (state 0): true, state 1. -/
theorem try_free (a : Addr) (w : World) (hc : w.cell? a = some (.int .i32 0)) (hz : w.frozen? a = false) :
    Calls Yba.prog 5 #[.pointer (some a)] w fun e w' => e = .returned (.bool true) ∧ w' = w.setCell a (.int .i32 1) := by
  go_enter Yba.func5, Yba.ntmps5
  go_wp2_with (go_at_call 8; refine (itry_free a _ hc hz).mono ?_; rintro e w' ⟨rfl, rfl⟩)
  go_ret
  exact ⟨rfl, rfl⟩

set_option maxHeartbeats 800000 in
/-- 'Agreed', the lock free: the record as it lies; the lock taken and let go; the result's box made. -/
theorem agreed_free (b off : Nat) (t : Int) (p : ByteArray) (w : World) (hb : b < w.heap.size)
    (hl : w.cell? ⟨b, off + 5, none⟩ = some (.int .i32 0)) (fl : w.frozen? ⟨b, off + 5, none⟩ = false)
    (h0 : w.cell? ⟨b, off + 18 + 12, none⟩ = some (.int .u64 t)) (h1 : w.cell? ⟨b, off + 18 + 12 + 1, none⟩ = some (.string p)) :
    Calls Yba.prog 4 #[.pointer (some ⟨b, off, none⟩)] w fun e w' => e = .returned (.agg #[.int .u64 t, .string p]) ∧
      w' = ((w.setCell ⟨b, off + 5, none⟩ (.int .i32 1)).setCell ⟨b, off + 5, none⟩ (.int .i32 0)).alloc (.cells #[.int .u64 t, .string p] 43) := by
  have hl' := fun o => (Below.cell ((Below.refl w.heap.size w).alloc (Nat.le_refl _) o) (p := ⟨b, off + 5, none⟩) hb).trans hl
  have fl' := fun o => (Below.frozen ((Below.refl w.heap.size w).alloc (Nat.le_refl _) o) (p := ⟨b, off + 5, none⟩) hb).trans fl
  go_enter_defers Yba.func4, Yba.ntmps4
  go_wp2_with (go_at_call 7; refine (lock_free muLib ⟨b, off + 5, none⟩ _ (hl' _) (fl' _)).mono ?_; rintro e w' ⟨rfl, rfl⟩)
  refine leaves_cons (f := 6) (args := #[.pointer (some ⟨b, off + 5, none⟩)]) (by simp) (by simp [go_sem]) ?_
  refine (unlock_deferred muLib ⟨b, off + 5, none⟩ .returning _ ?_ ?_).mono ?_
  · exact (Below.cell ((Below.refl _ (w.setCell ⟨b, off + 5, none⟩ (.int .i32 1))).alloc (Nat.le_refl _) _) (p := ⟨b, off + 5, none⟩) (by simpa using hb)).trans (World.cell?_setCell_same w ⟨b, off + 5, none⟩ (.int .i32 1) hl)
  · exact (Below.frozen ((Below.refl _ (w.setCell ⟨b, off + 5, none⟩ (.int .i32 1))).alloc (Nat.le_refl _) _) (p := ⟨b, off + 5, none⟩) (by simpa using hb)).trans (by simp [fl])
  rintro e u' w'' ⟨rfl, rfl, rfl⟩
  refine ⟨.agg #[.int .u64 t, .string p], ?_, rfl, ?_⟩
  · simp [results, Yba.results4, go_sem, hb]
  · exact World.setCell_alloc_past _ _ _ _ (by simpa using hb)
end Go.Proofs.Ybulkjas
