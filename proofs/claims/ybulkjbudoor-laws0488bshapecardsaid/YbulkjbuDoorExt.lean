/-
  Seat b0488aD: the functions that the model stands in for (Float64bits, Float64frombits, chacha8rand.block), math.Inf, math.Abs, math.IsInf.
-/
import Derived.Test.YbulkjbuDoorOps
import Derived.Test.YbulkjbuDoorStore
import Derived.Laws.Externs
namespace Go.Proofs.YbulkjbuDoor
open Go.RowKit

theorem call28 (n : Int) (W : World) : (callFunc 28 #[.int .u64 n]).run Ybad.prog W = .ok (.value (.float .f64 n.toNat)) W := by
  rw [run_callFunc_extern (fn := Ybad.f28) (e := Extern.MathFloatBits.float64frombits) rfl rfl rfl (by kernel_rfl) (by kernel_rfl)]; rfl
theorem call29 (n : Nat) (W : World) : (callFunc 29 #[.float .f64 n]).run Ybad.prog W = .ok (.value (.int .u64 n)) W := by
  rw [run_callFunc_extern (fn := Ybad.f29) (e := Extern.MathFloatBits.float64bits) rfl rfl rfl (by kernel_rfl) (by kernel_rfl)]; rfl

theorem inf_any (w : World) : Calls Ybad.prog 21 #[.int .i64 1] w fun e w' => e = .returned (.float .f64 9218868437227405312) ∧ w' = w := by
  have h28 := call28
  go_enter Ybad.func21, Ybad.ntmps21
  go_wp2_with fail
  go_ret
  exact ⟨rfl, rfl⟩
/-- A float's bits without the sign. -/
def absBits (n : Nat) : Nat := (bits .andNot .u64 n 9223372036854775808).toNat
theorem abs_any (n : Nat) (w : World) : Calls Ybad.prog 19 #[.float .f64 n] w fun e w' => e = .returned (.float .f64 (absBits n)) ∧ w' = w := by
  have h28 := call28
  have h29 := call29
  go_enter Ybad.func19, Ybad.ntmps19
  go_wp2_with fail
  go_ret
  exact ⟨rfl, rfl⟩
theorem isInf_yes (w : World) : Calls Ybad.prog 10 #[.float .f64 9218868437227405312, .int .i64 1] w fun e w' => e = .returned (.bool true) ∧ w' = w := by
  have h : (FloatKind.f64.format.order 9218868437227405312 9218868437227405311 == some Ordering.gt) = true := by kernel_rfl
  go_enter Ybad.func10, Ybad.ntmps10
  go_wp2_with fail
  go_ret
  exact ⟨rfl, rfl⟩

/-- What the cipher's block writes. -/
def blockL (s : Array Nat) (n : Nat) : List Value :=
  let key := s.flatMap fun x => #[x % Extern.Chacha8Block.m32, x / Extern.Chacha8Block.m32]
  let lanes := (Array.range 4).map fun i => Extern.Chacha8Block.lane key (n + i)
  let word (j : Nat) : Nat := (lanes.getD (j % 4) #[]).getD (j / 4) 0
  (List.range 32).map fun k => .int .u64 (Int.ofNat (word (2 * k) + word (2 * k + 1) * Extern.Chacha8Block.m32))
theorem blockL_length (s : Array Nat) (n : Nat) : (blockL s n).length = 32 := by simp [blockL]
theorem blockL_one (s : Array Nat) (n : Nat) : (blockL s n).all (·.oneCell') = true := by simp [blockL, Value.oneCell']
theorem block_eq (a b c : Value) : Extern.Chacha8Block.block #[a, b, c] = (do
    let s ← (← loadCells (← asAddr a) 4).mapM fun c => do pure (← asInt c).toNat
    let n := (← asInt c).toNat
    storeCells (← asAddr b) (blockL s n)
    pure (.tuple #[])) := rfl

/-- The cipher's block: 32 numbers that hang on the seed alone, into the first 32 cells. -/
theorem call48 (x0 x1 x2 x3 : Int) (W : World) (g : Nat) (cells : List Value) (t : TypeId) (hr : Row W g cells t) (hc : (cells.drop 32).take 4 = [.int .u64 x0, .int .u64 x1, .int .u64 x2, .int .u64 x3]) (hl : 32 ≤ cells.length) :
    (callFunc 48 #[.pointer (some ⟨g, 32, none⟩), .pointer (some ⟨g, 0, none⟩), .int .u32 0]).run Ybad.prog W = .ok (.value (.tuple #[])) (W.setCells g 0 (blockL #[x0.toNat, x1.toNat, x2.toNat, x3.toNat] 0)) := by
  rw [run_callFunc_extern (fn := Ybad.f48) (e := Extern.Chacha8Block.block) rfl rfl rfl (by kernel_rfl) (by kernel_rfl)]
  have h1 : (loadCells ⟨g, 32, none⟩ 4).run Ybad.prog W = .ok #[.int .u64 x0, .int .u64 x1, .int .u64 x2, .int .u64 x3] W := by
    have := run_loadCells_list (P := Ybad.prog) W ⟨g, 32, none⟩ [.int .u64 x0, .int .u64 x1, .int .u64 x2, .int .u64 x3] (fun j v hv => by
      rw [Addr.add_mid]
      have := hr.range 32 4
      rw [hc] at this
      exact this j v hv)
    simpa using this
  have h2 : ∀ L : List Value, L.length = 32 → L.all (·.oneCell') = true → (storeCells ⟨g, 0, none⟩ L).run Ybad.prog W = .ok () (W.setCells g 0 L) := fun L hL h1 => by
    have ht := hr.there 0 32 (by omega)
    have := run_storeCells_cells (P := Ybad.prog) g 0 L 0 W (fun j hj => by simpa using (ht j (by omega)).1) (fun j hj => by simpa using (ht j (by omega)).2) (fun v hv => (List.all_eq_true.1 h1) v hv)
    simpa using this
  have h3 := h2 _ (blockL_length #[x0.toNat, x1.toNat, x2.toNat, x3.toNat] 0) (blockL_one _ _)
  rw [block_eq]
  generalize blockL = bl at h3 ⊢
  simp [asAddr, asInt, asIntOf, h1, h3]
end Go.Proofs.YbulkjbuDoor
