/-
  Seat b0488a: the laws of a map at the operations; the names; the test 'same'.
-/
import Derived.Test.YbulkjbuProg
import Derived.Test.YbulkjbuRange
import Derived.WalkSpells
import Derived.WalkLawsBesides
namespace Go.Proofs.Ybulkjbu
open Go.RowKit

section
variable {P : Program} (w : World) {ops : Array Oper} {rest : List Oper} {o : Oper} {a : Act} {Q : Exit → Act → World → Prop}

theorem wpList_put (hg : o.guard = none) (m x v : Operand) (t kt et : TypeId) (hop : o.op = Op.mapUpdate t m x v) (ht : P.underlying t = some (.map kt et)) (hk : P.underlying kt = some .string)
    (b : Nat) (l : List (ByteArray × Value)) (hm : a.eval m = .map (some b)) (h : HasMap w b l) (k : ByteArray) (val : Value) (hx : a.eval x = .string k) (hv : a.eval v = val) (hfresh : look k l = none)
    (hK : ∀ w', HasMap w' b (l ++ [(k, val)]) → Kept [b] w w' → w'.heap.size = w.heap.size → wpList P ops Q rest (a.put o.dst undef) w') : wpList P ops Q (o :: rest) a w := by
  refine wpList_plain hg fun K' hK' => ?_
  obtain ⟨w', hrun, r1, r2, r3⟩ := h.put ht hk k val hfresh
  unfold Oper.wp
  simp [execOp, hop, hm, hx, hv, hrun, Result.andThen]
  exact hK' _ _ (hK w' r1 r2 r3)

theorem wpList_range (hg : o.guard = none) (m : Operand) (t kt et : TypeId) (hop : o.op = Op.range t m) (ht : P.underlying t = some (.map kt et))
    (b : Nat) (l : List (ByteArray × Value)) (hm : a.eval m = .map (some b)) (h : HasMap w b l)
    (hK : ∀ w', Ranging w' b w.heap.size l l → Kept [] w w' → w'.heap.size = w.heap.size + 1 → wpList P ops Q rest (a.put o.dst (.pointer (some ⟨w.heap.size, 0, none⟩))) w') : wpList P ops Q (o :: rest) a w := by
  refine wpList_plain hg fun K' hK' => ?_
  obtain ⟨w', hrun, r1, r2, r3⟩ := h.range (P := P) ht
  unfold Oper.wp
  simp [execOp, hop, hm, hrun, Result.andThen]
  exact hK' _ _ (hK w' r1 r2 r3)

theorem wpList_next (hg : o.guard = none) (it : Operand) (hop : o.op = Op.next it false) (b r : Nat) (l left : List (ByteArray × Value))
    (hit : a.eval it = .pointer (some ⟨r, 0, none⟩)) (h : Ranging w b r l left)
    (hDone : left = [] → wpList P ops Q rest (a.put o.dst (.tuple #[.bool false])) w)
    (hMore : ∀ (k : ByteArray) (v : Value) (left' : List (ByteArray × Value)) (w' : World), left.Perm ((k, v) :: left') → Ranging w' b r l left' → Kept [r] w w' → w'.heap.size = w.heap.size →
      (Instr.entry (.pointer (some ⟨r, 0, none⟩))).run P w' = .ok (.tuple #[.string k, v]) w' → wpList P ops Q rest (a.put o.dst (.tuple #[.bool true, .string k, v])) w') : wpList P ops Q (o :: rest) a w := by
  refine wpList_plain hg fun K' hK' => ?_
  unfold Oper.wp
  rcases h.next (P := P) o.type with ⟨h0, hrun⟩ | ⟨k, v, left', w', h1, hrun, h2, h3, h4, h5⟩
  · simp [execOp, hop, hit, hrun, Result.andThen]
    exact hK' _ _ (hDone h0)
  · simp [execOp, hop, hit, hrun, Result.andThen]
    exact hK' _ _ (hMore k v left' w' h1 h2 h3 h4 h5)
end

/-- A float stored into a cell (the kit has the other kinds). -/
@[go_sem] theorem run_store_float {P : Program} (w : World) (a : Addr) (m : Mode) (k : FloatKind) (n : Nat) : (store a (.float k n) m).run P w = stored P w a (.float k n) m := run_store P w a _ m rfl

/-! ### the names -/
/-- The three bytes of a name. -/
def nm (p : UInt8) (i : Nat) : ByteArray := ⟨#[p, UInt8.ofNat (48 + i / 10), UInt8.ofNat (48 + i % 10)]⟩

set_option maxRecDepth 100000 in
set_option maxHeartbeats 400000 in
theorem name_any (p : UInt8) (i : Nat) (w : World) (hi : i < 64) :
    Calls Yba.prog 4 #[.int .u8 p.toNat, .int .i64 i] w fun e w' => e = .returned (.string (nm p i)) ∧ Kept [] w w' := by
  have h1 : (i : Int) < 64 := by omega
  have hcv : (convert 44 9 (Value.slice (some ⟨w.heap.size, 0, none⟩) 3 3)).run Yba.prog (w.alloc (.cells #[.int .u8 p.toNat, .int .u8 (48 + (i : Int) / 10), .int .u8 (48 + (i : Int) % 10)] 5)) = .ok (.string (nm p i)) (w.alloc (.cells #[.int .u8 p.toNat, .int .u8 (48 + (i : Int) / 10), .int .u8 (48 + (i : Int) % 10)] 5)) := by
    refine run_convert_bytes_back _ 44 9 5 _ _ [p, UInt8.ofNat (48 + i / 10), UInt8.ofNat (48 + i % 10)] Yba.underlying44 Yba.underlying5 Yba.underlying9 ?_
    intro j hj
    have e1 : (48 + (i : Int) / 10) = ((UInt8.ofNat (48 + i / 10)).toNat : Int) := by rw [UInt8.toNat_ofNat']; omega
    have e2 : (48 + (i : Int) % 10) = ((UInt8.ofNat (48 + i % 10)).toNat : Int) := by rw [UInt8.toNat_ofNat']; omega
    rw [e1, e2]
    match j, hj with
    | 0, _ => exact World.cell?_alloc_mark w _ 5 (0, 0) 0
    | 1, _ => exact World.cell?_alloc_mark w _ 5 (0, 0) 1
    | 2, _ => exact World.cell?_alloc_mark w _ 5 (0, 0) 2
  go_enter Yba.func4, Yba.ntmps4
  go_wp2
  go_ret
  exact ⟨rfl, Kept.alloc _ _⟩

theorem nm_inj {p q : UInt8} {i j : Nat} (hi : i < 64) (hj : j < 64) (h : nm p i = nm q j) : p = q ∧ i = j := by
  have h' := congrArg (fun b : ByteArray => b.data.toList) h
  simp only [nm, List.cons.injEq, and_true] at h'
  obtain ⟨h1, h2, h3⟩ := h'
  have a2 := congrArg UInt8.toNat h2
  have a3 := congrArg UInt8.toNat h3
  simp only [UInt8.toNat_ofNat'] at a2 a3
  exact ⟨h1, by omega⟩

/-! ### same -/
set_option maxRecDepth 100000 in
set_option maxHeartbeats 400000 in
theorem same_self (a : Nat) (w : World) : Calls Yba.prog 6 #[.float .f64 a, .float .f64 a] w fun e w' => e = .returned (.bool true) ∧ w' = w := by
  by_cases h : (FloatKind.f64.format.order a a == some .eq) = true
  · go_enter Yba.func6, Yba.ntmps6
    go_wp2
    go_ret
    exact ⟨rfl, rfl⟩
  · have h1 : (FloatKind.f64.format.order a a == some .eq) = false := by simpa using h
    have h2 : (FloatKind.f64.format.order a a != some .eq) = true := by simp [bne, h1]
    clear h
    go_enter Yba.func6, Yba.ntmps6
    go_wp2
    go_ret
    exact ⟨rfl, rfl⟩
set_option maxRecDepth 100000 in
set_option maxHeartbeats 400000 in
theorem same_nan (a b : Nat) (w : World) (h1 : (FloatKind.f64.format.order a b == some .eq) = false) (h2 : (FloatKind.f64.format.order a a != some .eq) = true) (h3 : (FloatKind.f64.format.order b b != some .eq) = true) :
    Calls Yba.prog 6 #[.float .f64 a, .float .f64 b] w fun e w' => e = .returned (.bool true) ∧ w' = w := by
  go_enter Yba.func6, Yba.ntmps6
  go_wp2
  go_ret
  exact ⟨rfl, rfl⟩
end Go.Proofs.Ybulkjbu
