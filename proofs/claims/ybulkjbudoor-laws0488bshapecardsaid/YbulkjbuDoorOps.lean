/-
  Seat b0488aD (from the same prover's text for seat b0488a): the laws of a map at the operations; the names; the test 'same'.
-/
import Derived.Test.YbulkjbuDoorProg
import Derived.Test.YbulkjbuDoorRange
import Derived.WalkSpells
import Derived.WalkLawsBesides
namespace Go.Proofs.YbulkjbuDoor
open Go.RowKit

section
variable {P : Program} (w : World) {ops : Array Oper} {rest : List Oper} {o : Oper} {a : Act} {Q : Exit → Act → World → Prop}

theorem wpList_put (hg : o.guard = none) (m x v : Operand) (t kt et : TypeId) (hop : o.op = Op.mapUpdate t m x v) (ht : P.underlying t = some (.map kt et)) (hk : P.underlying kt = some .string)
    (b : Nat) (l : List (ByteArray × Value)) (hm : a.eval m = .map (some b)) (h : HasMap w b l) (k : ByteArray) (val : Value) (hx : a.eval x = .string k) (hv : a.eval v = val) (hfresh : look k l = none)
    (hK : ∀ w', HasMap w' b (l ++ [(k, val)]) → Kept [b] w w' → w'.heap.size = w.heap.size → wpList P ops Q rest (a.put o.dst undef) w') : wpList P ops Q (o :: rest) a w := by
  refine wpList_plain hg fun K' hK' => ?_
  obtain ⟨w', hrun, r1, r2, r3⟩ := h.put ht hk k val hfresh
  unfold Oper.wp
  simp [execOp, hop, hm, hx, hv, hrun, Result.andThen]
  exact hK' _ _ (hK w' r1 r2 r3)

theorem wpList_range (hg : o.guard = none) (m : Operand) (t kt et : TypeId) (hop : o.op = Op.range t m) (ht : P.underlying t = some (.map kt et))
    (b : Nat) (l : List (ByteArray × Value)) (hm : a.eval m = .map (some b)) (h : HasMap w b l)
    (hK : ∀ w', Ranging w' b w.heap.size l l → Kept [] w w' → w'.heap.size = w.heap.size + 1 → wpList P ops Q rest (a.put o.dst (.pointer (some ⟨w.heap.size, 0, none⟩))) w') : wpList P ops Q (o :: rest) a w := by
  refine wpList_plain hg fun K' hK' => ?_
  obtain ⟨w', hrun, r1, r2, r3⟩ := h.range (P := P) ht
  unfold Oper.wp
  simp [execOp, hop, hm, hrun, Result.andThen]
  exact hK' _ _ (hK w' r1 r2 r3)

theorem wpList_next (hg : o.guard = none) (it : Operand) (hop : o.op = Op.next it false) (b r : Nat) (l left : List (ByteArray × Value))
    (hit : a.eval it = .pointer (some ⟨r, 0, none⟩)) (h : Ranging w b r l left)
    (hDone : left = [] → wpList P ops Q rest (a.put o.dst (.tuple #[.bool false])) w)
    (hMore : ∀ (k : ByteArray) (v : Value) (left' : List (ByteArray × Value)) (w' : World), left.Perm ((k, v) :: left') → Ranging w' b r l left' → Kept [r] w w' → w'.heap.size = w.heap.size →
      (Instr.entry (.pointer (some ⟨r, 0, none⟩))).run P w' = .ok (.tuple #[.string k, v]) w' → wpList P ops Q rest (a.put o.dst (.tuple #[.bool true, .string k, v])) w') : wpList P ops Q (o :: rest) a w := by
  refine wpList_plain hg fun K' hK' => ?_
  unfold Oper.wp
  rcases h.next (P := P) o.type with ⟨h0, hrun⟩ | ⟨k, v, left', w', h1, hrun, h2, h3, h4, h5⟩
  · simp [execOp, hop, hit, hrun, Result.andThen]
    exact hK' _ _ (hDone h0)
  · simp [execOp, hop, hit, hrun, Result.andThen]
    exact hK' _ _ (hMore k v left' w' h1 h2 h3 h4 h5)
end

/-- A float stored into a cell (the kit has the other kinds). -/
@[go_sem] theorem run_store_float {P : Program} (w : World) (a : Addr) (m : Mode) (k : FloatKind) (n : Nat) : (store a (.float k n) m).run P w = stored P w a (.float k n) m := run_store P w a _ m rfl

end Go.Proofs.YbulkjbuDoor
