/-
  Seat b0488aD: the operations of a flow region, one law a kind. Whatever the program.
-/
import Derived.Test.YbulkjbuDoorStore
import Derived.WalkSpells
import Derived.WalkLawsBesides
namespace Go.Proofs.YbulkjbuDoor
open Go Go.RowKit
section
variable {P : Program} {o : Oper} {a : Act} {w : World} {R : Value → World → Prop} {Q : Exit → Act → World → Prop}

theorem flow_move {x : Operand} {v : Value} (ho : o.op = .move x) (hx : a.eval x = v) (hR : R v w) : o.wp P a w (fun a' w'' => ∃ v, a' = a.put o.dst v ∧ R v w'' ∧ Kept [] w w'') Q :=
  flow_value (by simp [execOp, ho, hx]) hR (Kept.refl _ _)
theorem flow_assign {x : Operand} {v : Value} (ho : o.op = .assign x) (hx : a.eval x = v) (hR : R v w) : o.wp P a w (fun a' w'' => ∃ v, a' = a.put o.dst v ∧ R v w'' ∧ Kept [] w w'') Q :=
  flow_value (by simp [execOp, ho, hx]) hR (Kept.refl _ _)
theorem flow_make {t e : TypeId} {x : Operand} {n : Nat} {z : Value} (ho : o.op = .makeSlice t x x) (hx : a.eval x = .int .i64 n)
    (hm : ∀ W, (Instr.makeSlice t (.int .i64 n) (.int .i64 n)).run P W = .ok (.slice (some ⟨W.heap.size, 0, none⟩) n n) (W.alloc (.cells (List.replicate n z).toArray e)))
    (hR : R (.slice (some ⟨w.heap.size, 0, none⟩) n n) (w.alloc (.cells (List.replicate n z).toArray e))) : o.wp P a w (fun a' w'' => ∃ v, a' = a.put o.dst v ∧ R v w'' ∧ Kept [] w w'') Q :=
  flow_value (by simp only [execOp, ho, hx, hm, Sem.run_bind, Result.andThen, Sem.run_pure]) hR (Kept.alloc _ _)
theorem flow_map {t : TypeId} {x : Operand} {n : Int} (ho : o.op = .makeMap t (some x)) (hx : a.eval x = .int .i64 n)
    (hm : ∀ W, (Instr.makeMap t (some (.int .i64 n))).run P W = .ok (.map (some W.heap.size)) (W.alloc (.map #[] 0)))
    (hR : R (.map (some w.heap.size)) (w.alloc (.map #[] 0))) : o.wp P a w (fun a' w'' => ∃ v, a' = a.put o.dst v ∧ R v w'' ∧ Kept [] w w'') Q :=
  flow_value (by simp [execOp, ho, hx, hm, Result.andThen]) hR (Kept.alloc _ _)
theorem flow_field {t : TypeId} {x : Operand} {k b off d : Nat} (ho : o.op = .fieldAddr t x k) (hx : a.eval x = .pointer (some ⟨b, off, none⟩))
    (hf : ∀ W, (Instr.fieldAt t (.pointer (some ⟨b, off, none⟩)) k).run P W = .ok (.pointer (some ⟨b, off + d, none⟩)) W)
    (hR : R (.pointer (some ⟨b, off + d, none⟩)) w) : o.wp P a w (fun a' w'' => ∃ v, a' = a.put o.dst v ∧ R v w'' ∧ Kept [] w w'') Q :=
  flow_value (by simp [execOp, ho, hx, hf, Result.andThen]) hR (Kept.refl _ _)
theorem flow_load {t : TypeId} {x : Operand} {ad : Addr} {v : Value} (ho : o.op = .load t x) (hx : a.eval x = .pointer (some ad))
    (hf : (Instr.loadAt t (.pointer (some ad))).run P w = .ok v w)
    (hR : R v w) : o.wp P a w (fun a' w'' => ∃ v, a' = a.put o.dst v ∧ R v w'' ∧ Kept [] w w'') Q :=
  flow_value (by simp [execOp, ho, hx, hf, Result.andThen]) hR (Kept.refl _ _)
theorem flow_loads {t : TypeId} {x : Operand} {b off : Nat} {old cs : List Value} {t' : TypeId} {d : TypeDesc} (ho : o.op = .load t x) (hx : a.eval x = .pointer (some ⟨b, off, none⟩)) (hr : Row w b old t')
    (hu : P.underlying t = some d) (hd : d.isRow = true) (hi : (P.info? t).map (·.size) = some cs.length) (hcs : (old.drop off).take cs.length = cs)
    (hR : R (.agg cs.toArray) w) : o.wp P a w (fun a' w'' => ∃ v, a' = a.put o.dst v ∧ R v w'' ∧ Kept [] w w'') Q :=
  flow_load ho hx (hr.loads off t cs d hu hd hi hcs) hR
theorem flow_nil {x : Operand} {p : Addr} (ho : o.op = .nilCheck x) (hx : a.eval x = .pointer (some p)) (hR : R (.pointer (some p)) w) : o.wp P a w (fun a' w'' => ∃ v, a' = a.put o.dst v ∧ R v w'' ∧ Kept [] w w'') Q :=
  flow_value (by simp only [execOp, ho, hx, Sem.run_pure]) hR (Kept.refl _ _)
end
end Go.Proofs.YbulkjbuDoor
