/-
  Seat b0488aD: startPVLV.
-/
import Derived.Test.YbulkjbuDoorLrn
namespace Go.Proofs.YbulkjbuDoor
open Go.RowKit

theorem splice_all (old new : List Value) (h : new.length = old.length) : splice old 0 new = new := by
  unfold splice
  rw [List.drop_eq_nil_of_le (by omega)]; simp
theorem srow_len (y : Nat → Nat) : (srow y).length = 22 := rfl
theorem srow_one (y : Nat → Nat) : (srow y).all (·.oneCell') = true := rfl
theorem lrn_one {A pos neg T gs vs : List Value} {thr : Value} (hg : gs.all (·.oneCell') = true) (hA : A.all (·.oneCell') = true := by rfl) (hp : pos.all (·.oneCell') = true := by rfl) (hn : neg.all (·.oneCell') = true := by rfl) (hT : T.all (·.oneCell') = true := by rfl) (hv : vs.all (·.oneCell') = true := by rfl) (ht : thr.oneCell' = true := by rfl) : (lrn A pos neg T gs vs thr).all (·.oneCell') = true := by
  simp only [lrn, List.all_append, hA, hp, hn, hT, hg, hv, List.all_cons, List.all_nil, ht, Bool.and_true]
theorem run_box73 (cs : List Value) (w : World) : (Instr.box 73 (.agg cs.toArray)).run Ybad.prog w = .ok (.pointer (some ⟨w.heap.size, 0, none⟩)) (w.alloc (.cells cs.toArray 73)) := by
  simp [Instr.box, newVar, Value.cells, newRow]
theorem HasMap.ne_row {w : World} {p b : Nat} {l : List (ByteArray × Value)} {vs : List Value} {t : TypeId} (h : HasMap w p l) (hr : Row w b vs t) : p ≠ b := by
  intro e; subst e
  obtain ⟨es, c, h, _⟩ := h
  unfold Row at hr; rw [h] at hr; simp at hr
theorem Ybad.info169 : (Ybad.prog.info? 169).map (fun i => (i.zero.isSome, decide (i.size ≤ 100), decide (i.bytes ≤ 1000))) = some (true, true, true) := by kernel_rfl
theorem mk_thr (n : Nat) (hn : n ≤ 1000) : ∃ Z : Array Value, ∀ W, (Instr.makeSlice 71 (.int .i64 n) (.int .i64 n)).run Ybad.prog W = .ok (.slice (some ⟨W.heap.size, 0, none⟩) n n) (W.alloc (.cells Z 169)) := by
  have hi : ∃ i z, Ybad.prog.info? 169 = some i ∧ i.zero = some z ∧ i.size ≤ 100 ∧ i.bytes ≤ 1000 := by
    have h := Ybad.info169
    cases hq : Ybad.prog.info? 169 with
    | none => rw [hq] at h; cases h
    | some i =>
      rw [hq] at h
      simp only [Option.map_some, Option.some.injEq, Prod.mk.injEq, decide_eq_true_eq] at h
      obtain ⟨z, hz⟩ := Option.isSome_iff_exists.1 h.1
      exact ⟨i, z, rfl, hz, h.2.1, h.2.2⟩
  obtain ⟨i, z, h1, h2, h3, h4⟩ := hi
  refine ⟨madeCells z.cells (n * i.size), fun W => ?_⟩
  have := run_makeSlice (P := Ybad.prog) W 71 169 i z Ybad.underlying71 h1 h2 .i64 .i64 n n (by omega) (by omega) (by simp only [Int.toNat_natCast]; exact Nat.le_trans (Nat.mul_le_mul hn h3) (by omega)) (by have := Nat.mul_le_mul h4 hn; have e : (i.bytes : Int) * (n : Int) = ((i.bytes * n : Nat) : Int) := (by simp); omega) (by omega)
  simpa using this
/-- A valence's cells. -/
def valc (s0 s1 s2 : ByteArray) (i0 i1 : Int) (x0 x1 x2 x3 x4 : Nat) (pu ad : Option Addr) (n cap nc nx m gz : Nat) (q5 q6 q9 a1 a2 a3 a4 a5 c1 c2 c3 c4 c5 : Option Addr) : List Value := [.string s0, .string s1, .string s2, .int .i64 i0, .int .i64 i1, .float .f64 x0, .float .f64 x1, .float .f64 x2, .float .f64 x3, .float .f64 x4, .slice ad n cap, .map (some m), .slice (some ⟨gz, 0, none⟩) n n, .slice q5 n n, .slice q6 n n, .pointer pu, .slice a1 nc nc, .slice a2 nc nc, .float .f64 9218868437227405312, .slice a3 n n, .slice a4 n n, .slice a5 n n, .pointer pu, .slice c1 (nc + nx) (nc + nx), .slice c2 (nc + nx) (nc + nx), .float .f64 x4, .slice c3 n n, .slice c4 n n, .slice c5 n n, .slice q9 n n]
/-- A list is a valence's cells, its sizes in a row. -/
def IsVal (w : World) (b : Nat) (s0 s1 s2 : ByteArray) (i0 i1 : Int) (x0 x1 x2 x3 x4 : Nat) (pu ad : Option Addr) (n cap nc nx : Nat) (sz : Nat → Nat) (l : List Value) : Prop :=
  ∃ (m gz : Nat) (q5 q6 q9 a1 a2 a3 a4 a5 c1 c2 c3 c4 c5 : Option Addr), l = valc s0 s1 s2 i0 i1 x0 x1 x2 x3 x4 pu ad n cap nc nx m gz q5 q6 q9 a1 a2 a3 a4 a5 c1 c2 c3 c4 c5 ∧ b ≤ gz ∧ Row w gz (mags sz n n) 25
theorem IsVal.keep {w w' : World} {b : Nat} {s0 s1 s2 : ByteArray} {i0 i1 : Int} {x0 x1 x2 x3 x4 : Nat} {pu ad : Option Addr} {n cap nc nx : Nat} {sz : Nat → Nat} {l : List Value} {ws : List Nat} (h : IsVal w b s0 s1 s2 i0 i1 x0 x1 x2 x3 x4 pu ad n cap nc nx sz l) (k : Kept ws w w') (hne : ∀ s ∈ ws, ∀ l, ¬ Row w s l 25) : IsVal w' b s0 s1 s2 i0 i1 x0 x1 x2 x3 x4 pu ad n cap nc nx sz l := by
  obtain ⟨m, gz, q5, q6, q9, a1, a2, a3, a4, a5, c1, c2, c3, c4, c5, h1, h2, h3⟩ := h
  exact ⟨m, gz, q5, q6, q9, a1, a2, a3, a4, a5, c1, c2, c3, c4, c5, h1, h2, h3.keep k (fun hm => hne gz hm _ h3)⟩
theorem IsVal.len {w : World} {b : Nat} {s0 s1 s2 : ByteArray} {i0 i1 : Int} {x0 x1 x2 x3 x4 : Nat} {pu ad : Option Addr} {n cap nc nx : Nat} {sz : Nat → Nat} {l : List Value} (h : IsVal w b s0 s1 s2 i0 i1 x0 x1 x2 x3 x4 pu ad n cap nc nx sz l) : l.length = 30 := by
  obtain ⟨m, gz, q5, q6, q9, a1, a2, a3, a4, a5, c1, c2, c3, c4, c5, rfl, _⟩ := h; rfl
theorem IsVal.one {w : World} {b : Nat} {s0 s1 s2 : ByteArray} {i0 i1 : Int} {x0 x1 x2 x3 x4 : Nat} {pu ad : Option Addr} {n cap nc nx : Nat} {sz : Nat → Nat} {l : List Value} (h : IsVal w b s0 s1 s2 i0 i1 x0 x1 x2 x3 x4 pu ad n cap nc nx sz l) : l.all (·.oneCell') = true := by
  obtain ⟨m, gz, q5, q6, q9, a1, a2, a3, a4, a5, c1, c2, c3, c4, c5, rfl, _⟩ := h; rfl
def sr3 (y : Nat → Nat) (a1 : Option Addr) (nc c1 m1 steps : Nat) (gl : Int) (gu : Option Nat) (seed nx : Nat) (ad : Option Addr) (cap p B C b : Nat) : Nat → Value → World → Prop
  | 0, v, _ => v = .pointer (some ⟨B, 7, none⟩)
  | 1, v, _ => v = .agg #[.int .i64 steps, .int .i64 gl, .map gu]
  | 2, v, _ => v = .pointer (some ⟨C, 0, none⟩)
  | 3, v, _ => v = .agg #[.float .f64 (y 0), .float .f64 (y 1), .float .f64 (y 2), .float .f64 (y 3), .float .f64 (y 4)]
  | 4, v, _ => v = .pointer (some ⟨B, 1, none⟩)
  | 5, v, _ => v = .map (some m1)
  | 6, v, _ => v = .map (some p)
  | 7, v, _ => v = .pointer (some ⟨B, 0, none⟩)
  | 8, v, _ => v = .slice a1 nc c1
  | 9, v, _ => v = .int .i64 nc
  | 10, v, _ => v = .slice ad (nc + nx) cap
  | 11, v, _ => v = .int .i64 ((nc + nx : Nat) : Int)
  | 12, v, _ => ∃ t1 t2 t3 : Option Addr, v = .agg #[.slice t1 (nc + nx) (nc + nx), .slice t2 nc nc, .slice t3 (nc + nx) (nc + nx)]
  | 13, v, _ => v = .pointer (some ⟨C, 18, none⟩)
  | 14, v, _ => v = .agg #[.float .f64 (y 18), .float .f64 (y 19), .float .f64 (y 20), .float .f64 (y 21)]
  | 15, v, _ => v = .pointer (some ⟨B, 10, none⟩)
  | 16, v, _ => v = .int .u64 seed
  | 17, v, _ => ∃ gs : List Value, v = .agg gs.toArray ∧ gs.length = 20 ∧ gs.all (·.oneCell') = true
  | 18, v, _ => ∃ (t1 t2 t3 : Option Addr) (gs : List Value), v = .agg (lrn [.int .i64 steps, .int .i64 gl, .map gu, .float .f64 (y 0), .float .f64 (y 1), .float .f64 (y 2), .float .f64 (y 3), .float .f64 (y 4), .map (some m1), .map (some p)] [.string ⟨#[]⟩, .string ⟨#[]⟩, .string ⟨#[]⟩, .int .i64 0, .int .i64 0, .float .f64 0, .float .f64 0, .float .f64 0, .float .f64 0, .float .f64 0, .slice none 0 0, .map none, .slice none 0 0, .slice none 0 0, .slice none 0 0, .pointer none, .slice none 0 0, .slice none 0 0, .float .f64 0, .slice none 0 0, .slice none 0 0, .slice none 0 0, .pointer none, .slice none 0 0, .slice none 0 0, .float .f64 0, .slice none 0 0, .slice none 0 0, .slice none 0 0, .slice none 0 0] [.string ⟨#[]⟩, .string ⟨#[]⟩, .string ⟨#[]⟩, .int .i64 0, .int .i64 0, .float .f64 0, .float .f64 0, .float .f64 0, .float .f64 0, .float .f64 0, .slice none 0 0, .map none, .slice none 0 0, .slice none 0 0, .slice none 0 0, .pointer none, .slice none 0 0, .slice none 0 0, .float .f64 0, .slice none 0 0, .slice none 0 0, .slice none 0 0, .pointer none, .slice none 0 0, .slice none 0 0, .float .f64 0, .slice none 0 0, .slice none 0 0, .slice none 0 0, .slice none 0 0] [.slice t1 (nc + nx) (nc + nx), .slice t2 nc nc, .slice t3 (nc + nx) (nc + nx), .slice none 0 0, .slice none 0 0, .float .f64 0, .float .f64 0] gs [.float .f64 0, .float .f64 0, .float .f64 0, .slice none 0 0, .slice none 0 0, .int .i64 0, .slice none 0 0, .slice none 0 0, .slice none 0 0, .slice none 0 0, .slice none 0 0] (.slice none 0 0)).toArray ∧ gs.length = 20 ∧ gs.all (·.oneCell') = true
  | 19, v, w => ∃ (L : Nat) (t1 t2 t3 : Option Addr) (gs : List Value), v = .pointer (some ⟨L, 0, none⟩) ∧ b ≤ L ∧ Row w L (lrn [.int .i64 steps, .int .i64 gl, .map gu, .float .f64 (y 0), .float .f64 (y 1), .float .f64 (y 2), .float .f64 (y 3), .float .f64 (y 4), .map (some m1), .map (some p)] [.string ⟨#[]⟩, .string ⟨#[]⟩, .string ⟨#[]⟩, .int .i64 0, .int .i64 0, .float .f64 0, .float .f64 0, .float .f64 0, .float .f64 0, .float .f64 0, .slice none 0 0, .map none, .slice none 0 0, .slice none 0 0, .slice none 0 0, .pointer none, .slice none 0 0, .slice none 0 0, .float .f64 0, .slice none 0 0, .slice none 0 0, .slice none 0 0, .pointer none, .slice none 0 0, .slice none 0 0, .float .f64 0, .slice none 0 0, .slice none 0 0, .slice none 0 0, .slice none 0 0] [.string ⟨#[]⟩, .string ⟨#[]⟩, .string ⟨#[]⟩, .int .i64 0, .int .i64 0, .float .f64 0, .float .f64 0, .float .f64 0, .float .f64 0, .float .f64 0, .slice none 0 0, .map none, .slice none 0 0, .slice none 0 0, .slice none 0 0, .pointer none, .slice none 0 0, .slice none 0 0, .float .f64 0, .slice none 0 0, .slice none 0 0, .slice none 0 0, .pointer none, .slice none 0 0, .slice none 0 0, .float .f64 0, .slice none 0 0, .slice none 0 0, .slice none 0 0, .slice none 0 0] [.slice t1 (nc + nx) (nc + nx), .slice t2 nc nc, .slice t3 (nc + nx) (nc + nx), .slice none 0 0, .slice none 0 0, .float .f64 0, .float .f64 0] gs [.float .f64 0, .float .f64 0, .float .f64 0, .slice none 0 0, .slice none 0 0, .int .i64 0, .slice none 0 0, .slice none 0 0, .slice none 0 0, .slice none 0 0, .slice none 0 0] (.slice none 0 0)) 73 ∧ gs.length = 20 ∧ gs.all (·.oneCell') = true
  | _, _, _ => True
theorem sr3_keep (y : Nat → Nat) (a1 : Option Addr) (nc c1 m1 steps : Nat) (gl : Int) (gu : Option Nat) (seed nx : Nat) (ad : Option Addr) (cap p B C b : Nat) (i : Nat) (v : Value) (w w' : World) (k : Kept [] w w') (h : sr3 y a1 nc c1 m1 steps gl gu seed nx ad cap p B C b i v w) : sr3 y a1 nc c1 m1 steps gl gu seed nx ad cap p B C b i v w' := by
  match i, h with
  | 0, h => exact h
  | 1, h => exact h
  | 2, h => exact h
  | 3, h => exact h
  | 4, h => exact h
  | 5, h => exact h
  | 6, h => exact h
  | 7, h => exact h
  | 8, h => exact h
  | 9, h => exact h
  | 10, h => exact h
  | 11, h => exact h
  | 12, h => exact h
  | 13, h => exact h
  | 14, h => exact h
  | 15, h => exact h
  | 16, h => exact h
  | 17, h => exact h
  | 18, h => exact h
  | 19, h => exact by obtain ⟨L, t1, t2, t3, gs, h1, h2, h3, h4⟩ := h; exact ⟨L, t1, t2, t3, gs, h1, h2, h3.keep k (by simp), h4⟩
  | _ + 20, _ => exact trivial
def sr5 (y : Nat → Nat) (z0 z1 z2 : ByteArray) (zi zj : Int) (k : Nat) (el : Option Addr) (np d : Nat) (a1 : Option Addr) (nc c1 : Nat) (a2 : Option Addr) (nx c2 mu B C L fo : Nat) (sz : Nat → Nat) (b : Nat) : Nat → Value → World → Prop
  | 0, v, _ => v = .pointer (some ⟨L, 0, none⟩)
  | 1, v, _ => v = .agg #[.string z0, .string z1, .string z2, .int .i64 zi, .int .i64 zj]
  | 2, v, _ => v = .pointer (some ⟨C, k, none⟩)
  | 3, v, _ => v = .agg #[.float .f64 (y (k + 0)), .float .f64 (y (k + 1)), .float .f64 (y (k + 2)), .float .f64 (y (k + 3)), .float .f64 (y (k + 4))]
  | 4, v, _ => v = .pointer (some ⟨L, 0, none⟩)
  | 5, v, _ => v = .pointer (some ⟨L, 0, none⟩)
  | 6, v, _ => v = .pointer (some ⟨L, 3, none⟩)
  | 7, v, _ => v = .slice el np d
  | 8, v, _ => v = .pointer (some ⟨B, 5, none⟩)
  | 9, v, _ => v = .map (some mu)
  | 10, v, _ => v = .pointer (some ⟨B, 0, none⟩)
  | 11, v, _ => v = .slice a1 nc c1
  | 12, v, _ => v = .int .i64 nc
  | 13, v, _ => v = .pointer (some ⟨B, 2, none⟩)
  | 14, v, _ => v = .slice a2 nx c2
  | 15, v, _ => v = .int .i64 nx
  | 16, v, w => ∃ l, v = .agg (List.toArray l) ∧ IsVal w b z0 z1 z2 zi zj (y k) (y (k + 1)) (y (k + 2)) (y (k + 3)) (y (k + 4)) (some ⟨L, 3, none⟩) el np d nc nx sz l
  | 17, v, _ => v = .pointer (some ⟨L, 0, none⟩)
  | 18, v, _ => v = .pointer (some ⟨L, fo, none⟩)
  | _, _, _ => True
theorem sr5_keep (y : Nat → Nat) (z0 z1 z2 : ByteArray) (zi zj : Int) (k : Nat) (el : Option Addr) (np d : Nat) (a1 : Option Addr) (nc c1 : Nat) (a2 : Option Addr) (nx c2 mu B C L fo : Nat) (sz : Nat → Nat) (b : Nat) (i : Nat) (v : Value) (w w' : World) (k_ : Kept [] w w') (h : sr5 y z0 z1 z2 zi zj k el np d a1 nc c1 a2 nx c2 mu B C L fo sz b i v w) : sr5 y z0 z1 z2 zi zj k el np d a1 nc c1 a2 nx c2 mu B C L fo sz b i v w' := by
  match i, h with
  | 0, h => exact h
  | 1, h => exact h
  | 2, h => exact h
  | 3, h => exact h
  | 4, h => exact h
  | 5, h => exact h
  | 6, h => exact h
  | 7, h => exact h
  | 8, h => exact h
  | 9, h => exact h
  | 10, h => exact h
  | 11, h => exact h
  | 12, h => exact h
  | 13, h => exact h
  | 14, h => exact h
  | 15, h => exact h
  | 16, h => exact by obtain ⟨l, h1, h2⟩ := h; exact ⟨l, h1, h2.keep k_ (by simp)⟩
  | 17, h => exact h
  | 18, h => exact h
  | _ + 19, _ => exact trivial
def sr8 (y : Nat → Nat) (el : Option Addr) (np d gz steps C L : Nat) : Nat → Value → World → Prop
  | 0, v, _ => v = .pointer (some ⟨L, 0, none⟩)
  | 1, v, _ => v = .pointer (some ⟨C, 15, none⟩)
  | 2, v, _ => v = .agg #[.float .f64 (y 15), .float .f64 (y 16), .float .f64 (y 17)]
  | 3, v, _ => v = .pointer (some ⟨L, 0, none⟩)
  | 4, v, _ => v = .pointer (some ⟨L, 0, none⟩)
  | 5, v, _ => v = .pointer (some ⟨L, 10, none⟩)
  | 6, v, _ => v = .pointer (some ⟨L, 20, none⟩)
  | 7, v, _ => v = .slice el np d
  | 8, v, _ => v = .pointer (some ⟨L, 0, none⟩)
  | 9, v, _ => v = .pointer (some ⟨L, 0, none⟩)
  | 10, v, _ => v = .pointer (some ⟨L, 10, none⟩)
  | 11, v, _ => v = .pointer (some ⟨L, 22, none⟩)
  | 12, v, _ => v = .slice (some ⟨gz, 0, none⟩) np np
  | 13, v, _ => v = .pointer (some ⟨L, 0, none⟩)
  | 14, v, _ => v = .pointer (some ⟨L, 0, none⟩)
  | 15, v, _ => v = .pointer (some ⟨L, 0, none⟩)
  | 16, v, _ => v = .pointer (some ⟨L, 0, none⟩)
  | 17, v, _ => v = .int .i64 steps
  | 18, v, w => ∃ l oc, v = .agg (List.toArray l) ∧ VsCells [.float .f64 (y 15), .float .f64 (y 16), .float .f64 (y 17), .slice el np d, .slice (some ⟨gz, 0, none⟩) np np, .int .i64 steps] oc l ∧ VsTo w l np (np * steps) (y 15) 2
  | 19, v, _ => v = .pointer (some ⟨L, 0, none⟩)
  | 20, v, _ => v = .pointer (some ⟨L, 97, none⟩)
  | _, _, _ => True
theorem sr8_keep (y : Nat → Nat) (el : Option Addr) (np d gz steps C L : Nat) (i : Nat) (v : Value) (w w' : World) (k : Kept [] w w') (h : sr8 y el np d gz steps C L i v w) : sr8 y el np d gz steps C L i v w' := by
  match i, h with
  | 0, h => exact h
  | 1, h => exact h
  | 2, h => exact h
  | 3, h => exact h
  | 4, h => exact h
  | 5, h => exact h
  | 6, h => exact h
  | 7, h => exact h
  | 8, h => exact h
  | 9, h => exact h
  | 10, h => exact h
  | 11, h => exact h
  | 12, h => exact h
  | 13, h => exact h
  | 14, h => exact h
  | 15, h => exact h
  | 16, h => exact h
  | 17, h => exact h
  | 18, h => exact by obtain ⟨l, oc, h1, h2, h3⟩ := h; exact ⟨l, oc, h1, h2, fun j hj => by obtain ⟨g, e1, e2⟩ := h3 j hj; exact ⟨g, e1, e2.keep k (by simp) (by simp)⟩⟩
  | 19, h => exact h
  | 20, h => exact h
  | _ + 21, _ => exact trivial

set_option maxRecDepth 100000 in
set_option maxHeartbeats 8000000 in
theorem start_any (a1 a2 a3 : Option Addr) (nc c1 nx c2 n c3 m1 m2 mu mp steps seed b1 b2 b3 : Nat) (gl : Int) (gu : Option Nat) (lp : List (ByteArray × Value)) (vb : ByteArray → Nat) (fl : Nat → Nat)
    (p0 p1 p2 n0 n1 n2 : ByteArray) (pi pj ni nj : Int) (w : World) (hc : nc + nx ≤ 100) (hn : n ≤ 300) (hst : steps ≤ 30)
    (t1 : Sl w b1 9 a1 nc c1 (strs (nm 99) nc)) (t2 : Sl w b2 9 a2 nx c2 (strs (nm 120) nx)) (t3 : Sl w b3 9 a3 n c3 (strs (nm 117) n)) (k1 : HasMap w m1 (kvs (nm 99) 0 nc)) (ku : HasMap w mu (usl fl n))
    (kp : HasMap w mp lp) (hv : ∀ x, (look x lp = none ∧ vb x = 0) ∨ look x lp = some (.float .f64 (vb x))) (sp : Spec w 0 p0 p1 p2 pi pj) (sn : Spec w 1 n0 n1 n2 ni nj) :
    Calls Ybad.prog 6 #[.agg #[.slice a1 nc c1, .map (some m1), .slice a2 nx c2, .map (some m2), .slice a3 n c3, .map (some mu), .map (some mp), .int .i64 steps, .int .i64 gl, .map gu, .int .u64 seed]] w fun e w' => ∃ (L : Nat) (lc : List (ByteArray × Value)) (p : Nat) (t1 t2 t3 : Option Addr) (gs lpos lneg lvs : List Value) (oc : Value) (e1 : Option Addr) (r1 : Nat) (e2 : Option Addr) (r2 bs gz : Nat) (thr : Option Addr) (bp bn : Nat),
      e = .returned (.iface 37 (.pointer (some ⟨L, 0, none⟩))) ∧ Row w' L (lrn [.int .i64 steps, .int .i64 gl, .map gu, .float .f64 (sval vb 0), .float .f64 (sval vb 1), .float .f64 (sval vb 2), .float .f64 (sval vb 3), .float .f64 (sval vb 4), .map (some m1), .map (some p)] lpos lneg [.slice t1 (nc + nx) (nc + nx), .slice t2 nc nc, .slice t3 (nc + nx) (nc + nx), .slice none 0 0, .slice none 0 0, .float .f64 0, .float .f64 0] gs lvs (.slice thr (picks (below fl) n).length (picks (below fl) n).length)) 73 ∧ IsVal w' bp p0 p1 p2 pi pj (sval vb 5) (sval vb (5 + 1)) (sval vb (5 + 2)) (sval vb (5 + 3)) (sval vb (5 + 4)) (some ⟨L, 3, none⟩) e1 (picks (above fl) n).length r1 nc nx (fun j => absBits (fl (pick (above fl) n j))) lpos ∧
      IsVal w' bn n0 n1 n2 ni nj (sval vb 10) (sval vb (10 + 1)) (sval vb (10 + 2)) (sval vb (10 + 3)) (sval vb (10 + 4)) (some ⟨L, 3, none⟩) e2 (picks (below fl) n).length r2 nc nx (fun j => absBits (fl (pick (below fl) n j))) lneg ∧ gs.length = 20 ∧
      VsCells [.float .f64 (sval vb 15), .float .f64 (sval vb 16), .float .f64 (sval vb 17), .slice e1 (picks (above fl) n).length r1, .slice (some ⟨gz, 0, none⟩) (picks (above fl) n).length (picks (above fl) n).length, .int .i64 steps] oc lvs ∧ VsTo w' lvs (picks (above fl) n).length ((picks (above fl) n).length * steps) (sval vb 15) 2 ∧ Row w' gz (mags (fun j => absBits (fl (pick (above fl) n j))) (picks (above fl) n).length (picks (above fl) n).length) 25 ∧
      Sl w' bs 9 e1 (picks (above fl) n).length r1 (names (above fl) n) ∧ Sl w' bs 9 e2 (picks (below fl) n).length r2 (names (below fl) n) ∧ HasMap w' p (lc ++ kvs (nm 120) nc nx) ∧ lc.Perm (kvs (nm 99) 0 nc) ∧ Kept [] w w' := by
  have hcI : (nc : Int) + (nx : Int) ≤ 100 := by omega
  have hnI : (n : Int) ≤ 300 := by omega
  go_enter Ybad.func6, Ybad.ntmps6
  go_wp2_with fail
  have ka := Kept.alloc w (.cells #[.slice a1 nc c1, .map (some m1), .slice a2 nx c2, .map (some m2), .slice a3 n c3, .map (some mu), .map (some mp), .int .i64 steps, .int .i64 gl, .map gu, .int .u64 seed] 32)
  refine (settings_any mp lp vb _ (kp.keep ka (by simp)) hv).mono ?_
  rw [set_srow]
  rintro e w1 ⟨rfl, k1'⟩
  have hrB : Row w1 w.heap.size [.slice a1 nc c1, .map (some m1), .slice a2 nx c2, .map (some m2), .slice a3 n c3, .map (some mu), .map (some mp), .int .i64 steps, .int .i64 gl, .map gu, .int .u64 seed] 32 := (Row.made w _ 32).keep k1' (by simp)
  have kw1 := ka.trans k1' (by simp)
  have HRB : Hid (Row w1 w.heap.size [.slice a1 nc c1, .map (some m1), .slice a2 nx c2, .map (some m2), .slice a3 n c3, .map (some mu), .map (some mp), .int .i64 steps, .int .i64 gl, .map gu, .int .u64 seed] 32) := hrB
  have HK1 : Hid (Kept [] w w1) := kw1
  have hBl := hrB.lt
  have HT1 : Hid (Sl w b1 9 a1 nc c1 (strs (nm 99) nc)) := t1
  have HT2 : Hid (Sl w b2 9 a2 nx c2 (strs (nm 120) nx)) := t2
  have HT3 : Hid (Sl w b3 9 a3 n c3 (strs (nm 117) n)) := t3
  have HM1 : Hid (HasMap w m1 (kvs (nm 99) 0 nc)) := k1
  have HMU : Hid (HasMap w mu (usl fl n)) := ku
  have HSP : Hid (Spec w 0 p0 p1 p2 pi pj) := sp
  have HSN : Hid (Spec w 1 n0 n1 n2 ni nj) := sn
  clear ka k1' kw1 hrB t1 t2 t3 k1 ku kp hv sp sn
  have hlen := srow_len (sval vb)
  have hone := srow_one (sval vb)
  obtain ⟨y, hy⟩ : ∃ y, y = sval vb := ⟨_, rfl⟩
  rw [← hy] at hlen hone ⊢
  have HY : Hid (y = sval vb) := hy
  clear hy
  generalize hsr : srow y = sr at *
  have HSR : Hid (srow y = sr) := hsr
  clear hsr
  have hi80 : (Ybad.prog.info? 80).map (·.size) = some sr.length := by rw [hlen]; kernel_rfl
  go_wp2_with (first | (refine wpList_stores rfl 80 _ _ rfl w1.heap.size 0 sr rfl rfl (Row.made w1 _ 80) hi80 (by simp [hlen]) hone ?_; intro w2 h2 k2 s2; have hrB2 := (HRB.out.keep (Kept.alloc w1 _) (by simp)).keep k2 (by simp; omega)) | (refine wpList_loads rfl 32 _ rfl w.heap.size 0 [.slice a1 nc c1, .map (some m1), .slice a2 nx c2, .map (some m2), .slice a3 n c3, .map (some mu), .map (some mp), .int .i64 steps, .int .i64 gl, .map gu, .int .u64 seed] _ rfl hrB2 Ybad.underlying32 rfl (by kernel_rfl) rfl ?_))
  have hrC2 : Row w2 w1.heap.size sr 80 := by rw [splice_all _ _ (by simp [hlen])] at h2; exact h2
  have kw2 : Kept [] w w2 := (HK1.out.trans (Kept.alloc w1 _) (by simp)).trans k2 (by have := HK1.out.size; simp; omega)
  refine (cac_any (nm 99) (nm 120) a1 a2 a3 nc nx n c1 c2 c3 b1 b2 m1 m2 mu mp (kvs (nm 99) 0 nc) steps gl seed gu w2 (by omega) (by omega) (HT1.out.keep kw2 (by simp)) (HT2.out.keep kw2 (by simp)) (HM1.out.keep kw2 (by simp)) (kvs_nodup _ _ _ (fun i j _ _ e => (nm_inj e).2)) (fun i _ => kvs_fresh _ _ _ _ (fun j _ e => by have := (nm_inj e).1; cases this)) (fun i j _ _ e => (nm_inj e).2)).mono ?_
  rintro e w3 ⟨ad, cap, p, lc, rfl, hsl3, hmp3, hperm, hp3, hadp, k3⟩
  have kw3 : Kept [] w w3 := kw2.trans k3 (by simp)
  have HRB3 : Hid (Row w3 w.heap.size [.slice a1 nc c1, .map (some m1), .slice a2 nx c2, .map (some m2), .slice a3 n c3, .map (some mu), .map (some mp), .int .i64 steps, .int .i64 gl, .map gu, .int .u64 seed] 32) := hrB2.keep k3 (by simp)
  have HRC3 : Hid (Row w3 w1.heap.size (srow y) 80) := by rw [HSR.out]; exact hrC2.keep k3 (by simp)
  have HK3 : Hid (Kept [] w w3) := kw3
  have HROW : Hid (HasMap w3 p (lc ++ kvs (nm 120) nc nx) ∧ lc.Perm (kvs (nm 99) 0 nc)) := ⟨hmp3, hperm⟩
  have HC : Hid (w.heap.size < w1.heap.size) := hBl
  clear hsl3 hmp3 hperm hp3 hadp k3 kw3 kw2 hrC2 hrB2 h2 k2 s2 HRB hi80 hone hlen
  go_wp2_with fail
  obtain ⟨C, hC⟩ : ∃ C, C = w1.heap.size := ⟨_, rfl⟩
  obtain ⟨B, hB⟩ : ∃ B, B = w.heap.size := ⟨_, rfl⟩
  rw [← hC] at HRC3 HC ⊢
  rw [← hB] at HRB3 HC ⊢
  have HBB : Hid (B = w.heap.size) := hB
  clear hC hB hBl
  refine region_moves 20 (sr3 y a1 nc c1 m1 steps gl gu seed nx ad cap p B C w3.heap.size) (fun vs => ⟨List.toArray (Value.agg #[.slice a1 nc c1, .map (some m1), .slice a2 nx c2, .map (some m2), .slice a3 n c3, .map (some mu), .map (some mp), .int .i64 steps, .int .i64 gl, .map gu, .int .u64 seed] :: .pointer (some ⟨B, 0, none⟩) :: .nilIface :: .pointer (some ⟨C, 0, none⟩) :: .slice ad (nc + nx) cap :: .map (some p) :: vs 19 :: undef :: undef :: .pointer (some ⟨B, 6, none⟩) :: .map (some mp) :: .agg sr.toArray :: .tuple #[.slice ad (nc + nx) cap, .map (some p)] :: .agg #[.slice a1 nc c1, .map (some m1), .slice a2 nx c2, .map (some m2), .slice a3 n c3, .map (some mu), .map (some mp), .int .i64 steps, .int .i64 gl, .map gu, .int .u64 seed] :: .tuple #[.slice ad (nc + nx) cap, .map (some p)] :: .slice ad (nc + nx) cap :: .map (some p) :: vs 0 :: vs 1 :: vs 2 :: vs 3 :: vs 4 :: vs 5 :: vs 6 :: vs 7 :: vs 8 :: vs 9 :: vs 10 :: vs 11 :: vs 12 :: vs 13 :: vs 14 :: vs 15 :: vs 16 :: vs 17 :: vs 18 :: vs 19 :: undef :: undef :: undef :: undef :: undef :: undef :: undef :: undef :: undef :: undef :: undef :: undef :: undef :: undef :: undef :: undef :: undef :: undef :: undef :: undef :: undef :: undef :: undef :: undef :: undef :: undef :: undef :: undef :: undef :: undef :: undef :: undef :: undef :: undef :: undef :: undef :: undef :: undef :: undef :: undef :: undef :: undef :: undef :: undef :: undef :: undef :: undef :: undef :: undef :: undef :: undef :: undef :: undef :: undef :: undef :: undef :: undef :: undef :: undef :: undef :: undef :: undef :: undef :: undef :: undef :: undef :: undef :: undef :: undef :: undef :: undef :: undef :: []), []⟩) (.tmp 36) 6 (by kernel_rfl) (by kernel_rfl) (by kernel_rfl) (by kernel_rfl) (fun vs => by kernel_rfl) (sr3_keep y a1 nc c1 m1 steps gl gu seed nx ad cap p B C w3.heap.size) ?_ ?_
  · intro i hi o ho a w' hoth hdep hk
    have s1 : a.eval (.tmp 1) = .pointer (some ⟨B, 0, none⟩) := hoth 1 (by kernel_rfl)
    have s3 : a.eval (.tmp 3) = .pointer (some ⟨C, 0, none⟩) := hoth 3 (by kernel_rfl)
    have s4 : a.eval (.tmp 4) = .slice ad (nc + nx) cap := hoth 4 (by kernel_rfl)
    have s5 : a.eval (.tmp 5) = .map (some p) := hoth 5 (by kernel_rfl)
    have hrB := HRB3.out.keep hk (by simp)
    have hrC := HRC3.out.keep hk (by simp)
    have hsz : w3.heap.size ≤ w'.heap.size := hk.size
    have evf : ∀ f, a.eval (.func f) = .func (.func f) #[] #[] := fun _ => rfl
    clear HRB3 HRC3 HK3 HROW HT1 HT2 HT3 HM1 HMU HSP HSN
    generalize w3.heap.size = b at *
    match i, hi with
    | 0, _ =>
      simp only [List.getElem?_toArray, List.getElem?_cons_zero, Option.some.injEq] at ho
      subst ho
      refine flow_value ?_ rfl (Kept.refl _ _)
      generalize a.eval = ev at *
      simp [execOp, s1, go_sem]
    | 1, _ =>
      simp only [List.getElem?_toArray, List.getElem?_cons_succ, List.getElem?_cons_zero, Option.some.injEq] at ho
      subst ho
      have d0 : (a.eval (.tmp 17)) = .pointer (some ⟨B, 7, none⟩) := hdep ⟨0, .data⟩ (by simp)
      exact flow_loads (cs := [.int .i64 steps, .int .i64 gl, .map gu]) rfl d0 hrB Ybad.underlying30 rfl (by kernel_rfl) rfl rfl
    | 2, _ =>
      simp only [List.getElem?_toArray, List.getElem?_cons_succ, List.getElem?_cons_zero, Option.some.injEq] at ho
      subst ho
      refine flow_value ?_ rfl (Kept.refl _ _)
      generalize a.eval = ev at *
      simp [execOp, s3, go_sem]
    | 3, _ =>
      simp only [List.getElem?_toArray, List.getElem?_cons_succ, List.getElem?_cons_zero, Option.some.injEq] at ho
      subst ho
      have d2 : (a.eval (.tmp 19)) = .pointer (some ⟨C, 0, none⟩) := hdep ⟨2, .data⟩ (by simp)
      exact flow_loads (cs := [.float .f64 (y 0), .float .f64 (y 1), .float .f64 (y 2), .float .f64 (y 3), .float .f64 (y 4)]) rfl d2 hrC Ybad.underlying55 rfl (by kernel_rfl) rfl rfl
    | 4, _ =>
      simp only [List.getElem?_toArray, List.getElem?_cons_succ, List.getElem?_cons_zero, Option.some.injEq] at ho
      subst ho
      refine flow_value ?_ rfl (Kept.refl _ _)
      generalize a.eval = ev at *
      simp [execOp, s1, go_sem]
    | 5, _ =>
      simp only [List.getElem?_toArray, List.getElem?_cons_succ, List.getElem?_cons_zero, Option.some.injEq] at ho
      subst ho
      have d4 : (a.eval (.tmp 21)) = .pointer (some ⟨B, 1, none⟩) := hdep ⟨4, .data⟩ (by simp)
      refine flow_value ?_ rfl (Kept.refl _ _)
      have cc := hrB.cell 1 rfl
      generalize a.eval = ev at *
      simp [execOp, d4, cc, go_sem]
    | 6, _ =>
      simp only [List.getElem?_toArray, List.getElem?_cons_succ, List.getElem?_cons_zero, Option.some.injEq] at ho
      subst ho
      exact flow_move rfl s5 rfl
    | 7, _ =>
      simp only [List.getElem?_toArray, List.getElem?_cons_succ, List.getElem?_cons_zero, Option.some.injEq] at ho
      subst ho
      refine flow_value ?_ rfl (Kept.refl _ _)
      generalize a.eval = ev at *
      simp [execOp, s1, go_sem]
    | 8, _ =>
      simp only [List.getElem?_toArray, List.getElem?_cons_succ, List.getElem?_cons_zero, Option.some.injEq] at ho
      subst ho
      have d7 : (a.eval (.tmp 24)) = .pointer (some ⟨B, 0, none⟩) := hdep ⟨7, .data⟩ (by simp)
      refine flow_value ?_ rfl (Kept.refl _ _)
      have cc := hrB.cell 0 rfl
      generalize a.eval = ev at *
      simp [execOp, d7, cc, go_sem]
    | 9, _ =>
      simp only [List.getElem?_toArray, List.getElem?_cons_succ, List.getElem?_cons_zero, Option.some.injEq] at ho
      subst ho
      have d8 : (a.eval (.tmp 25)) = .slice a1 nc c1 := hdep ⟨8, .data⟩ (by simp)
      exact flow_len rfl d8 rfl
    | 10, _ =>
      simp only [List.getElem?_toArray, List.getElem?_cons_succ, List.getElem?_cons_zero, Option.some.injEq] at ho
      subst ho
      exact flow_move rfl s4 rfl
    | 11, _ =>
      simp only [List.getElem?_toArray, List.getElem?_cons_succ, List.getElem?_cons_zero, Option.some.injEq] at ho
      subst ho
      have d10 : (a.eval (.tmp 27)) = .slice ad (nc + nx) cap := hdep ⟨10, .data⟩ (by simp)
      exact flow_len rfl d10 rfl
    | 12, _ =>
      simp only [List.getElem?_toArray, List.getElem?_cons_succ, List.getElem?_cons_zero, Option.some.injEq] at ho
      subst ho
      have d9 : (a.eval (.tmp 26)) = .int .i64 nc := hdep ⟨9, .data⟩ (by simp)
      have d11 : (a.eval (.tmp 28)) = .int .i64 ((nc + nx : Nat) : Int) := hdep ⟨11, .data⟩ (by simp)
      exact flow_call (f := 13) (args := #[.int .i64 nc, .int .i64 ((nc + nx : Nat) : Int)]) (by generalize a.eval = ev at *; simp [execOp, d9, d11, evf, go_sem]) ((traces_any nc (nc + nx) w' (by omega) (by omega)).mono (by rintro e w2 ⟨t1, t2, t3, rfl, k2⟩; exact ⟨_, rfl, ⟨_, _, _, rfl⟩, k2⟩))
    | 13, _ =>
      simp only [List.getElem?_toArray, List.getElem?_cons_succ, List.getElem?_cons_zero, Option.some.injEq] at ho
      subst ho
      refine flow_value ?_ rfl (Kept.refl _ _)
      generalize a.eval = ev at *
      simp [execOp, s3, go_sem]
    | 14, _ =>
      simp only [List.getElem?_toArray, List.getElem?_cons_succ, List.getElem?_cons_zero, Option.some.injEq] at ho
      subst ho
      have d13 : (a.eval (.tmp 30)) = .pointer (some ⟨C, 18, none⟩) := hdep ⟨13, .data⟩ (by simp)
      exact flow_loads (cs := [.float .f64 (y 18), .float .f64 (y 19), .float .f64 (y 20), .float .f64 (y 21)]) rfl d13 hrC Ybad.underlying60 rfl (by kernel_rfl) rfl rfl
    | 15, _ =>
      simp only [List.getElem?_toArray, List.getElem?_cons_succ, List.getElem?_cons_zero, Option.some.injEq] at ho
      subst ho
      refine flow_value ?_ rfl (Kept.refl _ _)
      generalize a.eval = ev at *
      simp [execOp, s1, go_sem]
    | 16, _ =>
      simp only [List.getElem?_toArray, List.getElem?_cons_succ, List.getElem?_cons_zero, Option.some.injEq] at ho
      subst ho
      have d15 : (a.eval (.tmp 32)) = .pointer (some ⟨B, 10, none⟩) := hdep ⟨15, .data⟩ (by simp)
      refine flow_value ?_ rfl (Kept.refl _ _)
      have cc := hrB.cell 10 rfl
      generalize a.eval = ev at *
      simp [execOp, d15, cc, go_sem]
    | 17, _ =>
      simp only [List.getElem?_toArray, List.getElem?_cons_succ, List.getElem?_cons_zero, Option.some.injEq] at ho
      subst ho
      have d14 : (a.eval (.tmp 31)) = .agg #[.float .f64 (y 18), .float .f64 (y 19), .float .f64 (y 20), .float .f64 (y 21)] := hdep ⟨14, .data⟩ (by simp)
      have d16 : (a.eval (.tmp 33)) = .int .u64 seed := hdep ⟨16, .data⟩ (by simp)
      exact flow_call (f := 14) (args := #[.agg #[.float .f64 (y 18), .float .f64 (y 19), .float .f64 (y 20), .float .f64 (y 21)], .int .u64 seed]) (by generalize a.eval = ev at *; simp [execOp, d14, d16, evf, go_sem]) ((goal_any (y 18) (y 19) (y 20) (y 21) seed w').mono (by rintro e w2 ⟨cs, rfl, h1, h2, k2⟩; exact ⟨_, rfl, ⟨_, rfl, h1, h2⟩, k2⟩))
    | 18, _ =>
      simp only [List.getElem?_toArray, List.getElem?_cons_succ, List.getElem?_cons_zero, Option.some.injEq] at ho
      subst ho
      have d1 : (a.eval (.tmp 18)) = .agg #[.int .i64 steps, .int .i64 gl, .map gu] := hdep ⟨1, .data⟩ (by simp)
      have d3 : (a.eval (.tmp 20)) = .agg #[.float .f64 (y 0), .float .f64 (y 1), .float .f64 (y 2), .float .f64 (y 3), .float .f64 (y 4)] := hdep ⟨3, .data⟩ (by simp)
      have d5 : (a.eval (.tmp 22)) = .map (some m1) := hdep ⟨5, .data⟩ (by simp)
      have d6 : (a.eval (.tmp 23)) = .map (some p) := hdep ⟨6, .data⟩ (by simp)
      have d12 : ∃ t1 t2 t3 : Option Addr, (a.eval (.tmp 29)) = .agg #[.slice t1 (nc + nx) (nc + nx), .slice t2 nc nc, .slice t3 (nc + nx) (nc + nx)] := hdep ⟨12, .data⟩ (by simp)
      have d17 : ∃ gs : List Value, (a.eval (.tmp 34)) = .agg gs.toArray ∧ gs.length = 20 ∧ gs.all (·.oneCell') = true := hdep ⟨17, .data⟩ (by simp)
      obtain ⟨t1, t2, t3, d12⟩ := d12
      obtain ⟨gs, d17, hl, ho'⟩ := d17
      obtain ⟨g0, g1, g2, g3, g4, g5, g6, g7, g8, g9, g10, g11, g12, g13, g14, g15, g16, g17, g18, g19, rfl⟩ := list20 gs hl
      refine flow_build (vals := [(0, .agg #[.int .i64 steps, .int .i64 gl, .map gu]), (1, .agg #[.float .f64 (y 0), .float .f64 (y 1), .float .f64 (y 2), .float .f64 (y 3), .float .f64 (y 4)]), (2, .map (some m1)), (3, .map (some p)), (6, .agg #[.slice t1 (nc + nx) (nc + nx), .slice t2 nc nc, .slice t3 (nc + nx) (nc + nx)]), (11, .agg #[g0, g1, g2, g3, g4, g5, g6, g7, g8, g9, g10, g11, g12, g13, g14, g15, g16, g17, g18, g19])]) rfl ?_ (by kernel_rfl) ⟨t1, t2, t3, _, rfl, hl, ho'⟩
      show [(0, a.eval (.tmp 18)), (1, a.eval (.tmp 20)), (2, a.eval (.tmp 22)), (3, a.eval (.tmp 23)), (6, a.eval (.tmp 29)), (11, a.eval (.tmp 34))] = _
      rw [d1, d3, d5, d6, d12, d17]
    | 19, _ =>
      simp only [List.getElem?_toArray, List.getElem?_cons_succ, List.getElem?_cons_zero, Option.some.injEq] at ho
      subst ho
      have d18 : ∃ (t1 t2 t3 : Option Addr) (gs : List Value), (a.eval (.tmp 35)) = .agg (lrn [.int .i64 steps, .int .i64 gl, .map gu, .float .f64 (y 0), .float .f64 (y 1), .float .f64 (y 2), .float .f64 (y 3), .float .f64 (y 4), .map (some m1), .map (some p)] [.string ⟨#[]⟩, .string ⟨#[]⟩, .string ⟨#[]⟩, .int .i64 0, .int .i64 0, .float .f64 0, .float .f64 0, .float .f64 0, .float .f64 0, .float .f64 0, .slice none 0 0, .map none, .slice none 0 0, .slice none 0 0, .slice none 0 0, .pointer none, .slice none 0 0, .slice none 0 0, .float .f64 0, .slice none 0 0, .slice none 0 0, .slice none 0 0, .pointer none, .slice none 0 0, .slice none 0 0, .float .f64 0, .slice none 0 0, .slice none 0 0, .slice none 0 0, .slice none 0 0] [.string ⟨#[]⟩, .string ⟨#[]⟩, .string ⟨#[]⟩, .int .i64 0, .int .i64 0, .float .f64 0, .float .f64 0, .float .f64 0, .float .f64 0, .float .f64 0, .slice none 0 0, .map none, .slice none 0 0, .slice none 0 0, .slice none 0 0, .pointer none, .slice none 0 0, .slice none 0 0, .float .f64 0, .slice none 0 0, .slice none 0 0, .slice none 0 0, .pointer none, .slice none 0 0, .slice none 0 0, .float .f64 0, .slice none 0 0, .slice none 0 0, .slice none 0 0, .slice none 0 0] [.slice t1 (nc + nx) (nc + nx), .slice t2 nc nc, .slice t3 (nc + nx) (nc + nx), .slice none 0 0, .slice none 0 0, .float .f64 0, .float .f64 0] gs [.float .f64 0, .float .f64 0, .float .f64 0, .slice none 0 0, .slice none 0 0, .int .i64 0, .slice none 0 0, .slice none 0 0, .slice none 0 0, .slice none 0 0, .slice none 0 0] (.slice none 0 0)).toArray ∧ gs.length = 20 ∧ gs.all (·.oneCell') = true := hdep ⟨18, .data⟩ (by simp)
      obtain ⟨t1, t2, t3, gs, d18, hl, ho'⟩ := d18
      refine flow_value (v := .pointer (some ⟨w'.heap.size, 0, none⟩)) (w' := w'.alloc (.cells (lrn [.int .i64 steps, .int .i64 gl, .map gu, .float .f64 (y 0), .float .f64 (y 1), .float .f64 (y 2), .float .f64 (y 3), .float .f64 (y 4), .map (some m1), .map (some p)] [.string ⟨#[]⟩, .string ⟨#[]⟩, .string ⟨#[]⟩, .int .i64 0, .int .i64 0, .float .f64 0, .float .f64 0, .float .f64 0, .float .f64 0, .float .f64 0, .slice none 0 0, .map none, .slice none 0 0, .slice none 0 0, .slice none 0 0, .pointer none, .slice none 0 0, .slice none 0 0, .float .f64 0, .slice none 0 0, .slice none 0 0, .slice none 0 0, .pointer none, .slice none 0 0, .slice none 0 0, .float .f64 0, .slice none 0 0, .slice none 0 0, .slice none 0 0, .slice none 0 0] [.string ⟨#[]⟩, .string ⟨#[]⟩, .string ⟨#[]⟩, .int .i64 0, .int .i64 0, .float .f64 0, .float .f64 0, .float .f64 0, .float .f64 0, .float .f64 0, .slice none 0 0, .map none, .slice none 0 0, .slice none 0 0, .slice none 0 0, .pointer none, .slice none 0 0, .slice none 0 0, .float .f64 0, .slice none 0 0, .slice none 0 0, .slice none 0 0, .pointer none, .slice none 0 0, .slice none 0 0, .float .f64 0, .slice none 0 0, .slice none 0 0, .slice none 0 0, .slice none 0 0] [.slice t1 (nc + nx) (nc + nx), .slice t2 nc nc, .slice t3 (nc + nx) (nc + nx), .slice none 0 0, .slice none 0 0, .float .f64 0, .float .f64 0] gs [.float .f64 0, .float .f64 0, .float .f64 0, .slice none 0 0, .slice none 0 0, .int .i64 0, .slice none 0 0, .slice none 0 0, .slice none 0 0, .slice none 0 0, .slice none 0 0] (.slice none 0 0)).toArray 73)) ?_ ⟨w'.heap.size, t1, t2, t3, gs, rfl, hsz, Row.made _ _ _, hl, ho'⟩ (Kept.alloc _ _)
      have hbx := run_box73 (lrn [.int .i64 steps, .int .i64 gl, .map gu, .float .f64 (y 0), .float .f64 (y 1), .float .f64 (y 2), .float .f64 (y 3), .float .f64 (y 4), .map (some m1), .map (some p)] [.string ⟨#[]⟩, .string ⟨#[]⟩, .string ⟨#[]⟩, .int .i64 0, .int .i64 0, .float .f64 0, .float .f64 0, .float .f64 0, .float .f64 0, .float .f64 0, .slice none 0 0, .map none, .slice none 0 0, .slice none 0 0, .slice none 0 0, .pointer none, .slice none 0 0, .slice none 0 0, .float .f64 0, .slice none 0 0, .slice none 0 0, .slice none 0 0, .pointer none, .slice none 0 0, .slice none 0 0, .float .f64 0, .slice none 0 0, .slice none 0 0, .slice none 0 0, .slice none 0 0] [.string ⟨#[]⟩, .string ⟨#[]⟩, .string ⟨#[]⟩, .int .i64 0, .int .i64 0, .float .f64 0, .float .f64 0, .float .f64 0, .float .f64 0, .float .f64 0, .slice none 0 0, .map none, .slice none 0 0, .slice none 0 0, .slice none 0 0, .pointer none, .slice none 0 0, .slice none 0 0, .float .f64 0, .slice none 0 0, .slice none 0 0, .slice none 0 0, .pointer none, .slice none 0 0, .slice none 0 0, .float .f64 0, .slice none 0 0, .slice none 0 0, .slice none 0 0, .slice none 0 0] [.slice t1 (nc + nx) (nc + nx), .slice t2 nc nc, .slice t3 (nc + nx) (nc + nx), .slice none 0 0, .slice none 0 0, .float .f64 0, .float .f64 0] gs [.float .f64 0, .float .f64 0, .float .f64 0, .slice none 0 0, .slice none 0 0, .int .i64 0, .slice none 0 0, .slice none 0 0, .slice none 0 0, .slice none 0 0, .slice none 0 0] (.slice none 0 0)) w'
      generalize a.eval = ev at *
      simp only [execOp, d18, hbx, Sem.run_bind, Result.andThen, Sem.run_pure]
    | _ + 20, h => exact absurd h (by omega)
  · intro va W3 hR hk
    obtain ⟨L, t1, t2, t3, gs, e19, hbL, hrL, hgl, hgo⟩ := (show ∃ (L : Nat) (t1 t2 t3 : Option Addr) (gs : List Value), va 19 = .pointer (some ⟨L, 0, none⟩) ∧ w3.heap.size ≤ L ∧ Row W3 L (lrn [.int .i64 steps, .int .i64 gl, .map gu, .float .f64 (y 0), .float .f64 (y 1), .float .f64 (y 2), .float .f64 (y 3), .float .f64 (y 4), .map (some m1), .map (some p)] [.string ⟨#[]⟩, .string ⟨#[]⟩, .string ⟨#[]⟩, .int .i64 0, .int .i64 0, .float .f64 0, .float .f64 0, .float .f64 0, .float .f64 0, .float .f64 0, .slice none 0 0, .map none, .slice none 0 0, .slice none 0 0, .slice none 0 0, .pointer none, .slice none 0 0, .slice none 0 0, .float .f64 0, .slice none 0 0, .slice none 0 0, .slice none 0 0, .pointer none, .slice none 0 0, .slice none 0 0, .float .f64 0, .slice none 0 0, .slice none 0 0, .slice none 0 0, .slice none 0 0] [.string ⟨#[]⟩, .string ⟨#[]⟩, .string ⟨#[]⟩, .int .i64 0, .int .i64 0, .float .f64 0, .float .f64 0, .float .f64 0, .float .f64 0, .float .f64 0, .slice none 0 0, .map none, .slice none 0 0, .slice none 0 0, .slice none 0 0, .pointer none, .slice none 0 0, .slice none 0 0, .float .f64 0, .slice none 0 0, .slice none 0 0, .slice none 0 0, .pointer none, .slice none 0 0, .slice none 0 0, .float .f64 0, .slice none 0 0, .slice none 0 0, .slice none 0 0, .slice none 0 0] [.slice t1 (nc + nx) (nc + nx), .slice t2 nc nc, .slice t3 (nc + nx) (nc + nx), .slice none 0 0, .slice none 0 0, .float .f64 0, .float .f64 0] gs [.float .f64 0, .float .f64 0, .float .f64 0, .slice none 0 0, .slice none 0 0, .int .i64 0, .slice none 0 0, .slice none 0 0, .slice none 0 0, .slice none 0 0, .slice none 0 0] (.slice none 0 0)) 73 ∧ gs.length = 20 ∧ gs.all (·.oneCell') = true from hR 19 (by omega))
    clear hR
    rename_i Q' K hK
    refine hK _ _ ?_
    rw [e19]
    have hbl : B < w3.heap.size := HRB3.out.lt
    have hcl : C < w3.heap.size := HRC3.out.lt
    have kW3 := HK3.out.trans hk (by simp)
    have hrB4 := HRB3.out.keep hk (by simp)
    have HRB4 : Hid (Row W3 B [.slice a1 nc c1, .map (some m1), .slice a2 nx c2, .map (some m2), .slice a3 n c3, .map (some mu), .map (some mp), .int .i64 steps, .int .i64 gl, .map gu, .int .u64 seed] 32) := hrB4
    have HRC4 : Hid (Row W3 C (srow y) 80) := HRC3.out.keep hk (by simp)
    have HK4 : Hid (Kept [] w W3) := kW3
    have HROW4 : Hid (HasMap W3 p (lc ++ kvs (nm 120) nc nx) ∧ lc.Perm (kvs (nm 99) 0 nc)) := ⟨HROW.out.1.keep hk (by simp), HROW.out.2⟩
    have HL4 : Hid (Row W3 L (lrn [.int .i64 steps, .int .i64 gl, .map gu, .float .f64 (y 0), .float .f64 (y 1), .float .f64 (y 2), .float .f64 (y 3), .float .f64 (y 4), .map (some m1), .map (some p)] [.string ⟨#[]⟩, .string ⟨#[]⟩, .string ⟨#[]⟩, .int .i64 0, .int .i64 0, .float .f64 0, .float .f64 0, .float .f64 0, .float .f64 0, .float .f64 0, .slice none 0 0, .map none, .slice none 0 0, .slice none 0 0, .slice none 0 0, .pointer none, .slice none 0 0, .slice none 0 0, .float .f64 0, .slice none 0 0, .slice none 0 0, .slice none 0 0, .pointer none, .slice none 0 0, .slice none 0 0, .float .f64 0, .slice none 0 0, .slice none 0 0, .slice none 0 0, .slice none 0 0] [.string ⟨#[]⟩, .string ⟨#[]⟩, .string ⟨#[]⟩, .int .i64 0, .int .i64 0, .float .f64 0, .float .f64 0, .float .f64 0, .float .f64 0, .float .f64 0, .slice none 0 0, .map none, .slice none 0 0, .slice none 0 0, .slice none 0 0, .pointer none, .slice none 0 0, .slice none 0 0, .float .f64 0, .slice none 0 0, .slice none 0 0, .slice none 0 0, .pointer none, .slice none 0 0, .slice none 0 0, .float .f64 0, .slice none 0 0, .slice none 0 0, .slice none 0 0, .slice none 0 0] [.slice t1 (nc + nx) (nc + nx), .slice t2 nc nc, .slice t3 (nc + nx) (nc + nx), .slice none 0 0, .slice none 0 0, .float .f64 0, .float .f64 0] gs [.float .f64 0, .float .f64 0, .float .f64 0, .slice none 0 0, .slice none 0 0, .int .i64 0, .slice none 0 0, .slice none 0 0, .slice none 0 0, .slice none 0 0, .slice none 0 0] (.slice none 0 0)) 73) := hrL
    have HLB : Hid (B < L ∧ C < L ∧ w.heap.size ≤ B ∧ w.heap.size ≤ C) := ⟨by omega, by omega, by have := HBB.out; omega, by have := HBB.out; have := HC.out; omega⟩
    have HGS : Hid (gs.length = 20 ∧ gs.all (·.oneCell') = true) := ⟨hgl, hgo⟩
    clear hrL hgl hgo hbL kW3 hk e19 HRB3 HRC3 HK3 HROW hbl hcl HC
    go_wp2_with (refine wpList_loads rfl 32 _ rfl B 0 [.slice a1 nc c1, .map (some m1), .slice a2 nx c2, .map (some m2), .slice a3 n c3, .map (some mu), .map (some mp), .int .i64 steps, .int .i64 gl, .map gu, .int .u64 seed] _ rfl hrB4 Ybad.underlying32 rfl (by kernel_rfl) rfl ?_)
    refine (us_any a1 a2 a3 nc nx n c1 c2 c3 b3 (some m1) (some m2) (some mp) gu mu steps gl seed fl W3 (by omega) (HT3.out.keep HK4.out (by simp)) (HMU.out.keep HK4.out (by simp))).mono ?_
    rintro e W4 ⟨e1, r1, e2, r2, bs, rfl, hs1, hs2, hbs, k4⟩
    have kW4 := HK4.out.trans k4 (by simp)
    have HRB5 : Hid (Row W4 B [.slice a1 nc c1, .map (some m1), .slice a2 nx c2, .map (some m2), .slice a3 n c3, .map (some mu), .map (some mp), .int .i64 steps, .int .i64 gl, .map gu, .int .u64 seed] 32) := hrB4.keep k4 (by simp)
    have HRC5 : Hid (Row W4 C (srow y) 80) := HRC4.out.keep k4 (by simp)
    have HK5 : Hid (Kept [] w W4) := kW4
    have HROW5 : Hid (HasMap W4 p (lc ++ kvs (nm 120) nc nx) ∧ lc.Perm (kvs (nm 99) 0 nc)) := ⟨HROW4.out.1.keep k4 (by simp), HROW4.out.2⟩
    have HL5 : Hid (Row W4 L (lrn [.int .i64 steps, .int .i64 gl, .map gu, .float .f64 (y 0), .float .f64 (y 1), .float .f64 (y 2), .float .f64 (y 3), .float .f64 (y 4), .map (some m1), .map (some p)] [.string ⟨#[]⟩, .string ⟨#[]⟩, .string ⟨#[]⟩, .int .i64 0, .int .i64 0, .float .f64 0, .float .f64 0, .float .f64 0, .float .f64 0, .float .f64 0, .slice none 0 0, .map none, .slice none 0 0, .slice none 0 0, .slice none 0 0, .pointer none, .slice none 0 0, .slice none 0 0, .float .f64 0, .slice none 0 0, .slice none 0 0, .slice none 0 0, .pointer none, .slice none 0 0, .slice none 0 0, .float .f64 0, .slice none 0 0, .slice none 0 0, .slice none 0 0, .slice none 0 0] [.string ⟨#[]⟩, .string ⟨#[]⟩, .string ⟨#[]⟩, .int .i64 0, .int .i64 0, .float .f64 0, .float .f64 0, .float .f64 0, .float .f64 0, .float .f64 0, .slice none 0 0, .map none, .slice none 0 0, .slice none 0 0, .slice none 0 0, .pointer none, .slice none 0 0, .slice none 0 0, .float .f64 0, .slice none 0 0, .slice none 0 0, .slice none 0 0, .pointer none, .slice none 0 0, .slice none 0 0, .float .f64 0, .slice none 0 0, .slice none 0 0, .slice none 0 0, .slice none 0 0] [.slice t1 (nc + nx) (nc + nx), .slice t2 nc nc, .slice t3 (nc + nx) (nc + nx), .slice none 0 0, .slice none 0 0, .float .f64 0, .float .f64 0] gs [.float .f64 0, .float .f64 0, .float .f64 0, .slice none 0 0, .slice none 0 0, .int .i64 0, .slice none 0 0, .slice none 0 0, .slice none 0 0, .slice none 0 0, .slice none 0 0] (.slice none 0 0)) 73) := HL4.out.keep k4 (by simp)
    have HS1 : Hid (Sl W4 bs 9 e1 (picks (above fl) n).length r1 (names (above fl) n)) := hs1
    have HS2 : Hid (Sl W4 bs 9 e2 (picks (below fl) n).length r2 (names (below fl) n)) := hs2
    have HLS : Hid (L < bs) := by have := HL4.out.lt; show L < bs; omega
    have hnp := len_le (above fl) n
    have hnn := len_le (below fl) n
    clear hs1 hs2 hbs k4 kW4 HRB4 HRC4 HK4 HROW4 HL4 hrB4
    go_wp2_with fail
    refine region_store 19 (sr5 y p0 p1 p2 pi pj 5 e1 (picks (above fl) n).length r1 a1 nc c1 a2 nx c2 mu B C L 10 (fun j => absBits (fl (pick (above fl) n j))) W4.heap.size) (fun vs => ⟨List.toArray (Value.agg #[.slice a1 nc c1, .map (some m1), .slice a2 nx c2, .map (some m2), .slice a3 n c3, .map (some mu), .map (some mp), .int .i64 steps, .int .i64 gl, .map gu, .int .u64 seed] :: .pointer (some ⟨B, 0, none⟩) :: .nilIface :: .pointer (some ⟨C, 0, none⟩) :: .slice ad (nc + nx) cap :: .map (some p) :: .pointer (some ⟨L, 0, none⟩) :: .slice e1 (picks (above fl) n).length r1 :: .slice e2 (picks (below fl) n).length r2 :: .pointer (some ⟨B, 6, none⟩) :: .map (some mp) :: .agg sr.toArray :: .tuple #[.slice ad (nc + nx) cap, .map (some p)] :: .agg #[.slice a1 nc c1, .map (some m1), .slice a2 nx c2, .map (some m2), .slice a3 n c3, .map (some mu), .map (some mp), .int .i64 steps, .int .i64 gl, .map gu, .int .u64 seed] :: .tuple #[.slice ad (nc + nx) cap, .map (some p)] :: .slice ad (nc + nx) cap :: .map (some p) :: va 0 :: va 1 :: va 2 :: va 3 :: va 4 :: va 5 :: va 6 :: va 7 :: va 8 :: va 9 :: va 10 :: va 11 :: va 12 :: va 13 :: va 14 :: va 15 :: va 16 :: va 17 :: va 18 :: .pointer (some ⟨L, 0, none⟩) :: .tuple #[.slice e1 (picks (above fl) n).length r1, .slice e2 (picks (below fl) n).length r2] :: .agg #[.slice a1 nc c1, .map (some m1), .slice a2 nx c2, .map (some m2), .slice a3 n c3, .map (some mu), .map (some mp), .int .i64 steps, .int .i64 gl, .map gu, .int .u64 seed] :: .tuple #[.slice e1 (picks (above fl) n).length r1, .slice e2 (picks (below fl) n).length r2] :: .slice e1 (picks (above fl) n).length r1 :: .slice e2 (picks (below fl) n).length r2 :: vs 0 :: vs 1 :: vs 2 :: vs 3 :: vs 4 :: vs 5 :: vs 6 :: vs 7 :: vs 8 :: vs 9 :: vs 10 :: vs 11 :: vs 12 :: vs 13 :: vs 14 :: vs 15 :: vs 16 :: vs 17 :: vs 18 :: undef :: undef :: undef :: undef :: undef :: undef :: undef :: undef :: undef :: undef :: undef :: undef :: undef :: undef :: undef :: undef :: undef :: undef :: undef :: undef :: undef :: undef :: undef :: undef :: undef :: undef :: undef :: undef :: undef :: undef :: undef :: undef :: undef :: undef :: undef :: undef :: undef :: undef :: undef :: undef :: undef :: undef :: undef :: undef :: undef :: undef :: undef :: undef :: []), []⟩) 53 (.tmp 60) (.tmp 58) (by kernel_rfl) (by kernel_rfl) (by kernel_rfl) (by kernel_rfl) (fun vs => by kernel_rfl) (sr5_keep y p0 p1 p2 pi pj 5 e1 (picks (above fl) n).length r1 a1 nc c1 a2 nx c2 mu B C L 10 (fun j => absBits (fl (pick (above fl) n j))) W4.heap.size) ?_ ?_
    · intro i hi o ho a w' hoth hdep hk
      have s1 : a.eval (.tmp 1) = .pointer (some ⟨B, 0, none⟩) := hoth 1 (by kernel_rfl)
      have s3 : a.eval (.tmp 3) = .pointer (some ⟨C, 0, none⟩) := hoth 3 (by kernel_rfl)
      have s6 : a.eval (.tmp 6) = .pointer (some ⟨L, 0, none⟩) := hoth 6 (by kernel_rfl)
      have s7 : a.eval (.tmp 7) = .slice e1 (picks (above fl) n).length r1 := hoth 7 (by kernel_rfl)
      have hrB := HRB5.out.keep hk (by simp)
      have hrC := HRC5.out.keep hk (by simp)
      have hsp := HSP.out.keep (HK5.out.trans hk (by simp)) (by simp)
      have hsz : W4.heap.size ≤ w'.heap.size := hk.size
      have evf : ∀ f, a.eval (.func f) = .func (.func f) #[] #[] := fun _ => rfl
      have hval : ∀ w', Kept [] W4 w' → _ := fun w' hk => val_any p0 p1 p2 pi pj (y 5) (y (5 + 1)) (y (5 + 2)) (y (5 + 3)) (y (5 + 4)) (some ⟨L, 3, none⟩) e1 (picks (above fl) n).length r1 nc nx mu n bs (pick (above fl) n) fl w' (by omega) hc (by rw [← names_picked]; exact HS1.out.keep hk (by simp)) (HMU.out.keep (HK5.out.trans hk (by simp)) (by simp)) (pick_lt (above fl) n) (pick_inj (above fl) n)
      clear HRB5 HRC5 HK5 HROW5 HT1 HT2 HT3 HM1 HMU HSP HSN HS1 HS2 HL5
      match i, hi with
      | 0, _ =>
        simp only [List.getElem?_toArray, List.getElem?_cons_zero, Option.some.injEq] at ho
        subst ho
        exact flow_move rfl s6 rfl
      | 1, _ =>
        simp only [List.getElem?_toArray, List.getElem?_cons_succ, List.getElem?_cons_zero, Option.some.injEq] at ho
        subst ho
        exact flow_load rfl rfl hsp.load rfl
      | 2, _ =>
        simp only [List.getElem?_toArray, List.getElem?_cons_succ, List.getElem?_cons_zero, Option.some.injEq] at ho
        subst ho
        refine flow_value ?_ rfl (Kept.refl _ _)
        generalize a.eval = ev at *
        simp [execOp, s3, go_sem]
      | 3, _ =>
        simp only [List.getElem?_toArray, List.getElem?_cons_succ, List.getElem?_cons_zero, Option.some.injEq] at ho
        subst ho
        have d2 : (a.eval (.tmp 44)) = .pointer (some ⟨C, 5, none⟩) := hdep ⟨2, .data⟩ (by simp)
        exact flow_loads (cs := [.float .f64 (y (5 + 0)), .float .f64 (y (5 + 1)), .float .f64 (y (5 + 2)), .float .f64 (y (5 + 3)), .float .f64 (y (5 + 4))]) rfl d2 hrC Ybad.underlying46 rfl (by kernel_rfl) rfl rfl
      | 4, _ =>
        simp only [List.getElem?_toArray, List.getElem?_cons_succ, List.getElem?_cons_zero, Option.some.injEq] at ho
        subst ho
        exact flow_move rfl s6 rfl
      | 5, _ =>
        simp only [List.getElem?_toArray, List.getElem?_cons_succ, List.getElem?_cons_zero, Option.some.injEq] at ho
        subst ho
        have d4 : (a.eval (.tmp 46)) = .pointer (some ⟨L, 0, none⟩) := hdep ⟨4, .data⟩ (by simp)
        exact flow_nil rfl d4 rfl
      | 6, _ =>
        simp only [List.getElem?_toArray, List.getElem?_cons_succ, List.getElem?_cons_zero, Option.some.injEq] at ho
        subst ho
        have d5 : (a.eval (.tmp 47)) = .pointer (some ⟨L, 0, none⟩) := hdep ⟨5, .data⟩ (by simp)
        refine flow_value ?_ rfl (Kept.refl _ _)
        generalize a.eval = ev at *
        simp [execOp, d5, go_sem]
      | 7, _ =>
        simp only [List.getElem?_toArray, List.getElem?_cons_succ, List.getElem?_cons_zero, Option.some.injEq] at ho
        subst ho
        exact flow_move rfl s7 rfl
      | 8, _ =>
        simp only [List.getElem?_toArray, List.getElem?_cons_succ, List.getElem?_cons_zero, Option.some.injEq] at ho
        subst ho
        refine flow_value ?_ rfl (Kept.refl _ _)
        generalize a.eval = ev at *
        simp [execOp, s1, go_sem]
      | 9, _ =>
        simp only [List.getElem?_toArray, List.getElem?_cons_succ, List.getElem?_cons_zero, Option.some.injEq] at ho
        subst ho
        have d8 : (a.eval (.tmp 50)) = .pointer (some ⟨B, 5, none⟩) := hdep ⟨8, .data⟩ (by simp)
        refine flow_value ?_ rfl (Kept.refl _ _)
        have cc := hrB.cell 5 rfl
        generalize a.eval = ev at *
        simp [execOp, d8, cc, go_sem]
      | 10, _ =>
        simp only [List.getElem?_toArray, List.getElem?_cons_succ, List.getElem?_cons_zero, Option.some.injEq] at ho
        subst ho
        refine flow_value ?_ rfl (Kept.refl _ _)
        generalize a.eval = ev at *
        simp [execOp, s1, go_sem]
      | 11, _ =>
        simp only [List.getElem?_toArray, List.getElem?_cons_succ, List.getElem?_cons_zero, Option.some.injEq] at ho
        subst ho
        have d10 : (a.eval (.tmp 52)) = .pointer (some ⟨B, 0, none⟩) := hdep ⟨10, .data⟩ (by simp)
        refine flow_value ?_ rfl (Kept.refl _ _)
        have cc := hrB.cell 0 rfl
        generalize a.eval = ev at *
        simp [execOp, d10, cc, go_sem]
      | 12, _ =>
        simp only [List.getElem?_toArray, List.getElem?_cons_succ, List.getElem?_cons_zero, Option.some.injEq] at ho
        subst ho
        have d11 : (a.eval (.tmp 53)) = .slice a1 nc c1 := hdep ⟨11, .data⟩ (by simp)
        exact flow_len rfl d11 rfl
      | 13, _ =>
        simp only [List.getElem?_toArray, List.getElem?_cons_succ, List.getElem?_cons_zero, Option.some.injEq] at ho
        subst ho
        refine flow_value ?_ rfl (Kept.refl _ _)
        generalize a.eval = ev at *
        simp [execOp, s1, go_sem]
      | 14, _ =>
        simp only [List.getElem?_toArray, List.getElem?_cons_succ, List.getElem?_cons_zero, Option.some.injEq] at ho
        subst ho
        have d13 : (a.eval (.tmp 55)) = .pointer (some ⟨B, 2, none⟩) := hdep ⟨13, .data⟩ (by simp)
        refine flow_value ?_ rfl (Kept.refl _ _)
        have cc := hrB.cell 2 rfl
        generalize a.eval = ev at *
        simp [execOp, d13, cc, go_sem]
      | 15, _ =>
        simp only [List.getElem?_toArray, List.getElem?_cons_succ, List.getElem?_cons_zero, Option.some.injEq] at ho
        subst ho
        have d14 : (a.eval (.tmp 56)) = .slice a2 nx c2 := hdep ⟨14, .data⟩ (by simp)
        exact flow_len rfl d14 rfl
      | 16, _ =>
        simp only [List.getElem?_toArray, List.getElem?_cons_succ, List.getElem?_cons_zero, Option.some.injEq] at ho
        subst ho
        have d1 : (a.eval (.tmp 43)) = .agg #[.string p0, .string p1, .string p2, .int .i64 pi, .int .i64 pj] := hdep ⟨1, .data⟩ (by simp)
        have d3 : (a.eval (.tmp 45)) = .agg #[.float .f64 (y (5 + 0)), .float .f64 (y (5 + 1)), .float .f64 (y (5 + 2)), .float .f64 (y (5 + 3)), .float .f64 (y (5 + 4))] := hdep ⟨3, .data⟩ (by simp)
        have d6 : (a.eval (.tmp 48)) = .pointer (some ⟨L, 3, none⟩) := hdep ⟨6, .data⟩ (by simp)
        have d7 : (a.eval (.tmp 49)) = .slice e1 (picks (above fl) n).length r1 := hdep ⟨7, .data⟩ (by simp)
        have d9 : (a.eval (.tmp 51)) = .map (some mu) := hdep ⟨9, .data⟩ (by simp)
        have d12 : (a.eval (.tmp 54)) = .int .i64 nc := hdep ⟨12, .data⟩ (by simp)
        have d15 : (a.eval (.tmp 57)) = .int .i64 nx := hdep ⟨15, .data⟩ (by simp)
        exact flow_call (f := 16) (args := #[.agg #[.string p0, .string p1, .string p2, .int .i64 pi, .int .i64 pj], .agg #[.float .f64 (y (5 + 0)), .float .f64 (y (5 + 1)), .float .f64 (y (5 + 2)), .float .f64 (y (5 + 3)), .float .f64 (y (5 + 4))], .pointer (some ⟨L, 3, none⟩), .slice e1 (picks (above fl) n).length r1, .map (some mu), .int .i64 nc, .int .i64 nx]) (by generalize a.eval = ev at *; simp [execOp, d1, d3, d6, d7, d9, d12, d15, evf, go_sem]) ((hval w' hk).mono (by rintro e w2 ⟨m, gz, q5, q6, q9, u1, u2, u3, u4, u5, g1, g2, g3, g4, g5, rfl, hgz, hr2, k2⟩; exact ⟨_, rfl, ⟨_, rfl, ⟨m, gz, q5, q6, q9, u1, u2, u3, u4, u5, g1, g2, g3, g4, g5, rfl, Nat.le_trans hsz hgz, hr2⟩⟩, k2⟩))
      | 17, _ =>
        simp only [List.getElem?_toArray, List.getElem?_cons_succ, List.getElem?_cons_zero, Option.some.injEq] at ho
        subst ho
        have d0 : (a.eval (.tmp 42)) = .pointer (some ⟨L, 0, none⟩) := hdep ⟨0, .data⟩ (by simp)
        exact flow_nil rfl d0 rfl
      | 18, _ =>
        simp only [List.getElem?_toArray, List.getElem?_cons_succ, List.getElem?_cons_zero, Option.some.injEq] at ho
        subst ho
        have d17 : (a.eval (.tmp 59)) = .pointer (some ⟨L, 0, none⟩) := hdep ⟨17, .data⟩ (by simp)
        refine flow_value ?_ rfl (Kept.refl _ _)
        generalize a.eval = ev at *
        simp [execOp, d17, go_sem]
      | _ + 19, h => exact absurd h (by omega)
    · intro v5 W5 hR hk
      obtain ⟨l5, e16, hv5⟩ := (show ∃ l, (v5 16) = .agg (List.toArray l) ∧ IsVal W5 W4.heap.size p0 p1 p2 pi pj (y 5) (y (5 + 1)) (y (5 + 2)) (y (5 + 3)) (y (5 + 4)) (some ⟨L, 3, none⟩) e1 (picks (above fl) n).length r1 nc nx (fun j => absBits (fl (pick (above fl) n j))) l from hR 16 (by omega))
      have e18 : v5 18 = .pointer (some ⟨L, 10, none⟩) := hR 18 (by omega)
      clear hR
      have hrL5 := HL5.out.keep hk (by simp)
      have hgs := HGS.out
      refine ⟨L, 10, l5, _, 73, e18, e16, hrL5, by rw [hv5.len]; kernel_rfl, by rw [hv5.len, lrn_length rfl rfl rfl rfl hgs.1 rfl]; omega, hv5.one, fun W6 hw6 hk6 hs6 => ?_⟩
      rw [splice_pos _ rfl hv5.len] at hw6
      rename_i K hK
      refine hK _ _ ?_
      have hlb := HLB.out
      have k46 : Kept [L] W4 W6 := (hk.mono (by simp)).trans hk6 (by simp)
      have HRB6 : Hid (Row W6 B [.slice a1 nc c1, .map (some m1), .slice a2 nx c2, .map (some m2), .slice a3 n c3, .map (some mu), .map (some mp), .int .i64 steps, .int .i64 gl, .map gu, .int .u64 seed] 32) := HRB5.out.keep k46 (by simp; omega)
      have HRC6 : Hid (Row W6 C (srow y) 80) := HRC5.out.keep k46 (by simp; omega)
      have HK6 : Hid (Kept [] w W6) := HK5.out.trans k46 (by simp; omega)
      have HROW6 : Hid (HasMap W6 p (lc ++ kvs (nm 120) nc nx) ∧ lc.Perm (kvs (nm 99) 0 nc)) := ⟨HROW5.out.1.keep k46 (by simpa using HROW5.out.1.ne_row HL5.out), HROW5.out.2⟩
      have HS16 : Hid (Sl W6 bs 9 e1 (picks (above fl) n).length r1 (names (above fl) n)) := HS1.out.keep k46 (by have := HLS.out; simp; omega)
      have HS26 : Hid (Sl W6 bs 9 e2 (picks (below fl) n).length r2 (names (below fl) n)) := HS2.out.keep k46 (by have := HLS.out; simp; omega)
      have HV5 : Hid (IsVal W6 W4.heap.size p0 p1 p2 pi pj (y 5) (y (5 + 1)) (y (5 + 2)) (y (5 + 3)) (y (5 + 4)) (some ⟨L, 3, none⟩) e1 (picks (above fl) n).length r1 nc nx (fun j => absBits (fl (pick (above fl) n j))) l5) := hv5.keep hk6 (by simpa using hrL5.not 25 (by decide))
      have HL6 : Hid (Row W6 L (lrn [.int .i64 steps, .int .i64 gl, .map gu, .float .f64 (y 0), .float .f64 (y 1), .float .f64 (y 2), .float .f64 (y 3), .float .f64 (y 4), .map (some m1), .map (some p)] l5 [.string ⟨#[]⟩, .string ⟨#[]⟩, .string ⟨#[]⟩, .int .i64 0, .int .i64 0, .float .f64 0, .float .f64 0, .float .f64 0, .float .f64 0, .float .f64 0, .slice none 0 0, .map none, .slice none 0 0, .slice none 0 0, .slice none 0 0, .pointer none, .slice none 0 0, .slice none 0 0, .float .f64 0, .slice none 0 0, .slice none 0 0, .slice none 0 0, .pointer none, .slice none 0 0, .slice none 0 0, .float .f64 0, .slice none 0 0, .slice none 0 0, .slice none 0 0, .slice none 0 0] [.slice t1 (nc + nx) (nc + nx), .slice t2 nc nc, .slice t3 (nc + nx) (nc + nx), .slice none 0 0, .slice none 0 0, .float .f64 0, .float .f64 0] gs [.float .f64 0, .float .f64 0, .float .f64 0, .slice none 0 0, .slice none 0 0, .int .i64 0, .slice none 0 0, .slice none 0 0, .slice none 0 0, .slice none 0 0, .slice none 0 0] (.slice none 0 0)) 73) := hw6
      have hl5 : l5.length = 30 := hv5.len
      clear hw6 hk6 hs6 hk hrL5 e16 e18 hgs hlb k46 hv5 HRB5 HRC5 HK5 HROW5 HS1 HS2 HL5
      go_wp2_with fail
      refine region_store 19 (sr5 y n0 n1 n2 ni nj 10 e2 (picks (below fl) n).length r2 a1 nc c1 a2 nx c2 mu B C L 40 (fun j => absBits (fl (pick (below fl) n j))) W6.heap.size) (fun vs => ⟨List.toArray (Value.agg #[.slice a1 nc c1, .map (some m1), .slice a2 nx c2, .map (some m2), .slice a3 n c3, .map (some mu), .map (some mp), .int .i64 steps, .int .i64 gl, .map gu, .int .u64 seed] :: .pointer (some ⟨B, 0, none⟩) :: .nilIface :: .pointer (some ⟨C, 0, none⟩) :: .slice ad (nc + nx) cap :: .map (some p) :: .pointer (some ⟨L, 0, none⟩) :: .slice e1 (picks (above fl) n).length r1 :: .slice e2 (picks (below fl) n).length r2 :: .pointer (some ⟨B, 6, none⟩) :: .map (some mp) :: .agg sr.toArray :: .tuple #[.slice ad (nc + nx) cap, .map (some p)] :: .agg #[.slice a1 nc c1, .map (some m1), .slice a2 nx c2, .map (some m2), .slice a3 n c3, .map (some mu), .map (some mp), .int .i64 steps, .int .i64 gl, .map gu, .int .u64 seed] :: .tuple #[.slice ad (nc + nx) cap, .map (some p)] :: .slice ad (nc + nx) cap :: .map (some p) :: va 0 :: va 1 :: va 2 :: va 3 :: va 4 :: va 5 :: va 6 :: va 7 :: va 8 :: va 9 :: va 10 :: va 11 :: va 12 :: va 13 :: va 14 :: va 15 :: va 16 :: va 17 :: va 18 :: .pointer (some ⟨L, 0, none⟩) :: .tuple #[.slice e1 (picks (above fl) n).length r1, .slice e2 (picks (below fl) n).length r2] :: .agg #[.slice a1 nc c1, .map (some m1), .slice a2 nx c2, .map (some m2), .slice a3 n c3, .map (some mu), .map (some mp), .int .i64 steps, .int .i64 gl, .map gu, .int .u64 seed] :: .tuple #[.slice e1 (picks (above fl) n).length r1, .slice e2 (picks (below fl) n).length r2] :: .slice e1 (picks (above fl) n).length r1 :: .slice e2 (picks (below fl) n).length r2 :: v5 0 :: v5 1 :: v5 2 :: v5 3 :: v5 4 :: v5 5 :: v5 6 :: v5 7 :: v5 8 :: v5 9 :: v5 10 :: v5 11 :: v5 12 :: v5 13 :: v5 14 :: v5 15 :: v5 16 :: v5 17 :: v5 18 :: vs 0 :: vs 1 :: vs 2 :: vs 3 :: vs 4 :: vs 5 :: vs 6 :: vs 7 :: vs 8 :: vs 9 :: vs 10 :: vs 11 :: vs 12 :: vs 13 :: vs 14 :: vs 15 :: vs 16 :: vs 17 :: vs 18 :: undef :: undef :: undef :: undef :: undef :: undef :: undef :: undef :: undef :: undef :: undef :: undef :: undef :: undef :: undef :: undef :: undef :: undef :: undef :: undef :: undef :: undef :: undef :: undef :: undef :: undef :: undef :: undef :: undef :: []), []⟩) 53 (.tmp 79) (.tmp 77) (by kernel_rfl) (by kernel_rfl) (by kernel_rfl) (by kernel_rfl) (fun vs => by kernel_rfl) (sr5_keep y n0 n1 n2 ni nj 10 e2 (picks (below fl) n).length r2 a1 nc c1 a2 nx c2 mu B C L 40 (fun j => absBits (fl (pick (below fl) n j))) W6.heap.size) ?_ ?_
      · intro i hi o ho a w' hoth hdep hk
        have s1 : a.eval (.tmp 1) = .pointer (some ⟨B, 0, none⟩) := hoth 1 (by kernel_rfl)
        have s3 : a.eval (.tmp 3) = .pointer (some ⟨C, 0, none⟩) := hoth 3 (by kernel_rfl)
        have s6 : a.eval (.tmp 6) = .pointer (some ⟨L, 0, none⟩) := hoth 6 (by kernel_rfl)
        have s7 : a.eval (.tmp 8) = .slice e2 (picks (below fl) n).length r2 := hoth 8 (by kernel_rfl)
        have hrB := HRB6.out.keep hk (by simp)
        have hrC := HRC6.out.keep hk (by simp)
        have hsp := HSN.out.keep (HK6.out.trans hk (by simp)) (by simp)
        have hsz : W6.heap.size ≤ w'.heap.size := hk.size
        have evf : ∀ f, a.eval (.func f) = .func (.func f) #[] #[] := fun _ => rfl
        have hval : ∀ w', Kept [] W6 w' → _ := fun w' hk => val_any n0 n1 n2 ni nj (y 10) (y (10 + 1)) (y (10 + 2)) (y (10 + 3)) (y (10 + 4)) (some ⟨L, 3, none⟩) e2 (picks (below fl) n).length r2 nc nx mu n bs (pick (below fl) n) fl w' (by omega) hc (by rw [← names_picked]; exact HS26.out.keep hk (by simp)) (HMU.out.keep (HK6.out.trans hk (by simp)) (by simp)) (pick_lt (below fl) n) (pick_inj (below fl) n)
        clear HRB6 HRC6 HK6 HROW6 HT1 HT2 HT3 HM1 HMU HSP HSN HS16 HS26 HL6 HV5
        match i, hi with
        | 0, _ =>
          simp only [List.getElem?_toArray, List.getElem?_cons_zero, Option.some.injEq] at ho
          subst ho
          exact flow_move rfl s6 rfl
        | 1, _ =>
          simp only [List.getElem?_toArray, List.getElem?_cons_succ, List.getElem?_cons_zero, Option.some.injEq] at ho
          subst ho
          exact flow_load rfl rfl hsp.load rfl
        | 2, _ =>
          simp only [List.getElem?_toArray, List.getElem?_cons_succ, List.getElem?_cons_zero, Option.some.injEq] at ho
          subst ho
          refine flow_value ?_ rfl (Kept.refl _ _)
          generalize a.eval = ev at *
          simp [execOp, s3, go_sem]
        | 3, _ =>
          simp only [List.getElem?_toArray, List.getElem?_cons_succ, List.getElem?_cons_zero, Option.some.injEq] at ho
          subst ho
          have d2 : (a.eval (.tmp 63)) = .pointer (some ⟨C, 10, none⟩) := hdep ⟨2, .data⟩ (by simp)
          exact flow_loads (cs := [.float .f64 (y (10 + 0)), .float .f64 (y (10 + 1)), .float .f64 (y (10 + 2)), .float .f64 (y (10 + 3)), .float .f64 (y (10 + 4))]) rfl d2 hrC Ybad.underlying46 rfl (by kernel_rfl) rfl rfl
        | 4, _ =>
          simp only [List.getElem?_toArray, List.getElem?_cons_succ, List.getElem?_cons_zero, Option.some.injEq] at ho
          subst ho
          exact flow_move rfl s6 rfl
        | 5, _ =>
          simp only [List.getElem?_toArray, List.getElem?_cons_succ, List.getElem?_cons_zero, Option.some.injEq] at ho
          subst ho
          have d4 : (a.eval (.tmp 65)) = .pointer (some ⟨L, 0, none⟩) := hdep ⟨4, .data⟩ (by simp)
          exact flow_nil rfl d4 rfl
        | 6, _ =>
          simp only [List.getElem?_toArray, List.getElem?_cons_succ, List.getElem?_cons_zero, Option.some.injEq] at ho
          subst ho
          have d5 : (a.eval (.tmp 66)) = .pointer (some ⟨L, 0, none⟩) := hdep ⟨5, .data⟩ (by simp)
          refine flow_value ?_ rfl (Kept.refl _ _)
          generalize a.eval = ev at *
          simp [execOp, d5, go_sem]
        | 7, _ =>
          simp only [List.getElem?_toArray, List.getElem?_cons_succ, List.getElem?_cons_zero, Option.some.injEq] at ho
          subst ho
          exact flow_move rfl s7 rfl
        | 8, _ =>
          simp only [List.getElem?_toArray, List.getElem?_cons_succ, List.getElem?_cons_zero, Option.some.injEq] at ho
          subst ho
          refine flow_value ?_ rfl (Kept.refl _ _)
          generalize a.eval = ev at *
          simp [execOp, s1, go_sem]
        | 9, _ =>
          simp only [List.getElem?_toArray, List.getElem?_cons_succ, List.getElem?_cons_zero, Option.some.injEq] at ho
          subst ho
          have d8 : (a.eval (.tmp 69)) = .pointer (some ⟨B, 5, none⟩) := hdep ⟨8, .data⟩ (by simp)
          refine flow_value ?_ rfl (Kept.refl _ _)
          have cc := hrB.cell 5 rfl
          generalize a.eval = ev at *
          simp [execOp, d8, cc, go_sem]
        | 10, _ =>
          simp only [List.getElem?_toArray, List.getElem?_cons_succ, List.getElem?_cons_zero, Option.some.injEq] at ho
          subst ho
          refine flow_value ?_ rfl (Kept.refl _ _)
          generalize a.eval = ev at *
          simp [execOp, s1, go_sem]
        | 11, _ =>
          simp only [List.getElem?_toArray, List.getElem?_cons_succ, List.getElem?_cons_zero, Option.some.injEq] at ho
          subst ho
          have d10 : (a.eval (.tmp 71)) = .pointer (some ⟨B, 0, none⟩) := hdep ⟨10, .data⟩ (by simp)
          refine flow_value ?_ rfl (Kept.refl _ _)
          have cc := hrB.cell 0 rfl
          generalize a.eval = ev at *
          simp [execOp, d10, cc, go_sem]
        | 12, _ =>
          simp only [List.getElem?_toArray, List.getElem?_cons_succ, List.getElem?_cons_zero, Option.some.injEq] at ho
          subst ho
          have d11 : (a.eval (.tmp 72)) = .slice a1 nc c1 := hdep ⟨11, .data⟩ (by simp)
          exact flow_len rfl d11 rfl
        | 13, _ =>
          simp only [List.getElem?_toArray, List.getElem?_cons_succ, List.getElem?_cons_zero, Option.some.injEq] at ho
          subst ho
          refine flow_value ?_ rfl (Kept.refl _ _)
          generalize a.eval = ev at *
          simp [execOp, s1, go_sem]
        | 14, _ =>
          simp only [List.getElem?_toArray, List.getElem?_cons_succ, List.getElem?_cons_zero, Option.some.injEq] at ho
          subst ho
          have d13 : (a.eval (.tmp 74)) = .pointer (some ⟨B, 2, none⟩) := hdep ⟨13, .data⟩ (by simp)
          refine flow_value ?_ rfl (Kept.refl _ _)
          have cc := hrB.cell 2 rfl
          generalize a.eval = ev at *
          simp [execOp, d13, cc, go_sem]
        | 15, _ =>
          simp only [List.getElem?_toArray, List.getElem?_cons_succ, List.getElem?_cons_zero, Option.some.injEq] at ho
          subst ho
          have d14 : (a.eval (.tmp 75)) = .slice a2 nx c2 := hdep ⟨14, .data⟩ (by simp)
          exact flow_len rfl d14 rfl
        | 16, _ =>
          simp only [List.getElem?_toArray, List.getElem?_cons_succ, List.getElem?_cons_zero, Option.some.injEq] at ho
          subst ho
          have d1 : (a.eval (.tmp 62)) = .agg #[.string n0, .string n1, .string n2, .int .i64 ni, .int .i64 nj] := hdep ⟨1, .data⟩ (by simp)
          have d3 : (a.eval (.tmp 64)) = .agg #[.float .f64 (y (10 + 0)), .float .f64 (y (10 + 1)), .float .f64 (y (10 + 2)), .float .f64 (y (10 + 3)), .float .f64 (y (10 + 4))] := hdep ⟨3, .data⟩ (by simp)
          have d6 : (a.eval (.tmp 67)) = .pointer (some ⟨L, 3, none⟩) := hdep ⟨6, .data⟩ (by simp)
          have d7 : (a.eval (.tmp 68)) = .slice e2 (picks (below fl) n).length r2 := hdep ⟨7, .data⟩ (by simp)
          have d9 : (a.eval (.tmp 70)) = .map (some mu) := hdep ⟨9, .data⟩ (by simp)
          have d12 : (a.eval (.tmp 73)) = .int .i64 nc := hdep ⟨12, .data⟩ (by simp)
          have d15 : (a.eval (.tmp 76)) = .int .i64 nx := hdep ⟨15, .data⟩ (by simp)
          exact flow_call (f := 16) (args := #[.agg #[.string n0, .string n1, .string n2, .int .i64 ni, .int .i64 nj], .agg #[.float .f64 (y (10 + 0)), .float .f64 (y (10 + 1)), .float .f64 (y (10 + 2)), .float .f64 (y (10 + 3)), .float .f64 (y (10 + 4))], .pointer (some ⟨L, 3, none⟩), .slice e2 (picks (below fl) n).length r2, .map (some mu), .int .i64 nc, .int .i64 nx]) (by generalize a.eval = ev at *; simp [execOp, d1, d3, d6, d7, d9, d12, d15, evf, go_sem]) ((hval w' hk).mono (by rintro e w2 ⟨m, gz, q5, q6, q9, u1, u2, u3, u4, u5, g1, g2, g3, g4, g5, rfl, hgz, hr2, k2⟩; exact ⟨_, rfl, ⟨_, rfl, ⟨m, gz, q5, q6, q9, u1, u2, u3, u4, u5, g1, g2, g3, g4, g5, rfl, Nat.le_trans hsz hgz, hr2⟩⟩, k2⟩))
        | 17, _ =>
          simp only [List.getElem?_toArray, List.getElem?_cons_succ, List.getElem?_cons_zero, Option.some.injEq] at ho
          subst ho
          have d0 : (a.eval (.tmp 61)) = .pointer (some ⟨L, 0, none⟩) := hdep ⟨0, .data⟩ (by simp)
          exact flow_nil rfl d0 rfl
        | 18, _ =>
          simp only [List.getElem?_toArray, List.getElem?_cons_succ, List.getElem?_cons_zero, Option.some.injEq] at ho
          subst ho
          have d17 : (a.eval (.tmp 78)) = .pointer (some ⟨L, 0, none⟩) := hdep ⟨17, .data⟩ (by simp)
          refine flow_value ?_ rfl (Kept.refl _ _)
          generalize a.eval = ev at *
          simp [execOp, d17, go_sem]
        | _ + 19, h => exact absurd h (by omega)
      · intro v6 W7 hR hk
        obtain ⟨l6, e16, hv6⟩ := (show ∃ l, (v6 16) = .agg (List.toArray l) ∧ IsVal W7 W6.heap.size n0 n1 n2 ni nj (y 10) (y (10 + 1)) (y (10 + 2)) (y (10 + 3)) (y (10 + 4)) (some ⟨L, 3, none⟩) e2 (picks (below fl) n).length r2 nc nx (fun j => absBits (fl (pick (below fl) n j))) l from hR 16 (by omega))
        have e18 : v6 18 = .pointer (some ⟨L, 40, none⟩) := hR 18 (by omega)
        clear hR
        have hrL6 := HL6.out.keep hk (by simp)
        have hgs := HGS.out
        refine ⟨L, 40, l6, _, 73, e18, e16, hrL6, by rw [hv6.len]; kernel_rfl, by rw [hv6.len, lrn_length rfl hl5 rfl rfl hgs.1 rfl]; omega, hv6.one, fun W8 hw8 hk8 hs8 => ?_⟩
        rw [splice_neg _ rfl hl5 hv6.len] at hw8
        rename_i K hK
        refine hK _ _ ?_
        have hlb := HLB.out
        have k68 : Kept [L] W6 W8 := (hk.mono (by simp)).trans hk8 (by simp)
        have HRC8 : Hid (Row W8 C (srow y) 80) := HRC6.out.keep k68 (by simp; omega)
        have HK8 : Hid (Kept [] w W8) := HK6.out.trans k68 (by simp; omega)
        have HROW8 : Hid (HasMap W8 p (lc ++ kvs (nm 120) nc nx) ∧ lc.Perm (kvs (nm 99) 0 nc)) := ⟨HROW6.out.1.keep k68 (by simpa using HROW6.out.1.ne_row HL6.out), HROW6.out.2⟩
        have HS18 : Hid (Sl W8 bs 9 e1 (picks (above fl) n).length r1 (names (above fl) n)) := HS16.out.keep k68 (by have := HLS.out; simp; omega)
        have HS28 : Hid (Sl W8 bs 9 e2 (picks (below fl) n).length r2 (names (below fl) n)) := HS26.out.keep k68 (by have := HLS.out; simp; omega)
        have HV58 : Hid (IsVal W8 W4.heap.size p0 p1 p2 pi pj (y 5) (y (5 + 1)) (y (5 + 2)) (y (5 + 3)) (y (5 + 4)) (some ⟨L, 3, none⟩) e1 (picks (above fl) n).length r1 nc nx (fun j => absBits (fl (pick (above fl) n j))) l5) := HV5.out.keep k68 (by simpa using HL6.out.not 25 (by decide))
        have HV68 : Hid (IsVal W8 W6.heap.size n0 n1 n2 ni nj (y 10) (y (10 + 1)) (y (10 + 2)) (y (10 + 3)) (y (10 + 4)) (some ⟨L, 3, none⟩) e2 (picks (below fl) n).length r2 nc nx (fun j => absBits (fl (pick (below fl) n j))) l6) := hv6.keep hk8 (by simpa using hrL6.not 25 (by decide))
        have hl6 : l6.length = 30 := hv6.len
        have hlen8 := lrn_length (A := [.int .i64 steps, .int .i64 gl, .map gu, .float .f64 (y 0), .float .f64 (y 1), .float .f64 (y 2), .float .f64 (y 3), .float .f64 (y 4), .map (some m1), .map (some p)]) (T := [.slice t1 (nc + nx) (nc + nx), .slice t2 nc nc, .slice t3 (nc + nx) (nc + nx), .slice none 0 0, .slice none 0 0, .float .f64 0, .float .f64 0]) (vs := [.float .f64 0, .float .f64 0, .float .f64 0, .slice none 0 0, .slice none 0 0, .int .i64 0, .slice none 0 0, .slice none 0 0, .slice none 0 0, .slice none 0 0, .slice none 0 0]) (thr := .slice none 0 0) rfl hl5 hl6 rfl hgs.1 rfl
        obtain ⟨x8, c108⟩ := HasLen.cell (w := W8) (b := L) (n := 109) (t := 73) ⟨_, hw8, hlen8⟩ 108 (by omega)
        have f108 := hw8.free 108
        have lL := hw8.lt
        have lL' : L ≠ W8.heap.size := by omega
        have HL8 : Hid (Row W8 L (lrn [.int .i64 steps, .int .i64 gl, .map gu, .float .f64 (y 0), .float .f64 (y 1), .float .f64 (y 2), .float .f64 (y 3), .float .f64 (y 4), .map (some m1), .map (some p)] l5 l6 [.slice t1 (nc + nx) (nc + nx), .slice t2 nc nc, .slice t3 (nc + nx) (nc + nx), .slice none 0 0, .slice none 0 0, .float .f64 0, .float .f64 0] gs [.float .f64 0, .float .f64 0, .float .f64 0, .slice none 0 0, .slice none 0 0, .int .i64 0, .slice none 0 0, .slice none 0 0, .slice none 0 0, .slice none 0 0, .slice none 0 0] (.slice none 0 0)) 73) := hw8
        obtain ⟨zth, mth⟩ := mk_thr (picks (below fl) n).length (by omega)
        have HCC : Hid (B < L ∧ C < L ∧ w.heap.size ≤ B ∧ w.heap.size ≤ C) := hlb
        clear hw8 hk8 hs8 hk hrL6 e16 e18 hgs hlb k68 hv6 HRB6 HRC6 HK6 HROW6 HS16 HS26 HL6 HV5 hlen8
        go_wp2_with fail
        have r9 := (HL8.out.set 108 (.slice (some ⟨W8.heap.size, 0, none⟩) (picks (below fl) n).length (picks (below fl) n).length)).keep (Kept.alloc _ (.cells zth 169)) (by simp)
        have hgs := HGS.out
        rw [set_thr _ rfl hl5 hl6 rfl hgs.1 rfl] at r9
        have k9 := (Kept.setCell W8 L 108 (.slice (some ⟨W8.heap.size, 0, none⟩) (picks (below fl) n).length (picks (below fl) n).length)).trans (Kept.alloc _ (.cells zth 169)) (by simp)
        generalize hthr : (some ⟨W8.heap.size, 0, none⟩ : Option Addr) = thr at *
        clear hthr
        generalize (W8.setCell ⟨L, 108, none⟩ (.slice thr (picks (below fl) n).length (picks (below fl) n).length)).alloc (.cells zth 169) = W9 at *
        have hlb := HCC.out
        have HRC9 : Hid (Row W9 C (srow y) 80) := HRC8.out.keep k9 (by simp; omega)
        have HK9 : Hid (Kept [] w W9) := HK8.out.trans k9 (by simp; omega)
        have HROW9 : Hid (HasMap W9 p (lc ++ kvs (nm 120) nc nx) ∧ lc.Perm (kvs (nm 99) 0 nc)) := ⟨HROW8.out.1.keep k9 (by simpa using HROW8.out.1.ne_row HL8.out), HROW8.out.2⟩
        have HS19 : Hid (Sl W9 bs 9 e1 (picks (above fl) n).length r1 (names (above fl) n)) := HS18.out.keep k9 (by have := HLS.out; simp; omega)
        have HS29 : Hid (Sl W9 bs 9 e2 (picks (below fl) n).length r2 (names (below fl) n)) := HS28.out.keep k9 (by have := HLS.out; simp; omega)
        have HV59 : Hid (IsVal W9 W4.heap.size p0 p1 p2 pi pj (y 5) (y (5 + 1)) (y (5 + 2)) (y (5 + 3)) (y (5 + 4)) (some ⟨L, 3, none⟩) e1 (picks (above fl) n).length r1 nc nx (fun j => absBits (fl (pick (above fl) n j))) l5) := HV58.out.keep k9 (by simpa using HL8.out.not 25 (by decide))
        have HV69 : Hid (IsVal W9 W6.heap.size n0 n1 n2 ni nj (y 10) (y (10 + 1)) (y (10 + 2)) (y (10 + 3)) (y (10 + 4)) (some ⟨L, 3, none⟩) e2 (picks (below fl) n).length r2 nc nx (fun j => absBits (fl (pick (below fl) n j))) l6) := HV68.out.keep k9 (by simpa using HL8.out.not 25 (by decide))
        have HL9 : Hid (Row W9 L (lrn [.int .i64 steps, .int .i64 gl, .map gu, .float .f64 (y 0), .float .f64 (y 1), .float .f64 (y 2), .float .f64 (y 3), .float .f64 (y 4), .map (some m1), .map (some p)] l5 l6 [.slice t1 (nc + nx) (nc + nx), .slice t2 nc nc, .slice t3 (nc + nx) (nc + nx), .slice none 0 0, .slice none 0 0, .float .f64 0, .float .f64 0] gs [.float .f64 0, .float .f64 0, .float .f64 0, .slice none 0 0, .slice none 0 0, .int .i64 0, .slice none 0 0, .slice none 0 0, .slice none 0 0, .slice none 0 0, .slice none 0 0] (.slice thr (picks (below fl) n).length (picks (below fl) n).length)) 73) := r9
        obtain ⟨gz, hc22, hgz9⟩ : ∃ gz, l5[12]? = some (.slice (some ⟨gz, 0, none⟩) (picks (above fl) n).length (picks (above fl) n).length) ∧ Row W9 gz (mags (fun j => absBits (fl (pick (above fl) n j))) (picks (above fl) n).length (picks (above fl) n).length) 25 := by
          obtain ⟨m, gz, q5, q6, q9, u1, u2, u3, u4, u5, g1, g2, g3, g4, g5, e, _, h⟩ := HV59.out
          exact ⟨gz, by rw [e]; rfl, h⟩
        have hc20 : l5[10]? = some (.slice e1 (picks (above fl) n).length r1) := by
          obtain ⟨m, gz, q5, q6, q9, u1, u2, u3, u4, u5, g1, g2, g3, g4, g5, e, _, h⟩ := HV59.out
          rw [e]; rfl
        have c20 : W9.cell? ⟨L, 20, none⟩ = some (.slice e1 (picks (above fl) n).length r1) := r9.cell 20 ((lrn_pos rfl hl5 10 (by omega)).trans hc20)
        have c22 : W9.cell? ⟨L, 22, none⟩ = some (.slice (some ⟨gz, 0, none⟩) (picks (above fl) n).length (picks (above fl) n).length) := r9.cell 22 ((lrn_pos rfl hl5 12 (by omega)).trans hc22)
        have c0 : W9.cell? ⟨L, 0, none⟩ = some (.int .i64 steps) := r9.cell 0 ((lrn_A rfl 0 (by omega)).trans rfl)
        have HGZ : Hid (Row W9 gz (mags (fun j => absBits (fl (pick (above fl) n j))) (picks (above fl) n).length (picks (above fl) n).length) 25) := hgz9
        have HC3 : Hid (W9.cell? ⟨L, 20, none⟩ = some (.slice e1 (picks (above fl) n).length r1) ∧ W9.cell? ⟨L, 22, none⟩ = some (.slice (some ⟨gz, 0, none⟩) (picks (above fl) n).length (picks (above fl) n).length) ∧ W9.cell? ⟨L, 0, none⟩ = some (.int .i64 steps)) := ⟨c20, c22, c0⟩
        clear r9 k9 hgz9 hc20 hc22 c20 c22 c0 HRC8 HK8 HROW8 HS18 HS28 HV58 HV68 HL8 c108 f108 lL lL' hgs hlb mth
        refine region_store 21 (sr8 y e1 (picks (above fl) n).length r1 gz steps C L) (fun vs => ⟨List.toArray (Value.agg #[.slice a1 nc c1, .map (some m1), .slice a2 nx c2, .map (some m2), .slice a3 n c3, .map (some mu), .map (some mp), .int .i64 steps, .int .i64 gl, .map gu, .int .u64 seed] :: .pointer (some ⟨B, 0, none⟩) :: .nilIface :: .pointer (some ⟨C, 0, none⟩) :: .slice ad (nc + nx) cap :: .map (some p) :: .pointer (some ⟨L, 0, none⟩) :: .slice e1 (picks (above fl) n).length r1 :: .slice e2 (picks (below fl) n).length r2 :: .pointer (some ⟨B, 6, none⟩) :: .map (some mp) :: .agg sr.toArray :: .tuple #[.slice ad (nc + nx) cap, .map (some p)] :: .agg #[.slice a1 nc c1, .map (some m1), .slice a2 nx c2, .map (some m2), .slice a3 n c3, .map (some mu), .map (some mp), .int .i64 steps, .int .i64 gl, .map gu, .int .u64 seed] :: .tuple #[.slice ad (nc + nx) cap, .map (some p)] :: .slice ad (nc + nx) cap :: .map (some p) :: va 0 :: va 1 :: va 2 :: va 3 :: va 4 :: va 5 :: va 6 :: va 7 :: va 8 :: va 9 :: va 10 :: va 11 :: va 12 :: va 13 :: va 14 :: va 15 :: va 16 :: va 17 :: va 18 :: .pointer (some ⟨L, 0, none⟩) :: .tuple #[.slice e1 (picks (above fl) n).length r1, .slice e2 (picks (below fl) n).length r2] :: .agg #[.slice a1 nc c1, .map (some m1), .slice a2 nx c2, .map (some m2), .slice a3 n c3, .map (some mu), .map (some mp), .int .i64 steps, .int .i64 gl, .map gu, .int .u64 seed] :: .tuple #[.slice e1 (picks (above fl) n).length r1, .slice e2 (picks (below fl) n).length r2] :: .slice e1 (picks (above fl) n).length r1 :: .slice e2 (picks (below fl) n).length r2 :: v5 0 :: v5 1 :: v5 2 :: v5 3 :: v5 4 :: v5 5 :: v5 6 :: v5 7 :: v5 8 :: v5 9 :: v5 10 :: v5 11 :: v5 12 :: v5 13 :: v5 14 :: v5 15 :: v5 16 :: v5 17 :: v5 18 :: v6 0 :: v6 1 :: v6 2 :: v6 3 :: v6 4 :: v6 5 :: v6 6 :: v6 7 :: v6 8 :: v6 9 :: v6 10 :: v6 11 :: v6 12 :: v6 13 :: v6 14 :: v6 15 :: v6 16 :: v6 17 :: v6 18 :: .pointer (some ⟨L, 0, none⟩) :: .slice e2 (picks (below fl) n).length r2 :: .int .i64 (((picks (below fl) n).length : Nat) : Int) :: .slice thr (picks (below fl) n).length (picks (below fl) n).length :: .pointer (some ⟨L, 0, none⟩) :: .pointer (some ⟨L, 108, none⟩) :: vs 0 :: vs 1 :: vs 2 :: vs 3 :: vs 4 :: vs 5 :: vs 6 :: vs 7 :: vs 8 :: vs 9 :: vs 10 :: vs 11 :: vs 12 :: vs 13 :: vs 14 :: vs 15 :: vs 16 :: vs 17 :: vs 18 :: vs 19 :: vs 20 :: undef :: undef :: []), []⟩) 69 (.tmp 106) (.tmp 104) (by kernel_rfl) (by kernel_rfl) (by kernel_rfl) (by kernel_rfl) (fun vs => by kernel_rfl) (sr8_keep y e1 (picks (above fl) n).length r1 gz steps C L) ?_ ?_
        · intro i hi o ho a w' hoth hdep hk
          have s3 : a.eval (.tmp 3) = .pointer (some ⟨C, 0, none⟩) := hoth 3 (by kernel_rfl)
          have s6 : a.eval (.tmp 6) = .pointer (some ⟨L, 0, none⟩) := hoth 6 (by kernel_rfl)
          have hrC := HRC9.out.keep hk (by simp)
          obtain ⟨c20, c22, c0⟩ := HC3.out
          have evf : ∀ f, a.eval (.func f) = .func (.func f) #[] #[] := fun _ => rfl
          clear HRC9 HK9 HROW9 HT1 HT2 HT3 HM1 HMU HSP HSN HS19 HS29 HL9 HV59 HV69 HGZ HC3
          match i, hi with
          | 0, _ =>
            simp only [List.getElem?_toArray, List.getElem?_cons_zero, Option.some.injEq] at ho
            subst ho
            exact flow_move rfl s6 rfl
          | 1, _ =>
            simp only [List.getElem?_toArray, List.getElem?_cons_succ, List.getElem?_cons_zero, Option.some.injEq] at ho
            subst ho
            refine flow_value ?_ rfl (Kept.refl _ _)
            generalize a.eval = ev at *
            simp [execOp, s3, go_sem]
          | 2, _ =>
            simp only [List.getElem?_toArray, List.getElem?_cons_succ, List.getElem?_cons_zero, Option.some.injEq] at ho
            subst ho
            have d1 : (a.eval (.tmp 87)) = .pointer (some ⟨C, 15, none⟩) := hdep ⟨1, .data⟩ (by simp)
            exact flow_loads (cs := [.float .f64 (y 15), .float .f64 (y 16), .float .f64 (y 17)]) rfl d1 hrC Ybad.underlying65 rfl (by kernel_rfl) rfl rfl
          | 3, _ =>
            simp only [List.getElem?_toArray, List.getElem?_cons_succ, List.getElem?_cons_zero, Option.some.injEq] at ho
            subst ho
            exact flow_move rfl s6 rfl
          | 4, _ =>
            simp only [List.getElem?_toArray, List.getElem?_cons_succ, List.getElem?_cons_zero, Option.some.injEq] at ho
            subst ho
            have d3 : (a.eval (.tmp 89)) = .pointer (some ⟨L, 0, none⟩) := hdep ⟨3, .data⟩ (by simp)
            exact flow_nil rfl d3 rfl
          | 5, _ =>
            simp only [List.getElem?_toArray, List.getElem?_cons_succ, List.getElem?_cons_zero, Option.some.injEq] at ho
            subst ho
            have d4 : (a.eval (.tmp 90)) = .pointer (some ⟨L, 0, none⟩) := hdep ⟨4, .data⟩ (by simp)
            refine flow_value ?_ rfl (Kept.refl _ _)
            generalize a.eval = ev at *
            simp [execOp, d4, go_sem]
          | 6, _ =>
            simp only [List.getElem?_toArray, List.getElem?_cons_succ, List.getElem?_cons_zero, Option.some.injEq] at ho
            subst ho
            have d5 : (a.eval (.tmp 91)) = .pointer (some ⟨L, 10, none⟩) := hdep ⟨5, .data⟩ (by simp)
            refine flow_value ?_ rfl (Kept.refl _ _)
            generalize a.eval = ev at *
            simp [execOp, d5, go_sem]
          | 7, _ =>
            simp only [List.getElem?_toArray, List.getElem?_cons_succ, List.getElem?_cons_zero, Option.some.injEq] at ho
            subst ho
            have d6 : (a.eval (.tmp 92)) = .pointer (some ⟨L, 20, none⟩) := hdep ⟨6, .data⟩ (by simp)
            refine flow_value ?_ rfl (Kept.refl _ _)
            have cc := hk.cell c20
            generalize a.eval = ev at *
            simp [execOp, d6, cc, go_sem]
          | 8, _ =>
            simp only [List.getElem?_toArray, List.getElem?_cons_succ, List.getElem?_cons_zero, Option.some.injEq] at ho
            subst ho
            exact flow_move rfl s6 rfl
          | 9, _ =>
            simp only [List.getElem?_toArray, List.getElem?_cons_succ, List.getElem?_cons_zero, Option.some.injEq] at ho
            subst ho
            have d8 : (a.eval (.tmp 94)) = .pointer (some ⟨L, 0, none⟩) := hdep ⟨8, .data⟩ (by simp)
            exact flow_nil rfl d8 rfl
          | 10, _ =>
            simp only [List.getElem?_toArray, List.getElem?_cons_succ, List.getElem?_cons_zero, Option.some.injEq] at ho
            subst ho
            have d9 : (a.eval (.tmp 95)) = .pointer (some ⟨L, 0, none⟩) := hdep ⟨9, .data⟩ (by simp)
            refine flow_value ?_ rfl (Kept.refl _ _)
            generalize a.eval = ev at *
            simp [execOp, d9, go_sem]
          | 11, _ =>
            simp only [List.getElem?_toArray, List.getElem?_cons_succ, List.getElem?_cons_zero, Option.some.injEq] at ho
            subst ho
            have d10 : (a.eval (.tmp 96)) = .pointer (some ⟨L, 10, none⟩) := hdep ⟨10, .data⟩ (by simp)
            refine flow_value ?_ rfl (Kept.refl _ _)
            generalize a.eval = ev at *
            simp [execOp, d10, go_sem]
          | 12, _ =>
            simp only [List.getElem?_toArray, List.getElem?_cons_succ, List.getElem?_cons_zero, Option.some.injEq] at ho
            subst ho
            have d11 : (a.eval (.tmp 97)) = .pointer (some ⟨L, 22, none⟩) := hdep ⟨11, .data⟩ (by simp)
            refine flow_value ?_ rfl (Kept.refl _ _)
            have cc := hk.cell c22
            generalize a.eval = ev at *
            simp [execOp, d11, cc, go_sem]
          | 13, _ =>
            simp only [List.getElem?_toArray, List.getElem?_cons_succ, List.getElem?_cons_zero, Option.some.injEq] at ho
            subst ho
            exact flow_move rfl s6 rfl
          | 14, _ =>
            simp only [List.getElem?_toArray, List.getElem?_cons_succ, List.getElem?_cons_zero, Option.some.injEq] at ho
            subst ho
            have d13 : (a.eval (.tmp 99)) = .pointer (some ⟨L, 0, none⟩) := hdep ⟨13, .data⟩ (by simp)
            exact flow_nil rfl d13 rfl
          | 15, _ =>
            simp only [List.getElem?_toArray, List.getElem?_cons_succ, List.getElem?_cons_zero, Option.some.injEq] at ho
            subst ho
            have d14 : (a.eval (.tmp 100)) = .pointer (some ⟨L, 0, none⟩) := hdep ⟨14, .data⟩ (by simp)
            refine flow_value ?_ rfl (Kept.refl _ _)
            generalize a.eval = ev at *
            simp [execOp, d14, go_sem]
          | 16, _ =>
            simp only [List.getElem?_toArray, List.getElem?_cons_succ, List.getElem?_cons_zero, Option.some.injEq] at ho
            subst ho
            have d15 : (a.eval (.tmp 101)) = .pointer (some ⟨L, 0, none⟩) := hdep ⟨15, .data⟩ (by simp)
            refine flow_value ?_ rfl (Kept.refl _ _)
            generalize a.eval = ev at *
            simp [execOp, d15, go_sem]
          | 17, _ =>
            simp only [List.getElem?_toArray, List.getElem?_cons_succ, List.getElem?_cons_zero, Option.some.injEq] at ho
            subst ho
            have d16 : (a.eval (.tmp 102)) = .pointer (some ⟨L, 0, none⟩) := hdep ⟨16, .data⟩ (by simp)
            refine flow_value ?_ rfl (Kept.refl _ _)
            have cc := hk.cell c0
            generalize a.eval = ev at *
            simp [execOp, d16, cc, go_sem]
          | 18, _ =>
            simp only [List.getElem?_toArray, List.getElem?_cons_succ, List.getElem?_cons_zero, Option.some.injEq] at ho
            subst ho
            have d2 : (a.eval (.tmp 88)) = .agg #[.float .f64 (y 15), .float .f64 (y 16), .float .f64 (y 17)] := hdep ⟨2, .data⟩ (by simp)
            have d7 : (a.eval (.tmp 93)) = .slice e1 (picks (above fl) n).length r1 := hdep ⟨7, .data⟩ (by simp)
            have d12 : (a.eval (.tmp 98)) = .slice (some ⟨gz, 0, none⟩) (picks (above fl) n).length (picks (above fl) n).length := hdep ⟨12, .data⟩ (by simp)
            have d17 : (a.eval (.tmp 103)) = .int .i64 steps := hdep ⟨17, .data⟩ (by simp)
            exact flow_call (f := 17) (args := #[.agg #[.float .f64 (y 15), .float .f64 (y 16), .float .f64 (y 17)], .slice e1 (picks (above fl) n).length r1, .slice (some ⟨gz, 0, none⟩) (picks (above fl) n).length (picks (above fl) n).length, .int .i64 steps]) (by generalize a.eval = ev at *; simp [execOp, d2, d7, d12, d17, evf, go_sem]) ((vs_any (y 15) (y 16) (y 17) e1 (some ⟨gz, 0, none⟩) (picks (above fl) n).length r1 (picks (above fl) n).length (picks (above fl) n).length steps w' (by omega) (by omega)).mono (by rintro e w2 ⟨cs, oc, rfl, h1, h2, k2⟩; exact ⟨_, rfl, ⟨_, _, rfl, h1, h2⟩, k2⟩))
          | 19, _ =>
            simp only [List.getElem?_toArray, List.getElem?_cons_succ, List.getElem?_cons_zero, Option.some.injEq] at ho
            subst ho
            have d0 : (a.eval (.tmp 86)) = .pointer (some ⟨L, 0, none⟩) := hdep ⟨0, .data⟩ (by simp)
            exact flow_nil rfl d0 rfl
          | 20, _ =>
            simp only [List.getElem?_toArray, List.getElem?_cons_succ, List.getElem?_cons_zero, Option.some.injEq] at ho
            subst ho
            have d19 : (a.eval (.tmp 105)) = .pointer (some ⟨L, 0, none⟩) := hdep ⟨19, .data⟩ (by simp)
            refine flow_value ?_ rfl (Kept.refl _ _)
            generalize a.eval = ev at *
            simp [execOp, d19, go_sem]
          | _ + 21, h => exact absurd h (by omega)
        · intro v8 W10 hR hk
          obtain ⟨l8, oc, e18, hvc, hvt⟩ := (show ∃ l oc, (v8 18) = .agg (List.toArray l) ∧ VsCells [.float .f64 (y 15), .float .f64 (y 16), .float .f64 (y 17), .slice e1 (picks (above fl) n).length r1, .slice (some ⟨gz, 0, none⟩) (picks (above fl) n).length (picks (above fl) n).length, .int .i64 steps] oc l ∧ VsTo W10 l (picks (above fl) n).length ((picks (above fl) n).length * steps) (y 15) 2 from hR 18 (by omega))
          have e20 : v8 20 = .pointer (some ⟨L, 97, none⟩) := hR 20 (by omega)
          clear hR
          have hrL := HL9.out.keep hk (by simp)
          have hgs := HGS.out
          refine ⟨L, 97, l8, _, 73, e20, e18, hrL, by rw [hvc.len]; kernel_rfl, by rw [hvc.len, lrn_length rfl hl5 hl6 rfl hgs.1 rfl]; omega, hvc.one, fun W11 hw11 hk11 hs11 => ?_⟩
          rw [splice_vs _ rfl hl5 hl6 rfl hgs.1 hvc.len] at hw11
          rename_i K hK
          refine hK _ _ ?_
          have hlb := HCC.out
          have k911 : Kept [L] W9 W11 := (hk.mono (by simp)).trans hk11 (by simp)
          have hneL := HL9.out.not 25 (by decide)
          have FIN : Hid (Row W11 L (lrn [.int .i64 steps, .int .i64 gl, .map gu, .float .f64 (y 0), .float .f64 (y 1), .float .f64 (y 2), .float .f64 (y 3), .float .f64 (y 4), .map (some m1), .map (some p)] l5 l6 [.slice t1 (nc + nx) (nc + nx), .slice t2 nc nc, .slice t3 (nc + nx) (nc + nx), .slice none 0 0, .slice none 0 0, .float .f64 0, .float .f64 0] gs l8 (.slice thr (picks (below fl) n).length (picks (below fl) n).length)) 73 ∧ IsVal W11 W4.heap.size p0 p1 p2 pi pj (y 5) (y (5 + 1)) (y (5 + 2)) (y (5 + 3)) (y (5 + 4)) (some ⟨L, 3, none⟩) e1 (picks (above fl) n).length r1 nc nx (fun j => absBits (fl (pick (above fl) n j))) l5 ∧ IsVal W11 W6.heap.size n0 n1 n2 ni nj (y 10) (y (10 + 1)) (y (10 + 2)) (y (10 + 3)) (y (10 + 4)) (some ⟨L, 3, none⟩) e2 (picks (below fl) n).length r2 nc nx (fun j => absBits (fl (pick (below fl) n j))) l6 ∧ gs.length = 20 ∧ VsCells [.float .f64 (y 15), .float .f64 (y 16), .float .f64 (y 17), .slice e1 (picks (above fl) n).length r1, .slice (some ⟨gz, 0, none⟩) (picks (above fl) n).length (picks (above fl) n).length, .int .i64 steps] oc l8 ∧ VsTo W11 l8 (picks (above fl) n).length ((picks (above fl) n).length * steps) (y 15) 2 ∧ Row W11 gz (mags (fun j => absBits (fl (pick (above fl) n j))) (picks (above fl) n).length (picks (above fl) n).length) 25 ∧ Sl W11 bs 9 e1 (picks (above fl) n).length r1 (names (above fl) n) ∧ Sl W11 bs 9 e2 (picks (below fl) n).length r2 (names (below fl) n) ∧ HasMap W11 p (lc ++ kvs (nm 120) nc nx) ∧ lc.Perm (kvs (nm 99) 0 nc) ∧ Kept [] w W11) := by
            refine ⟨hw11, HV59.out.keep k911 (by simpa using hneL), HV69.out.keep k911 (by simpa using hneL), hgs.1, hvc, ?_, HGZ.out.keep k911 (fun hm => hneL _ (by simp at hm; subst hm; exact HGZ.out)), HS19.out.keep k911 (by have := HLS.out; simp; omega), HS29.out.keep k911 (by have := HLS.out; simp; omega), HROW9.out.1.keep k911 (by simpa using HROW9.out.1.ne_row HL9.out), HROW9.out.2, HK9.out.trans k911 (by simp; omega)⟩
            intro j hj
            obtain ⟨g, h1, h2⟩ := hvt j hj
            exact ⟨g, h1, h2.keep hk11 (by simpa using hrL.not 25 (by decide)) (by simpa using hrL.not 39 (by decide))⟩
          clear hw11 hk11 hs11 hk hrL e18 e20 hgs hlb k911 hvc hvt hneL HRC9 HK9 HROW9 HS19 HS29 HL9 HV59 HV69 HGZ HC3
          go_wp2_with fail
          go_ret
          rw [← HY.out]
          exact ⟨L, lc, p, t1, t2, t3, gs, l5, l6, l8, oc, e1, r1, e2, r2, bs, gz, thr, W4.heap.size, W6.heap.size, rfl, FIN.out⟩
end Go.Proofs.YbulkjbuDoor
