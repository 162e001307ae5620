/-
  Seat b0487a: Turns' methods take and end.
-/
import Derived.Test.YbulkjbgCurrent
namespace Go.Proofs.Ybulkjbg
open Go.MuLone Go.RowKit

/-- Every block but b is as it was; nothing is newly frozen. -/
structure Ex (b : Nat) (w w' : World) : Prop where
  os : w'.os = w.os
  tape : w'.tape = w.tape
  output : w'.output = w.output
  size : w.heap.size ≤ w'.heap.size
  block : ∀ k, k < w.heap.size → k ≠ b → w'.heap[k]? = w.heap[k]?
  froz : ∀ a, w'.frozen? a = w.frozen? a

theorem Ex.of_gr {b : Nat} {w w' : World} (g : Gr w w') : Ex b w w' := ⟨g.below.os, g.below.tape, g.below.output, g.below.size, fun k hk _ => g.below.block k hk, g.froz⟩
theorem Ex.trans {b : Nat} {w w' w'' : World} (g : Ex b w w') (k : Ex b w' w'') : Ex b w w'' :=
  ⟨k.os.trans g.os, k.tape.trans g.tape, k.output.trans g.output, Nat.le_trans g.size k.size, fun i hi hn => (k.block i (Nat.lt_of_lt_of_le hi g.size) hn).trans (g.block i hi hn), fun a => (k.froz a).trans (g.froz a)⟩
theorem Ex.setCell (b o : Nat) (w : World) (v : Value) : Ex b w (w.setCell ⟨b, o, none⟩ v) :=
  ⟨rfl, rfl, rfl, by simp, fun k _ hn => Below.heap_setCell w ⟨b, o, none⟩ v k hn, fun a => World.frozen?_setCell _ _ _ _⟩
theorem Ex.gr {b : Nat} {w0 w w' : World} (g : Gr w0 w) (hb : w0.heap.size ≤ b) (k : Ex b w w') : Gr w0 w' :=
  ⟨⟨k.os.trans g.below.os, k.tape.trans g.below.tape, k.output.trans g.below.output, Nat.le_trans g.size k.size, fun i hi => (k.block i (Nat.lt_of_lt_of_le hi g.size) (by omega)).trans (g.below.block i hi)⟩, fun a => (k.froz a).trans (g.froz a)⟩
theorem Ex.cell {b : Nat} {w w' : World} (h : Ex b w w') {k o : Nat} {v : Value} (hn : k ≠ b) (hc : w.cell? ⟨k, o, none⟩ = some v) : w'.cell? ⟨k, o, none⟩ = some v := by
  have hb : k < w.heap.size := by
    apply Classical.byContradiction
    intro hn
    have e : w.heap[k]? = none := by simp; omega
    simp [World.cell?, e] at hc
  rw [World.cell?_of_block (w := w) (h.block k hb hn)]; exact hc

theorem at_empty (b off : Nat) (n1 s1 n2 s2 : Int) (w : World) (a0 : 0 ≤ n1) (a1 : n1 < 1000000000) (b0 : 0 ≤ n2) (b1 : n2 < 1000000000) (hb : b < w.heap.size)
    (hh : w.cell? ⟨b, off + 2, none⟩ = some (.string ⟨#[]⟩)) (c0 : w.cell? ⟨b, off + 3, none⟩ = some (.int .u64 n2)) (c1 : w.cell? ⟨b, off + 3 + 1, none⟩ = some (.int .i64 s2)) (c2 : w.cell? ⟨b, off + 3 + 2, none⟩ = some (.pointer none)) :
    Calls Yba.prog 13 #[.pointer (some ⟨b, off, none⟩), .agg #[.int .u64 n1, .int .i64 s1, .pointer none]] w fun e w' =>
      e = .returned (.string ⟨#[]⟩) ∧ Gr w w' := by
  by_cases h : s1 * 1000000000 + n1 < s2 * 1000000000 + n2
  · exact at_yes b off ⟨#[]⟩ n1 s1 n2 s2 w a0 a1 b0 b1 hb hh c0 c1 c2 h
  · exact at_no b off n1 s1 n2 s2 w a0 a1 b0 b1 hb c0 c1 c2 (Int.not_lt.1 h)

theorem add_hold (n s N S : Int) (w : World) (h0 : 0 ≤ n) (h1 : n < 1000000000) (s0 : -100000000000000 ≤ s) (s1 : s ≤ 100000000000000)
    (hN : N = n) (hS : S = s + 15) :
    Calls Yba.prog 10 #[.agg #[.int .u64 n, .int .i64 s, .pointer none], .int .i64 15000000000] w fun e w' =>
      e = .returned (.agg #[.int .u64 N, .int .i64 S, .pointer none]) ∧ Gr w w' := by
  refine (add_any n s 15000000000 N S w h0 h1 s0 s1 (by decide) (by omega) (by omega)).mono ?_
  rintro e w' ⟨he, rfl⟩
  exact ⟨he, (Gr.alloc _ _ _).trans (Gr.alloc _ _ _)⟩

theorem lies_set (b off : Nat) (a : ByteArray) (n s : Int) (w : World) (v0 v2 v3 v4 v5 : Value) (hb : b < w.heap.size)
    (k0 : w.cell? ⟨b, off, none⟩ = some v0) (k2 : w.cell? ⟨b, off + 2, none⟩ = some v2) (k3 : w.cell? ⟨b, off + 3, none⟩ = some v3) (k4 : w.cell? ⟨b, off + 3 + 1, none⟩ = some v4) (k5 : w.cell? ⟨b, off + 3 + 2, none⟩ = some v5)
    (f0 : w.frozen? ⟨b, off, none⟩ = false) (f2 : w.frozen? ⟨b, off + 2, none⟩ = false) (f3 : w.frozen? ⟨b, off + 3, none⟩ = false) (f4 : w.frozen? ⟨b, off + 3 + 1, none⟩ = false) (f5 : w.frozen? ⟨b, off + 3 + 2, none⟩ = false) :
    Lies (((((w.setCell ⟨b, off + 2, none⟩ (.string a)).setCell ⟨b, off + 3, none⟩ (.int .u64 n)).setCell ⟨b, off + 3 + 1, none⟩ (.int .i64 s)).setCell ⟨b, off + 3 + 2, none⟩ (.pointer none)).setCell ⟨b, off, none⟩ (.int .i32 0)) b off a n s := by
  refine ⟨by simpa using hb, ?_, ?_, ?_, ?_, ?_, ?_, ?_, ?_, ?_, ?_⟩ <;> simp [go_sem, k0, k2, k3, k4, k5, f0, f2, f3, f4, f5]

theorem lies_end (b off : Nat) (a : ByteArray) (n s : Int) (w : World) (L : Lies (w.setCell ⟨b, off, none⟩ (.int .i32 0)) b off a n s) (hc : w.cell? ⟨b, off, none⟩ = some (.int .i32 1)) :
    Lies ((w.setCell ⟨b, off + 2, none⟩ (.string ⟨#[]⟩)).setCell ⟨b, off, none⟩ (.int .i32 0)) b off ⟨#[]⟩ n s := by
  obtain ⟨hb, f0, f2, f3, f4, f5, c0, c2, c3, c4, c5⟩ := L
  simp [go_sem] at hb f0 f2 f3 f4 f5 c2 c3 c4 c5
  refine ⟨by simpa using hb, ?_, ?_, ?_, ?_, ?_, ?_, ?_, ?_, ?_, ?_⟩ <;> simp [go_sem, hc, c2, c3, c4, c5, f0, f2, f3, f4, f5]

set_option maxRecDepth 100000 in
set_option maxHeartbeats 1000000 in
theorem take_empty (b off : Nat) (a : ByteArray) (n1 s1 n2 s2 : Int) (w : World) (L : Lies w b off ⟨#[]⟩ n2 s2) (a0 : 0 ≤ n1) (a1 : n1 < 1000000000) (b0 : 0 ≤ n2) (b1 : n2 < 1000000000)
    (q0 : -100000000000000 ≤ s1) (q1 : s1 ≤ 100000000000000) :
    Calls Yba.prog 8 #[.pointer (some ⟨b, off, none⟩), .string a, .agg #[.int .u64 n1, .int .i64 s1, .pointer none]] w fun e w' => e = .returned (.string a) ∧ Lies w' b off a n1 (s1 + 15) ∧ Ex b w w' := by
  have hb := L.hb
  go_enter_defers Yba.func8, Yba.ntmps8
  go_wp2_with fail
  have g1 := Gr.alloc w #[.int .u64 n1, .int .i64 s1, .pointer none] 26
  have L1 := L.of_gr g1
  refine (lock_free muLib ⟨b, off, none⟩ _ L1.cl L1.fl).mono ?_
  rintro e w' ⟨rfl, rfl⟩
  go_wp2_with fail
  have g2 := Gr.alloc (w.setCell ⟨b, off, none⟩ (.int .i32 1)) #[.int .u64 n1, .int .i64 s1, .pointer none] 26
  refine (at_empty b off n1 s1 n2 s2 _ a0 a1 b0 b1 (by simp; omega) (g2.cell ((World.cell?_setCell_other _ _ _ _ (by simp)).trans L.ch)) (g2.cell ((World.cell?_setCell_other _ _ _ _ (by simp)).trans L.c0)) (g2.cell ((World.cell?_setCell_other _ _ _ _ (by simp)).trans L.c1)) (g2.cell ((World.cell?_setCell_other _ _ _ _ (by simp)).trans L.c2))).mono ?_
  rintro e w3 ⟨rfl, g3⟩
  have m0 := g3.cell (b := w.heap.size) (o := 0) (v := .int .u64 n1) (by simp [go_sem])
  have m1 := g3.cell (b := w.heap.size) (o := 1) (v := .int .i64 s1) (by simp [go_sem])
  have m2 := g3.cell (b := w.heap.size) (o := 2) (v := .pointer none) (by simp [go_sem])
  have G4 : Hid (Gr _ w3) := g2.trans g3
  clear g1 L1 g2 g3
  go_wp2_with fail
  refine (add_hold n1 s1 n1 (s1 + 15) _ a0 a1 q0 q1 rfl rfl).mono ?_
  rintro e w5 ⟨rfl, g5⟩
  have G5 := G4.out.trans g5
  have E5 : Ex b w w5 := (Ex.setCell b off w _).trans (Ex.of_gr G5)
  have k0 := G5.cell (World.cell?_setCell_same w ⟨b, off, none⟩ (.int .i32 1) L.cl)
  have k2 := G5.cell ((World.cell?_setCell_other w ⟨b, off, none⟩ ⟨b, off + 2, none⟩ (.int .i32 1) (by simp)).trans L.ch)
  have k3 := G5.cell ((World.cell?_setCell_other w ⟨b, off, none⟩ ⟨b, off + 3, none⟩ (.int .i32 1) (by simp)).trans L.c0)
  have k4 := G5.cell ((World.cell?_setCell_other w ⟨b, off, none⟩ ⟨b, off + 3 + 1, none⟩ (.int .i32 1) (by simp)).trans L.c1)
  have k5 := G5.cell ((World.cell?_setCell_other w ⟨b, off, none⟩ ⟨b, off + 3 + 2, none⟩ (.int .i32 1) (by simp)).trans L.c2)
  have f0 := (E5.froz _).trans L.fl
  have f2 := (E5.froz _).trans L.f2
  have f3 := (E5.froz _).trans L.f3
  have f4 := (E5.froz _).trans L.f4
  have f5 := (E5.froz _).trans L.f5
  have HE : Hid (Ex b w w5) := E5
  have HL : Hid (Lies w b off ⟨#[]⟩ n2 s2) := L
  clear E5 G5 G4 g5 L m0 m1 m2
  go_wp2_with fail
  refine leaves_cons (f := 12) (args := #[.pointer (some ⟨b, off, none⟩)]) (by simp) (by simp [go_sem]) ?_
  refine (unlock_deferred muLib ⟨b, off, none⟩ .returning _ (by simp [go_sem, k0]) (by simp [f0])).mono ?_
  rintro e u' w'' ⟨rfl, rfl, rfl⟩
  have hb5 : b < w5.heap.size := Nat.lt_of_lt_of_le hb HE.out.size
  exact ⟨_, results_tmp rfl _ _ _, rfl, lies_set b off a n1 (s1 + 15) w5 _ _ _ _ _ hb5 k0 k2 k3 k4 k5 f0 f2 f3 f4 f5,
    ((((HE.out.trans (Ex.setCell _ _ _ _)).trans (Ex.setCell _ _ _ _)).trans (Ex.setCell _ _ _ _)).trans (Ex.setCell _ _ _ _)).trans (Ex.setCell _ _ _ _)⟩

set_option maxRecDepth 100000 in
set_option maxHeartbeats 1000000 in
theorem end_own (b off : Nat) (a : ByteArray) (n2 s2 : Int) (w : World) (L : Lies w b off a n2 s2) :
    Calls Yba.prog 9 #[.pointer (some ⟨b, off, none⟩), .string a] w fun e w' => e = .returned (.tuple #[]) ∧ Lies w' b off ⟨#[]⟩ n2 s2 ∧ Ex b w w' := by
  have hb := L.hb
  go_enter_defers Yba.func9, Yba.ntmps9
  go_wp2_with fail
  refine (lock_free muLib ⟨b, off, none⟩ _ L.cl L.fl).mono ?_
  rintro e w' ⟨rfl, rfl⟩
  have k2 := (World.cell?_setCell_other w ⟨b, off, none⟩ ⟨b, off + 2, none⟩ (.int .i32 1) (by simp)).trans L.ch
  have f2 := L.f2
  have HL : Hid (Lies w b off a n2 s2) := L
  clear L
  go_wp2_with fail
  have k0 := World.cell?_setCell_same w ⟨b, off, none⟩ (.int .i32 1) HL.out.cl
  refine leaves_cons (f := 12) (args := #[.pointer (some ⟨b, off, none⟩)]) (by simp) (by simp [go_sem]) ?_
  refine (unlock_deferred muLib ⟨b, off, none⟩ .returning _ (by simp [go_sem, k0]) (by simp [HL.out.fl])).mono ?_
  rintro e u' w'' ⟨rfl, rfl, rfl⟩
  refine ⟨_, results_none rfl _ _ _, rfl, ?_, ((Ex.setCell _ _ _ _).trans (Ex.setCell _ _ _ _)).trans (Ex.setCell _ _ _ _)⟩
  exact lies_end b off a n2 s2 _ (HL.out.of_gr ((Gr.refl w).sandwich HL.out.cl (Gr.refl _))) k0
end Go.Proofs.Ybulkjbg
