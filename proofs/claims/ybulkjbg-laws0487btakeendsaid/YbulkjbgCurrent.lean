/-
  Seat b0487a: Turns' methods current, take, end.
-/
import Derived.Test.YbulkjbgTurns
namespace Go.Proofs.Ybulkjbg
open Go.MuLone Go.RowKit

/-- What the struct holds: the lock's word, the holder, until. -/
structure Lies (w : World) (b off : Nat) (h : ByteArray) (n s : Int) : Prop where
  hb : b < w.heap.size
  fl : w.frozen? ⟨b, off, none⟩ = false
  f2 : w.frozen? ⟨b, off + 2, none⟩ = false
  f3 : w.frozen? ⟨b, off + 3, none⟩ = false
  f4 : w.frozen? ⟨b, off + 3 + 1, none⟩ = false
  f5 : w.frozen? ⟨b, off + 3 + 2, none⟩ = false
  cl : w.cell? ⟨b, off, none⟩ = some (.int .i32 0)
  ch : w.cell? ⟨b, off + 2, none⟩ = some (.string h)
  c0 : w.cell? ⟨b, off + 3, none⟩ = some (.int .u64 n)
  c1 : w.cell? ⟨b, off + 3 + 1, none⟩ = some (.int .i64 s)
  c2 : w.cell? ⟨b, off + 3 + 2, none⟩ = some (.pointer none)

theorem Lies.of_gr {w w' : World} {b off : Nat} {h : ByteArray} {n s : Int} (L : Lies w b off h n s) (g : Gr w w') : Lies w' b off h n s :=
  ⟨Nat.lt_of_lt_of_le L.hb g.size, (g.froz _).trans L.fl, (g.froz _).trans L.f2, (g.froz _).trans L.f3, (g.froz _).trans L.f4, (g.froz _).trans L.f5, g.cell L.cl, g.cell L.ch, g.cell L.c0, g.cell L.c1, g.cell L.c2⟩

set_option maxRecDepth 100000 in
set_option maxHeartbeats 1000000 in
theorem current_of (b off : Nat) (h r : ByteArray) (n1 s1 n2 s2 : Int) (w : World) (L : Lies w b off h n2 s2)
    (hat : Hid (∀ W : World, b < W.heap.size → W.cell? ⟨b, off + 2, none⟩ = some (.string h) → W.cell? ⟨b, off + 3, none⟩ = some (.int .u64 n2) → W.cell? ⟨b, off + 3 + 1, none⟩ = some (.int .i64 s2) → W.cell? ⟨b, off + 3 + 2, none⟩ = some (.pointer none) →
      Calls Yba.prog 13 #[.pointer (some ⟨b, off, none⟩), .agg #[.int .u64 n1, .int .i64 s1, .pointer none]] W fun e w' => e = .returned (.string r) ∧ Gr W w')) :
    Calls Yba.prog 6 #[.pointer (some ⟨b, off, none⟩), .agg #[.int .u64 n1, .int .i64 s1, .pointer none]] w fun e w' => e = .returned (.string r) ∧ Gr w w' := by
  have hb := L.hb
  go_enter_defers Yba.func6, Yba.ntmps6
  go_wp2_with fail
  have g1 := Gr.alloc w #[.int .u64 n1, .int .i64 s1, .pointer none] 26
  have L1 := L.of_gr g1
  refine (lock_free muLib ⟨b, off, none⟩ _ L1.cl L1.fl).mono ?_
  rintro e w' ⟨rfl, rfl⟩
  go_wp2_with fail
  have g2 := Gr.alloc (w.setCell ⟨b, off, none⟩ (.int .i32 1)) #[.int .u64 n1, .int .i64 s1, .pointer none] 26
  refine (hat.out _ (by simp; omega) (g2.cell ((World.cell?_setCell_other _ _ _ _ (by simp)).trans L.ch)) (g2.cell ((World.cell?_setCell_other _ _ _ _ (by simp)).trans L.c0)) (g2.cell ((World.cell?_setCell_other _ _ _ _ (by simp)).trans L.c1)) (g2.cell ((World.cell?_setCell_other _ _ _ _ (by simp)).trans L.c2))).mono ?_
  rintro e w3 ⟨rfl, g3⟩
  have g4 := g2.trans g3
  have k4 := g4.cell (World.cell?_setCell_same w ⟨b, off, none⟩ (.int .i32 1) L.cl)
  have f4 := (g4.froz ⟨b, off, none⟩).trans ((World.frozen?_setCell _ _ _ _).trans L.fl)
  have HG : Hid (Gr _ w3) := g4
  clear g1 L1 g2 g3 g4
  go_wp2_with fail
  refine leaves_cons (f := 12) (args := #[.pointer (some ⟨b, off, none⟩)]) (by simp) (by simp [go_sem]) ?_
  refine (unlock_deferred muLib ⟨b, off, none⟩ .returning _ k4 f4).mono ?_
  rintro e u' w'' ⟨rfl, rfl, rfl⟩
  exact ⟨_, results_tmp rfl _ _ _, rfl, (Gr.refl w).sandwich L.cl HG.out⟩

theorem current_yes (b off : Nat) (h : ByteArray) (n1 s1 n2 s2 : Int) (w : World) (L : Lies w b off h n2 s2) (a0 : 0 ≤ n1) (a1 : n1 < 1000000000) (b0 : 0 ≤ n2) (b1 : n2 < 1000000000)
    (hlt : Hid (s1 * 1000000000 + n1 < s2 * 1000000000 + n2)) :
    Calls Yba.prog 6 #[.pointer (some ⟨b, off, none⟩), .agg #[.int .u64 n1, .int .i64 s1, .pointer none]] w fun e w' => e = .returned (.string h) ∧ Gr w w' :=
  current_of b off h h n1 s1 n2 s2 w L (fun W hb hh c0 c1 c2 => at_yes b off h n1 s1 n2 s2 W a0 a1 b0 b1 hb hh c0 c1 c2 hlt)

theorem current_no (b off : Nat) (h : ByteArray) (n1 s1 n2 s2 : Int) (w : World) (L : Lies w b off h n2 s2) (a0 : 0 ≤ n1) (a1 : n1 < 1000000000) (b0 : 0 ≤ n2) (b1 : n2 < 1000000000)
    (hlt : Hid (s2 * 1000000000 + n2 ≤ s1 * 1000000000 + n1)) :
    Calls Yba.prog 6 #[.pointer (some ⟨b, off, none⟩), .agg #[.int .u64 n1, .int .i64 s1, .pointer none]] w fun e w' => e = .returned (.string ⟨#[]⟩) ∧ Gr w w' :=
  current_of b off h ⟨#[]⟩ n1 s1 n2 s2 w L (fun W hb _ c0 c1 c2 => at_no b off n1 s1 n2 s2 W a0 a1 b0 b1 hb c0 c1 c2 hlt)

/-- Nobody holds the turn: whatever the time, nothing. -/
theorem current_empty (b off : Nat) (n1 s1 n2 s2 : Int) (w : World) (L : Lies w b off ⟨#[]⟩ n2 s2) (a0 : 0 ≤ n1) (a1 : n1 < 1000000000) (b0 : 0 ≤ n2) (b1 : n2 < 1000000000) :
    Calls Yba.prog 6 #[.pointer (some ⟨b, off, none⟩), .agg #[.int .u64 n1, .int .i64 s1, .pointer none]] w fun e w' => e = .returned (.string ⟨#[]⟩) ∧ Gr w w' := by
  by_cases h : s1 * 1000000000 + n1 < s2 * 1000000000 + n2
  · exact current_yes b off ⟨#[]⟩ n1 s1 n2 s2 w L a0 a1 b0 b1 h
  · exact current_no b off ⟨#[]⟩ n1 s1 n2 s2 w L a0 a1 b0 b1 (Int.not_lt.1 h)
end Go.Proofs.Ybulkjbg
