/-
  Seat b0488aD: byteorder.LEUint64, binary.PutUint64, the key of the stream.
-/
import Derived.Test.YbulkjbuDoorExt
import Derived.Test.YbulkjbuDoorConcat
import Derived.BigQuiet
import Derived.Deep.QuietTactic
namespace Go.Proofs.YbulkjbuDoor
open Go.RowKit

/-- A row of n bytes, whatever they are. -/
def BytesRow (w : World) (g n : Nat) (t : TypeId) : Prop := ∃ ys : List Int, ys.length = n ∧ Row w g (ys.map (Value.int .u8)) t
theorem BytesRow.keep {w w' : World} {b n : Nat} {t : TypeId} {ws : List Nat} (h : BytesRow w b n t) (k : Kept ws w w') (hn : b ∉ ws) : BytesRow w' b n t := by
  obtain ⟨l, h1, h2⟩ := h; exact ⟨l, h1, h2.keep k hn⟩
theorem BytesRow.set {w : World} {b n : Nat} {t : TypeId} (h : BytesRow w b n t) (i : Nat) (x : Int) : BytesRow (w.setCell ⟨b, i, none⟩ (.int .u8 x)) b n t := by
  obtain ⟨l, h1, h2⟩ := h
  exact ⟨l.set i x, by simpa using h1, by rw [List.map_set]; exact h2.set i _⟩
theorem BytesRow.cell {w : World} {b n : Nat} {t : TypeId} (h : BytesRow w b n t) (i : Nat) (hi : i < n) : ∃ x, w.cell? ⟨b, i, none⟩ = some (.int .u8 x) := by
  obtain ⟨l, h1, h2⟩ := h
  exact ⟨l[i]'(by omega), h2.cell i (by rw [List.getElem?_map, List.getElem?_eq_getElem (by omega)]; rfl)⟩
theorem BytesRow.free {w : World} {b n : Nat} {t : TypeId} (h : BytesRow w b n t) (i : Nat) : w.frozen? ⟨b, i, none⟩ = false := by
  obtain ⟨_, _, h2⟩ := h; exact h2.free i

theorem Kept.drewN (w : World) (n : Nat) : Kept [] w (w.drewN n) := ⟨rfl, rfl, rfl, Nat.le_refl _, fun _ _ _ => rfl⟩

set_option maxRecDepth 100000 in
set_option maxHeartbeats 1000000 in
theorem le_any (g off n c : Nat) (w : World) (y0 y1 y2 y3 y4 y5 y6 y7 : Int) (hn : 8 ≤ n) (c0 : w.cell? ⟨g, off, none⟩ = some (.int .u8 y0)) (c1 : w.cell? ⟨g, off + 1, none⟩ = some (.int .u8 y1)) (c2 : w.cell? ⟨g, off + 2, none⟩ = some (.int .u8 y2)) (c3 : w.cell? ⟨g, off + 3, none⟩ = some (.int .u8 y3))
    (c4 : w.cell? ⟨g, off + 4, none⟩ = some (.int .u8 y4)) (c5 : w.cell? ⟨g, off + 5, none⟩ = some (.int .u8 y5)) (c6 : w.cell? ⟨g, off + 6, none⟩ = some (.int .u8 y6)) (c7 : w.cell? ⟨g, off + 7, none⟩ = some (.int .u8 y7)) :
    Calls Ybad.prog 45 #[.slice (some ⟨g, off, none⟩) n c] w fun e w' => (∃ x, e = .returned (.int .u64 x)) ∧ Kept [] w w' := by
  have h0 : decide ((0 : Int) < (n : Int)) = true := by simp; omega
  have h1 : decide ((1 : Int) < (n : Int)) = true := by simp; omega
  have h2 : decide ((2 : Int) < (n : Int)) = true := by simp; omega
  have h3 : decide ((3 : Int) < (n : Int)) = true := by simp; omega
  have h4 : decide ((4 : Int) < (n : Int)) = true := by simp; omega
  have h5 : decide ((5 : Int) < (n : Int)) = true := by simp; omega
  have h6 : decide ((6 : Int) < (n : Int)) = true := by simp; omega
  have h7 : decide ((7 : Int) < (n : Int)) = true := by simp; omega
  go_enter Ybad.func45, Ybad.ntmps45
  go_wp2_with fail
  go_quiet (fail)
  go_wp2_with fail
  go_ret
  exact ⟨⟨_, rfl⟩, Kept.drewN _ _⟩

set_option maxRecDepth 100000 in
set_option maxHeartbeats 1000000 in
theorem put_any (g off n c N x : Nat) (t : TypeId) (w : World) (hn : 8 ≤ n) (hN : off + 8 ≤ N) (hb : BytesRow w g N t) :
    Calls Ybad.prog 31 #[.agg #[], .slice (some ⟨g, off, none⟩) n c, .int .u64 x] w fun e w' => e = .returned (.tuple #[]) ∧ BytesRow w' g N t ∧ Kept [g] w w' := by
  have h0 : decide ((0 : Int) < (n : Int)) = true := by simp; omega
  have h1 : decide ((1 : Int) < (n : Int)) = true := by simp; omega
  have h2 : decide ((2 : Int) < (n : Int)) = true := by simp; omega
  have h3 : decide ((3 : Int) < (n : Int)) = true := by simp; omega
  have h4 : decide ((4 : Int) < (n : Int)) = true := by simp; omega
  have h5 : decide ((5 : Int) < (n : Int)) = true := by simp; omega
  have h6 : decide ((6 : Int) < (n : Int)) = true := by simp; omega
  have h7 : decide ((7 : Int) < (n : Int)) = true := by simp; omega
  obtain ⟨y0, c0⟩ := hb.cell off (by omega)
  obtain ⟨y1, c1⟩ := hb.cell (off + 1) (by omega)
  obtain ⟨y2, c2⟩ := hb.cell (off + 2) (by omega)
  obtain ⟨y3, c3⟩ := hb.cell (off + 3) (by omega)
  obtain ⟨y4, c4⟩ := hb.cell (off + 4) (by omega)
  obtain ⟨y5, c5⟩ := hb.cell (off + 5) (by omega)
  obtain ⟨y6, c6⟩ := hb.cell (off + 6) (by omega)
  obtain ⟨y7, c7⟩ := hb.cell (off + 7) (by omega)
  have f0 := hb.free off
  have f1 := hb.free (off + 1)
  have f2 := hb.free (off + 2)
  have f3 := hb.free (off + 3)
  have f4 := hb.free (off + 4)
  have f5 := hb.free (off + 5)
  have f6 := hb.free (off + 6)
  have f7 := hb.free (off + 7)
  have hlt : g < w.heap.size := by obtain ⟨_, _, h⟩ := hb; exact h.lt
  have hne : g ≠ w.heap.size := by omega
  have HB : Hid (BytesRow w g N t) := hb
  clear hb
  go_enter Ybad.func31, Ybad.ntmps31
  go_wp2_with fail
  go_end0
  refine ⟨rfl, ?_, ?_⟩
  · refine BytesRow.keep ?_ (Kept.alloc _ _) (by simp)
    iterate 8 refine BytesRow.set ?_ _ _
    exact HB.out
  · refine Kept.trans ?_ (Kept.alloc _ _) (by simp)
    iterate 7 refine Kept.trans ?_ (Kept.setCell _ _ _ _) (by simp)
    exact Kept.setCell _ _ _ _
end Go.Proofs.YbulkjbuDoor
