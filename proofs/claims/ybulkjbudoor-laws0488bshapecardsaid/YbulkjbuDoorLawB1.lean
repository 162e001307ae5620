/-
  Seat b0488aD: the law LawS0488BShape: the map of rows, plainly.
-/
import Derived.Test.YbulkjbuDoorBuild
namespace Go.Proofs.YbulkjbuDoor
open Go.RowKit

theorem row_len {lc : List (ByteArray × Value)} {nc nx : Nat} (h : lc.Perm (kvs (nm 99) 0 nc)) : (lc ++ kvs (nm 120) nc nx).length = nc + nx := by
  rw [List.length_append, h.length_eq, kvs_len, kvs_len]
theorem row_c {lc : List (ByteArray × Value)} {nc nx : Nat} (h : lc.Perm (kvs (nm 99) 0 nc)) (i : Nat) (hi : i < nc) : look (nm 99 i) (lc ++ kvs (nm 120) nc nx) = some (.int .i64 i) := by
  have hn : (lc.map Prod.fst).Nodup := (h.map Prod.fst).nodup_iff.2 (kvs_nodup _ _ _ (fun i j _ _ e => (nm_inj e).2))
  have hm : (nm 99 i, Value.int .i64 (i : Int)) ∈ lc := h.mem_iff.2 (by
    simp only [kvs, List.mem_map, List.mem_range]
    exact ⟨i, hi, by simp⟩)
  rw [look_append, look_mem hn hm]; rfl
theorem row_x {lc : List (ByteArray × Value)} {nc nx : Nat} (h : lc.Perm (kvs (nm 99) 0 nc)) (i : Nat) (hi : i < nx) : look (nm 120 i) (lc ++ kvs (nm 120) nc nx) = some (.int .i64 ((nc : Int) + (i : Int))) := by
  have hn : look (nm 120 i) lc = none := by
    rw [look_none_iff]; intro p hp
    have := h.mem_iff.1 hp
    simp only [kvs, List.mem_map, List.mem_range] at this
    obtain ⟨j, _, rfl⟩ := this
    intro e
    have := (nm_inj e).1
    simp at this
  rw [look_append, hn, kvs_look _ _ _ _ hi (fun i j _ _ e => (nm_inj e).2)]; rfl

set_option maxRecDepth 100000 in
set_option maxHeartbeats 1000000 in
/-- More than 256 magnitudes: true at once. -/
theorem shape_long (a0 a1 a3 a4 : Int) (seed len cap : Nat) (ma : Option Addr) (w : World) (h : 256 < len) :
    Calls Ybad.prog 3 #[.int .u8 a0, .int .u8 a1, .slice ma len cap, .int .u8 a3, .int .i8 a4, .int .u64 seed] w fun e w' => e = .returned (.bool true) ∧ Kept [] w w' := by
  have hl : (256 : Int) < (len : Int) := by omega
  go_enter Ybad.func3, Ybad.ntmps3
  go_wp2_with fail
  go_ret
  exact ⟨rfl, Kept.refl _ _⟩
end Go.Proofs.YbulkjbuDoor
