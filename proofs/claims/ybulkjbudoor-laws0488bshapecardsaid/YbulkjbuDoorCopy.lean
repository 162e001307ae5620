/-
  Seat b0488aD (from the same prover's text for seat b0488a): maps.Copy into an empty map.
-/
import Derived.Test.YbulkjbuDoorConcat
import Derived.Maps.RangeWalk
namespace Go.Proofs.YbulkjbuDoor
open Go.RowKit

theorem Ranging.left_eq {w : World} {b r : Nat} {l left : List (ByteArray × Value)} (h : Ranging w b r l left) : w.rangeLeft b r = left.length := by
  obtain ⟨es, c, seen, hb, _, _, _, _, hr, rfl⟩ := h
  simp [World.rangeLeft, hb, hr]

set_option maxRecDepth 100000 in
set_option maxHeartbeats 1000000 in
theorem copy_any (d s : Nat) (l : List (ByteArray × Value)) (w : World) (hds : d ≠ s) (hd : HasMap w d []) (hs : HasMap w s l) (hn : (l.map Prod.fst).Nodup) :
    Calls Ybad.prog 23 #[.map (some d), .map (some s)] w fun e w' => e = .returned (.tuple #[]) ∧ ∃ l', l'.Perm l ∧ HasMap w' d l' ∧ Kept [d] w w' := by
  have hdl := hd.lt
  go_enter Ybad.func23, Ybad.ntmps23
  go_wp2_with (at_range; refine wpList_range _ rfl _ 28 9 3 rfl Ybad.underlying28 s l rfl hs ?_; intro w0 hr0 k0 hs0)
  go_frame
  go_loopw [4] (fun _ wr => ∃ left done, Ranging wr s w.heap.size l left ∧ HasMap wr d done ∧ (done ++ left).Perm l ∧ Kept [d] w wr) (fun _ wr => wr.rangeLeft s w.heap.size)
  case atStart => exact ⟨l, [], hr0, hd.keep k0 (by simp), by simp, k0.mono (by simp)⟩
  case round =>
    obtain ⟨left, done, hr, hm, hp, hk⟩ := hrel
    have HP : Hid ((done ++ left).Perm l) := hp
    clear hp hr0 k0
    go_wp2_with (at_next; refine wpList_next _ rfl _ rfl s w.heap.size l left rfl hr ?_ ?_)
    · intro h0
      subst h0
      go_wp2
      go_end0
      exact ⟨rfl, done, by simpa using HP.out, hm, hk⟩
    · intro k v left' w1 hpm hr1 k1 hs1 hen
      have hm1 := hm.keep k1 (by simp; omega)
      have hp1 : ((done ++ [(k, v)]) ++ left').Perm l := by
        rw [List.append_assoc]
        exact ((List.Perm.append_left done hpm).symm).trans HP.out
      have hfresh : look k done = none := by
        rw [look_none_iff]
        intro p hpd e
        have hnd := ((hp1.map Prod.fst).nodup_iff).2 hn
        simp only [List.map_append, List.map_cons, List.map_nil] at hnd
        rw [List.append_assoc, List.nodup_append] at hnd
        exact hnd.2.2 p.1 (List.mem_map.2 ⟨p, hpd, rfl⟩) k (by simp) e
      have HP1 : Hid (((done ++ [(k, v)]) ++ left').Perm l) := hp1
      have HL : Hid (left'.length < left.length) := by show _ < _; have := hpm.length_eq; simp at this; omega
      have K1 : Hid (Kept [d] w w1) := hk.trans k1 (by simp)
      clear HP hp1 hpm hm hk k1
      go_wp2_with (at_mapUpdate; refine wpList_put _ rfl _ _ _ 28 9 3 rfl Ybad.underlying28 Ybad.underlying9 d done rfl hm1 k v rfl rfl hfresh ?_; intro w2 hm2 k2 hs2; go_frame)
      have hr2 := hr1.keep k2 (by simpa using fun e => hds e.symm) (by simp; omega)
      go_roundw
      case rel => exact ⟨left', _, hr2, hm2, HP1.out, K1.out.trans k2 (by simp)⟩
      case measure => rw [hr2.left_eq, hr.left_eq]; exact HL.out
end Go.Proofs.YbulkjbuDoor
