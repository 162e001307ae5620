/-
  Seat b0496a: slices.Clone of a slice of integers, NumLinks.
-/
import Derived.Test.YbulkjgcBase
import Derived.BigRegion
namespace Go.Proofs.Ybulkjgc
open Go.RowKit

theorem Yba.info3 : (Yba.prog.info? 3).map (fun i => (i.zero, i.size, i.bytes)) = some (some (.int .i64 0), 1, 8) := by kernel_rfl
theorem info_parts {α β γ : Type} {o : Option TypeInfo} {z : α} {s : β} {y : γ} {f : TypeInfo → α × β × γ} (h : o.map f = some (z, s, y)) : ∃ i, o = some i ∧ f i = (z, s, y) := by
  cases o with
  | none => simp at h
  | some i => exact ⟨i, rfl, by simpa using h⟩

theorem run_not_nil (a : Addr) (n c : Nat) (w : World) : (binOp .eql 32 (.slice (some a) n c) (.slice none 0 0)).run Yba.prog w = .ok (.bool false) w := by kernel_rfl

set_option maxRecDepth 100000 in
set_option maxHeartbeats 400000 in
theorem clone_any (F n cap : Nat) (f : Nat → Int) (w : World) (hF : Nums w F n f) (h0 : 0 < n) (hn : n ≤ 400) :
    Calls Yba.prog 6 #[.slice (some ⟨F, 0, none⟩) n cap] w fun e w' => ∃ g c, e = .returned (.slice (some ⟨g, 0, none⟩) n c) ∧ w.heap.size ≤ g ∧ Nums w' g n f ∧ Kept [] w w' := by
  obtain ⟨i0, hi, hz⟩ := info_parts Yba.info3
  simp only [Prod.mk.injEq] at hz
  obtain ⟨hz0, hz1, hz2⟩ := hz
  have hlt := hF.lt
  have hnn := run_not_nil
  have hrow : (w.alloc (.cells #[] 3)).ownsRow w.heap.size 3 1 (.slice (some ⟨w.heap.size, 0, none⟩) 0 0) 0 [] :=
    World.ownsRow_lit w #[] 0 (Nat.le_refl _) (by unfold maxLen; omega) rfl
  have k0 := Kept.alloc w (.cells #[] 3)
  have hF1 := hF.keep k0 (by simp)
  go_enter Yba.func6, Yba.ntmps6
  go_wp2_with (at_builtin; refine wpList_append_own _ rfl _ _ 32 rfl w.heap.size 3 i0 (.int .i64 0) 1 8 Yba.underlying32 hi hz0 hz1 hz2 rfl (by decide) _ 0 [] rfl hrow ⟨F, 0, none⟩ n cap ((List.range n).map fun i => .int .i64 (f i)) rfl (by simp) (fun j u hj => ?_) (by simp [Value.oneCell']) (by unfold maxLen; omega) (by omega) (by simp) ?_)
  · simp only [List.getElem?_map, Option.map_eq_some_iff] at hj
    obtain ⟨j', hj', rfl⟩ := hj
    obtain ⟨hl, rfl⟩ := List.getElem?_eq_some_iff.1 hj'
    simp only [List.length_range] at hl
    have := hF1.cell j hl
    by_cases hj0 : j = 0 <;> simp_all [Addr.add]
  · intro v' w' hown hgr hne
    obtain ⟨hl, ⟨rfl, hn0⟩ | ⟨g, c, cur, rfl, hg, hh, hc1, hc2, hc3, hc4⟩⟩ := hown
    · omega
    simp only [Nat.mul_one] at hc4 hl ⊢
    go_wp2_with fail
    go_ret
    refine ⟨g, c, rfl, hg, ⟨cur.toList, 3, by simpa [Row] using hh, fun i hi => ?_⟩, k0.trans (Kept.grown hgr) (by simp [Value.ownBlock])⟩
    have := congrArg (fun l => l[i]?) hc4
    simpa [List.getElem?_take, hi] using this

set_option maxRecDepth 100000 in
set_option maxHeartbeats 400000 in
theorem num_links (G T m : Nat) (w : World) (hm : m ≤ 5000) (hT : w.cell? ⟨G, 3, none⟩ = some (.slice (some ⟨T, 0, none⟩) m m)) :
    Calls Yba.prog 5 #[.pointer (some ⟨G, 0, none⟩)] w fun e w' => e = .returned (.int .i64 ((m : Int) / 2)) ∧ w' = w := by
  have hb : (m : Int) ≤ 5000 := by omega
  go_enter Yba.func5, Yba.ntmps5
  go_wp2
  go_ret
  exact ⟨by simp, rfl⟩
end Go.Proofs.Ybulkjgc
