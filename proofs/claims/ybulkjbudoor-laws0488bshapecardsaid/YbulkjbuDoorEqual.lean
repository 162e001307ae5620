/-
  Seat b0488aD: slices.Equal of two slices that read alike.
-/
import Derived.Test.YbulkjbuDoorLe
import Derived.BigQuiet
import Derived.Deep.QuietTactic
namespace Go.Proofs.YbulkjbuDoor
open Go.RowKit

set_option maxRecDepth 100000 in
set_option maxHeartbeats 2000000 in
theorem eq_strings (a1 a2 : Option Addr) (n c1 c2 : Nat) (f : Nat → ByteArray) (w : World) (hn : n ≤ 100000)
    (h1 : ∀ j, j < n → ∃ g, a1 = some ⟨g, 0, none⟩ ∧ w.cell? ⟨g, j, none⟩ = some (.string (f j))) (h2 : ∀ j, j < n → ∃ g, a2 = some ⟨g, 0, none⟩ ∧ w.cell? ⟨g, j, none⟩ = some (.string (f j))) :
    Calls Ybad.prog 8 #[.slice a1 n c1, .slice a2 n c2] w fun e w' => e = .returned (.bool true) ∧ Kept [] w w' := by
  have hnI : (n : Int) ≤ 100000 := by omega
  go_enter Ybad.func8, Ybad.ntmps8
  go_wp2_with fail
  go_loopw [13] (fun i wr => ∃ k : Nat, k ≤ n ∧ i = .int .i64 k ∧ Kept [] w wr) (fun i _ => n - (intOf i).toNat)
  case atStart => exact ⟨0, Nat.zero_le _, rfl, Kept.refl _ _⟩
  case round =>
    obtain ⟨k, hk, rfl, hkk⟩ := hrel
    by_cases hlt : k < n
    · obtain ⟨g1, rfl, d1⟩ := h1 k hlt
      obtain ⟨g2, rfl, d2⟩ := h2 k hlt
      have q1 := hkk.cell d1
      have q2 := hkk.cell d2
      have hkI : (k : Int) < (n : Int) := by omega
      have HK : Hid (Kept [] w wr) := hkk
      clear h1 h2 d1 d2 hkk
      go_wp2_with fail
      go_quiet (fail)
      go_wp2_with fail
      go_roundw
      case rel => exact ⟨k + 1, by omega, by go_num, HK.out.trans (Kept.drewN _ _) (by simp)⟩
      case measure => simp [intOf]; omega
    · obtain rfl : k = n := by omega
      go_wp2_with fail
      go_ret
      exact ⟨rfl, hkk⟩

set_option maxRecDepth 100000 in
set_option maxHeartbeats 2000000 in
theorem eq_floats (a1 a2 : Option Addr) (n c1 c2 : Nat) (f f' : Nat → Nat) (w : World) (hn : n ≤ 100000)
    (h1 : ∀ j, j < n → ∃ g, a1 = some ⟨g, 0, none⟩ ∧ w.cell? ⟨g, j, none⟩ = some (.float .f64 (f j))) (h2 : ∀ j, j < n → ∃ g, a2 = some ⟨g, 0, none⟩ ∧ w.cell? ⟨g, j, none⟩ = some (.float .f64 (f' j)))
    (ho : ∀ j, j < n → (FloatKind.f64.format.order (f j) (f' j) != some .eq) = false) :
    Calls Ybad.prog 9 #[.slice a1 n c1, .slice a2 n c2] w fun e w' => e = .returned (.bool true) ∧ Kept [] w w' := by
  have hnI : (n : Int) ≤ 100000 := by omega
  go_enter Ybad.func9, Ybad.ntmps9
  go_wp2_with fail
  go_loopw [13] (fun i wr => ∃ k : Nat, k ≤ n ∧ i = .int .i64 k ∧ Kept [] w wr) (fun i _ => n - (intOf i).toNat)
  case atStart => exact ⟨0, Nat.zero_le _, rfl, Kept.refl _ _⟩
  case round =>
    obtain ⟨k, hk, rfl, hkk⟩ := hrel
    by_cases hlt : k < n
    · obtain ⟨g1, rfl, d1⟩ := h1 k hlt
      obtain ⟨g2, rfl, d2⟩ := h2 k hlt
      have q1 := hkk.cell d1
      have q2 := hkk.cell d2
      have o := ho k hlt
      have hkI : (k : Int) < (n : Int) := by omega
      have HK : Hid (Kept [] w wr) := hkk
      clear h1 h2 d1 d2 hkk ho
      go_wp2_with fail
      go_quiet (fail)
      go_wp2_with fail
      go_roundw
      case rel => exact ⟨k + 1, by omega, by go_num, HK.out.trans (Kept.drewN _ _) (by simp)⟩
      case measure => simp [intOf]; omega
    · obtain rfl : k = n := by omega
      go_wp2_with fail
      go_ret
      exact ⟨rfl, hkk⟩
end Go.Proofs.YbulkjbuDoor
