/-
  Seat b0488aD: rand.NewChaCha8, rand.New, newStream, newGoal.
-/
import Derived.Test.YbulkjbuDoorInit
import Derived.Lib.LazyBuf
namespace Go.Proofs.YbulkjbuDoor
open Go.RowKit

def chaR (g : Nat) (key : List Value) : Nat → Value → World → Prop
  | 0, v, _ => v = .pointer (some ⟨g, 0, none⟩)
  | 1, v, _ => v = .pointer (some ⟨g, 0, none⟩)
  | 2, v, _ => v = .pointer (some ⟨g, 0, none⟩)
  | 3, v, _ => v = .agg key.toArray
  | _, _, _ => True
theorem chaR_keep (g : Nat) (key : List Value) (i : Nat) (v : Value) (w w' : World) (_ : Kept [] w w') (h : chaR g key i v w) : chaR g key i v w' := by
  match i, h with
  | 0, h => exact h
  | 1, h => exact h
  | 2, h => exact h
  | 3, h => exact h
  | _ + 4, _ => exact trivial

set_option maxRecDepth 100000 in
set_option maxHeartbeats 2000000 in
theorem chacha_any (ys : List Int) (w : World) (hy : ys.length = 32) :
    Calls Ybad.prog 33 #[.agg (ys.map (Value.int .u8)).toArray] w fun e w' => ∃ g, e = .returned (.pointer (some ⟨g, 0, none⟩)) ∧ Kept [] w w' := by
  obtain ⟨key, hkey⟩ : ∃ key, key = ys.map (Value.int .u8) := ⟨_, rfl⟩
  rw [← hkey]
  have HY : Hid (key = ys.map (Value.int .u8)) := hkey
  have hkl : key.length = 32 := by rw [hkey]; simpa using hy
  clear hkey
  go_enter Ybad.func33, Ybad.ntmps33
  go_wp2_with fail
  refine region_calls 4 (chaR (w.heap.size + 1) key) (fun vs => ⟨List.toArray (Value.agg key.toArray :: .pointer (some ⟨w.heap.size, 0, none⟩) :: .pointer none :: .pointer (some ⟨w.heap.size + 1, 0, none⟩) :: .pointer (some ⟨w.heap.size + 1, 0, none⟩) :: vs 0 :: vs 1 :: vs 2 :: vs 3 :: undef :: undef :: []), []⟩) (some 9) (by kernel_rfl) (by kernel_rfl) (by kernel_rfl) (by kernel_rfl) (fun vs => by kernel_rfl) (chaR_keep (w.heap.size + 1) key) ?_ ?_
  · intro i hi o ho a w' hoth hdep hk
    have s1 : a.eval (.tmp 1) = .pointer (some ⟨w.heap.size, 0, none⟩) := hoth 1 (by kernel_rfl)
    have s3 : a.eval (.tmp 3) = .pointer (some ⟨w.heap.size + 1, 0, none⟩) := hoth 3 (by kernel_rfl)
    have hrk := (Row.made w key 109).keep ((Kept.alloc _ _).trans hk (by simp)) (by simp)
    generalize w.heap.size + 1 = g at *
    match i, hi with
    | 0, _ =>
      simp only [List.getElem?_toArray, List.getElem?_cons_zero, Option.some.injEq] at ho
      subst ho
      exact flow_move rfl s3 rfl
    | 1, _ =>
      simp only [List.getElem?_toArray, List.getElem?_cons_succ, List.getElem?_cons_zero, Option.some.injEq] at ho
      subst ho
      have d0 : (a.eval (.tmp 5)) = .pointer (some ⟨g, 0, none⟩) := hdep ⟨0, .data⟩ (by simp)
      exact flow_nil rfl d0 rfl
    | 2, _ =>
      simp only [List.getElem?_toArray, List.getElem?_cons_succ, List.getElem?_cons_zero, Option.some.injEq] at ho
      subst ho
      have d1 : (a.eval (.tmp 6)) = .pointer (some ⟨g, 0, none⟩) := hdep ⟨1, .data⟩ (by simp)
      refine flow_value ?_ rfl (Kept.refl _ _)
      generalize a.eval = ev at *
      simp [execOp, d1, go_sem]
    | 3, _ =>
      simp only [List.getElem?_toArray, List.getElem?_cons_succ, List.getElem?_cons_zero, Option.some.injEq] at ho
      subst ho
      exact flow_loads rfl s1 hrk Ybad.underlying109 rfl (by rw [hkl]; kernel_rfl) (by simp) rfl
  · intro vs W hR hk
    have e2 : vs 2 = .pointer (some ⟨w.heap.size + 1, 0, none⟩) := hR 2 (by omega)
    have e3 : vs 3 = .agg key.toArray := hR 3 (by omega)
    clear hR
    have hst := (Row.made (w.alloc (.cells key.toArray 109)) _ 134).keep hk (by simp)
    rw [show (w.alloc (.cells key.toArray 109)).heap.size = w.heap.size + 1 from by simp] at hst
    refine ⟨38, #[.pointer (some ⟨w.heap.size + 1, 0, none⟩), .agg key.toArray], ?_, ?_⟩
    · intro ol hol
      simp only [List.getElem?_toArray, List.getElem?_cons_succ, List.getElem?_cons_zero, Option.some.injEq] at hol
      subst hol
      simp [e2, e3, go_sem]
    · rw [HY.out]
      refine (init_any (w.heap.size + 1) _ 134 _ ys W hst rfl (by simp) hy).mono ?_
      rintro e w3 ⟨rfl, h3, k3⟩
      refine ⟨_, rfl, ?_⟩
      rename_i Q' K hK
      refine hK _ _ ?_
      go_wp2_with fail
      go_ret
      exact ⟨_, rfl, (((Kept.alloc _ _).trans (Kept.alloc _ _) (by simp)).trans hk (by simp)).trans k3 (by simp)⟩

set_option maxRecDepth 100000 in
set_option maxHeartbeats 2000000 in
theorem new_any (p : Option Addr) (w : World) : Calls Ybad.prog 32 #[.iface 115 (.pointer p)] w fun e w' => ∃ p, e = .returned (.pointer p) ∧ Kept [] w w' := by
  go_enter Ybad.func32, Ybad.ntmps32
  go_wp2_with fail
  go_ret
  exact ⟨_, rfl, Kept.alloc _ _⟩

theorem BytesRow.sets {w : World} {b n : Nat} {t : TypeId} (h : BytesRow w b n t) (l : List UInt8) (o : Nat) (hl : o + l.length ≤ n) : BytesRow (w.setCells b o (l.map fun x => Value.int .u8 (x.toNat : Int))) b n t := by
  obtain ⟨ys, h1, h2⟩ := h
  have := h2.sets (l.map fun x => Value.int .u8 (x.toNat : Int)) o (by simp; omega)
  refine ⟨ys.take o ++ ((l.map fun x => (x.toNat : Int)) ++ ys.drop (o + l.length)), by simp; omega, ?_⟩
  have e : (ys.take o ++ ((l.map fun x => (x.toNat : Int)) ++ ys.drop (o + l.length))).map (Value.int .u8) = splice (ys.map (Value.int .u8)) o (l.map fun x => Value.int .u8 (x.toNat : Int)) := by
    simp [splice, List.map_take, List.map_drop]
  rw [e]; exact this
def strR (B seed : Nat) : Nat → Value → World → Prop
  | 0, v, _ => v = .agg #[]
  | 1, v, _ => v = .slice (some ⟨B, 0, none⟩) 8 32
  | 2, v, _ => v = .int .u64 seed
  | _, _, _ => True
theorem strR_keep (B seed : Nat) (i : Nat) (v : Value) (w w' : World) (_ : Kept [] w w') (h : strR B seed i v w) : strR B seed i v w' := by
  match i, h with
  | 0, h => exact h
  | 1, h => exact h
  | 2, h => exact h
  | _ + 3, _ => exact trivial

set_option maxRecDepth 100000 in
set_option maxHeartbeats 2000000 in
theorem stream_any (seed : Nat) (s : ByteArray) (hs : s.size ≤ 24) (w : World) : Calls Ybad.prog 24 #[.int .u64 seed, .string s] w fun e w' => ∃ p, e = .returned (.pointer p) ∧ Kept [] w w' := by
  go_enter Ybad.func24, Ybad.ntmps24
  go_wp2_with fail
  refine region_calls 3 (strR w.heap.size seed) (fun vs => ⟨List.toArray (Value.int .u64 seed :: .string s :: undef :: undef :: .pointer none :: .pointer (some ⟨w.heap.size, 0, none⟩) :: vs 0 :: vs 1 :: vs 2 :: undef :: undef :: undef :: undef :: undef :: undef :: undef :: undef :: []), []⟩) (some 9) (by kernel_rfl) (by kernel_rfl) (by kernel_rfl) (by kernel_rfl) (fun vs => by kernel_rfl) (strR_keep w.heap.size seed) ?_ ?_
  · intro i hi o ho a w' hoth hdep hk
    have s0 : a.eval (.tmp 0) = .int .u64 seed := hoth 0 (by kernel_rfl)
    have s5 : a.eval (.tmp 5) = .pointer (some ⟨w.heap.size, 0, none⟩) := hoth 5 (by kernel_rfl)
    have evc : ∀ v, a.eval (.const v) = v := fun _ => rfl
    match i, hi with
    | 0, _ =>
      simp only [List.getElem?_toArray, List.getElem?_cons_zero, Option.some.injEq] at ho
      subst ho
      exact flow_load rfl rfl (run_loadAt_mid _ 3 0 111 [] _ (fun j v h => by simp at h) Ybad.underlying111 rfl (by kernel_rfl)) rfl
    | 1, _ =>
      simp only [List.getElem?_toArray, List.getElem?_cons_succ, List.getElem?_cons_zero, Option.some.injEq] at ho
      subst ho
      refine flow_value ?_ rfl (Kept.refl _ _)
      generalize a.eval = ev at *
      simp [execOp, s5, evc, go_sem]
    | 2, _ =>
      simp only [List.getElem?_toArray, List.getElem?_cons_succ, List.getElem?_cons_zero, Option.some.injEq] at ho
      subst ho
      exact flow_move rfl s0 rfl
  · intro vs W hR hk
    have e0 : vs 0 = .agg #[] := hR 0 (by omega)
    have e1 : vs 1 = .slice (some ⟨w.heap.size, 0, none⟩) 8 32 := hR 1 (by omega)
    have e2 : vs 2 = .int .u64 seed := hR 2 (by omega)
    clear hR
    have hb : BytesRow W w.heap.size 32 109 := ⟨List.replicate 32 0, by simp, (Row.made w _ 109).keep hk (by simp)⟩
    have ka := (Kept.alloc w _).trans hk (by simp)
    refine ⟨31, #[.agg #[], .slice (some ⟨w.heap.size, 0, none⟩) 8 32, .int .u64 seed], ?_, ?_⟩
    · intro ol hol
      simp only [List.getElem?_toArray, List.getElem?_cons_succ, List.getElem?_cons_zero, Option.some.injEq] at hol
      subst hol
      simp [e0, e1, e2, go_sem]
    · refine (put_any w.heap.size 0 8 32 32 seed 109 W (by omega) (by omega) hb).mono ?_
      rintro e w3 ⟨rfl, h3, k3⟩
      refine ⟨_, rfl, ?_⟩
      rename_i Q' K hK
      refine hK _ _ ?_
      have HK3 : Hid (Kept [] w w3) := ka.trans k3 (by simp)
      have hz : ∀ w, (Go.sizeOf 5).run Ybad.prog w = .ok 1 w := fun w => rfl
      have hcp := run_copy_string (P := Ybad.prog) w3 113 9 3 5 w.heap.size 8 24 24 s Ybad.underlying113 hz hs (fun j hj => by obtain ⟨y, hy⟩ := h3.cell (8 + j) (by omega); rw [hy]; rfl) (fun j _ => h3.free _)
      have h4 := h3.sets s.data.toList 8 (by have : s.data.toList.length = s.size := by rw [Array.length_toList]; rfl
                                             omega)
      have k4 := Kept.sets w.heap.size (s.data.toList.map fun x => Value.int .u8 (x.toNat : Int)) 8 w3
      generalize w3.setCells w.heap.size 8 (s.data.toList.map fun x => Value.int .u8 (x.toNat : Int)) = w4 at *
      obtain ⟨ys, hy, hrow⟩ := h4
      have HK4 : Hid (Kept [] w w4) := HK3.out.trans k4 (by simp)
      have hi109 : (Ybad.prog.info? 109).map (·.size) = some (ys.map (Value.int .u8)).length := by rw [List.length_map, hy]; kernel_rfl
      clear ka k3 h3 k4 hk hb HK3
      go_wp2_with (refine wpList_loads rfl 109 _ rfl w.heap.size 0 (ys.map (Value.int .u8)) _ rfl hrow Ybad.underlying109 rfl hi109 (by rw [List.drop_zero, List.take_length]) ?_)
      refine (chacha_any ys w4 hy).mono ?_
      rintro e w5 ⟨g5, rfl, k5⟩
      go_wp2_with fail
      refine (new_any _ w5).mono ?_
      rintro e w6 ⟨p6, rfl, k6⟩
      go_wp2_with fail
      go_ret
      exact ⟨_, rfl, (HK4.out.trans k5 (by simp)).trans k6 (by simp)⟩
end Go.Proofs.YbulkjbuDoor
