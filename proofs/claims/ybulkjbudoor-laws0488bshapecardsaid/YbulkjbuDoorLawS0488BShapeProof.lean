/-
  Seat b0488aD: LawS0488BShape: the row, and the card that ties its listed variables to the program's text.
-/
import Derived.Test.YbulkjbuDoorLawB
import Derived.Test.YbulkjbuDoorLaid
import Derived.Test.YbulkjbuDoorTie
import Derived.Test.YbulkjbuDoorCards
import Derived.SevenTiedAt
import Derived.ChangeSlices
import Derived.Carry
namespace Go.Proofs.YbulkjbuDoor.lawS0488BShape
open Go.ChangeShapes Go.WideShapes Go.ChangeAt Go.WideMaps Go.WideElems Go.RowKit

theorem laidOut : laidOutB Ybad.prog = true := by kernel_rfl

/-- What the walk is told of a slice of int8 that came in. -/
theorem ints_open {H : Type} {enc : TypeId × Value → H} {W : World} {base : Nat} {sp : Nat → Bool} {held : Bool} {fuel len cap : Nat} {a : Option Addr} {y : DataW H × List MemPlace} (h : DataW.trod enc Ybad.prog W base sp held fuel 22 [.slice a len cap] = some y) :
    ∃ ms : Nat → Int, (∀ j, j < len → -128 ≤ ms j ∧ ms j ≤ 127) ∧ ∀ j, j < len → ∃ b o, a = some ⟨b, o, none⟩ ∧ W.cell? ⟨b, o + j, none⟩ = some (.int .i8 (ms j)) := by
  rcases open_ints Ybad.underlying22 Ybad.underlying23 (by kernel_rfl) h with ⟨hcs, _⟩ | ⟨x, l, c, zs, hcs, _, hl, _, hz, _, hV, hwf⟩
  · simp only [List.cons.injEq, Value.slice.injEq, and_true] at hcs
    obtain ⟨rfl, rfl, rfl⟩ := hcs
    exact ⟨fun _ => 0, fun j hj => by omega, fun j hj => by omega⟩
  · simp only [List.cons.injEq, Value.slice.injEq, and_true] at hcs
    obtain ⟨rfl, rfl, rfl⟩ := hcs
    have hlm : len ≤ zs.length := by rw [hz]; split <;> omega
    refine ⟨fun j => zs.getD j 0, fun j hj => bounds_i8 (hwf _ ?_), fun j hj => ?_⟩
    · show zs.getD j 0 ∈ zs
      rw [List.getD_eq_getElem?_getD, List.getElem?_eq_getElem (by omega)]
      exact List.getElem_mem _
    have h0 := hV 0 (by omega)
    have hsp : x.spot = none := by
      simp only [Addr.add, if_true] at h0
      obtain ⟨_, _, _, _, h⟩ := World.shape?_of_cell? h0
      exact h
    obtain ⟨xb, xo, xs⟩ := x
    simp only at hsp
    subst hsp
    refine ⟨xb, xo, rfl, ?_⟩
    have hj' := hV j (by omega)
    by_cases hj0 : j = 0
    · subst hj0; simpa [Addr.add] using hj'
    · simpa [Addr.add, hj0] using hj'

theorem walk (a0 a1 a3 a4 : Int) (seed len cap : Nat) (ma : Option Addr) (ms : Nat → Int) (p0 p1 p2 n0 n1 n2 : ByteArray) (pi pj ni nj : Int) (w : World) (b0 : 0 ≤ a0 ∧ a0 ≤ 255) (b1 : 0 ≤ a1 ∧ a1 ≤ 255) (b3 : 0 ≤ a3 ∧ a3 ≤ 255) (b4 : -128 ≤ a4 ∧ a4 ≤ 127)
    (hms : ∀ j, j < len → -128 ≤ ms j ∧ ms j ≤ 127) (hcells : ∀ j, j < len → ∃ b o, ma = some ⟨b, o, none⟩ ∧ w.cell? ⟨b, o + j, none⟩ = some (.int .i8 (ms j)))
    (ht : Tab w) (sp : Spec w 0 p0 p1 p2 pi pj) (sn : Spec w 1 n0 n1 n2 ni nj) :
    Calls Ybad.prog 3 #[.int .u8 a0, .int .u8 a1, .slice ma len cap, .int .u8 a3, .int .i8 a4, .int .u64 seed] w fun e w' => e = .returned (.bool true) ∧ Kept [] w w' := by
  by_cases h : len ≤ 256
  · exact shape_law a0 a1 a3 a4 (a0 % 12).toNat (a1 % 6).toNat (a3 % 16).toNat seed len cap ma ms p0 p1 p2 n0 n1 n2 pi pj ni nj w b0.1 b0.2 b1.1 b1.2 b3.1 b3.2 b4.1 b4.2 (by omega) (by omega) (by omega) h hms hcells ht sp sn
  · exact shape_long a0 a1 a3 a4 seed len cap ma w (by omega)

set_option maxRecDepth 100000 in
theorem door_met (os : Os) (args : Array Value) : laidMetH Ybad.prog laid5 ((World.doorLaid Ybad.prog 400 os).forCall (fun _ _ => 0) ⟨#[], args, []⟩).memory :=
  laidMetH_of_parts3 (fuel := 8) (laidMet_of_run' 8 (by kernel_rfl) (by kernel_rfl)) (by kernel_rfl) (by kernel_rfl)

set_option maxRecDepth 100000 in
theorem lifted (os : Os) (started : os.Started) (H : Type) (enc : TypeId × Value → H) :
    ReturnsInHanded {} Ybad.checked os 3 .any (fun w args => (Rows.lawS0488BShapeSpec.pre enc Ybad.prog Ybad.f3 [] false w args ∧ laidMetH Ybad.prog laid5 w) ∧ sizedMet enc Ybad.prog Ybad.f3 (OpenSpec.ofChange Rows.lawS0488BShapeSpec) false w args)
      (Rows.lawS0488BShapeSpec.post enc Ybad.prog Ybad.f3 false true false false) := by
  refine returnsInHanded_of_change_and (C := Ybad.checked) (X := fun w _ => laidMetH Ybad.prog laid5 w) (fun _ _ _ hh h => h.of_heap hh) own started (by kernel_rfl) Ybad.func3
    (ChangeSpec.witness_shaped (enc := enc) (C := Ybad.checked) (os := os) (X := fun w _ => laidMetH Ybad.prog laid5 w) false (World.doorLaid Ybad.prog 400 os) #[.int .u8 0, .int .u8 0, .slice none 0 0, .int .u8 0, .int .i8 0, .int .u64 0] 8 rfl (World.shaped_of_RefB (by kernel_rfl) (by kernel_rfl)) (by kernel_rfl) (by kernel_rfl) (by kernel_rfl) (door_met os _)) ?_
  intro W base args ds gs before hval0 hW _ _ hL _
  have hval : ∀ (j : Nat) t v, Ybad.f3.params[j]? = some t → args[j]? = some v → Value.okWide Ybad.prog W .any base t v := hval0
  have hW' := hW
  obtain ⟨p, q, hA0, hV0, rfl, hfz, hnd⟩ := hW
  have hA : DataW.TrodAll enc Ybad.prog W 0 (fun _ => true) true Ybad.f3.params.toList args.toList ds p := hA0
  have hV : DataW.TrodVars enc Ybad.prog W (fun _ => true) ["example.com/neva/neva.positive", "example.com/neva/neva.negative"] gs q := hV0
  rw [Ybad.params3] at hA hval
  obtain ⟨v0, vs0, d0, ds0, p0, q0, hargs, rfl, rfl, h0, r0⟩ := trodAll_cons hA
  obtain ⟨v1, vs1, d1, ds1, p1, q1, rfl, rfl, rfl, h1, r1⟩ := trodAll_cons r0
  obtain ⟨v2, vs2, d2, ds2, p2, q2, rfl, rfl, rfl, h2, r2⟩ := trodAll_cons r1
  obtain ⟨v3, vs3, d3, ds3, p3, q3, rfl, rfl, rfl, h3, r3⟩ := trodAll_cons r2
  obtain ⟨v4, vs4, d4, ds4, p4, q4, rfl, rfl, rfl, h4, r4⟩ := trodAll_cons r3
  obtain ⟨v5, vs5, d5, ds5, p5, q5, rfl, rfl, rfl, h5, r5⟩ := trodAll_cons r4
  obtain ⟨rfl, rfl, rfl⟩ := trodAll_nil r5
  obtain rfl : args = #[v0, v1, v2, v3, v4, v5] := by cases args; simp_all
  obtain ⟨a0, rfl, rfl, rfl, w0⟩ := open_int Ybad.underlying5 (hval 0 5 v0 rfl rfl) h0
  obtain ⟨a1, rfl, rfl, rfl, w1⟩ := open_int Ybad.underlying5 (hval 1 5 v1 rfl rfl) h1
  obtain ⟨a2, len2, cap2, rfl⟩ := okWide_slice Ybad.underlying22 (hval 2 22 v2 rfl rfl)
  have k2 := h2
  have lt2 : ∀ x ∈ p2, x.block < W.heap.size := by obtain ⟨m, hm⟩ := k2; exact DataW.trod_lt m _ _ _ hm
  obtain ⟨ms, hms, hcells⟩ : ∃ ms : Nat → Int, (∀ j, j < len2 → -128 ≤ ms j ∧ ms j ≤ 127) ∧ ∀ j, j < len2 → ∃ b o, a2 = some ⟨b, o, none⟩ ∧ W.cell? ⟨b, o + j, none⟩ = some (.int .i8 (ms j)) := by
    obtain ⟨fuel, hf⟩ := h2
    exact ints_open (by simpa [Value.cells] using hf)
  obtain ⟨a3, rfl, rfl, rfl, w3⟩ := open_int Ybad.underlying5 (hval 3 5 v3 rfl rfl) h3
  obtain ⟨a4, rfl, rfl, rfl, w4⟩ := open_int Ybad.underlying23 (hval 4 23 v4 rfl rfl) h4
  obtain ⟨a5, rfl, rfl, rfl, w5⟩ := open_int Ybad.underlying24 (hval 5 24 v5 rfl rfl) h5
  obtain ⟨hT, hP, hN⟩ := of_laid hL
  obtain ⟨g0, t0, cs0, f0, e0, pp0, g1, t1, cs1, f1, e1, pp1, rfl, hg0, ht0, hv0, hd0, hg1, ht1, hv1, hd1, rfl⟩ := trodVars_two hV
  obtain rfl := Option.some.inj (gPos.symm.trans hg0)
  obtain rfl := Option.some.inj (tPos.symm.trans ht0)
  obtain rfl := Option.some.inj (gNeg.symm.trans hg1)
  obtain rfl := Option.some.inj (tNeg.symm.trans ht1)
  obtain rfl := Option.some.inj (hP.symm.trans hv0)
  obtain rfl := Option.some.inj (hN.symm.trans hv1)
  obtain ⟨rfl, rfl⟩ := DataW.Trod.unique (v := .agg posCells.toArray) ⟨f0, hd0⟩ ⟨3, reads_pos enc W _⟩
  obtain ⟨rfl, rfl⟩ := DataW.Trod.unique (v := .agg negCells.toArray) ⟨f1, hd1⟩ ⟨3, reads_neg enc W _⟩
  clear hA0 hV0 hval0
  obtain ⟨sd, rfl⟩ : ∃ sd : Nat, a5 = (sd : Int) := ⟨a5.toNat, by have := bounds_u64 w5; omega⟩
  refine (walk a0 a1 a3 a4 sd len2 cap2 a2 ms _ _ _ _ _ _ _ _ _ _ W (bounds_u8 w0) (bounds_u8 w1) (bounds_u8 w3) (bounds_i8 w4) hms hcells hT (spec_of_var _ _ _ _ _ gPos hP) (spec_of_var _ _ _ _ _ gNeg hN)).mono fun e W' ⟨he, hk⟩ => ?_
  subst he
  have hb := hk.below (B := W.heap.size) (Nat.le_refl _) (by simp)
  exact ⟨_, rfl, _, _, _, [], _, _, hW', trodAll_mk1 (shut_bool Ybad.underlying4 _), (trodAll_cons_mk (shut_int Ybad.underlying5 w0) (trodAll_cons_mk (shut_int Ybad.underlying5 w1) (trodAll_cons_mk (Below.trod laidOut (by kernel_rfl) (of_decide_eq_true (by kernel_rfl)) k2 hb lt2) (trodAll_cons_mk (shut_int Ybad.underlying5 w3) (trodAll_cons_mk (shut_int Ybad.underlying23 w4) (trodAll_cons_mk (shut_int Ybad.underlying24 w5) trodAll_mk0)))))), vars_of enc (var_keep gPos hk hP) (var_keep gNeg hk hN) _, hb.frame _, fun h => by cases h⟩

theorem row_holds : Rows.LawS0488BShapeSaid :=
  OpenClaim.holds_of_wide 3 Ybad.f3 rfl rfl rfl rfl rfl rfl rfl ⟨rfl, rfl, rfl, rfl, rfl⟩ rfl rfl rfl rfl rfl (by kernel_rfl) Ybad.func3 (by kernel_rfl)
    (of_decide_eq_true (by kernel_rfl)) (by unfold Func.isWrapper; first | (rw [if_pos (by decide +kernel)]; kernel_rfl) | (rw [if_neg (by decide +kernel)]; exact ⟨rfl, rfl⟩))
    (fun os started H enc _ => lifted os started H enc)

/-- ████ THE CARD ████ -/
theorem proved : Rows.LawS0488BShapeCardSaid :=
  Claim7.holds_tied_plain_at .later [] [.data, .data, .data, .wider, .wider] true (true, "b64fa10d338e6067aadebea75b98fa811c2aac3d281485b42f451db742ce3139") true
    row_holds (fun _ h => by cases h) (by kernel_rfl) (fun _ h => by cases h) lawS0488BShape_row_tie rfl ⟨rfl, rfl⟩ (by kernel_rfl) rfl
    (fun f fn hf hfn => by
      obtain rfl : f = 3 := Option.some.inj ((show Ybad.prog.funcNamed "example.com/neva/neva.LawS0488BShape" = some 3 by kernel_rfl).symm.trans hf) |>.symm
      obtain rfl : fn = Ybad.f3 := (Option.some.inj (Ybad.func3.symm.trans hfn)).symm
      exact ⟨by kernel_rfl, fun j t ht => by
        rw [Ybad.params3] at ht
        have h3 : t = 5 ∨ t = 22 ∨ t = 23 ∨ t = 24 := by
          match j, ht with
          | 0, ht => exact .inl (by simpa using ht.symm)
          | 1, ht => exact .inl (by simpa using ht.symm)
          | 2, ht => exact .inr (.inl (by simpa using ht.symm))
          | 3, ht => exact .inl (by simpa using ht.symm)
          | 4, ht => exact .inr (.inr (.inl (by simpa using ht.symm)))
          | 5, ht => exact .inr (.inr (.inr (by simpa using ht.symm)))
          | j + 6, ht => simp at ht
        rcases h3 with rfl | rfl | rfl | rfl
        · exact (show Ybad.prog.wantsStandIn 5 = false by kernel_rfl)
        · exact (show Ybad.prog.wantsStandIn 22 = false by kernel_rfl)
        · exact (show Ybad.prog.wantsStandIn 23 = false by kernel_rfl)
        · exact (show Ybad.prog.wantsStandIn 24 = false by kernel_rfl)⟩)
    (by kernel_rfl)
#print axioms proved
end Go.Proofs.YbulkjbuDoor.lawS0488BShape
