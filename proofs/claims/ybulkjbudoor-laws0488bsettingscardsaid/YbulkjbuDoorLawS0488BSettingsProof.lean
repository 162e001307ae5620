/-
  Seat b0488aD: LawS0488BSettings: the row, and the card that ties its listed variables to the program's text.
-/
import Derived.Test.YbulkjbuDoorLawA
import Derived.Test.YbulkjbuDoorLaid
import Derived.Test.YbulkjbuDoorTie
import Derived.Test.YbulkjbuDoorCards
import Derived.SevenTiedAt
namespace Go.Proofs.YbulkjbuDoor.lawS0488BSettings
open Go.ChangeShapes Go.WideShapes Go.ChangeAt Go.WideMaps Go.WideElems Go.RowKit

set_option maxRecDepth 100000 in
theorem door_met (os : Os) (args : Array Value) : laidMetH Ybad.prog laid5 ((World.doorLaid Ybad.prog 400 os).forCall (fun _ _ => 0) ⟨#[], args, []⟩).memory :=
  laidMetH_of_parts3 (fuel := 8) (laidMet_of_run' 8 (by kernel_rfl) (by kernel_rfl)) (by kernel_rfl) (by kernel_rfl)

set_option maxRecDepth 100000 in
theorem lifted (os : Os) (started : os.Started) (H : Type) (enc : TypeId × Value → H) :
    ReturnsInHanded {} Ybad.checked os 4 .any (fun w args => (Rows.lawS0488BSettingsSpec.pre enc Ybad.prog Ybad.f4 [] false w args ∧ laidMetH Ybad.prog laid5 w) ∧ sizedMet enc Ybad.prog Ybad.f4 (OpenSpec.ofChange Rows.lawS0488BSettingsSpec) false w args)
      (Rows.lawS0488BSettingsSpec.post enc Ybad.prog Ybad.f4 false true false false) := by
  refine returnsInHanded_of_change_and (C := Ybad.checked) (X := fun w _ => laidMetH Ybad.prog laid5 w) (fun _ _ _ hh h => h.of_heap hh) own started (by kernel_rfl) Ybad.func4
    (ChangeSpec.witness_shaped (enc := enc) (C := Ybad.checked) (os := os) (X := fun w _ => laidMetH Ybad.prog laid5 w) false (World.doorLaid Ybad.prog 400 os) #[.int .i8 0, .int .i8 0, .int .i8 0, .int .i8 0] 8 rfl (World.shaped_of_RefB (by kernel_rfl) (by kernel_rfl)) (by kernel_rfl) (by kernel_rfl) (by kernel_rfl) (door_met os _)) ?_
  intro W base args ds gs before hval0 hW _ _ hL _
  have hval : ∀ (j : Nat) t v, Ybad.f4.params[j]? = some t → args[j]? = some v → Value.okWide Ybad.prog W .any base t v := hval0
  have hW' := hW
  obtain ⟨p, q, hA0, hV0, rfl, hfz, hnd⟩ := hW
  have hA : DataW.TrodAll enc Ybad.prog W 0 (fun _ => true) true Ybad.f4.params.toList args.toList ds p := hA0
  have hV : DataW.TrodVars enc Ybad.prog W (fun _ => true) ["example.com/neva/neva.positive", "example.com/neva/neva.negative"] gs q := hV0
  rw [Ybad.params4] at hA hval
  obtain ⟨v0, vs0, d0, ds0, p0, q0, hargs, rfl, rfl, h0, r0⟩ := trodAll_cons hA
  obtain ⟨v1, vs1, d1, ds1, p1, q1, rfl, rfl, rfl, h1, r1⟩ := trodAll_cons r0
  obtain ⟨v2, vs2, d2, ds2, p2, q2, rfl, rfl, rfl, h2, r2⟩ := trodAll_cons r1
  obtain ⟨v3, vs3, d3, ds3, p3, q3, rfl, rfl, rfl, h3, r3⟩ := trodAll_cons r2
  obtain ⟨rfl, rfl, rfl⟩ := trodAll_nil r3
  obtain rfl : args = #[v0, v1, v2, v3] := by cases args; simp_all
  obtain ⟨a0, rfl, rfl, rfl, w0⟩ := open_int Ybad.underlying23 (hval 0 23 v0 rfl rfl) h0
  obtain ⟨a1, rfl, rfl, rfl, w1⟩ := open_int Ybad.underlying23 (hval 1 23 v1 rfl rfl) h1
  obtain ⟨a2, rfl, rfl, rfl, w2⟩ := open_int Ybad.underlying23 (hval 2 23 v2 rfl rfl) h2
  obtain ⟨a3, rfl, rfl, rfl, w3⟩ := open_int Ybad.underlying23 (hval 3 23 v3 rfl rfl) h3
  obtain ⟨hT, hP, hN⟩ := of_laid hL
  obtain ⟨g0, t0, cs0, f0, e0, pp0, g1, t1, cs1, f1, e1, pp1, rfl, hg0, ht0, hv0, hd0, hg1, ht1, hv1, hd1, rfl⟩ := trodVars_two hV
  obtain rfl := Option.some.inj (gPos.symm.trans hg0)
  obtain rfl := Option.some.inj (tPos.symm.trans ht0)
  obtain rfl := Option.some.inj (gNeg.symm.trans hg1)
  obtain rfl := Option.some.inj (tNeg.symm.trans ht1)
  obtain rfl := Option.some.inj (hP.symm.trans hv0)
  obtain rfl := Option.some.inj (hN.symm.trans hv1)
  obtain ⟨rfl, rfl⟩ := DataW.Trod.unique (v := .agg posCells.toArray) ⟨f0, hd0⟩ ⟨3, reads_pos enc W _⟩
  obtain ⟨rfl, rfl⟩ := DataW.Trod.unique (v := .agg negCells.toArray) ⟨f1, hd1⟩ ⟨3, reads_neg enc W _⟩
  clear hA0 hV0 hval0
  have b0 := bounds_i8 w0
  have b1 := bounds_i8 w1
  have b2 := bounds_i8 w2
  have b3 := bounds_i8 w3
  refine (settings_law a0 a1 a2 a3 _ _ _ _ _ _ _ _ _ _ W b0.1 b0.2 b1.1 b1.2 b2.1 b2.2 b3.1 b3.2 hT (spec_of_var _ _ _ _ _ gPos hP) (spec_of_var _ _ _ _ _ gNeg hN)).mono fun e W' ⟨he, hk⟩ => ?_
  subst he
  have hb := hk.below (B := W.heap.size) (Nat.le_refl _) (by simp)
  exact ⟨_, rfl, _, _, _, [], _, _, hW', trodAll_mk1 (shut_bool Ybad.underlying4 _), (trodAll_cons_mk (shut_int Ybad.underlying23 w0) (trodAll_cons_mk (shut_int Ybad.underlying23 w1) (trodAll_cons_mk (shut_int Ybad.underlying23 w2) (trodAll_cons_mk (shut_int Ybad.underlying23 w3) trodAll_mk0)))), vars_of enc (var_keep gPos hk hP) (var_keep gNeg hk hN) _, hb.frame _, fun h => by cases h⟩

theorem row_holds : Rows.LawS0488BSettingsSaid :=
  OpenClaim.holds_of_wide 4 Ybad.f4 rfl rfl rfl rfl rfl rfl rfl ⟨rfl, rfl, rfl, rfl, rfl⟩ rfl rfl rfl rfl rfl (by kernel_rfl) Ybad.func4 (by kernel_rfl)
    (of_decide_eq_true (by kernel_rfl)) (by unfold Func.isWrapper; first | (rw [if_pos (by decide +kernel)]; kernel_rfl) | (rw [if_neg (by decide +kernel)]; exact ⟨rfl, rfl⟩))
    (fun os started H enc _ => lifted os started H enc)

/-- ████ THE CARD ████ -/
theorem proved : Rows.LawS0488BSettingsCardSaid :=
  Claim7.holds_tied_plain_at .later [] [.data, .data, .data, .wider, .wider] true (true, "b64fa10d338e6067aadebea75b98fa811c2aac3d281485b42f451db742ce3139") true
    row_holds (fun _ h => by cases h) (by kernel_rfl) (fun _ h => by cases h) lawS0488BSettings_row_tie rfl ⟨rfl, rfl⟩ (by kernel_rfl) rfl
    (fun f fn hf hfn => by
      obtain rfl : f = 4 := Option.some.inj ((show Ybad.prog.funcNamed "example.com/neva/neva.LawS0488BSettings" = some 4 by kernel_rfl).symm.trans hf) |>.symm
      obtain rfl : fn = Ybad.f4 := (Option.some.inj (Ybad.func4.symm.trans hfn)).symm
      exact ⟨by kernel_rfl, fun j t ht => by
        rw [Ybad.params4] at ht
        have h3 : t = 23 := by
          match j, ht with
          | 0, ht => simpa using ht.symm
          | 1, ht => simpa using ht.symm
          | 2, ht => simpa using ht.symm
          | 3, ht => simpa using ht.symm
          | j + 4, ht => simp at ht
        subst h3
        exact (show Ybad.prog.wantsStandIn 23 = false by kernel_rfl)⟩)
    (by kernel_rfl)
#print axioms proved
end Go.Proofs.YbulkjbuDoor.lawS0488BSettings
