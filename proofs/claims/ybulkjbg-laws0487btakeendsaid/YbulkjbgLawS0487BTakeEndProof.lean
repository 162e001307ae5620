/-
  THE SHELL OF A PROOF OF 'Rows.LawS0487BTakeEndSaid' ('example.com/ringfinger/ringfinger/node.LawS0487BTakeEnd'), WRITTEN BY PROGRAM (proof-skeleton.mjs) off the guide's own print for that function. Not trusted: Lean checks it.
  The walk is filled by hand; all else is the guide's template at this function's number and types.
-/
import Derived.Test.YbulkjbgRows
import Derived.WalkKit
import Derived.ProofKit
import Derived.OpenShut
import Derived.ShutString
import Derived.Test.YbulkjbgTake
namespace Go.Proofs.Ybulkjbg.lawS0487BTakeEnd
open Go.ChangeShapes Go.WideShapes Go.ChangeAt Go.RowKit Go.MuLone
open Go.ChangeMaps (open_string shut_string)
set_option linter.unusedVariables false      -- a walk need not use every 'w<i>' (that an integer argument fits its kind)

theorem own : ownKnob Yba.prog.godebug = none := by kernel_rfl

theorem lies_new (v : World) (h : ByteArray) (n s : Int) :
    Lies (v.alloc (.cells #[.int .i32 0, .int .u32 0, .string h, .int .u64 n, .int .i64 s, .pointer none] 36)) v.heap.size 0 h n s := by
  refine ⟨?_, ?_, ?_, ?_, ?_, ?_, ?_, ?_, ?_, ?_, ?_⟩ <;> simp [go_sem]

/-! ### STEP 1: THE WALK: the Go text returns true. 'Grown w w'': the world has at most new blocks (Derived/RowKit3.lean). Part the cases AHEAD of 'go_enter' where a test parts the walk; take each callee by a contract of your own. -/
set_option maxRecDepth 100000 in
set_option maxHeartbeats 2000000 in
theorem walk (a0 : ByteArray) (a1 : Int) (w0 : a0.size ≤ maxLen) (w1 : (Lit.int .i64 a1).wf = true) (w : World) :
    Calls Yba.prog 4 #[.string a0, .int .i64 a1] w fun e w' => e = .returned (.bool true) ∧ Grown w w' := by
  have hbd : -9223372036854775808 ≤ a1 ∧ a1 ≤ 9223372036854775807 := by simpa [Lit.wf, IntKind.min, IntKind.max, IntKind.bits, IntKind.signed] using w1
  have p0 : 0 ≤ a1 % 1000000000 := by omega
  have p1 : a1 % 1000000000 < 1000000000 := by omega
  have p2 : -100000000000000 ≤ a1 / 1000000000 := by omega
  have p3 : a1 / 1000000000 ≤ 100000000000000 := by omega
  clear hbd
  go_enter Yba.func4, Yba.ntmps4
  go_wp2_with fail
  have L0 := lies_new w ⟨#[]⟩ 0 0
  have g0 := Gr.alloc w #[.int .i32 0, .int .u32 0, .string ⟨#[]⟩, .int .u64 0, .int .i64 0, .pointer none] 36
  refine (bat_any a1 _ w1).mono ?_
  rintro e v1 ⟨rfl, g1⟩
  have L1 := L0.of_gr g1
  have HG1 : Hid (Gr w v1) := g0.trans g1
  clear g0 L0 g1
  generalize hbk : w.heap.size = b at *
  have HB : Hid (w.heap.size ≤ b) := Nat.le_of_eq hbk
  clear hbk
  generalize a1 % 1000000000 = n at *
  generalize a1 / 1000000000 = s at *
  go_wp2_with fail
  have g2 := Gr.alloc v1 #[.int .u64 n, .int .i64 s, .pointer none] 26
  have L2 := L1.of_gr g2
  have hbn : b < v1.heap.size := L1.hb
  refine (current_empty b 0 n s 0 0 _ L2 p0 p1 (by omega) (by omega)).mono ?_
  rintro e v3 ⟨rfl, g3⟩
  have L3 := L2.of_gr g3
  have HG3 : Hid (Gr w v3) := (HG1.out.trans g2).trans g3
  have n0 := g3.cell (b := v1.heap.size) (o := 0) (v := .int .u64 n) (by simp [go_sem])
  have n1 := g3.cell (b := v1.heap.size) (o := 1) (v := .int .i64 s) (by simp [go_sem])
  have n2 := g3.cell (b := v1.heap.size) (o := 2) (v := .pointer none) (by simp [go_sem])
  clear HG1 L1 L2 g2 g3
  generalize v1.heap.size = nb at *
  clear v1
  have hne : Hid (nb ≠ b) := by show nb ≠ b; omega
  clear hbn
  go_wp2_with fail
  refine (take_empty b 0 a0 n s 0 0 _ L3 p0 p1 (by omega) (by omega) p2 p3).mono ?_
  rintro e v4 ⟨rfl, L4, E4⟩
  have HG4 : Hid (Gr w v4) := E4.gr HG3.out HB.out
  have m0 := E4.cell hne.out n0
  have m1 := E4.cell hne.out n1
  have m2 := E4.cell hne.out n2
  clear n0 n1 n2 E4 L3 HG3 v3
  go_wp2_with fail
  refine (current_yes b 0 a0 n s n (s + 15) _ L4 p0 p1 p0 p1 (by show _ < _; omega)).mono ?_
  rintro e v5 ⟨rfl, g5⟩
  have L5 := L4.of_gr g5
  have HG5 : Hid (Gr w v5) := HG4.out.trans g5
  have n0 := g5.cell m0
  have n1 := g5.cell m1
  have n2 := g5.cell m2
  clear m0 m1 m2 g5 L4 HG4 v4
  go_wp2_with fail
  refine (end_own b 0 a0 n (s + 15) _ L5).mono ?_
  rintro e v6 ⟨rfl, L6, E6⟩
  have HG6 : Hid (Gr w v6) := E6.gr HG5.out HB.out
  have m0 := E6.cell hne.out n0
  have m1 := E6.cell hne.out n1
  have m2 := E6.cell hne.out n2
  clear n0 n1 n2 E6 L5 HG5 v5
  go_wp2_with fail
  refine (current_empty b 0 n s n (s + 15) _ L6 p0 p1 p0 p1).mono ?_
  rintro e v7 ⟨rfl, g7⟩
  have HG7 : Hid (Gr w v7) := HG6.out.trans g7
  clear m0 m1 m2 g7 L6 HG6 v6
  go_wp2_with fail
  go_ret
  exact ⟨rfl, HG7.out.grown⟩

/-! ### THE ROW's STEP: WRITTEN OUT: LEAVE IT -/
set_option maxRecDepth 100000 in
theorem lifted (os : Os) (started : os.Started) (H : Type) (enc : TypeId × Value → H) :
    ReturnsInHanded {} Yba.checked os 4 .any (Rows.lawS0487BTakeEndSpec.pre6 enc Yba.prog Yba.f4 Rows.lawS0487BTakeEndRow.domain false) (Rows.lawS0487BTakeEndSpec.post enc Yba.prog Yba.f4 false true false false) := by
  refine returnsInHanded_of_change (C := Yba.checked) own started (by kernel_rfl) Yba.func4
    (ChangeSpec.witness6 (enc := enc) (C := Yba.checked) false ⟨#[], #[.string ByteArray.empty, .int .i64 0], []⟩ 8 (by kernel_rfl) (by kernel_rfl) (by kernel_rfl) (by kernel_rfl)) ?_
  intro W base args ds gs before hval0 hW hcnd _
  have hval : ∀ (j : Nat) t v, Yba.f4.params[j]? = some t → args[j]? = some v → Value.okWide Yba.prog W .any base t v := hval0
  have hW' := hW
  obtain ⟨p, q, hA0, hV, rfl, hfz, hnd⟩ := hW
  have hA : DataW.TrodAll enc Yba.prog W 0 (fun _ => true) true Yba.f4.params.toList args.toList ds p := hA0
  rw [Yba.params4] at hA hval
  obtain ⟨v0, vs0, d0, ds0, p0, q0, hargs, rfl, rfl, h0, r0⟩ := trodAll_cons hA
  obtain ⟨v1, vs1, d1, ds1, p1, q1, rfl, rfl, rfl, h1, r1⟩ := trodAll_cons r0
  obtain ⟨rfl, rfl, rfl⟩ := trodAll_nil r1
  obtain rfl : args = #[v0, v1] := by cases args; simp_all
  obtain ⟨rfl, rfl⟩ := trodVars_none hV
  obtain ⟨a0, rfl, rfl, rfl, w0⟩ := open_string Yba.underlying9 (hval 0 9 v0 rfl rfl) h0
  obtain ⟨a1, rfl, rfl, rfl, w1⟩ := open_int Yba.underlying2 (hval 1 2 v1 rfl rfl) h1
  clear hA0 hval0
  simp only [List.append_nil] at hW'
  refine (walk a0 a1 w0 w1 W).mono fun e W' ⟨he, hg⟩ => ?_
  subst he
  exact ⟨_, rfl, post_of_same (pa := []) (pv := []) hW' (fun _ _ _ => (trodAll_cons_mk (shut_bool Yba.underlying4 _) trodAll_mk0)) (fun sp _ => (trodAll_cons_mk (shut_string Yba.underlying9 w0) (trodAll_cons_mk (shut_int Yba.underlying2 w1) trodAll_mk0))) (fun _ _ => rfl) rfl
    (hg.frame _) hg.2.1 (ok_one (by kernel_rfl) rfl (okWide_bool_mk Yba.underlying4 _))⟩

theorem over : Rows.lawS0487BTakeEndRow.holds Yba.pinned (OpenSpec.ofChange Rows.lawS0487BTakeEndSpec) :=
  OpenClaim.holds_of_wide 4 Yba.f4 rfl rfl rfl rfl rfl rfl rfl ⟨rfl, rfl, rfl, rfl, rfl⟩ rfl rfl rfl rfl rfl (by kernel_rfl) Yba.func4 (by kernel_rfl)
    (of_decide_eq_true (by kernel_rfl)) (by unfold Func.isWrapper; first | (rw [if_pos (by decide +kernel)]; kernel_rfl) | (rw [if_neg (by decide +kernel)]; exact ⟨rfl, rfl⟩))
    (fun os started H enc _ => lifted os started H enc)

/-- ████ THE STATEMENT ████ -/
theorem proved : Rows.LawS0487BTakeEndSaid :=
  over
#print axioms proved
end Go.Proofs.Ybulkjbg.lawS0487BTakeEnd
