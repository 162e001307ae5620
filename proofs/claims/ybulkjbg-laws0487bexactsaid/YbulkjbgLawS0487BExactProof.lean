/-
  THE SHELL OF A PROOF OF 'Rows.LawS0487BExactSaid' ('example.com/ringfinger/ringfinger/node.LawS0487BExact'), WRITTEN BY PROGRAM (proof-skeleton.mjs) off the guide's own print for that function. Not trusted: Lean checks it.
  The walk is filled by hand; all else is the guide's template at this function's number and types.
-/
import Derived.Test.YbulkjbgRows
import Derived.WalkKit
import Derived.ProofKit
import Derived.OpenShut
import Derived.ShutString
import Derived.Test.YbulkjbgCurrent
namespace Go.Proofs.Ybulkjbg.lawS0487BExact
open Go.ChangeShapes Go.WideShapes Go.ChangeAt Go.RowKit Go.MuLone
open Go.ChangeMaps (open_string shut_string)
set_option linter.unusedVariables false      -- a walk need not use every 'w<i>' (that an integer argument fits its kind)

theorem own : ownKnob Yba.prog.godebug = none := by kernel_rfl

/-! ### STEP 1: THE WALK: the Go text returns true. 'Grown w w'': the world has at most new blocks (Derived/RowKit3.lean). Part the cases AHEAD of 'go_enter' where a test parts the walk; take each callee by a contract of your own. -/
theorem lies_new (v : World) (h : ByteArray) (n s : Int) :
    Lies (v.alloc (.cells #[.int .i32 0, .int .u32 0, .string h, .int .u64 n, .int .i64 s, .pointer none] 36)) v.heap.size 0 h n s := by
  refine ⟨?_, ?_, ?_, ?_, ?_, ?_, ?_, ?_, ?_, ?_, ?_⟩ <;> simp [go_sem]

set_option maxRecDepth 100000 in
set_option maxHeartbeats 2000000 in
theorem walk_lt (a0 : ByteArray) (a1 : Int) (a2 : Int) (w1 : (Lit.int .i64 a1).wf = true) (w2 : (Lit.int .i64 a2).wf = true) (w : World) (hlt : a2 < a1) :
    Calls Yba.prog 3 #[.string a0, .int .i64 a1, .int .i64 a2] w fun e w' => e = .returned (.bool true) ∧ Grown w w' := by
  go_enter Yba.func3, Yba.ntmps3
  go_wp2_with fail
  refine (bat_any a1 _ w1).mono ?_
  rintro e v1 ⟨rfl, g1⟩
  have HG1 : Hid (Gr w v1) := g1
  clear g1
  go_wp2_with fail
  have L1 := lies_new v1 a0 (a1 % 1000000000) (a1 / 1000000000)
  have gn := HG1.out.trans (Gr.alloc v1 #[.int .i32 0, .int .u32 0, .string a0, .int .u64 (a1 % 1000000000), .int .i64 (a1 / 1000000000), .pointer none] 36)
  refine (bat_any a2 _ w2).mono ?_
  rintro e v2 ⟨rfl, g2⟩
  have L2 := L1.of_gr g2
  have HG2 : Hid (Gr w v2) := gn.trans g2
  clear HG1 L1 gn g2
  generalize v1.heap.size = b at *
  clear v1
  go_wp2_with fail
  have g3 := Gr.alloc v2 #[.int .u64 (a2 % 1000000000), .int .i64 (a2 / 1000000000), .pointer none] 26
  have L3 := L2.of_gr g3
  refine (current_yes b 0 a0 (a2 % 1000000000) (a2 / 1000000000) (a1 % 1000000000) (a1 / 1000000000) _ L3 (by omega) (by omega) (by omega) (by omega) (by show _ < _; omega)).mono ?_
  rintro e v4 ⟨rfl, g4⟩
  have L4 := L3.of_gr g4
  have HG4 : Hid (Gr w v4) := (HG2.out.trans g3).trans g4
  have n0 := g4.cell (b := v2.heap.size) (o := 0) (v := .int .u64 (a2 % 1000000000)) (by simp [go_sem])
  have n1 := g4.cell (b := v2.heap.size) (o := 1) (v := .int .i64 (a2 / 1000000000)) (by simp [go_sem])
  have n2 := g4.cell (b := v2.heap.size) (o := 2) (v := .pointer none) (by simp [go_sem])
  have nb : v2.heap.size < v4.heap.size := by have := g4.size; simp at this; omega
  clear HG2 L2 L3 g3 g4
  generalize v2.heap.size = nbk at *
  clear v2
  have k2 := L4.ch
  have k3 := L4.c0
  have k4 := L4.c1
  have k5 := L4.c2
  simp only [Nat.zero_add, Nat.reduceAdd] at k2 k3 k4 k5
  go_wp2_with fail
  go_region_with (first | (go_at_call 5; refine (bat_any a1 _ w1).mono ?_; rintro e v5 ⟨rfl, g5⟩; have m3 := ((Gr.drew v4).trans g5).cell k3; have m4 := ((Gr.drew v4).trans g5).cell k4; have m5 := ((Gr.drew v4).trans g5).cell k5) | (go_at_call 7; refine (equal_same (a1 % 1000000000) (a1 / 1000000000) _ (by omega) (by omega)).mono ?_; rintro e v6 ⟨rfl, g6⟩))
  all_goals
    have g6' := ((Gr.drew v4).trans g5).trans g6
    have L6 := L4.of_gr g6'
    have HG6 : Hid (Gr w v6) := HG4.out.trans g6'
    have o0 := g6'.cell n0
    have o1 := g6'.cell n1
    have o2 := g6'.cell n2
    have ob : nbk < v6.heap.size := Nat.lt_of_lt_of_le nb g6'.size
    clear HG4 L4 g5 g6 g6' m3 m4 m5 n0 n1 n2 nb k2 k3 k4 k5 v5 v4
    go_wp2_with fail
    refine (current_yes b 0 a0 (a2 % 1000000000) (a2 / 1000000000) (a1 % 1000000000) (a1 / 1000000000) _ L6 (by omega) (by omega) (by omega) (by omega) (by show _ < _; omega)).mono ?_
    rintro e v7 ⟨rfl, g7⟩
    have HG7 : Hid (Gr w v7) := HG6.out.trans g7
    clear HG6 L6 g7 o0 o1 o2 ob
    go_wp2_with fail
    go_ret
    exact ⟨rfl, HG7.out.grown⟩

set_option maxRecDepth 100000 in
set_option maxHeartbeats 2000000 in
theorem walk_ge (a0 : ByteArray) (a1 : Int) (a2 : Int) (w1 : (Lit.int .i64 a1).wf = true) (w2 : (Lit.int .i64 a2).wf = true) (w : World) (hlt : a1 ≤ a2) :
    Calls Yba.prog 3 #[.string a0, .int .i64 a1, .int .i64 a2] w fun e w' => e = .returned (.bool true) ∧ Grown w w' := by
  go_enter Yba.func3, Yba.ntmps3
  go_wp2_with fail
  refine (bat_any a1 _ w1).mono ?_
  rintro e v1 ⟨rfl, g1⟩
  have HG1 : Hid (Gr w v1) := g1
  clear g1
  go_wp2_with fail
  have L1 := lies_new v1 a0 (a1 % 1000000000) (a1 / 1000000000)
  have gn := HG1.out.trans (Gr.alloc v1 #[.int .i32 0, .int .u32 0, .string a0, .int .u64 (a1 % 1000000000), .int .i64 (a1 / 1000000000), .pointer none] 36)
  refine (bat_any a2 _ w2).mono ?_
  rintro e v2 ⟨rfl, g2⟩
  have L2 := L1.of_gr g2
  have HG2 : Hid (Gr w v2) := gn.trans g2
  clear HG1 L1 gn g2
  generalize v1.heap.size = b at *
  clear v1
  go_wp2_with fail
  have g3 := Gr.alloc v2 #[.int .u64 (a2 % 1000000000), .int .i64 (a2 / 1000000000), .pointer none] 26
  have L3 := L2.of_gr g3
  refine (current_no b 0 a0 (a2 % 1000000000) (a2 / 1000000000) (a1 % 1000000000) (a1 / 1000000000) _ L3 (by omega) (by omega) (by omega) (by omega) (by show _ ≤ _; omega)).mono ?_
  rintro e v4 ⟨rfl, g4⟩
  have L4 := L3.of_gr g4
  have HG4 : Hid (Gr w v4) := (HG2.out.trans g3).trans g4
  have n0 := g4.cell (b := v2.heap.size) (o := 0) (v := .int .u64 (a2 % 1000000000)) (by simp [go_sem])
  have n1 := g4.cell (b := v2.heap.size) (o := 1) (v := .int .i64 (a2 / 1000000000)) (by simp [go_sem])
  have n2 := g4.cell (b := v2.heap.size) (o := 2) (v := .pointer none) (by simp [go_sem])
  have nb : v2.heap.size < v4.heap.size := by have := g4.size; simp at this; omega
  clear HG2 L2 L3 g3 g4
  generalize v2.heap.size = nbk at *
  clear v2
  have k2 := L4.ch
  have k3 := L4.c0
  have k4 := L4.c1
  have k5 := L4.c2
  simp only [Nat.zero_add, Nat.reduceAdd] at k2 k3 k4 k5
  go_wp2_with fail
  go_region_with (first | (go_at_call 5; refine (bat_any a1 _ w1).mono ?_; rintro e v5 ⟨rfl, g5⟩; have m3 := ((Gr.drew v4).trans g5).cell k3; have m4 := ((Gr.drew v4).trans g5).cell k4; have m5 := ((Gr.drew v4).trans g5).cell k5) | (go_at_call 7; refine (equal_same (a1 % 1000000000) (a1 / 1000000000) _ (by omega) (by omega)).mono ?_; rintro e v6 ⟨rfl, g6⟩))
  all_goals
    have g6' := ((Gr.drew v4).trans g5).trans g6
    have L6 := L4.of_gr g6'
    have HG6 : Hid (Gr w v6) := HG4.out.trans g6'
    have o0 := g6'.cell n0
    have o1 := g6'.cell n1
    have o2 := g6'.cell n2
    have ob : nbk < v6.heap.size := Nat.lt_of_lt_of_le nb g6'.size
    clear HG4 L4 g5 g6 g6' m3 m4 m5 n0 n1 n2 nb k2 k3 k4 k5 v5 v4
    go_wp2_with fail
    refine (current_no b 0 a0 (a2 % 1000000000) (a2 / 1000000000) (a1 % 1000000000) (a1 / 1000000000) _ L6 (by omega) (by omega) (by omega) (by omega) (by show _ ≤ _; omega)).mono ?_
    rintro e v7 ⟨rfl, g7⟩
    have HG7 : Hid (Gr w v7) := HG6.out.trans g7
    clear HG6 L6 g7 o0 o1 o2 ob
    go_wp2_with fail
    go_ret
    exact ⟨rfl, HG7.out.grown⟩

theorem walk (a0 : ByteArray) (a1 : Int) (a2 : Int) (w0 : a0.size ≤ maxLen) (w1 : (Lit.int .i64 a1).wf = true) (w2 : (Lit.int .i64 a2).wf = true) (w : World) :
    Calls Yba.prog 3 #[.string a0, .int .i64 a1, .int .i64 a2] w fun e w' => e = .returned (.bool true) ∧ Grown w w' := by
  by_cases h : a2 < a1
  · exact walk_lt a0 a1 a2 w1 w2 w h
  · exact walk_ge a0 a1 a2 w1 w2 w (by omega)

/-! ### THE ROW's STEP: WRITTEN OUT: LEAVE IT -/
set_option maxRecDepth 100000 in
theorem lifted (os : Os) (started : os.Started) (H : Type) (enc : TypeId × Value → H) :
    ReturnsInHanded {} Yba.checked os 3 .any (Rows.lawS0487BExactSpec.pre6 enc Yba.prog Yba.f3 Rows.lawS0487BExactRow.domain false) (Rows.lawS0487BExactSpec.post enc Yba.prog Yba.f3 false true false false) := by
  refine returnsInHanded_of_change (C := Yba.checked) own started (by kernel_rfl) Yba.func3
    (ChangeSpec.witness6 (enc := enc) (C := Yba.checked) false ⟨#[], #[.string ByteArray.empty, .int .i64 0, .int .i64 0], []⟩ 8 (by kernel_rfl) (by kernel_rfl) (by kernel_rfl) (by kernel_rfl)) ?_
  intro W base args ds gs before hval0 hW hcnd _
  have hval : ∀ (j : Nat) t v, Yba.f3.params[j]? = some t → args[j]? = some v → Value.okWide Yba.prog W .any base t v := hval0
  have hW' := hW
  obtain ⟨p, q, hA0, hV, rfl, hfz, hnd⟩ := hW
  have hA : DataW.TrodAll enc Yba.prog W 0 (fun _ => true) true Yba.f3.params.toList args.toList ds p := hA0
  rw [Yba.params3] at hA hval
  obtain ⟨v0, vs0, d0, ds0, p0, q0, hargs, rfl, rfl, h0, r0⟩ := trodAll_cons hA
  obtain ⟨v1, vs1, d1, ds1, p1, q1, rfl, rfl, rfl, h1, r1⟩ := trodAll_cons r0
  obtain ⟨v2, vs2, d2, ds2, p2, q2, rfl, rfl, rfl, h2, r2⟩ := trodAll_cons r1
  obtain ⟨rfl, rfl, rfl⟩ := trodAll_nil r2
  obtain rfl : args = #[v0, v1, v2] := by cases args; simp_all
  obtain ⟨rfl, rfl⟩ := trodVars_none hV
  obtain ⟨a0, rfl, rfl, rfl, w0⟩ := open_string Yba.underlying9 (hval 0 9 v0 rfl rfl) h0
  obtain ⟨a1, rfl, rfl, rfl, w1⟩ := open_int Yba.underlying2 (hval 1 2 v1 rfl rfl) h1
  obtain ⟨a2, rfl, rfl, rfl, w2⟩ := open_int Yba.underlying2 (hval 2 2 v2 rfl rfl) h2
  clear hA0 hval0
  simp only [List.append_nil] at hW'
  refine (walk a0 a1 a2 w0 w1 w2 W).mono fun e W' ⟨he, hg⟩ => ?_
  subst he
  exact ⟨_, rfl, post_of_same (pa := []) (pv := []) hW' (fun _ _ _ => (trodAll_cons_mk (shut_bool Yba.underlying4 _) trodAll_mk0)) (fun sp _ => (trodAll_cons_mk (shut_string Yba.underlying9 w0) (trodAll_cons_mk (shut_int Yba.underlying2 w1) (trodAll_cons_mk (shut_int Yba.underlying2 w2) trodAll_mk0)))) (fun _ _ => rfl) rfl
    (hg.frame _) hg.2.1 (ok_one (by kernel_rfl) rfl (okWide_bool_mk Yba.underlying4 _))⟩

theorem over : Rows.lawS0487BExactRow.holds Yba.pinned (OpenSpec.ofChange Rows.lawS0487BExactSpec) :=
  OpenClaim.holds_of_wide 3 Yba.f3 rfl rfl rfl rfl rfl rfl rfl ⟨rfl, rfl, rfl, rfl, rfl⟩ rfl rfl rfl rfl rfl (by kernel_rfl) Yba.func3 (by kernel_rfl)
    (of_decide_eq_true (by kernel_rfl)) (by unfold Func.isWrapper; first | (rw [if_pos (by decide +kernel)]; kernel_rfl) | (rw [if_neg (by decide +kernel)]; exact ⟨rfl, rfl⟩))
    (fun os started H enc _ => lifted os started H enc)

/-- ████ THE STATEMENT ████ -/
theorem proved : Rows.LawS0487BExactSaid :=
  over
#print axioms proved
end Go.Proofs.Ybulkjbg.lawS0487BExact
