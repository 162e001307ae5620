/-
  THE SHELL OF A PROOF OF 'Rows.LawS0496BLayoutSaid' ('example.com/ordinant/ordinant/network.LawS0496BLayout'), WRITTEN BY PROGRAM (proof-skeleton.mjs, third state) off the guide's own print for that function. Not trusted: Lean checks it.
  The walk and the opening of a slice of structs are filled by hand; all else is the guide's own way at this function's number and types.
-/
import Derived.Test.YbulkjgcRows
import Derived.WalkKit
import Derived.ProofKit
import Derived.OpenShut
import Derived.ShutString
import Derived.ChangeOld
import Derived.Below
import Derived.Deep.Slices
import Derived.Deep.SlicePairs
import Derived.Test.YbulkjgcLaw
namespace Go.Proofs.Ybulkjgc.lawS0496BLayout
open Go.ChangeShapes Go.WideShapes Go.ChangeAt Go.RowKit
open Go.ChangeMaps (open_string shut_string)
set_option linter.unusedVariables false

theorem own : ownKnob Yba.prog.godebug = none := by kernel_rfl
theorem laidOut : laidOutB Yba.prog = true := by kernel_rfl

/-- What the walk is told of the slice of links that came in. -/
def IsLks (w : World) (a : Option Addr) (len : Nat) (U V : Nat → Nat) (st : Nat → Int) : Prop := (∀ j, j < len → U j ≤ 65535) ∧ (∀ j, j < len → V j ≤ 65535) ∧
  ∀ j, j < len → ∃ b o, a = some ⟨b, o, none⟩ ∧ w.cell? ⟨b, o + j * 3, none⟩ = some (.int .u16 (U j)) ∧ w.cell? ⟨b, o + j * 3 + 1, none⟩ = some (.int .u16 (V j)) ∧ w.cell? ⟨b, o + j * 3 + 2, none⟩ = some (.int .i64 (st j))

theorem under26 : ∃ f0 f1 f2 : Field, Yba.prog.underlying 26 = some (.struct #[f0, f1, f2]) ∧ f0.offset = 0 ∧ f1.offset = 1 ∧ f2.offset = 2 ∧ f0.type = 22 ∧ f1.type = 22 ∧ f2.type = 2 :=
  ⟨_, _, _, Yba.underlying26, rfl, rfl, rfl, rfl, rfl, rfl⟩
theorem cells26 : Yba.prog.cellsOf 26 = 3 := by kernel_rfl
theorem cells22 : Yba.prog.cellsOf 22 = 1 := by kernel_rfl
theorem cells2 : Yba.prog.cellsOf 2 = 1 := by kernel_rfl

theorem isLks_open {H : Type} {enc : TypeId × Value → H} {W : World} {base : Nat} {sp : Nat → Bool} {held : Bool} {fuel len cap : Nat} {a : Option Addr} {y : DataW H × List MemPlace} (h : DataW.trod enc Yba.prog W base sp held fuel 23 [.slice a len cap] = some y) : ∃ U V st, IsLks W a len U V st := by
  rcases Go.Deep.open_slice Yba.underlying23 h with ⟨hcs, _⟩ | ⟨x, l, c, m, n, D, Pl, hcs, _, hl, _, hm, _, hV⟩
  · simp only [List.cons.injEq, Value.slice.injEq, and_true] at hcs
    obtain ⟨rfl, rfl, rfl⟩ := hcs
    exact ⟨fun _ => 0, fun _ => 0, fun _ => 0, fun j hj => by omega, fun j hj => by omega, fun j hj => by omega⟩
  · simp only [List.cons.injEq, Value.slice.injEq, and_true] at hcs
    obtain ⟨rfl, rfl, rfl⟩ := hcs
    have hlm : len ≤ m := by rw [hm]; split <;> omega
    obtain ⟨f0, f1, f2, hst, o0, o1, o2, t0, t1, t2⟩ := under26
    have each : ∀ i, i < len → ∃ q : Nat × Nat × Int, (q.1 ≤ 65535 ∧ q.2.1 ≤ 65535) ∧ W.cell? (x.add (i * 3)) = some (.int .u16 q.1) ∧ W.cell? (x.add (i * 3 + 1)) = some (.int .u16 q.2.1) ∧ W.cell? (x.add (i * 3 + 2)) = some (.int .i64 q.2.2) := by
      intro i hi
      obtain ⟨cs', h1, h2⟩ := hV i (by omega)
      rw [cells26] at h1
      obtain ⟨_, hlen, hcell⟩ := World.cells?_some h1
      obtain ⟨xs, k, hk, hxy, _, hxl, hf⟩ := DataW.trod_struct hst h2
      match xs, hxl, cs', hlen with
      | [y0, y1, y2], _, [v0, v1, v2], _ =>
        have g0 := hf 0 f0 rfl
        have g1 := hf 1 f1 rfl
        have g2 := hf 2 f2 rfl
        simp [o0, o1, o2, t0, t1, t2, cells22, cells2] at g0 g1 g2
        have e0 := hcell 0 (by omega)
        have e1 := hcell 1 (by omega)
        have e2 := hcell 2 (by omega)
        rw [Go.Deep.add_add] at e0 e1 e2
        obtain ⟨n0, r0, _, b0⟩ := DataW.trod_int Yba.underlying22 g0
        obtain ⟨n1, r1, _, b1⟩ := DataW.trod_int Yba.underlying22 g1
        obtain ⟨n2, r2, _, _⟩ := DataW.trod_int Yba.underlying2 g2
        simp only [List.cons.injEq, and_true] at r0 r1 r2
        subst r0; subst r1; subst r2
        have b0 : 0 ≤ n0 ∧ n0 ≤ 65535 := by simpa [Lit.wf, IntKind.min, IntKind.max, IntKind.bits, IntKind.signed] using b0
        have b1 : 0 ≤ n1 ∧ n1 ≤ 65535 := by simpa [Lit.wf, IntKind.min, IntKind.max, IntKind.bits, IntKind.signed] using b1
        have c0 : ((n0.toNat : Nat) : Int) = n0 := by omega
        have c1 : ((n1.toNat : Nat) : Int) = n1 := by omega
        refine ⟨(n0.toNat, n1.toNat, n2), ⟨by simp; omega, by simp; omega⟩, ?_, ?_, ?_⟩
        · simpa [c0] using e0
        · simpa [c1] using e1
        · simpa using e2
    obtain ⟨q, hq⟩ := Go.Deep.choose_lt each
    refine ⟨fun i => (q i).1, fun i => (q i).2.1, fun i => (q i).2.2, fun j hj => (hq j hj).1.1, fun j hj => (hq j hj).1.2, fun j hj => ?_⟩
    have h0 := (hq 0 (by omega)).2.1
    have hsp : x.spot = none := by
      simp only [Addr.add, Nat.zero_mul, if_true] at h0
      obtain ⟨_, _, _, _, h⟩ := World.shape?_of_cell? h0
      exact h
    obtain ⟨xb, xo, xs⟩ := x
    simp only at hsp
    subst hsp
    obtain ⟨_, c0, c1, c2⟩ := hq j hj
    refine ⟨xb, xo, rfl, ?_, ?_, ?_⟩
    · rw [← c0]
      by_cases hj0 : j = 0
      · simp [Addr.add, hj0]
      · have : ¬ j * 3 = 0 := by omega
        simp [Addr.add, this]
    · rw [← c1]; simp [Addr.add, Nat.add_assoc]
    · rw [← c2]; simp [Addr.add, Nat.add_assoc]

/-! ### STEP 1: THE WALK -/
set_option maxRecDepth 100000 in
set_option maxHeartbeats 400000 in
theorem walk_long (a0 : Int) (a1 : Option Addr) (len1 cap1 : Nat) (w : World) (h : 1024 < len1) :
    Calls Yba.prog 3 #[.int .u16 a0, .slice a1 len1 cap1] w fun e w' => e = .returned (.bool true) ∧ Below w.heap.size w w' := by
  have hl : (1024 : Int) < (len1 : Int) := by omega
  go_enter Yba.func3, Yba.ntmps3
  go_wp2
  go_ret
  exact ⟨rfl, Below.refl _ _⟩

theorem walk (a0 : Int) (a1 : Option Addr) (len1 cap1 : Nat) (U V : Nat → Nat) (st : Nat → Int) (w : World) (w0 : (Lit.int .u16 a0).wf = true) (w1 : IsLks w a1 len1 U V st) :
    Calls Yba.prog 3 #[.int .u16 a0, .slice a1 len1 cap1] w fun e w' => e = .returned (.bool true) ∧ Below w.heap.size w w' := by
  have b0 : 0 ≤ a0 ∧ a0 ≤ 65535 := by simpa [Lit.wf, IntKind.min, IntKind.max, IntKind.bits, IntKind.signed] using w0
  by_cases h : len1 ≤ 1024
  · exact walk_in a0 (a0 % 300 + 1).toNat a1 len1 cap1 U V st w b0.1 b0.2 (by omega) h w1.1 w1.2.1 w1.2.2
  · exact walk_long a0 a1 len1 cap1 w (by omega)

/-! ### THE ROW's STEP: WRITTEN OUT: LEAVE IT -/
set_option maxRecDepth 100000 in
theorem lifted (os : Os) (started : os.Started) (H : Type) (enc : TypeId × Value → H) :
    ReturnsInHanded {} Yba.checked os 3 .any (Rows.lawS0496BLayoutSpec.pre6 enc Yba.prog Yba.f3 Rows.lawS0496BLayoutRow.domain false) (Rows.lawS0496BLayoutSpec.post enc Yba.prog Yba.f3 false true false false) := by
  refine returnsInHanded_of_change (C := Yba.checked) own started (by kernel_rfl) Yba.func3
    (ChangeSpec.witness6 (enc := enc) (C := Yba.checked) false ⟨#[], #[.int .u16 0, .slice none 0 0], []⟩ 8 (by kernel_rfl) (by kernel_rfl) (by kernel_rfl) (by kernel_rfl)) ?_
  intro W base args ds gs before hval0 hW hcnd _
  have hval : ∀ (j : Nat) t v, Yba.f3.params[j]? = some t → args[j]? = some v → Value.okWide Yba.prog W .any base t v := hval0
  have hW' := hW
  obtain ⟨p, q, hA0, hV, rfl, hfz, hnd⟩ := hW
  have hA : DataW.TrodAll enc Yba.prog W 0 (fun _ => true) true Yba.f3.params.toList args.toList ds p := hA0
  rw [Yba.params3] at hA hval
  obtain ⟨v0, vs0, d0, ds0, p0, q0, hargs, rfl, rfl, h0, r0⟩ := trodAll_cons hA
  obtain ⟨v1, vs1, d1, ds1, p1, q1, rfl, rfl, rfl, h1, r1⟩ := trodAll_cons r0
  obtain ⟨rfl, rfl, rfl⟩ := trodAll_nil r1
  obtain rfl : args = #[v0, v1] := by cases args; simp_all
  obtain ⟨rfl, rfl⟩ := trodVars_none hV
  obtain ⟨a0, rfl, rfl, rfl, w0⟩ := open_int Yba.underlying22 (hval 0 22 v0 rfl rfl) h0
  obtain ⟨a1, len1, cap1, rfl⟩ := okWide_slice Yba.underlying23 (hval 1 23 v1 rfl rfl)
  have k1 := h1
  have lt1 : ∀ x ∈ p1, x.block < W.heap.size := by obtain ⟨m, hm⟩ := k1; exact DataW.trod_lt m _ _ _ hm
  obtain ⟨U, V, st, w1⟩ : ∃ U V st, IsLks W a1 len1 U V st := by
    obtain ⟨fuel, hf⟩ := h1
    exact isLks_open (by simpa [Value.cells] using hf)
  clear hA0 hval0
  refine (walk a0 a1 len1 cap1 U V st W w0 w1).mono fun e W' ⟨he, bel⟩ => ?_
  subst he
  exact ⟨_, rfl, _, _, _, [], _, [], hW', trodAll_mk1 (shut_bool Yba.underlying4 _), (trodAll_cons_mk (shut_int Yba.underlying22 w0) (trodAll_cons_mk (Below.trod laidOut (by kernel_rfl) (of_decide_eq_true (by kernel_rfl)) k1 bel lt1) trodAll_mk0)), rfl, bel.frame _, fun h => by cases h⟩

theorem over : Rows.lawS0496BLayoutRow.holds Yba.pinned (OpenSpec.ofChange Rows.lawS0496BLayoutSpec) :=
  OpenClaim.holds_of_wide 3 Yba.f3 rfl rfl rfl rfl rfl rfl rfl ⟨rfl, rfl, rfl, rfl, rfl⟩ rfl rfl rfl rfl rfl (by kernel_rfl) Yba.func3 (by kernel_rfl)
    (of_decide_eq_true (by kernel_rfl)) (by unfold Func.isWrapper; first | (rw [if_pos (by decide +kernel)]; kernel_rfl) | (rw [if_neg (by decide +kernel)]; exact ⟨rfl, rfl⟩))
    (fun os started H enc _ => lifted os started H enc)

/-- ████ THE STATEMENT ████ -/
theorem proved : Rows.LawS0496BLayoutSaid := over
#print axioms proved
end Go.Proofs.Ybulkjgc.lawS0496BLayout
