/-
  Seat b0488aD: the law LawS0488BSettings, walked.
-/
import Derived.Test.YbulkjbuDoorStart
import Derived.BigQuiet
import Derived.Deep.QuietTactic
namespace Go.Proofs.YbulkjbuDoor
open Go.RowKit

/-- A store at a new key into the heap's last block. -/
theorem run_put_last {P : Program} (W : World) (es : Array MapEntry) (c : Nat) (t kt et : TypeId) (ht : P.underlying t = some (.map kt et)) (hk : P.underlying kt = some .string) (k : ByteArray) (v : Value) (b : Nat) (hb : b = W.heap.size)
    (hf : Instr.findNow .string (.string k) es.toList 0 = some none) :
    (Instr.mapUpdate t (.map (some b)) (.string k) v).run P (W.alloc (.map es c)) = .ok () (W.alloc (.map (es.push { key := .string k, val := v, born := c }) (c + 1))) := by
  subst hb
  have hb : (W.alloc (.map es c)).heap[W.heap.size]? = some (.map es c) := (MapKept.heap_alloc W _).1
  simp [Instr.mapUpdate, run_underlying ht, MapKept.run_getObj_map hb, run_check hk, MapKept.run_findKey hk hf, MapKept.run_setObj_map _ hb, Result.andThen]
  have e : (W.heap.push (.map es c)).setIfInBounds W.heap.size (.map (es.push { key := .string k, val := v, born := c }) (c + 1)) = W.heap.push (.map (es.push { key := .string k, val := v, born := c }) (c + 1)) := by
    apply Array.ext'
    simp
  exact congrArg (fun h => ({ W with heap := h } : World)) e

/-- The quotients of the 256 small numbers by d are numbers. -/
def okq (d : Nat) : Bool := (List.range 256).all fun i => match FloatKind.f64.format.div (floatOfInt .f64 ((i : Int) - 128)) d with
  | some r => FloatKind.f64.format.order r r == some .eq
  | none => false
theorem okq8 : okq 4620693217682128896 = true := by kernel_rfl
theorem okq4 : okq 4616189618054758400 = true := by kernel_rfl
theorem okq16 : okq 4625196817309499392 = true := by kernel_rfl
theorem oki : ((List.range 256).all fun i => FloatKind.f64.format.order (floatOfInt .f64 ((i : Int) - 128)) (floatOfInt .f64 ((i : Int) - 128)) == some .eq) = true := by kernel_rfl
theorem quo_ok {d : Nat} (h : okq d = true) (a : Int) (h0 : -128 ≤ a) (h1 : a ≤ 127) : ∃ t, (∀ W, (binOp .quo 25 (.float .f64 (floatOfInt .f64 a)) (.float .f64 d)).run Ybad.prog W = .ok (.float .f64 t) W) ∧ (FloatKind.f64.format.order t t != some .eq) = false := by
  have := List.all_eq_true.1 h (a + 128).toNat (List.mem_range.2 (by omega))
  rw [show (((a + 128).toNat : Nat) : Int) - 128 = a by omega] at this
  cases hd : FloatKind.f64.format.div (floatOfInt .f64 a) d with
  | none => rw [hd] at this; cases this
  | some r =>
    rw [hd] at this
    exact ⟨r, fun W => by simp [binOp, Op.floatArith, hd], by simpa [bne] using this⟩
theorem int_ok (a : Int) (h0 : -128 ≤ a) (h1 : a ≤ 127) : (FloatKind.f64.format.order (floatOfInt .f64 a) (floatOfInt .f64 a) != some .eq) = false := by
  have := List.all_eq_true.1 oki (a + 128).toNat (List.mem_range.2 (by omega))
  rw [show (((a + 128).toNat : Nat) : Int) - 128 = a by omega] at this
  simpa [bne] using this

/-- The law's parameters. -/
def lpar (thr gain neglr ph : Nat) : List (ByteArray × Value) := [((par 0).1, .float .f64 thr), ((par 1).1, .float .f64 gain), ((par 11).1, .float .f64 neglr), ((par 9).1, .float .f64 ph)]
def vlook (l : List (ByteArray × Value)) (x : ByteArray) : Nat := match look x l with
  | some (.float .f64 b) => b
  | _ => 0
theorem vlook_ok (thr gain neglr ph : Nat) (x : ByteArray) : (look x (lpar thr gain neglr ph) = none ∧ vlook (lpar thr gain neglr ph) x = 0) ∨ look x (lpar thr gain neglr ph) = some (.float .f64 (vlook (lpar thr gain neglr ph) x)) := by
  unfold vlook lpar look
  by_cases h0 : (x == (par 0).1) = true
  · simp [h0]
  · simp only [h0]
    unfold look
    by_cases h1 : (x == (par 1).1) = true
    · simp [h1]
    · simp only [h1]
      unfold look
      by_cases h2 : (x == (par 11).1) = true
      · simp [h2]
      · simp only [h2]
        unfold look
        by_cases h3 : (x == (par 9).1) = true
        · simp [h3]
        · simp [h3, look]
theorem sv0 (thr gain neglr ph : Nat) : sval (vlook (lpar thr gain neglr ph)) 0 = thr := by kernel_rfl
theorem sv1 (thr gain neglr ph : Nat) : sval (vlook (lpar thr gain neglr ph)) 1 = gain := by kernel_rfl
theorem sv2 (thr gain neglr ph : Nat) : sval (vlook (lpar thr gain neglr ph)) 2 = 0 := by kernel_rfl
theorem sv9 (thr gain neglr ph : Nat) : sval (vlook (lpar thr gain neglr ph)) (5 + 4) = ph := by kernel_rfl
theorem sv12 (thr gain neglr ph : Nat) : sval (vlook (lpar thr gain neglr ph)) (10 + 2) = neglr := by kernel_rfl
theorem sv13 (thr gain neglr ph : Nat) : sval (vlook (lpar thr gain neglr ph)) (10 + 3) = neglr := by kernel_rfl
theorem sv14 (thr gain neglr ph : Nat) : sval (vlook (lpar thr gain neglr ph)) (10 + 4) = 9218868437227405312 := by kernel_rfl
theorem sv15 (thr gain neglr ph : Nat) : sval (vlook (lpar thr gain neglr ph)) 15 = 0 := by kernel_rfl
theorem run_equal_ptr (d : Nat) (L o : Nat) (w : World) : (Op.equalIn (d + 1) 48 (.pointer (some ⟨L, o, none⟩)) (.pointer (some ⟨L, o, none⟩))).run Ybad.prog w = .ok true w := by
  simp [Op.equalIn, run_underlying Ybad.underlying48, sameAddr]
theorem run_neq_ptr (L o : Nat) (w : World) : (binOp .neq 48 (.pointer (some ⟨L, o, none⟩)) (.pointer (some ⟨L, o, none⟩))).run Ybad.prog w = .ok (.bool false) w := by
  have h : (Op.equal 48 (.pointer (some ⟨L, o, none⟩)) (.pointer (some ⟨L, o, none⟩))).run Ybad.prog w = .ok true w := run_equal_ptr 9999 L o w
  simp [binOp, h]
theorem run_assert (a : Addr) (w : World) : (Instr.typeAssert (.iface 37 (.pointer (some a))) 35 37 true).run Ybad.prog w = .ok (.tuple #[.pointer (some a), .bool true]) w := by kernel_rfl

set_option maxRecDepth 100000 in
set_option maxHeartbeats 8000000 in
theorem settings_law (a0 a1 a2 a3 : Int) (p0 p1 p2 n0 n1 n2 : ByteArray) (pi pj ni nj : Int) (w : World) (h0 : -128 ≤ a0) (h0' : a0 ≤ 127) (h1 : -128 ≤ a1) (h1' : a1 ≤ 127) (h2 : -128 ≤ a2) (h2' : a2 ≤ 127) (h3 : -128 ≤ a3) (h3' : a3 ≤ 127)
    (ht : Tab w) (sp : Spec w 0 p0 p1 p2 pi pj) (sn : Spec w 1 n0 n1 n2 ni nj) :
    Calls Ybad.prog 4 #[.int .i8 a0, .int .i8 a1, .int .i8 a2, .int .i8 a3] w fun e w' => e = .returned (.bool true) ∧ Kept [] w w' := by
  obtain ⟨thr, q8, o8⟩ := quo_ok okq8 a0 h0 h0'
  obtain ⟨gain, q4, o4⟩ := quo_ok okq4 a1 h1 h1'
  obtain ⟨neglr, q16, o16⟩ := quo_ok okq16 a2 h2 h2'
  have op := int_ok a3 h3 h3'
  have hmm := @run_makeMap Ybad.prog
  have p1' := run_put_last (P := Ybad.prog) w #[] 0 26 9 25 Ybad.underlying26 Ybad.underlying9 ⟨#[66, 76, 65, 46, 116, 104, 114, 101, 115, 104, 111, 108, 100]⟩ (.float .f64 thr) w.heap.size rfl rfl
  have p2' := run_put_last (P := Ybad.prog) w #[⟨.string ⟨#[66, 76, 65, 46, 116, 104, 114, 101, 115, 104, 111, 108, 100]⟩, .float .f64 thr, 0⟩] 1 26 9 25 Ybad.underlying26 Ybad.underlying9 ⟨#[66, 76, 65, 46, 103, 97, 105, 110]⟩ (.float .f64 gain) w.heap.size rfl rfl
  have p3' := run_put_last (P := Ybad.prog) w #[⟨.string ⟨#[66, 76, 65, 46, 116, 104, 114, 101, 115, 104, 111, 108, 100]⟩, .float .f64 thr, 0⟩, ⟨.string ⟨#[66, 76, 65, 46, 103, 97, 105, 110]⟩, .float .f64 gain, 1⟩] 2 26 9 25 Ybad.underlying26 Ybad.underlying9 ⟨#[66, 76, 65, 110, 101, 103, 69, 120, 116, 68, 49, 46, 108, 114, 97, 116, 101]⟩ (.float .f64 neglr) w.heap.size rfl rfl
  have p4' := run_put_last (P := Ybad.prog) w #[⟨.string ⟨#[66, 76, 65, 46, 116, 104, 114, 101, 115, 104, 111, 108, 100]⟩, .float .f64 thr, 0⟩, ⟨.string ⟨#[66, 76, 65, 46, 103, 97, 105, 110]⟩, .float .f64 gain, 1⟩, ⟨.string ⟨#[66, 76, 65, 110, 101, 103, 69, 120, 116, 68, 49, 46, 108, 114, 97, 116, 101]⟩, .float .f64 neglr, 2⟩] 3 26 9 25 Ybad.underlying26 Ybad.underlying9 ⟨#[66, 76, 65, 112, 111, 115, 69, 120, 116, 68, 50, 46, 104, 97, 108, 102]⟩ (.float .f64 (floatOfInt .f64 a3)) w.heap.size rfl rfl
  simp only [List.push_toArray, List.nil_append, List.cons_append, Nat.zero_add, Nat.reduceAdd] at p1' p2' p3' p4'
  go_enter Ybad.func4, Ybad.ntmps4
  go_wp2_with fail
  clear p1' p2' p3' p4' hmm q8 q4 q16
  have kA := (Kept.alloc w (.map #[⟨.string ⟨#[66, 76, 65, 46, 116, 104, 114, 101, 115, 104, 111, 108, 100]⟩, .float .f64 thr, 0⟩, ⟨.string ⟨#[66, 76, 65, 46, 103, 97, 105, 110]⟩, .float .f64 gain, 1⟩, ⟨.string ⟨#[66, 76, 65, 110, 101, 103, 69, 120, 116, 68, 49, 46, 108, 114, 97, 116, 101]⟩, .float .f64 neglr, 2⟩, ⟨.string ⟨#[66, 76, 65, 112, 111, 115, 69, 120, 116, 68, 50, 46, 104, 97, 108, 102]⟩, .float .f64 (floatOfInt .f64 a3), 3⟩] 4)).trans (Kept.alloc _ (.cells #[.int .i8 1, .int .i8 (-1)] 23)) (by simp)
  have mpA : HasMap (w.alloc (.map #[⟨.string ⟨#[66, 76, 65, 46, 116, 104, 114, 101, 115, 104, 111, 108, 100]⟩, .float .f64 thr, 0⟩, ⟨.string ⟨#[66, 76, 65, 46, 103, 97, 105, 110]⟩, .float .f64 gain, 1⟩, ⟨.string ⟨#[66, 76, 65, 110, 101, 103, 69, 120, 116, 68, 49, 46, 108, 114, 97, 116, 101]⟩, .float .f64 neglr, 2⟩, ⟨.string ⟨#[66, 76, 65, 112, 111, 115, 69, 120, 116, 68, 50, 46, 104, 97, 108, 102]⟩, .float .f64 (floatOfInt .f64 a3), 3⟩] 4)) w.heap.size (lpar thr gain neglr (floatOfInt .f64 a3)) := ⟨_, _, (MapKept.heap_alloc _ _).1, rfl, by simp, by simp⟩
  have mpB := mpA.keep (Kept.alloc _ (.cells #[.int .i8 1, .int .i8 (-1)] 23)) (by simp)
  have rw0 := Row.made (w.alloc (.map #[⟨.string ⟨#[66, 76, 65, 46, 116, 104, 114, 101, 115, 104, 111, 108, 100]⟩, .float .f64 thr, 0⟩, ⟨.string ⟨#[66, 76, 65, 46, 103, 97, 105, 110]⟩, .float .f64 gain, 1⟩, ⟨.string ⟨#[66, 76, 65, 110, 101, 103, 69, 120, 116, 68, 49, 46, 108, 114, 97, 116, 101]⟩, .float .f64 neglr, 2⟩, ⟨.string ⟨#[66, 76, 65, 112, 111, 115, 69, 120, 116, 68, 50, 46, 104, 97, 108, 102]⟩, .float .f64 (floatOfInt .f64 a3), 3⟩] 4)) [.int .i8 1, .int .i8 (-1)] 23
  rw [show (w.alloc (.map #[⟨.string ⟨#[66, 76, 65, 46, 116, 104, 114, 101, 115, 104, 111, 108, 100]⟩, .float .f64 thr, 0⟩, ⟨.string ⟨#[66, 76, 65, 46, 103, 97, 105, 110]⟩, .float .f64 gain, 1⟩, ⟨.string ⟨#[66, 76, 65, 110, 101, 103, 69, 120, 116, 68, 49, 46, 108, 114, 97, 116, 101]⟩, .float .f64 neglr, 2⟩, ⟨.string ⟨#[66, 76, 65, 112, 111, 115, 69, 120, 116, 68, 50, 46, 104, 97, 108, 102]⟩, .float .f64 (floatOfInt .f64 a3), 3⟩] 4)).heap.size = w.heap.size + 1 from by simp] at rw0
  refine (build_any 2 1 2 3 7 w.heap.size (some ⟨w.heap.size + 1, 0, none⟩) 2 (fun j => if j = 0 then 1 else -1) (fun j => floatOfInt .f64 (if j = 0 then 1 else -1)) _ (by omega) (by omega) (by omega) (by omega) (ht.keep kA (by simp)) (fun j hj => by
    match j, hj with
    | 0, _ => exact ⟨_, 0, rfl, rw0.cell 0 rfl⟩
    | 1, _ => exact ⟨_, 0, rfl, rw0.cell 1 rfl⟩) (fun j hj W => by simp [go_sem])).mono ?_
  rintro e w1 ⟨u1, v1, u2, v2, u3, v3, b1, b2, b3, m1, m2, mu, rfl, t1, t2, t3, k1, k2, ku, kk⟩
  have kW1 := kA.trans kk (by simp)
  have HMP : Hid (HasMap w1 w.heap.size (lpar thr gain neglr (floatOfInt .f64 a3))) := mpB.keep kk (by simp)
  have HK1 : Hid (Kept [] w w1) := kW1
  have HT1 : Hid (Sl w1 b1 9 u1 2 v1 (strs (nm 99) 2)) := t1
  have HT2 : Hid (Sl w1 b2 9 u2 1 v2 (strs (nm 120) 1)) := t2
  have HT3 : Hid (Sl w1 b3 9 u3 2 v3 (strs (nm 117) 2)) := t3
  have HM1 : Hid (HasMap w1 m1 (kvs (nm 99) 0 2)) := k1
  have HMU : Hid (HasMap w1 mu (usl (fun j => floatOfInt .f64 (if j = 0 then 1 else -1)) 2)) := ku
  have HSP : Hid (Spec w 0 p0 p1 p2 pi pj) := sp
  have HSN : Hid (Spec w 1 n0 n1 n2 ni nj) := sn
  have hwz : w.heap.size < w1.heap.size := HMP.out.lt
  clear kA mpA mpB rw0 kk kW1 t1 t2 t3 k1 k2 ku sp sn ht
  generalize (fun j : Nat => floatOfInt .f64 (if j = 0 then 1 else -1)) = fl at *
  go_wp2_with (first | (refine wpList_stores rfl 32 _ _ rfl w1.heap.size 0 [_, _, _, _, _, _, _, _, _, _, _] rfl rfl (Row.made w1 _ 32) (by kernel_rfl) (by simp) rfl ?_; intro w2 h2 k2 s2) | (refine wpList_loads rfl 32 _ rfl w1.heap.size 0 [_, _, _, _, _, _, _, _, _, _, _] _ rfl h2 Ybad.underlying32 rfl (by kernel_rfl) rfl ?_))
  have kW12 := (Kept.alloc w1 _).trans k2 (by simp)
  have kW2 := HK1.out.trans kW12 (by simp)
  refine (start_any u1 u2 u3 2 v1 1 v2 2 v3 m1 m2 mu w.heap.size 3 7 b1 b2 b3 1 (some mu) (lpar thr gain neglr (floatOfInt .f64 a3)) (vlook (lpar thr gain neglr (floatOfInt .f64 a3))) fl p0 p1 p2 n0 n1 n2 pi pj ni nj w2 (by omega) (by omega) (by omega) (HT1.out.keep kW12 (by simp)) (HT2.out.keep kW12 (by simp)) (HT3.out.keep kW12 (by simp)) (HM1.out.keep kW12 (by simp)) (HMU.out.keep kW12 (by simp)) (HMP.out.keep kW12 (by simp)) (vlook_ok thr gain neglr (floatOfInt .f64 a3)) (HSP.out.keep kW2 (by simp)) (HSN.out.keep kW2 (by simp))).mono ?_
  rintro e w3 ⟨L, lc, p, x1, x2, x3, gs, lpos, lneg, lvs, oc, e1, r1, e2, r2, bs, gz, thr', bp, bn, rfl, hrow, hvp, hvn, hgl, hvc, hvt, hgz, hs1, hs2, hmp, hperm, k3⟩
  have kW3 := kW2.trans k3 (by simp)
  have HK3 : Hid (Kept [] w w3) := kW3
  have hlp := hvp.len
  have hln := hvn.len
  have d0 : lvs[0]? = some (.float .f64 (sval (vlook (lpar thr gain neglr (floatOfInt .f64 a3))) 15)) := by
    have := congrArg (fun l => l[0]?) hvc.pre
    simpa using this
  have d97 := hrow.cell 97 ((lrn_vs rfl hlp hln rfl hgl hvc.len 0 (by omega)).trans d0)
  have d3 := hrow.cell 3 ((lrn_A rfl 3 (by omega)).trans rfl)
  have d4 := hrow.cell 4 ((lrn_A rfl 4 (by omega)).trans rfl)
  have d5 := hrow.cell 5 ((lrn_A rfl 5 (by omega)).trans rfl)
  obtain ⟨mq, gq, q5, q6, q9, z1, z2, z3, z4, z5, y1, y2, y3, y4, y5, eq5, _, _⟩ := hvp
  obtain ⟨mr, gr, s5, s6, s9, j1, j2, j3, j4, j5, i1, i2, i3, i4, i5, eq6, _, _⟩ := hvn
  have d19 := hrow.cell 19 ((lrn_pos rfl hlp 9 (by omega)).trans (by rw [eq5]; rfl))
  have d25 := hrow.cell 25 ((lrn_pos rfl hlp 15 (by omega)).trans (by rw [eq5]; rfl))
  have d28 := hrow.cell 28 ((lrn_pos rfl hlp 18 (by omega)).trans (by rw [eq5]; rfl))
  have d35 := hrow.cell 35 ((lrn_pos rfl hlp 25 (by omega)).trans (by rw [eq5]; rfl))
  have d47 := hrow.cell 47 ((lrn_neg rfl hlp hln 7 (by omega)).trans (by rw [eq6]; rfl))
  have d48 := hrow.cell 48 ((lrn_neg rfl hlp hln 8 (by omega)).trans (by rw [eq6]; rfl))
  have d49 := hrow.cell 49 ((lrn_neg rfl hlp hln 9 (by omega)).trans (by rw [eq6]; rfl))
  have d62 := hrow.cell 62 ((lrn_neg rfl hlp hln 22 (by omega)).trans (by rw [eq6]; rfl))
  have d65 := hrow.cell 65 ((lrn_neg rfl hlp hln 25 (by omega)).trans (by rw [eq6]; rfl))
  rw [sv14] at d49 d65
  have oz : (FloatKind.f64.format.order 0 0 != some .eq) = false := by kernel_rfl
  have oe : (FloatKind.f64.format.order 0 0 == some .eq) = true := by kernel_rfl
  have o0 : (FloatKind.f64.format.order (sval (vlook (lpar thr gain neglr (floatOfInt .f64 a3))) 0) thr != some .eq) = false := by rw [sv0]; exact o8
  have o1 : (FloatKind.f64.format.order (sval (vlook (lpar thr gain neglr (floatOfInt .f64 a3))) 1) gain != some .eq) = false := by rw [sv1]; exact o4
  have o2 : (FloatKind.f64.format.order (sval (vlook (lpar thr gain neglr (floatOfInt .f64 a3))) 2) 0 != some .eq) = false := by rw [sv2]; exact oz
  have o9 : (FloatKind.f64.format.order (sval (vlook (lpar thr gain neglr (floatOfInt .f64 a3))) (5 + 4)) (floatOfInt .f64 a3) != some .eq) = false := by rw [sv9]; exact op
  have o12 : (FloatKind.f64.format.order (sval (vlook (lpar thr gain neglr (floatOfInt .f64 a3))) (10 + 2)) neglr != some .eq) = false := by rw [sv12]; exact o16
  have o13 : (FloatKind.f64.format.order (sval (vlook (lpar thr gain neglr (floatOfInt .f64 a3))) (10 + 3)) neglr != some .eq) = false := by rw [sv13]; exact o16
  have o15 : (FloatKind.f64.format.order (sval (vlook (lpar thr gain neglr (floatOfInt .f64 a3))) 15) 0 == some .eq) = true := by rw [sv15]; exact oe
  generalize sval (vlook (lpar thr gain neglr (floatOfInt .f64 a3))) 0 = g0 at *
  generalize sval (vlook (lpar thr gain neglr (floatOfInt .f64 a3))) 1 = g1 at *
  generalize sval (vlook (lpar thr gain neglr (floatOfInt .f64 a3))) 2 = g2 at *
  generalize sval (vlook (lpar thr gain neglr (floatOfInt .f64 a3))) (5 + 4) = g9 at *
  generalize sval (vlook (lpar thr gain neglr (floatOfInt .f64 a3))) (10 + 2) = g12 at *
  generalize sval (vlook (lpar thr gain neglr (floatOfInt .f64 a3))) (10 + 3) = g13 at *
  generalize sval (vlook (lpar thr gain neglr (floatOfInt .f64 a3))) 15 = g15 at *
  generalize floatOfInt .f64 a3 = ph at *
  have hra := run_assert ⟨L, 0, none⟩ w3
  clear o8 o4 o16 op oz oe hrow hgl hvc hvt hgz hs1 hs2 hmp hperm k3 kW3 kW2 kW12 hlp hln d0 eq5 eq6 HK1 HT1 HT2 HT3 HM1 HMU HMP HSP HSN h2 k2 s2 hwz
  go_wp2_with (go_at_call 10; refine (isInf_yes _).mono ?_; rintro e w' ⟨rfl, rfl⟩)
  have hnp := fun W => run_neq_ptr L 3 W
  go_quiet (fail)
  go_wp2_with fail
  go_ret
  exact ⟨rfl, HK3.out.trans (Kept.drewN _ _) (by simp)⟩
end Go.Proofs.YbulkjbuDoor
