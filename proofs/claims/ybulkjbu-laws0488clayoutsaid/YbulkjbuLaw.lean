/-
  Seat b0488a: the law's own walk.
-/
import Derived.Test.YbulkjbuStart
namespace Go.Proofs.Ybulkjbu
open Go.RowKit

/-- A store at a new key into the heap's last block. -/
theorem run_put_last {P : Program} (W : World) (es : Array MapEntry) (c : Nat) (t kt et : TypeId) (ht : P.underlying t = some (.map kt et)) (hk : P.underlying kt = some .string) (k : ByteArray) (v : Value) (b : Nat) (hb : b = W.heap.size)
    (hf : Instr.findNow .string (.string k) es.toList 0 = some none) :
    (Instr.mapUpdate t (.map (some b)) (.string k) v).run P (W.alloc (.map es c)) = .ok () (W.alloc (.map (es.push { key := .string k, val := v, born := c }) (c + 1))) := by
  subst hb
  have hb : (W.alloc (.map es c)).heap[W.heap.size]? = some (.map es c) := (MapKept.heap_alloc W _).1
  simp [Instr.mapUpdate, run_underlying ht, MapKept.run_getObj_map hb, run_check hk, MapKept.run_findKey hk hf, MapKept.run_setObj_map _ hb, Result.andThen]
  have e : (W.heap.push (.map es c)).setIfInBounds W.heap.size (.map (es.push { key := .string k, val := v, born := c }) (c + 1)) = W.heap.push (.map (es.push { key := .string k, val := v, born := c }) (c + 1)) := by
    apply Array.ext'
    simp
  exact congrArg (fun h => ({ W with heap := h } : World)) e

theorem name_c (k : Nat) (w : World) (h : k < 64) : Calls Yba.prog 4 #[.int .u8 99, .int .i64 k] w fun e w' => e = .returned (.string (nm 99 k)) ∧ Kept [] w w' := name_any 99 k w h
theorem name_x (k : Nat) (w : World) (h : k < 64) : Calls Yba.prog 4 #[.int .u8 120, .int .i64 k] w fun e w' => e = .returned (.string (nm 120 k)) ∧ Kept [] w w' := name_any 120 k w h
theorem name_u (k : Nat) (w : World) (h : k < 64) : Calls Yba.prog 4 #[.int .u8 117, .int .i64 k] w fun e w' => e = .returned (.string (nm 117 k)) ∧ Kept [] w w' := name_any 117 k w h

/-- The one new cell that 'append' of one value lays. -/
theorem Sl.one (w : World) (v : Value) (e : TypeId) : Sl (w.alloc (.cells #[v] e)) w.heap.size e (some ⟨w.heap.size, 0, none⟩) 1 1 [v] :=
  World.ownsRow_lit w #[v] 1 (Nat.le_refl _) (by unfold maxLen; omega) rfl

/-- What one round of a filling loop does to the struct in block S, its field i, and the slice in it. -/
theorem round_keeps {W0 wr w1 w2 w4 : World} {S i m k cp cp' : Nat} {ad ad' : Option Addr} {vs xs ys : List Value} {o : Obj}
    (hS : Row wr S vs 31) (hsl : Sl wr W0.heap.size 9 ad k cp xs) (kk : Kept [S, m] W0 wr) (hSB : S < W0.heap.size) (hmB : m < W0.heap.size)
    (k1 : Kept [] wr w1) (hsl2 : Sl w2 W0.heap.size 9 ad' (k + 1) cp' ys) (gr2 : (w1.alloc o).grownBy w2 (Value.slice ad k cp).ownBlock)
    (k3 : Kept [m] (w2.setCell ⟨S, i, none⟩ (.slice ad' (k + 1) cp')) w4) (hSm : S ≠ m) :
    Row w4 S (vs.set i (.slice ad' (k + 1) cp')) 31 ∧ Sl w4 W0.heap.size 9 ad' (k + 1) cp' ys ∧ Kept [S, m] W0 w4 := by
  have hrow : ∀ j ∈ (Value.slice ad k cp).ownBlock.toList, W0.heap.size ≤ j := fun j hj => (hsl.row j hj).1
  have K1 := k1.trans (Kept.alloc w1 o) (by simp)
  have R2 := (hS.keep K1 (by simp)).keep (Kept.grown gr2) (fun h => by have := hrow S h; omega)
  refine ⟨((R2.set i _).keep k3 (by simpa using hSm)), ?_, ?_⟩
  · have h1 := hsl2.keep (Kept.setCell w2 S i (.slice ad' (k + 1) cp')) (by simp; omega)
    exact h1.keep k3 (by simp; omega)
  · exact (((kk.trans K1 (by simp)).trans (Kept.grown gr2) (fun j hj => .inr (hrow j hj))).trans (Kept.setCell w2 S i _) (by simp)).trans k3 (by simp)

theorem run_assert (a : Addr) (w : World) : (Instr.typeAssert (.iface 36 (.pointer (some a))) 34 36 true).run Yba.prog w = .ok (.tuple #[.pointer (some a), .bool true]) w := by kernel_rfl
theorem run_mul (a b : Nat) (w : World) : ∃ rt w', (binOp .mul 23 (.float .f64 a) (.float .f64 b)).run Yba.prog w = .ok (.float .f64 rt) w' ∧ Kept [] w w' ∧ Rate a b rt := by
  cases hmul : FloatKind.f64.format.mul a b with
  | some r => exact ⟨r, w, by simp [binOp, Op.floatArith, hmul], Kept.refl _ _, by simp [Rate, hmul]⟩
  | none =>
    refine ⟨Question.cut (.nanBits .f64 a b) (w.tape w.drawn (.nanBits .f64 a b)), w.drew, by simp [binOp, Op.floatArith, hmul, choose, Sem.run, Question.forced], Kept.drew w, ?_⟩
    simp only [Rate, hmul]
    exact nan_cut a b _
theorem same_rate (a b x y : Nat) (w : World) (hx : Rate a b x) (hy : Rate a b y) : Calls Yba.prog 6 #[.float .f64 x, .float .f64 y] w fun e w' => e = .returned (.bool true) ∧ w' = w := by
  unfold Rate at hx hy
  cases hmul : FloatKind.f64.format.mul a b with
  | some r => rw [hmul] at hx hy; simp only at hx hy; subst hx; subst hy; exact same_self _ _
  | none =>
    rw [hmul] at hx hy; simp only at hx hy
    exact same_nan x y w (by rw [nan_order x y hx]; rfl) (by rw [nan_order x x hx]; rfl) (by rw [nan_order y y hy]; rfl)

/-- What the checks look at. -/
structure Chk (W : World) (S B0 L p gm gv gc c x u cap base rt : Nat) (ad : Option Addr) (l : List (ByteArray × Value)) (fl : Nat → Nat) (vs : List Value) : Prop where
  rl : Row W L [.float .f64 rt, .slice ad (c + x) cap, .map (some p), .slice (some ⟨gm, 0, none⟩) u u, .slice (some ⟨gv, 0, none⟩) (c + x) (c + x), .int .i64 0, .slice (some ⟨gc, 0, none⟩) (c + x + u) (c + x + u), .slice none 0 0] 41
  rs : Row W S vs 31
  hp : HasMap W p (l ++ kvs (nm 120) c x ++ kvs (nm 117) (c + x) u)
  hl : l.Perm (kvs (nm 99) 0 c)
  ht : Sl W base 9 ad (c + x) cap (strs (nm 99) c ++ strs (nm 120) x)
  hgm : Row W gm (mags fl u u) 23
  hgv : Row W gv (List.replicate (c + x) (.float .f64 0)) 23
  hgc : Row W gc (List.replicate (c + x + u) (.int .i64 0)) 3
  n1 : HasMap W B0 (kvs (nm 99) 0 c)
  n2 : HasMap W (B0 + 1) (kvs (nm 120) 0 x)

theorem Chk.keep {W W' : World} {S B0 L p gm gv gc c x u cap base rt : Nat} {ad : Option Addr} {l : List (ByteArray × Value)} {fl : Nat → Nat} {vs : List Value} (h : Chk W S B0 L p gm gv gc c x u cap base rt ad l fl vs) (k : Kept [] W W') : Chk W' S B0 L p gm gv gc c x u cap base rt ad l fl vs :=
  ⟨h.rl.keep k (by simp), h.rs.keep k (by simp), h.hp.keep k (by simp), h.hl, h.ht.keep k (by simp), h.hgm.keep k (by simp), h.hgv.keep k (by simp), h.hgc.keep k (by simp), h.n1.keep k (by simp), h.n2.keep k (by simp)⟩

section
variable {W : World} {S B0 L p gm gv gc c x u cap base rt : Nat} {ad : Option Addr} {l : List (ByteArray × Value)} {fl : Nat → Nat} {vs : List Value}
theorem Chk.len (h : Chk W S B0 L p gm gv gc c x u cap base rt ad l fl vs) (ty : TypeId) : (Builtin.len_ #[24] ty #[.map (some p)]).run Yba.prog W = .ok (.int .i64 ((c : Int) + (x : Int) + (u : Int))) W := by
  rw [h.hp.len Yba.underlying24]
  have := h.hl.length_eq
  simp only [List.length_append, kvs_len] at this ⊢
  rw [this, Int.natCast_add, Int.natCast_add]
theorem Chk.look_c (h : Chk W S B0 L p gm gv gc c x u cap base rt ad l fl vs) (i : Nat) (hi : i < c) (hc : c ≤ 64) : (Instr.lookup 24 (.map (some p)) (.string (nm 99 i)) true).run Yba.prog W = .ok (.tuple #[.int .i64 i, .bool true]) W := by
  have hinj : ∀ i j, i < c → j < c → nm 99 i = nm 99 j → i = j := fun i j hi hj e => (nm_inj (by omega) (by omega) e).2
  have e : look (nm 99 i) (l ++ kvs (nm 120) c x ++ kvs (nm 117) (c + x) u) = some (.int .i64 i) := by
    rw [look_append, look_append, look_perm h.hl (kvs_nodup _ _ _ hinj), kvs_look _ _ _ i hi hinj]
    simp
  exact h.hp.look_some Yba.underlying24 Yba.underlying9 _ _ e true
theorem Chk.none_l (h : Chk W S B0 L p gm gv gc c x u cap base rt ad l fl vs) (q : UInt8) (i : Nat) (hq : q ≠ 99) (hi : i < 64) (hc : c ≤ 64) : look (nm q i) l = none := by
  rw [look_none_iff]; intro pp hpp e
  have hm := h.hl.mem_iff.1 hpp
  simp only [kvs, List.mem_map, List.mem_range] at hm
  obtain ⟨j, hj, rfl⟩ := hm
  exact hq ((nm_inj (by omega) hi e).1.symm)
theorem Chk.look_x (h : Chk W S B0 L p gm gv gc c x u cap base rt ad l fl vs) (i : Nat) (hi : i < x) (hc : c ≤ 64) (hx : x ≤ 64) : (Instr.lookup 24 (.map (some p)) (.string (nm 120 i)) true).run Yba.prog W = .ok (.tuple #[.int .i64 ((c : Int) + (i : Int)), .bool true]) W := by
  have hinj : ∀ i j, i < x → j < x → nm 120 i = nm 120 j → i = j := fun i j hi hj e => (nm_inj (by omega) (by omega) e).2
  have e : look (nm 120 i) (l ++ kvs (nm 120) c x ++ kvs (nm 117) (c + x) u) = some (.int .i64 ((c : Int) + (i : Int))) := by
    rw [look_append, look_append, h.none_l 120 i (by decide) (by omega) hc, kvs_look _ _ _ i hi hinj]
    simp
  exact h.hp.look_some Yba.underlying24 Yba.underlying9 _ _ e true
theorem Chk.look_u (h : Chk W S B0 L p gm gv gc c x u cap base rt ad l fl vs) (i : Nat) (hi : i < u) (hc : c ≤ 64) (hx : x ≤ 64) (hu : u ≤ 64) : (Instr.lookup 24 (.map (some p)) (.string (nm 117 i)) true).run Yba.prog W = .ok (.tuple #[.int .i64 ((c : Int) + (x : Int) + (i : Int)), .bool true]) W := by
  have hinj : ∀ i j, i < u → j < u → nm 117 i = nm 117 j → i = j := fun i j hi hj e => (nm_inj (by omega) (by omega) e).2
  have e : look (nm 117 i) (l ++ kvs (nm 120) c x ++ kvs (nm 117) (c + x) u) = some (.int .i64 ((c : Int) + (x : Int) + (i : Int))) := by
    rw [look_append, look_append, h.none_l 117 i (by decide) (by omega) hc, kvs_fresh (nm 120) c x (nm 117 i) (fun j hj e => by have := (nm_inj (by omega) (by omega) e).1; simp at this), kvs_look _ _ _ i hi hinj]
    simp
  exact h.hp.look_some Yba.underlying24 Yba.underlying9 _ _ e true
theorem Chk.addr (h : Chk W S B0 L p gm gv gc c x u cap base rt ad l fl vs) (hp : 0 < c + x) : ∃ g, ad = some ⟨g, 0, none⟩ ∧ (∀ i, i < c → W.cell? ⟨g, i, none⟩ = some (.string (nm 99 i))) ∧ (∀ i, i < x → W.cell? ⟨g, c + i, none⟩ = some (.string (nm 120 i))) := by
  rcases h.ht.cases with ⟨_, h0, _⟩ | ⟨g, hg, _, _, hc, _⟩
  · omega
  · refine ⟨g, hg, fun i hi => ?_, fun i hi => ?_⟩
    · rw [hc i (by omega), List.getElem?_append_left (by rw [strs_len]; omega), strs_at _ _ _ hi]
    · rw [hc (c + i) (by omega), List.getElem?_append_right (by rw [strs_len]; omega), strs_len, Nat.add_sub_cancel_left, strs_at _ _ _ hi]
end

/-- The US map after k names. -/
def usl (fs : Nat → Nat) (len k : Nat) : List (ByteArray × Value) := (⟨#[85, 83]⟩, .float .f64 4607182418800017408) :: (List.range (min k len)).map fun i => (nm 117 i, Value.float .f64 (fs i))
theorem us_ne (i : Nat) : (⟨#[85, 83]⟩ : ByteArray) ≠ nm 117 i := by
  intro h
  have := congrArg (fun b : ByteArray => b.data.toList.length) h
  simp [nm] at this
theorem usl_none (fs : Nat → Nat) (len k i : Nat) (hi : i < 64) (hk : k ≤ 64) (h : k ≤ i ∨ len ≤ i) : look (nm 117 i) (usl fs len k) = none := by
  rw [look_none_iff]
  intro p hp
  simp only [usl, List.mem_cons, List.mem_map, List.mem_range] at hp
  rcases hp with rfl | ⟨j, hj, rfl⟩
  · exact us_ne i
  · intro e
    have := (nm_inj (by omega) hi e).2
    omega
theorem usl_keys (fs : Nat → Nat) (len k : Nat) (hk : k ≤ 64) : ((usl fs len k).map Prod.fst).Nodup := by
  simp only [usl, List.map_cons, List.map_map, List.nodup_cons]
  refine ⟨?_, ?_⟩
  · simp only [List.mem_map, List.mem_range, Function.comp]
    rintro ⟨j, _, e⟩
    exact us_ne j e.symm
  · rw [List.Nodup, List.pairwise_map]
    apply List.Pairwise.imp_of_mem _ (List.nodup_range (n := min k len))
    intro a b ha hb hne e
    have h1 := List.mem_range.1 ha
    have h2 := List.mem_range.1 hb
    exact hne ((nm_inj (by omega) (by omega) e).2)
theorem usl_some (fs : Nat → Nat) (len k i : Nat) (hk : k ≤ 64) (h : i < k) (hl : i < len) : look (nm 117 i) (usl fs len k) = some (.float .f64 (fs i)) := by
  apply look_mem (usl_keys fs len k hk)
  simp only [usl, List.mem_cons, List.mem_map, List.mem_range]
  exact .inr ⟨i, by omega, rfl⟩
theorem usl_put (fs : Nat → Nat) (len k : Nat) (h : k < len) : usl fs len (k + 1) = usl fs len k ++ [(nm 117 k, .float .f64 (fs k))] := by
  have e1 : min (k + 1) len = k + 1 := by omega
  have e2 : min k len = k := by omega
  simp [usl, e1, e2, List.range_succ]
theorem usl_stay (fs : Nat → Nat) (len k : Nat) (h : len ≤ k) : usl fs len (k + 1) = usl fs len k := by
  have e1 : min (k + 1) len = len := by omega
  have e2 : min k len = len := by omega
  simp [usl, e1, e2]

/-- The world in which the first loop begins. -/
theorem setup_world (w W0 : World) (alpha beta : Nat) (hW : (((((w.alloc (.map #[] 0)).alloc (.map #[] 0)).alloc (.map #[⟨.string ⟨#[85, 83]⟩, .float .f64 4607182418800017408, 0⟩] 1)).alloc (.map #[⟨.string ⟨#[97, 108, 112, 104, 97]⟩, .float .f64 alpha, 0⟩, ⟨.string ⟨#[98, 101, 116, 97]⟩, .float .f64 beta, 1⟩] 2)).alloc (Obj.cells #[Value.slice none 0 0, Value.map (some w.heap.size), Value.slice none 0 0, Value.map (some (w.heap.size + 1)), Value.slice none 0 0, Value.map (some (w.heap.size + 1 + 1)), Value.map (some (w.heap.size + 1 + 1 + 1)), Value.int IntKind.i64 0, Value.int IntKind.i64 0, Value.map none, Value.int IntKind.u64 0] 31)) = W0) :
    HasMap W0 w.heap.size [] ∧ HasMap W0 (w.heap.size + 1) [] ∧ HasMap W0 (w.heap.size + 1 + 1) [(⟨#[85, 83]⟩, .float .f64 4607182418800017408)] ∧
    HasMap W0 (w.heap.size + 1 + 1 + 1) [(⟨#[97, 108, 112, 104, 97]⟩, .float .f64 alpha), (⟨#[98, 101, 116, 97]⟩, .float .f64 beta)] ∧
    Row W0 (w.heap.size + 1 + 1 + 1 + 1) [.slice none 0 0, .map (some w.heap.size), .slice none 0 0, .map (some (w.heap.size + 1)), .slice none 0 0, .map (some (w.heap.size + 1 + 1)), .map (some (w.heap.size + 1 + 1 + 1)), .int .i64 0, .int .i64 0, .map none, .int .u64 0] 31 ∧
    W0.heap.size = w.heap.size + 1 + 1 + 1 + 1 + 1 ∧ Kept [] w W0 := by
  subst hW
  have z1 : (w.alloc (.map #[] 0)).heap.size = w.heap.size + 1 := by simp
  have z2 : ((w.alloc (.map #[] 0)).alloc (.map #[] 0)).heap.size = w.heap.size + 1 + 1 := by simp
  refine ⟨?_, ?_, ?_, ?_, ?_, by simp, ?_⟩
  · exact ((((HasMap.made w).keep (Kept.alloc _ _) (by simp)).keep (Kept.alloc _ _) (by simp)).keep (Kept.alloc _ _) (by simp)).keep (Kept.alloc _ _) (by simp)
  · have h := HasMap.made (w.alloc (.map #[] 0))
    rw [z1] at h
    exact ((h.keep (Kept.alloc _ _) (by simp)).keep (Kept.alloc _ _) (by simp)).keep (Kept.alloc _ _) (by simp)
  · have h : HasMap (((w.alloc (.map #[] 0)).alloc (.map #[] 0)).alloc (.map #[⟨.string ⟨#[85, 83]⟩, .float .f64 4607182418800017408, 0⟩] 1)) (w.heap.size + 1 + 1) [(⟨#[85, 83]⟩, .float .f64 4607182418800017408)] := by
      rw [← z2]
      exact ⟨_, _, (MapKept.heap_alloc _ _).1, rfl, by simp, by simp⟩
    exact (h.keep (Kept.alloc _ _) (by simp)).keep (Kept.alloc _ _) (by simp)
  · have z3 : (((w.alloc (.map #[] 0)).alloc (.map #[] 0)).alloc (.map #[⟨.string ⟨#[85, 83]⟩, .float .f64 4607182418800017408, 0⟩] 1)).heap.size = w.heap.size + 1 + 1 + 1 := by simp
    have h : HasMap ((((w.alloc (.map #[] 0)).alloc (.map #[] 0)).alloc (.map #[⟨.string ⟨#[85, 83]⟩, .float .f64 4607182418800017408, 0⟩] 1)).alloc (.map #[⟨.string ⟨#[97, 108, 112, 104, 97]⟩, .float .f64 alpha, 0⟩, ⟨.string ⟨#[98, 101, 116, 97]⟩, .float .f64 beta, 1⟩] 2)) (w.heap.size + 1 + 1 + 1) [(⟨#[97, 108, 112, 104, 97]⟩, .float .f64 alpha), (⟨#[98, 101, 116, 97]⟩, .float .f64 beta)] := by
      rw [← z3]
      exact ⟨_, _, (MapKept.heap_alloc _ _).1, rfl, by simp, by simp⟩
    exact h.keep (Kept.alloc _ _) (by simp)
  · have z4 : ((((w.alloc (.map #[] 0)).alloc (.map #[] 0)).alloc (.map #[⟨.string ⟨#[85, 83]⟩, .float .f64 4607182418800017408, 0⟩] 1)).alloc (.map #[⟨.string ⟨#[97, 108, 112, 104, 97]⟩, .float .f64 alpha, 0⟩, ⟨.string ⟨#[98, 101, 116, 97]⟩, .float .f64 beta, 1⟩] 2)).heap.size = w.heap.size + 1 + 1 + 1 + 1 := by simp
    rw [← z4]
    exact Row.made _ _ _
  · exact ((((Kept.alloc w _).trans (Kept.alloc _ _) (by simp)).trans (Kept.alloc _ _) (by simp)).trans (Kept.alloc _ _) (by simp)).trans (Kept.alloc _ _) (by simp)

set_option maxRecDepth 100000 in
set_option maxHeartbeats 2000000 in
theorem walk_in (a0 a1 a2 : Int) (c x u : Nat) (ma : Option Addr) (len cap : Nat) (fs : Nat → Nat) (alpha beta : Nat) (w : World)
    (r0 : 0 ≤ a0) (r0' : a0 ≤ 255) (r1 : 0 ≤ a1) (r1' : a1 ≤ 255) (r2 : 0 ≤ a2) (r2' : a2 ≤ 255) (hc : a0 % 64 = c) (hx : a1 % 64 = x) (hu : a2 % 64 = u) (hlen : len ≤ 1024)
    (hcells : ∀ j, j < len → ∃ b o, ma = some ⟨b, o, none⟩ ∧ w.cell? ⟨b, o + j, none⟩ = some (.float .f64 (fs j))) :
    Calls Yba.prog 3 #[.int .u8 a0, .int .u8 a1, .int .u8 a2, .slice ma len cap, .float .f64 alpha, .float .f64 beta] w fun e w' => e = .returned (.bool true) ∧ Below w.heap.size w w' := by
  have hl : (len : Int) ≤ 1024 := by omega
  have hmm := @run_makeMap Yba.prog
  have p1 := run_put_last (P := Yba.prog) ((w.alloc (.map #[] 0)).alloc (.map #[] 0)) #[] 0 25 9 23 Yba.underlying25 Yba.underlying9 ⟨#[85, 83]⟩ (.float .f64 4607182418800017408) (w.heap.size + 1 + 1) (by simp) rfl
  have p2 := run_put_last (P := Yba.prog) (((w.alloc (.map #[] 0)).alloc (.map #[] 0)).alloc (.map #[⟨.string ⟨#[85, 83]⟩, .float .f64 4607182418800017408, 0⟩] 1)) #[] 0 25 9 23 Yba.underlying25 Yba.underlying9 ⟨#[97, 108, 112, 104, 97]⟩ (.float .f64 alpha) (w.heap.size + 1 + 1 + 1) (by simp) rfl
  have p3 := run_put_last (P := Yba.prog) (((w.alloc (.map #[] 0)).alloc (.map #[] 0)).alloc (.map #[⟨.string ⟨#[85, 83]⟩, .float .f64 4607182418800017408, 0⟩] 1)) #[⟨.string ⟨#[97, 108, 112, 104, 97]⟩, .float .f64 alpha, 0⟩] 1 25 9 23 Yba.underlying25 Yba.underlying9 ⟨#[98, 101, 116, 97]⟩ (.float .f64 beta) (w.heap.size + 1 + 1 + 1) (by simp) (by rfl)
  simp only [List.push_toArray, List.nil_append, List.cons_append, Nat.zero_add, Nat.reduceAdd] at p1 p2 p3
  go_enter Yba.func3, Yba.ntmps3
  go_wp2_with fail
  rw [hc, hx, hu]
  generalize hW : (((((w.alloc (.map #[] 0)).alloc (.map #[] 0)).alloc (.map #[⟨.string ⟨#[85, 83]⟩, .float .f64 4607182418800017408, 0⟩] 1)).alloc (.map #[⟨.string ⟨#[97, 108, 112, 104, 97]⟩, .float .f64 alpha, 0⟩, ⟨.string ⟨#[98, 101, 116, 97]⟩, .float .f64 beta, 1⟩] 2)).alloc (Obj.cells #[Value.slice none 0 0, Value.map (some w.heap.size), Value.slice none 0 0, Value.map (some (w.heap.size + 1)), Value.slice none 0 0, Value.map (some (w.heap.size + 1 + 1)), Value.map (some (w.heap.size + 1 + 1 + 1)), Value.int IntKind.i64 0, Value.int IntKind.i64 0, Value.map none, Value.int IntKind.u64 0] 31)) = W0
  obtain ⟨hm1, hm2, hmu, hmp, hS, hsz, kw⟩ := setup_world w W0 alpha beta hW
  have HKW : Hid (Kept [] w W0) := kw
  have hSB : w.heap.size + 1 + 1 + 1 + 1 < W0.heap.size := by omega
  clear hsz
  clear hW p1 p2 p3 hmm kw
  generalize hB0 : w.heap.size = B0 at *
  have HB : Hid (w.heap.size = B0) := hB0
  clear hB0
  obtain ⟨i0, hi, hz0, hz1, hz2⟩ := info_parts Yba.info9
  go_loopw [17] (fun i wr => ∃ (k : Nat) (ad : Option Addr) (cp : Nat), k ≤ c ∧ i = .int .i64 k ∧ Row wr (B0 + 1 + 1 + 1 + 1) [.slice ad k cp, .map (some B0), .slice none 0 0, .map (some (B0 + 1)), .slice none 0 0, .map (some (B0 + 1 + 1)), .map (some (B0 + 1 + 1 + 1)), .int .i64 0, .int .i64 0, .map none, .int .u64 0] 31 ∧
      Sl wr W0.heap.size 9 ad k cp (strs (nm 99) k) ∧ HasMap wr B0 (kvs (nm 99) 0 k) ∧ Kept [B0 + 1 + 1 + 1 + 1, B0] W0 wr) (fun i _ => c - (intOf i).toNat)
  case atStart => exact ⟨0, none, 0, Nat.zero_le _, rfl, hS, Sl.nil _ _ _, by simpa [kvs] using hm1, Kept.refl _ _⟩
  case round =>
    obtain ⟨k, ad, cp, hk, rfl, rS, hsl, hm, kk⟩ := hrel
    by_cases hlt : k < c
    · have hk64 : k < 64 := by omega
      have hfr : look (nm 99 k) (kvs (nm 99) 0 k) = none := kvs_fresh _ _ _ _ (fun i hi e => by have := (nm_inj (by omega) hk64 e).2; omega)
      have HrS : Hid (Row wr (B0 + 1 + 1 + 1 + 1) [.slice ad k cp, .map (some B0), .slice none 0 0, .map (some (B0 + 1)), .slice none 0 0, .map (some (B0 + 1 + 1)), .map (some (B0 + 1 + 1 + 1)), .int .i64 0, .int .i64 0, .map none, .int .u64 0] 31) := rS
      have Hsl : Hid (Sl wr W0.heap.size 9 ad k cp (strs (nm 99) k)) := hsl
      have Hm : Hid (HasMap wr B0 (kvs (nm 99) 0 k)) := hm
      have Hkk : Hid (Kept [B0 + 1 + 1 + 1 + 1, B0] W0 wr) := kk
      clear rS hsl hm kk
      go_wp2_with fail
      refine (name_c k _ hk64).mono ?_
      rintro e w1 ⟨rfl, k1⟩
      have c0 := (HrS.out.keep k1 (by simp)).cell 0 rfl
      have s1 := Hsl.out.keep k1 (by simp)
      have hlt1 := (HrS.out.keep k1 (by simp)).lt
      have hB1 : W0.heap.size ≤ w1.heap.size := Nat.le_trans Hkk.out.size k1.size
      go_wp2_with (first | (at_mapUpdate; refine wpList_put _ rfl _ _ _ 24 9 3 rfl Yba.underlying24 Yba.underlying9 B0 _ rfl (hm2'.setCell _ _ _ (by omega)) (nm 99 k) (.int .i64 (k : Int)) rfl rfl hfr ?_; intro w4 hm4 k4 hs4) | (at_builtin; refine wpList_append_sl rfl _ _ 26 9 rfl W0.heap.size i0 (.string ⟨#[]⟩) 16 Yba.underlying26 hi hz0 hz1 hz2 rfl _ _ _ _ rfl (s1.keep (Kept.alloc _ _) (by simp)) w1.heap.size _ 1 1 [.string (nm 99 k)] rfl (Sl.one w1 _ 9) (by simp [Value.oneCell']) (by unfold maxLen; omega) (by omega) (by simp; omega) ?_; intro ad' cp' w2 hsl2 gr2; have R2 := ((HrS.out.keep k1 (by simp)).keep (Kept.alloc w1 _) (by simp)).keep (Kept.grown gr2) (fun h => by have := (s1.row _ h).1; omega); have d0 := R2.cell 0 rfl; have d1 := R2.cell 1 rfl; have f0 := R2.free 0; have hm2' := ((Hm.out.keep k1 (by simp)).keep (Kept.alloc w1 _) (by simp)).keep (Kept.grown gr2) (fun h => by have := (s1.row _ h).1; omega); clear R2))
      have R := round_keeps HrS.out Hsl.out Hkk.out hSB (by omega) k1 hsl2 gr2 k4 (by omega)
      go_roundw
      case rel =>
        refine ⟨k + 1, ad', cp', by omega, by go_num, R.1, by rw [strs_succ]; exact R.2.1, ?_, R.2.2⟩
        rw [kvs_succ, show ((0 : Nat) : Int) + (k : Int) = (k : Int) from by omega]
        exact hm4
      case measure => simp [intOf]; omega
    · obtain rfl : k = c := by omega
      obtain ⟨W1, rfl⟩ : ∃ W1, W1 = wr := ⟨_, rfl⟩
      have hkc : k < 64 := by omega
      have HS1 : Hid (Sl W1 W0.heap.size 9 ad k cp (strs (nm 99) k)) := hsl
      have HM1 : Hid (HasMap W1 B0 (kvs (nm 99) 0 k)) := hm
      have HM2 : Hid (HasMap W1 (B0 + 1) []) := hm2.keep kk (by simp)
      have HMU : Hid (HasMap W1 (B0 + 1 + 1) [(⟨#[85, 83]⟩, .float .f64 4607182418800017408)]) := hmu.keep kk (by simp; omega)
      have HMP : Hid (HasMap W1 (B0 + 1 + 1 + 1) [(⟨#[97, 108, 112, 104, 97]⟩, .float .f64 alpha), (⟨#[98, 101, 116, 97]⟩, .float .f64 beta)]) := hmp.keep kk (by simp; omega)
      have HR1 : Hid (Row W1 (B0 + 1 + 1 + 1 + 1) [.slice ad k cp, .map (some B0), .slice none 0 0, .map (some (B0 + 1)), .slice none 0 0, .map (some (B0 + 1 + 1)), .map (some (B0 + 1 + 1 + 1)), .int .i64 0, .int .i64 0, .map none, .int .u64 0] 31) := rS
      have HK1 : Hid (Kept [] w W1) := HKW.out.trans kk (by have := HB.out; simp; omega)
      have hSB1 : B0 + 1 + 1 + 1 + 1 < W1.heap.size := Nat.lt_of_lt_of_le hSB kk.size
      have HSB0 : Hid (B0 + 1 + 1 + 1 + 1 < W0.heap.size) := hSB
      clear rS hsl hm kk hm1 hm2 hmu hmp hS hSB HKW
      go_wp2_with fail
      go_loopw [19] (fun i wr => ∃ (k2 : Nat) (ad2 : Option Addr) (cp2 : Nat), k2 ≤ x ∧ i = .int .i64 k2 ∧ Row wr (B0 + 1 + 1 + 1 + 1) [.slice ad k cp, .map (some B0), .slice ad2 k2 cp2, .map (some (B0 + 1)), .slice none 0 0, .map (some (B0 + 1 + 1)), .map (some (B0 + 1 + 1 + 1)), .int .i64 0, .int .i64 0, .map none, .int .u64 0] 31 ∧
          Sl wr W1.heap.size 9 ad2 k2 cp2 (strs (nm 120) k2) ∧ HasMap wr (B0 + 1) (kvs (nm 120) 0 k2) ∧ Kept [B0 + 1 + 1 + 1 + 1, B0 + 1] W1 wr) (fun i _ => x - (intOf i).toNat)
      case atStart => exact ⟨0, none, 0, Nat.zero_le _, rfl, HR1.out, Sl.nil _ _ _, by simpa [kvs] using HM2.out, Kept.refl _ _⟩
      case round =>
        obtain ⟨k2, ad2, cp2, hk2, rfl, rS, hsl, hm, kk⟩ := hrel
        by_cases hlt2 : k2 < x
        · have hk64 : k2 < 64 := by omega
          have hfr : look (nm 120 k2) (kvs (nm 120) 0 k2) = none := kvs_fresh _ _ _ _ (fun i hi e => by have := (nm_inj (by omega) hk64 e).2; omega)
          have HrS : Hid (Row wr (B0 + 1 + 1 + 1 + 1) [.slice ad k cp, .map (some B0), .slice ad2 k2 cp2, .map (some (B0 + 1)), .slice none 0 0, .map (some (B0 + 1 + 1)), .map (some (B0 + 1 + 1 + 1)), .int .i64 0, .int .i64 0, .map none, .int .u64 0] 31) := rS
          have Hsl : Hid (Sl wr W1.heap.size 9 ad2 k2 cp2 (strs (nm 120) k2)) := hsl
          have Hm : Hid (HasMap wr (B0 + 1) (kvs (nm 120) 0 k2)) := hm
          have Hkk : Hid (Kept [B0 + 1 + 1 + 1 + 1, B0 + 1] W1 wr) := kk
          clear rS hsl hm kk
          go_wp2_with fail
          refine (name_x k2 _ hk64).mono ?_
          rintro e w1 ⟨rfl, k1⟩
          have c0 := (HrS.out.keep k1 (by simp)).cell 2 rfl
          have s1 := Hsl.out.keep k1 (by simp)
          have hlt1 := (HrS.out.keep k1 (by simp)).lt
          have hB1 : W1.heap.size ≤ w1.heap.size := Nat.le_trans Hkk.out.size k1.size
          go_wp2_with (first | (at_mapUpdate; refine wpList_put _ rfl _ _ _ 24 9 3 rfl Yba.underlying24 Yba.underlying9 (B0 + 1) _ rfl (hm2'.setCell _ _ _ (by omega)) (nm 120 k2) (.int .i64 (k2 : Int)) rfl rfl hfr ?_; intro w4 hm4 k4 hs4) | (at_builtin; refine wpList_append_sl rfl _ _ 26 9 rfl W1.heap.size i0 (.string ⟨#[]⟩) 16 Yba.underlying26 hi hz0 hz1 hz2 rfl _ _ _ _ rfl (s1.keep (Kept.alloc _ _) (by simp)) w1.heap.size _ 1 1 [.string (nm 120 k2)] rfl (Sl.one w1 _ 9) (by simp [Value.oneCell']) (by unfold maxLen; omega) (by omega) (by simp; omega) ?_; intro ad' cp' w2 hsl2 gr2; have R2 := ((HrS.out.keep k1 (by simp)).keep (Kept.alloc w1 _) (by simp)).keep (Kept.grown gr2) (fun h => by have := (s1.row _ h).1; omega); have d0 := R2.cell 2 rfl; have d1 := R2.cell 3 rfl; have f0 := R2.free 2; have hm2' := ((Hm.out.keep k1 (by simp)).keep (Kept.alloc w1 _) (by simp)).keep (Kept.grown gr2) (fun h => by have := (s1.row _ h).1; omega); clear R2))
          have R := round_keeps HrS.out Hsl.out Hkk.out hSB1 (by omega) k1 hsl2 gr2 k4 (by omega)
          go_roundw
          case rel =>
            refine ⟨k2 + 1, ad', cp', by omega, by go_num, R.1, by rw [strs_succ]; exact R.2.1, ?_, R.2.2⟩
            rw [kvs_succ, show ((0 : Nat) : Int) + (k2 : Int) = (k2 : Int) from by omega]
            exact hm4
          case measure => simp [intOf]; omega
        · obtain rfl : k2 = x := by omega
          obtain ⟨W2, rfl⟩ : ∃ W2, W2 = wr := ⟨_, rfl⟩
          have hkx : k2 < 64 := by omega
          have HS1' : Hid (Sl W2 W0.heap.size 9 ad k cp (strs (nm 99) k)) := HS1.out.keep kk (by have := HSB0.out; simp; omega)
          have HM1' : Hid (HasMap W2 B0 (kvs (nm 99) 0 k)) := HM1.out.keep kk (by simp; omega)
          have HS2 : Hid (Sl W2 W1.heap.size 9 ad2 k2 cp2 (strs (nm 120) k2)) := hsl
          have HM2' : Hid (HasMap W2 (B0 + 1) (kvs (nm 120) 0 k2)) := hm
          have HMU' : Hid (HasMap W2 (B0 + 1 + 1) [(⟨#[85, 83]⟩, .float .f64 4607182418800017408)]) := HMU.out.keep kk (by simp)
          have HMP' : Hid (HasMap W2 (B0 + 1 + 1 + 1) [(⟨#[97, 108, 112, 104, 97]⟩, .float .f64 alpha), (⟨#[98, 101, 116, 97]⟩, .float .f64 beta)]) := HMP.out.keep kk (by simp; omega)
          have HR2 : Hid (Row W2 (B0 + 1 + 1 + 1 + 1) [.slice ad k cp, .map (some B0), .slice ad2 k2 cp2, .map (some (B0 + 1)), .slice none 0 0, .map (some (B0 + 1 + 1)), .map (some (B0 + 1 + 1 + 1)), .int .i64 0, .int .i64 0, .map none, .int .u64 0] 31) := rS
          have HK2 : Hid (Kept [] w W2) := HK1.out.trans kk (by have := HB.out; simp; omega)
          have hSB2 : B0 + 1 + 1 + 1 + 1 < W2.heap.size := Nat.lt_of_lt_of_le hSB1 kk.size
          have HSB1 : Hid (B0 + 1 + 1 + 1 + 1 < W1.heap.size) := hSB1
          clear rS hsl hm kk HS1 HM1 HM2 HMU HMP HR1 HK1 hSB1
          go_wp2_with fail
          go_loopw [21] (fun i wr => ∃ (k3 : Nat) (ad3 : Option Addr) (cp3 : Nat), k3 ≤ u ∧ i = .int .i64 k3 ∧ Row wr (B0 + 1 + 1 + 1 + 1) [.slice ad k cp, .map (some B0), .slice ad2 k2 cp2, .map (some (B0 + 1)), .slice ad3 k3 cp3, .map (some (B0 + 1 + 1)), .map (some (B0 + 1 + 1 + 1)), .int .i64 0, .int .i64 0, .map none, .int .u64 0] 31 ∧
              Sl wr W2.heap.size 9 ad3 k3 cp3 (strs (nm 117) k3) ∧ HasMap wr (B0 + 1 + 1) (usl fs len k3) ∧ Kept [B0 + 1 + 1 + 1 + 1, B0 + 1 + 1] W2 wr) (fun i _ => u - (intOf i).toNat)
          case atStart => exact ⟨0, none, 0, Nat.zero_le _, rfl, HR2.out, Sl.nil _ _ _, by simpa [usl] using HMU'.out, Kept.refl _ _⟩
          case round =>
            obtain ⟨k3, ad3, cp3, hk3, rfl, rS, hsl, hm, kk⟩ := hrel
            by_cases hlt3 : k3 < u
            · have hk64 : k3 < 64 := by omega
              have hfr : look (nm 117 k3) (usl fs len k3) = none := usl_none fs len k3 k3 hk64 (by omega) (.inl (Nat.le_refl _))
              have HrS : Hid (Row wr (B0 + 1 + 1 + 1 + 1) [.slice ad k cp, .map (some B0), .slice ad2 k2 cp2, .map (some (B0 + 1)), .slice ad3 k3 cp3, .map (some (B0 + 1 + 1)), .map (some (B0 + 1 + 1 + 1)), .int .i64 0, .int .i64 0, .map none, .int .u64 0] 31) := rS
              have Hsl : Hid (Sl wr W2.heap.size 9 ad3 k3 cp3 (strs (nm 117) k3)) := hsl
              have Hm : Hid (HasMap wr (B0 + 1 + 1) (usl fs len k3)) := hm
              have Hkk : Hid (Kept [B0 + 1 + 1 + 1 + 1, B0 + 1 + 1] W2 wr) := kk
              clear rS hsl hm kk
              by_cases hml : k3 < len
              · obtain ⟨mb, mo, rfl, hmc⟩ := hcells k3 hml
                have HMC : Hid (w.cell? ⟨mb, mo + k3, none⟩ = some (.float .f64 (fs k3))) := hmc
                clear hmc
                go_wp2_with fail
                refine (name_u k3 _ hk64).mono ?_
                rintro e w1 ⟨rfl, k1⟩
                have c0 := (HrS.out.keep k1 (by simp)).cell 4 rfl
                have s1 := Hsl.out.keep k1 (by simp)
                have hlt1 := (HrS.out.keep k1 (by simp)).lt
                have hB1 : W2.heap.size ≤ w1.heap.size := Nat.le_trans Hkk.out.size k1.size
                go_wp2_with (at_builtin; refine wpList_append_sl rfl _ _ 26 9 rfl W2.heap.size i0 (.string ⟨#[]⟩) 16 Yba.underlying26 hi hz0 hz1 hz2 rfl _ _ _ _ rfl (s1.keep (Kept.alloc _ _) (by simp)) w1.heap.size _ 1 1 [.string (nm 117 k3)] rfl (Sl.one w1 _ 9) (by simp [Value.oneCell']) (by unfold maxLen; omega) (by omega) (by simp; omega) ?_; intro ad' cp' w2 hsl2 gr2; have R2 := ((HrS.out.keep k1 (by simp)).keep (Kept.alloc w1 _) (by simp)).keep (Kept.grown gr2) (fun h => by have := (s1.row _ h).1; omega); have d0 := R2.cell 4 rfl; have d1 := R2.cell 5 rfl; have f0 := R2.free 4; have hm2' := ((Hm.out.keep k1 (by simp)).keep (Kept.alloc w1 _) (by simp)).keep (Kept.grown gr2) (fun h => by have := (s1.row _ h).1; omega); clear R2)
                have hB0 := HB.out
                have kw2 : Kept [] w w2 := (((HK2.out.trans Hkk.out (by simp; omega)).trans k1 (by simp)).trans (Kept.alloc w1 _) (by simp)).trans (Kept.grown gr2) (fun j hj => .inr (by have := (s1.row j hj).1; have := HK2.out.size; omega))
                have hmbl : mb < w.heap.size := by
                  apply Classical.byContradiction
                  intro hx
                  have e : w.heap[mb]? = none := by simp; omega
                  have := HMC.out
                  simp [World.cell?, e] at this
                have hmw := kw2.cell HMC.out
                have hmw' := (World.cell?_setCell_other w2 ⟨B0 + 1 + 1 + 1 + 1, 4, none⟩ ⟨mb, mo + k3, none⟩ (.slice ad' (k3 + 1) cp') (fun h => by have := congrArg Addr.block h; simp at this; omega)).trans hmw
                obtain ⟨w5, hrun5, hm5, k5, hs5⟩ := HasMap.put (P := Yba.prog) (w := (w2.setCell ⟨B0 + 1 + 1 + 1 + 1, 4, none⟩ (.slice ad' (k3 + 1) cp')).drew) (t := 25) (hm2'.setCell _ _ _ (by omega)) Yba.underlying25 Yba.underlying9 (nm 117 k3) (.float .f64 (fs k3)) hfr
                have k5' : Kept [B0 + 1 + 1] (w2.setCell ⟨B0 + 1 + 1 + 1 + 1, 4, none⟩ (.slice ad' (k3 + 1) cp')) w5 := ((Kept.drew _).mono (by simp)).trans k5 (by simp)
                have R := round_keeps HrS.out Hsl.out Hkk.out hSB2 (by omega) k1 hsl2 gr2 k5' (by omega)
                have HRr := R
                have HRR : Hid (_ ∧ _ ∧ _) := HRr
                have HM5 : Hid (HasMap w5 (B0 + 1 + 1) (usl fs len k3 ++ [(nm 117 k3, .float .f64 (fs k3))])) := hm5
                clear R HRr hm5 k5 k5' kw2 hmw hm2' gr2 hsl2 s1 k1 c0 hB0
                go_region
                go_wp2
                go_roundw
                case rel => exact ⟨k3 + 1, ad', cp', by omega, by go_num, HRR.out.1, by rw [strs_succ]; exact HRR.out.2.1, by rw [usl_put _ _ _ hml]; exact HM5.out, HRR.out.2.2⟩
                case measure => simp [intOf]; omega
              · have hml' : len ≤ k3 := by omega
                go_wp2_with fail
                refine (name_u k3 _ hk64).mono ?_
                rintro e w1 ⟨rfl, k1⟩
                have c0 := (HrS.out.keep k1 (by simp)).cell 4 rfl
                have s1 := Hsl.out.keep k1 (by simp)
                have hlt1 := (HrS.out.keep k1 (by simp)).lt
                have hB1 : W2.heap.size ≤ w1.heap.size := Nat.le_trans Hkk.out.size k1.size
                go_wp2_with (at_builtin; refine wpList_append_sl rfl _ _ 26 9 rfl W2.heap.size i0 (.string ⟨#[]⟩) 16 Yba.underlying26 hi hz0 hz1 hz2 rfl _ _ _ _ rfl (s1.keep (Kept.alloc _ _) (by simp)) w1.heap.size _ 1 1 [.string (nm 117 k3)] rfl (Sl.one w1 _ 9) (by simp [Value.oneCell']) (by unfold maxLen; omega) (by omega) (by simp; omega) ?_; intro ad' cp' w2 hsl2 gr2; have R2 := ((HrS.out.keep k1 (by simp)).keep (Kept.alloc w1 _) (by simp)).keep (Kept.grown gr2) (fun h => by have := (s1.row _ h).1; omega); have d0 := R2.cell 4 rfl; have d1 := R2.cell 5 rfl; have f0 := R2.free 4; have hm2' := ((Hm.out.keep k1 (by simp)).keep (Kept.alloc w1 _) (by simp)).keep (Kept.grown gr2) (fun h => by have := (s1.row _ h).1; omega); clear R2)
                have R := round_keeps HrS.out Hsl.out Hkk.out hSB2 (m := B0 + 1 + 1) (i := 4) (by omega) k1 hsl2 gr2 (Kept.refl _ _) (by omega)
                go_roundw
                case rel => exact ⟨k3 + 1, ad', cp', by omega, by go_num, R.1, by rw [strs_succ]; exact R.2.1, by rw [usl_stay _ _ _ hml']; exact hm2'.setCell _ _ _ (by omega), R.2.2⟩
                case measure => simp [intOf]; omega
            · obtain rfl : k3 = u := by omega
              obtain ⟨W3, rfl⟩ : ∃ W3, W3 = wr := ⟨_, rfl⟩
              have hku : k3 < 64 := by omega
              have T1 : Hid (Sl W3 W0.heap.size 9 ad k cp (strs (nm 99) k)) := HS1'.out.keep kk (by have := HSB0.out; simp; omega)
              have T2 : Hid (Sl W3 W1.heap.size 9 ad2 k2 cp2 (strs (nm 120) k2)) := HS2.out.keep kk (by have := HSB1.out; simp; omega)
              have M1 : Hid (HasMap W3 B0 (kvs (nm 99) 0 k)) := HM1'.out.keep kk (by simp; omega)
              have M2 : Hid (HasMap W3 (B0 + 1) (kvs (nm 120) 0 k2)) := HM2'.out.keep kk (by simp)
              have MP : Hid (HasMap W3 (B0 + 1 + 1 + 1) [(⟨#[97, 108, 112, 104, 97]⟩, .float .f64 alpha), (⟨#[98, 101, 116, 97]⟩, .float .f64 beta)]) := HMP'.out.keep kk (by simp)
              have R3 : Hid (Row W3 (B0 + 1 + 1 + 1 + 1) [.slice ad k cp, .map (some B0), .slice ad2 k2 cp2, .map (some (B0 + 1)), .slice ad3 k3 cp3, .map (some (B0 + 1 + 1)), .map (some (B0 + 1 + 1 + 1)), .int .i64 0, .int .i64 0, .map none, .int .u64 0] 31) := rS
              have K3 : Hid (Kept [] w W3) := HK2.out.trans kk (by have := HB.out; simp; omega)
              have T3 : Hid (Sl W3 W2.heap.size 9 ad3 k3 cp3 (strs (nm 117) k3)) := hsl
              have MU : Hid (HasMap W3 (B0 + 1 + 1) (usl fs len k3)) := hm
              have d0 := rS.cell 0 rfl
              have d1 := rS.cell 1 rfl
              have d2 := rS.cell 2 rfl
              have d3 := rS.cell 3 rfl
              have d4 := rS.cell 4 rfl
              have d5 := rS.cell 5 rfl
              have d6 := rS.cell 6 rfl
              have d7 := rS.cell 7 rfl
              have d8 := rS.cell 8 rfl
              have d9 := rS.cell 9 rfl
              have d10 := rS.cell 10 rfl
              clear rS hsl hm kk HS1' HM1' HS2 HM2' HMU' HMP' HR2 HK2 hSB2
              go_wp2_with fail
              have hstart := start_any (nm 99) (nm 120) (nm 117) (fun i => if i < len then fs i else 0) ad ad2 ad3 k k2 k3 cp cp2 cp3 W0.heap.size W1.heap.size W2.heap.size B0 (B0 + 1) (B0 + 1 + 1) (B0 + 1 + 1 + 1) alpha beta (kvs (nm 99) 0 k) (usl fs len k3) _ W3 (by omega) (by omega) (by omega)
                T1.out T2.out T3.out M1.out MU.out MP.out (kvs_nodup _ _ _ (fun i j hi hj e => (nm_inj (by omega) (by omega) e).2))
                (fun i hi => kvs_fresh _ _ _ _ (fun j hj e => by have := (nm_inj (by omega) (by omega) e).1; simp at this))
                (fun i j hi hj e => (nm_inj (by omega) (by omega) e).2)
                (fun i hi => kvs_fresh _ _ _ _ (fun j hj e => by have := (nm_inj (by omega) (by omega) e).1; simp at this))
                (fun i j hi hj e => by have := (nm_inj (by omega) (by omega) e).1; simp at this)
                (fun i j hi hj e => (nm_inj (by omega) (by omega) e).2)
                (fun i hi => by
                  by_cases hil : i < len
                  · exact .inl (by simp only [hil, if_true]; exact usl_some fs len k3 i (by omega) hi hil)
                  · exact .inr ⟨usl_none fs len k3 i (by omega) (by omega) (.inr (by omega)), by simp [hil]⟩)
                rfl rfl
              refine hstart.mono ?_
              clear hstart
              rintro e w4 ⟨L, ad4, cap4, p, l, gm, gv, gc, rt, rfl, rL, t4, hp, hpl, rgm, rgv, rgc, hrt, k4⟩
              have q0 := rL.cell 0 rfl
              have hta := run_assert ⟨L, 0, none⟩ w4
              obtain ⟨rt2, w5, hmul, k5, hrt2⟩ := run_mul alpha beta w4
              have k45 := k4.trans k5 (by simp)
              have K5 : Hid (Kept [] w w5) := K3.out.trans k45 (by simp)
              have N1 : Hid (HasMap w5 B0 (kvs (nm 99) 0 k)) := M1.out.keep k45 (by simp)
              have N2 : Hid (HasMap w5 (B0 + 1) (kvs (nm 120) 0 k2)) := M2.out.keep k45 (by simp)
              have RL : Hid (Row w5 L [.float .f64 rt, .slice ad4 (k + k2) cap4, .map (some p), .slice (some ⟨gm, 0, none⟩) k3 k3, .slice (some ⟨gv, 0, none⟩) (k + k2) (k + k2), .int .i64 0, .slice (some ⟨gc, 0, none⟩) (k + k2 + k3) (k + k2 + k3), .slice none 0 0] 41) := rL.keep k5 (by simp)
              have R5 : Hid (Row w5 (B0 + 1 + 1 + 1 + 1) [.slice ad k cp, .map (some B0), .slice ad2 k2 cp2, .map (some (B0 + 1)), .slice ad3 k3 cp3, .map (some (B0 + 1 + 1)), .map (some (B0 + 1 + 1 + 1)), .int .i64 0, .int .i64 0, .map none, .int .u64 0] 31) := R3.out.keep k45 (by simp)
              have CK : Hid (Chk w5 (B0 + 1 + 1 + 1 + 1) B0 L p gm gv gc k k2 k3 cap4 W3.heap.size rt ad4 l (fun i => if i < len then fs i else 0) [.slice ad k cp, .map (some B0), .slice ad2 k2 cp2, .map (some (B0 + 1)), .slice ad3 k3 cp3, .map (some (B0 + 1 + 1)), .map (some (B0 + 1 + 1 + 1)), .int .i64 0, .int .i64 0, .map none, .int .u64 0]) := ⟨RL.out, R5.out, hp.keep k5 (by simp), hpl, t4.keep k5 (by simp), rgm.keep k5 (by simp), rgv.keep k5 (by simp), rgc.keep k5 (by simp), N1.out, N2.out⟩
              have HRT : Hid (Rate alpha beta rt) := hrt
              have HRT2 : Hid (Rate alpha beta rt2) := hrt2
              clear rL t4 hp hpl rgm rgv rgc hrt hrt2 k4 k5 k45 d0 d1 d2 d3 d4 d5 d6 d7 d8 d9 d10 T1 T2 T3 M1 M2 MU MP R3 K3
              go_wp2_with fail
              refine (same_rate alpha beta rt rt2 _ HRT.out HRT2.out).mono ?_
              rintro e w5' ⟨rfl, hw5⟩
              subst hw5
              clear hmul hta q0 HRT HRT2
              obtain ⟨W5, rfl⟩ : ∃ W5, W5 = w5' := ⟨_, rfl⟩
              have q1 := CK.out.rl.cell 1 rfl
              have q2 := CK.out.rl.cell 2 rfl
              have q3 := CK.out.rl.cell 3 rfl
              have q4 := CK.out.rl.cell 4 rfl
              have q5 := CK.out.rl.cell 5 rfl
              have q6 := CK.out.rl.cell 6 rfl
              have q7 := CK.out.rl.cell 7 rfl
              have hlp := CK.out.len
              clear N1 N2 RL R5
              go_wp2_with fail
              clear q1 q2 q3 q4 q5 q6 q7 hlp
              go_loopw [26] (fun i wr => ∃ j : Nat, j ≤ k ∧ i = .int .i64 j ∧ Kept [] W5 wr) (fun i _ => k - (intOf i).toNat)
              case atStart => exact ⟨0, Nat.zero_le _, rfl, Kept.refl _ _⟩
              case round =>
                obtain ⟨j, hj, rfl, kk⟩ := hrel
                have CR : Hid (Chk wr (B0 + 1 + 1 + 1 + 1) B0 L p gm gv gc k k2 k3 cap4 W3.heap.size rt ad4 l (fun i => if i < len then fs i else 0) [.slice ad k cp, .map (some B0), .slice ad2 k2 cp2, .map (some (B0 + 1)), .slice ad3 k3 cp3, .map (some (B0 + 1 + 1)), .map (some (B0 + 1 + 1 + 1)), .int .i64 0, .int .i64 0, .map none, .int .u64 0]) := CK.out.keep kk
                have HKK : Hid (Kept [] W5 wr) := kk
                clear kk
                by_cases hjl : j < k
                · go_wp2_with fail
                  refine (name_c j _ (by omega)).mono ?_
                  rintro e w6 ⟨rfl, k6⟩
                  have C6 := CR.out.keep k6
                  have q1 := C6.rl.cell 1 rfl
                  have q2 := C6.rl.cell 2 rfl
                  have hlk := C6.look_c j hjl (by omega)
                  obtain ⟨g4, hg4, hcc, _⟩ := C6.addr (by omega)
                  have c1 := hcc j hjl
                  have HK6 : Hid (Kept [] W5 w6) := HKK.out.trans k6 (by simp)
                  subst hg4
                  clear hcc C6 k6 CR HKK
                  go_wp2_with fail
                  go_roundw
                  case rel => exact ⟨j + 1, by omega, by go_num, HK6.out⟩
                  case measure => simp [intOf]; omega
                · obtain rfl : k = j := by omega
                  obtain ⟨W6, rfl⟩ : ∃ W6, W6 = wr := ⟨_, rfl⟩
                  have K6 : Hid (Kept [] w W6) := K5.out.trans HKK.out (by simp)
                  clear CK K5 HKK hjl
                  go_wp2_with fail
                  go_loopw [30] (fun i wr => ∃ j : Nat, j ≤ k2 ∧ i = .int .i64 j ∧ Kept [] W6 wr) (fun i _ => k2 - (intOf i).toNat)
                  case atStart => exact ⟨0, Nat.zero_le _, rfl, Kept.refl _ _⟩
                  case round =>
                    obtain ⟨j2, hj2, rfl, kk⟩ := hrel
                    have C7 : Hid (Chk wr (B0 + 1 + 1 + 1 + 1) B0 L p gm gv gc k k2 k3 cap4 W3.heap.size rt ad4 l (fun i => if i < len then fs i else 0) [.slice ad k cp, .map (some B0), .slice ad2 k2 cp2, .map (some (B0 + 1)), .slice ad3 k3 cp3, .map (some (B0 + 1 + 1)), .map (some (B0 + 1 + 1 + 1)), .int .i64 0, .int .i64 0, .map none, .int .u64 0]) := CR.out.keep kk
                    have HKK : Hid (Kept [] W6 wr) := kk
                    clear kk
                    by_cases hjl : j2 < k2
                    · go_wp2_with fail
                      refine (name_x j2 _ (by omega)).mono ?_
                      rintro e w6 ⟨rfl, k6⟩
                      have C6 := C7.out.keep k6
                      have q1 := C6.rl.cell 1 rfl
                      have q2 := C6.rl.cell 2 rfl
                      have hlk := C6.look_x j2 hjl (by omega) (by omega)
                      obtain ⟨g4, hg4, _, hcc⟩ := C6.addr (by omega)
                      have c1 := hcc j2 hjl
                      have HK6 : Hid (Kept [] W6 w6) := HKK.out.trans k6 (by simp)
                      subst hg4
                      clear hcc C6 k6 C7 HKK
                      go_wp2_with fail
                      go_roundw
                      case rel => exact ⟨j2 + 1, by omega, by go_num, HK6.out⟩
                      case measure => simp [intOf]; omega
                    · obtain rfl : k2 = j2 := by omega
                      obtain ⟨W7, rfl⟩ : ∃ W7, W7 = wr := ⟨_, rfl⟩
                      have K7 : Hid (Kept [] w W7) := K6.out.trans HKK.out (by simp)
                      clear CR K6 HKK hjl
                      go_wp2_with fail
                      go_loopw [34] (fun i wr => ∃ j : Nat, j ≤ k3 ∧ i = .int .i64 j ∧ Kept [] W7 wr) (fun i _ => k3 - (intOf i).toNat)
                      case atStart => exact ⟨0, Nat.zero_le _, rfl, Kept.refl _ _⟩
                      case round =>
                        obtain ⟨j3, hj3, rfl, kk⟩ := hrel
                        have C8 : Hid (Chk wr (B0 + 1 + 1 + 1 + 1) B0 L p gm gv gc k k2 k3 cap4 W3.heap.size rt ad4 l (fun i => if i < len then fs i else 0) [.slice ad k cp, .map (some B0), .slice ad2 k2 cp2, .map (some (B0 + 1)), .slice ad3 k3 cp3, .map (some (B0 + 1 + 1)), .map (some (B0 + 1 + 1 + 1)), .int .i64 0, .int .i64 0, .map none, .int .u64 0]) := C7.out.keep kk
                        have HKK : Hid (Kept [] W7 wr) := kk
                        clear kk
                        by_cases hjl : j3 < k3
                        · by_cases hml : j3 < len
                          · obtain ⟨mb, mo, rfl, hmc⟩ := hcells j3 hml
                            have HMC : Hid (w.cell? ⟨mb, mo + j3, none⟩ = some (.float .f64 (fs j3))) := hmc
                            clear hmc
                            go_wp2_with fail
                            refine (name_u j3 _ (by omega)).mono ?_
                            rintro e w6 ⟨rfl, k6⟩
                            have C6 := C8.out.keep k6
                            have q2 := C6.rl.cell 2 rfl
                            have q3 := C6.rl.cell 3 rfl
                            have hlk := C6.look_u j3 hjl (by omega) (by omega) (by omega)
                            have hgc := C6.hgm.cell j3 (mags_at _ _ _ _ hjl)
                            simp only [hjl, hml, if_true] at hgc
                            have hmw := ((K7.out.trans HKK.out (by simp)).trans k6 (by simp)).cell HMC.out
                            have HK6 : Hid (Kept [] W7 w6) := HKK.out.trans k6 (by simp)
                            clear C6 k6 C8 HKK
                            go_wp2_with fail
                            refine (same_self (fs j3) _).mono ?_
                            rintro e w7 ⟨rfl, hw7⟩
                            subst hw7
                            go_wp2_with fail
                            go_roundw
                            case rel => exact ⟨j3 + 1, by omega, by go_num, HK6.out⟩
                            case measure => simp [intOf]; omega
                          · have hml' : len ≤ j3 := by omega
                            go_wp2_with fail
                            refine (name_u j3 _ (by omega)).mono ?_
                            rintro e w6 ⟨rfl, k6⟩
                            have C6 := C8.out.keep k6
                            have q2 := C6.rl.cell 2 rfl
                            have q3 := C6.rl.cell 3 rfl
                            have hlk := C6.look_u j3 hjl (by omega) (by omega) (by omega)
                            have hgc := C6.hgm.cell j3 (mags_at _ _ _ _ hjl)
                            simp only [hjl, hml, if_true, if_false] at hgc
                            have HK6 : Hid (Kept [] W7 w6) := HKK.out.trans k6 (by simp)
                            clear C6 k6 C8 HKK hml
                            go_wp2_with fail
                            refine (same_self 0 _).mono ?_
                            rintro e w7 ⟨rfl, hw7⟩
                            subst hw7
                            go_wp2_with fail
                            go_roundw
                            case rel => exact ⟨j3 + 1, by omega, by go_num, HK6.out⟩
                            case measure => simp [intOf]; omega
                        · obtain rfl : k3 = j3 := by omega
                          obtain ⟨W8, rfl⟩ : ∃ W8, W8 = wr := ⟨_, rfl⟩
                          have K8 : Hid (Kept [] w W8) := K7.out.trans HKK.out (by simp)
                          clear C7 K7 HKK hjl
                          have q1 := C8.out.rl.cell 1 rfl
                          have q4 := C8.out.rl.cell 4 rfl
                          have q6 := C8.out.rl.cell 6 rfl
                          have e1 := C8.out.rs.cell 1 rfl
                          have e3 := C8.out.rs.cell 3 rfl
                          have hn1 := C8.out.n1.len (P := Yba.prog) (t := 24) (kt := 9) (et := 3) Yba.underlying24
                          have hn2 := C8.out.n2.len (P := Yba.prog) (t := 24) (kt := 9) (et := 3) Yba.underlying24
                          rw [kvs_len] at hn1 hn2
                          have hzz : (FloatKind.f64.format.order 0 0 != some .eq) = false := by decide +kernel
                          go_wp2_with fail
                          go_loop [39] (fun i => ∃ j : Nat, j ≤ k + k2 ∧ i = .int .i64 j) (fun i => k + k2 - (intOf i).toNat)
                          case atStart => exact ⟨0, Nat.zero_le _, rfl⟩
                          case round =>
                            obtain ⟨j4, hj4, rfl⟩ := hrel
                            by_cases hjl : j4 < k + k2
                            · have hjI : (j4 : Int) < (k : Int) + (k2 : Int) := by omega
                              have cv := C8.out.hgv.cell j4 (v := .float .f64 0) (by simp [hjl])
                              go_wp2_with fail
                              go_round
                              case rel => exact ⟨j4 + 1, by omega, by go_num⟩
                              case measure => simp [intOf]; omega
                            · have hjI : ¬ (j4 : Int) < (k : Int) + (k2 : Int) := by omega
                              go_wp2_with fail
                              go_loop [40] (fun i => ∃ j : Nat, j ≤ k + k2 + k3 ∧ i = .int .i64 j) (fun i => k + k2 + k3 - (intOf i).toNat)
                              case atStart => exact ⟨0, Nat.zero_le _, rfl⟩
                              case round =>
                                obtain ⟨j5, hj5, rfl⟩ := hrel
                                by_cases hjl : j5 < k + k2 + k3
                                · have hjJ : (j5 : Int) < (k : Int) + (k2 : Int) + (k3 : Int) := by omega
                                  have cv := C8.out.hgc.cell j5 (v := .int .i64 0) (by simp [hjl])
                                  go_wp2_with fail
                                  go_round
                                  case rel => exact ⟨j5 + 1, by omega, by go_num⟩
                                  case measure => simp [intOf]; omega
                                · have hjJ : ¬ (j5 : Int) < (k : Int) + (k2 : Int) + (k3 : Int) := by omega
                                  go_wp2_with fail
                                  go_ret
                                  exact ⟨rfl, K8.out.below (Nat.le_refl _) (by simp)⟩
end Go.Proofs.Ybulkjbu
