/-
  Seat b0488aD: 'append' to a slice of one's own, and where the new slice lies: in the old block, or in a new one. Whatever the program.
-/
import Derived.Test.YbulkjbuDoorConcat
namespace Go.Proofs.YbulkjbuDoor
open Go Go.RowKit

theorem append_where {P : Program} (w : World) (base : Nat) (t ty e : TypeId) (i : TypeInfo) (z : Value) (bytes : Nat) (ht : P.underlying t = some (.slice e)) (hi : P.info? e = some i) (hz : i.zero = some z)
    (hsize : i.size = 1) (hby : i.bytes = bytes) (v : Value) (n : Nat) (xs : List Value) (hown : w.ownsRow base e 1 v n xs)
    (a : Addr) (m c : Nat) (news : List Value) (hl : news.length = m) (hm : 0 < m) (hnews : ∀ j u, news[j]? = some u → w.cell? (a.add j) = some u) (h1 : ∀ u ∈ news, u.oneCell' = true)
    (h63 : n + m ≤ maxLen) (hbytes : (n + m) * bytes ≤ 140737488355328) {v' : Value} {w' : World} (hr : (Builtin.append_ #[t, t] ty #[v, .slice (some a) m c]).run P w = .ok v' w') :
    ∀ g, v'.ownBlock = some g → v.ownBlock = some g ∨ w.heap.size ≤ g := by
  intro g hg
  have hsmall : n + m ≤ 9223372036854775807 := by simp only [maxLen] at h63; omega
  subst hby
  have hl' : news.length = m * i.size := by rw [hsize]; omega
  have hown1 : xs.length = n * i.size := by rw [hsize]; simpa using hown.1
  rcases hown.2 with ⟨rfl, rfl⟩ | ⟨g0, cap, cur, rfl, hbg, hgg, hnc, hcm, hcs, htake⟩
  · have hr2 := run_append_nil (P := P) w t ty e i z ht hi hz a m c news hl' hnews (by omega) (by omega) (by have hb := hbytes; simp only [Nat.zero_add] at hb; omega)
    rw [hr] at hr2
    cases hr2
    simp [Value.ownBlock] at hg
    omega
  · by_cases hroom : n + m ≤ cap
    · have hr2 := run_append_room (P := P) w t ty e i ht hi g0 n cap cur hgg a m c news hl' hnews h1 hroom (by rw [hl', hsize, hcs]; omega)
      rw [hr] at hr2
      cases hr2
      exact .inl hg
    · have holds : ∀ j u, xs[j]? = some u → w.cell? ((⟨g0, 0, none⟩ : Addr).add j) = some u := hown.cells (g := g0) rfl
      have hr2 := run_append_grow (P := P) w t ty e i z ht hi hz ⟨g0, 0, none⟩ n cap xs hown1 holds a m c news hl' hnews (by omega) (by omega) (growslice_fits (by omega) hbytes)
      rw [hr] at hr2
      cases hr2
      simp [Value.ownBlock] at hg
      omega

/-- 'append(s, x)' of one value that lies in a block of its own. -/
theorem wpList_append_one {P : Program} {w : World} {ops : Array Oper} {rest : List Oper} {o : Oper} {a : Act} {Q : Exit → Act → World → Prop} (hgd : o.guard = none) (s x : Operand) (t e : TypeId)
    (ho : o.op = .call { callee := .builtin .append, args := #[s, x], argTypes := #[t, t] })
    (base : Nat) (i : TypeInfo) (z : Value) (bytes : Nat) (ht : P.underlying t = some (.slice e)) (hi : P.info? e = some i) (hz : i.zero = some z) (hsize : i.size = 1) (hby : i.bytes = bytes) (hzs : z.cells.size = 1)
    (ad : Option Addr) (n cap : Nat) (xs : List Value) (hs : a.eval s = .slice ad n cap) (hown : Sl w base e ad n cap xs)
    (g : Nat) (cap2 : Nat) (y : Value) (hx : a.eval x = .slice (some ⟨g, 0, none⟩) 1 cap2) (hcell : w.cell? ⟨g, 0, none⟩ = some y) (h1 : y.oneCell' = true)
    (h63 : n + 1 ≤ maxLen) (hbytes : (n + 1) * bytes ≤ 140737488355328) (hbase : base ≤ w.heap.size)
    (h : ∀ ad' cap' w', Sl w' base e ad' (n + 1) cap' (xs ++ [y]) → w.grownBy w' (Value.slice ad n cap).ownBlock → (∀ g', ad' = some ⟨g', 0, none⟩ → ad = some ⟨g', 0, none⟩ ∨ w.heap.size ≤ g') → wpList P ops Q rest (a.put o.dst (.slice ad' (n + 1) cap')) w') : wpList P ops Q (o :: rest) a w := by
  have hnews : ∀ j u, [y][j]? = some u → w.cell? ((⟨g, 0, none⟩ : Addr).add j) = some u := by
    intro j u hj
    match j, hj with
    | 0, hj => simp at hj; subst hj; simpa [Addr.add] using hcell
    | j + 1, hj => simp at hj
  have h1' : ∀ u ∈ [y], u.oneCell' = true := by simpa using h1
  obtain ⟨v', w', hr, h2, h3, _⟩ := run_append_own (P := P) w base t o.type e i z 1 bytes ht hi hz hsize hby hzs (by decide) (.slice ad n cap) n xs hown ⟨g, 0, none⟩ 1 cap2 [y] (by simp) hnews h1' h63 hbytes hbase
  have hw := append_where (P := P) w base t o.type e i z bytes ht hi hz hsize hby (.slice ad n cap) n xs hown ⟨g, 0, none⟩ 1 cap2 [y] (by simp) (by omega) hnews h1' h63 hbytes hr
  obtain ⟨ad', cap', rfl, hsl⟩ := Sl.shape h2
  refine wpList_plain hgd fun K' hK' => ?_
  unfold Oper.wp execOp
  simp only [ho, resolve, invoke, builtin, Sem.run_bind, Sem.run_pure, Result.andThen_ok, List.map_toArray, List.map_cons, List.map_nil, hs, hx, hr]
  refine hK' _ _ (h ad' cap' w' hsl h3 (fun g' hg' => ?_))
  subst hg'
  rcases hw g' rfl with h | h
  · rcases hown.cases with ⟨rfl, _⟩ | ⟨g0, rfl, _⟩
    · simp [Value.ownBlock] at h
    · simp [Value.ownBlock] at h
      subst h
      exact .inl rfl
  · exact .inr h
end Go.Proofs.YbulkjbuDoor
