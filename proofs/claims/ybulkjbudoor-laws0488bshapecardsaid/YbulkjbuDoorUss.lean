/-
  Seat b0488aD: valenceUSs.
-/
import Derived.Test.YbulkjbuDoorAppend
import Derived.Test.YbulkjbuDoorBuild
namespace Go.Proofs.YbulkjbuDoor
open Go.RowKit

/-- Is the magnitude above, below nought? -/
def above (fl : Nat → Nat) (i : Nat) : Bool := FloatKind.f64.format.order (fl i) 0 == some .gt
def below (fl : Nat → Nat) (i : Nat) : Bool := !(FloatKind.f64.format.order (fl i) 0 == some .gt) && (FloatKind.f64.format.order (fl i) 0 == some .lt)
/-- The places of those that p takes, among the first k. -/
def picks (p : Nat → Bool) (k : Nat) : List Nat := (List.range k).filter p
def names (p : Nat → Bool) (k : Nat) : List Value := (picks p k).map fun i => Value.string (nm 117 i)
theorem picks_yes (p : Nat → Bool) (k : Nat) (h : p k = true) : picks p (k + 1) = picks p k ++ [k] := by simp [picks, List.range_succ, List.filter_append, h]
theorem picks_no (p : Nat → Bool) (k : Nat) (h : p k = false) : picks p (k + 1) = picks p k := by simp [picks, List.range_succ, List.filter_append, h]
theorem names_yes (p : Nat → Bool) (k : Nat) (h : p k = true) : names p (k + 1) = names p k ++ [.string (nm 117 k)] := by simp [names, picks_yes p k h]
theorem names_no (p : Nat → Bool) (k : Nat) (h : p k = false) : names p (k + 1) = names p k := by simp [names, picks_no p k h]
theorem len_yes (p : Nat → Bool) (k : Nat) (h : p k = true) : (picks p (k + 1)).length = (picks p k).length + 1 := by simp [picks_yes p k h]
theorem len_no (p : Nat → Bool) (k : Nat) (h : p k = false) : (picks p (k + 1)).length = (picks p k).length := by rw [picks_no p k h]
theorem len_le (p : Nat → Bool) (k : Nat) : (picks p k).length ≤ k := by
  have := List.length_filter_le p (List.range k)
  simpa [picks] using this

set_option maxRecDepth 100000 in
set_option maxHeartbeats 4000000 in
theorem us_any (a1 a2 a3 : Option Addr) (n1 n2 n c1 c2 c3 b3 : Nat) (m1 m2 mp gu : Option Nat) (mu : Nat) (gs gl sd : Int) (fl : Nat → Nat) (w : World) (hn : n ≤ 1000)
    (s3 : Sl w b3 9 a3 n c3 (strs (nm 117) n)) (hm : HasMap w mu (usl fl n)) :
    Calls Ybad.prog 15 #[.agg #[.slice a1 n1 c1, .map m1, .slice a2 n2 c2, .map m2, .slice a3 n c3, .map (some mu), .map mp, .int .i64 gs, .int .i64 gl, .map gu, .int .u64 sd]] w fun e w' =>
      ∃ e1 d1 e2 d2 b, e = .returned (.tuple #[.slice e1 (picks (above fl) n).length d1, .slice e2 (picks (below fl) n).length d2]) ∧ Sl w' b 9 e1 (picks (above fl) n).length d1 (names (above fl) n) ∧ Sl w' b 9 e2 (picks (below fl) n).length d2 (names (below fl) n) ∧ w.heap.size ≤ b ∧ Kept [] w w' := by
  have hnI : (n : Int) ≤ 1000 := by omega
  obtain ⟨i0, hi, hz0, hz1, hz2⟩ := info_parts Ybad.info9
  go_enter Ybad.func15, Ybad.ntmps15
  go_wp2_with fail
  have kw := Kept.alloc w (.cells #[.slice a1 n1 c1, .map m1, .slice a2 n2 c2, .map m2, .slice a3 n c3, .map (some mu), .map mp, .int .i64 gs, .int .i64 gl, .map gu, .int .u64 sd] 32)
  have hrow : Row (w.alloc (.cells #[.slice a1 n1 c1, .map m1, .slice a2 n2 c2, .map m2, .slice a3 n c3, .map (some mu), .map mp, .int .i64 gs, .int .i64 gl, .map gu, .int .u64 sd] 32)) w.heap.size [.slice a1 n1 c1, .map m1, .slice a2 n2 c2, .map m2, .slice a3 n c3, .map (some mu), .map mp, .int .i64 gs, .int .i64 gl, .map gu, .int .u64 sd] 32 := Row.made _ _ _
  generalize w.alloc (.cells #[.slice a1 n1 c1, .map m1, .slice a2 n2 c2, .map m2, .slice a3 n c3, .map (some mu), .map mp, .int .i64 gs, .int .i64 gl, .map gu, .int .u64 sd] 32) = W0 at *
  have HR : Hid (Row W0 w.heap.size [.slice a1 n1 c1, .map m1, .slice a2 n2 c2, .map m2, .slice a3 n c3, .map (some mu), .map mp, .int .i64 gs, .int .i64 gl, .map gu, .int .u64 sd] 32) := hrow
  have HS : Hid (Sl W0 b3 9 a3 n c3 (strs (nm 117) n)) := s3.keep kw (by simp)
  have HM : Hid (HasMap W0 mu (usl fl n)) := hm.keep kw (by simp)
  have HKW : Hid (Kept [] w W0) := kw
  clear hrow s3 hm kw
  go_loopw [2, 3, 9] (fun v2 v3 i wr => ∃ (k : Nat) (e1 : Option Addr) (d1 : Nat) (e2 : Option Addr) (d2 : Nat), k ≤ n ∧ i = .int .i64 k ∧ v2 = .slice e1 (picks (above fl) k).length d1 ∧ v3 = .slice e2 (picks (below fl) k).length d2 ∧
      Sl wr W0.heap.size 9 e1 (picks (above fl) k).length d1 (names (above fl) k) ∧ Sl wr W0.heap.size 9 e2 (picks (below fl) k).length d2 (names (below fl) k) ∧ (∀ g, e1 = some ⟨g, 0, none⟩ → e2 = some ⟨g, 0, none⟩ → False) ∧ Kept [] W0 wr) (fun _ _ i _ => n - (intOf i).toNat)
  case atStart => exact ⟨0, none, 0, none, 0, Nat.zero_le _, rfl, rfl, rfl, Sl.nil _ _ _, Sl.nil _ _ _, by simp, Kept.refl _ _⟩
  case round =>
    obtain ⟨k, e1, d1, e2, d2, hk, rfl, rfl, rfl, t1, t2, hd, hkk⟩ := hrel
    have H1 : Hid (Sl wr W0.heap.size 9 e1 (picks (above fl) k).length d1 (names (above fl) k)) := t1
    have H2 : Hid (Sl wr W0.heap.size 9 e2 (picks (below fl) k).length d2 (names (below fl) k)) := t2
    have HD : Hid (∀ g, e1 = some ⟨g, 0, none⟩ → e2 = some ⟨g, 0, none⟩ → False) := hd
    have HKK : Hid (Kept [] W0 wr) := hkk
    have hl1 := len_le (above fl) k
    have hl2 := len_le (below fl) k
    have hr := HR.out.keep hkk (by simp)
    by_cases hlt : k < n
    · have q5 := hr.cell 5 rfl
      have hsz := hkk.size
      have hlk := (HM.out.keep hkk (by simp)).look_some (P := Ybad.prog) Ybad.underlying26 Ybad.underlying9 (nm 117 k) (.float .f64 (fl k)) (usl_look fl n k hlt) false
      simp only [Bool.false_eq_true, if_false] at hlk
      rcases (HS.out.keep hkk (by simp)).cases with ⟨_, h0, _⟩ | ⟨gb, hga, _, _, hgc, _⟩
      · omega
      · have qs := (hgc k hlt).trans (strs_at (nm 117) n k hlt)
        subst hga
        have hkI : (k : Int) < (n : Int) := by omega
        clear t1 t2 hd hkk hgc hr
        by_cases hg : (FloatKind.f64.format.order (fl k) 0 == some Ordering.gt) = true
        · have hP : above fl k = true := hg
          have hN : below fl k = false := by simp [below, hg]
          go_wp2_with (at_builtin; refine wpList_append_one rfl _ _ 27 9 rfl W0.heap.size i0 (.string ⟨#[]⟩) 16 Ybad.underlying27 hi hz0 hz1 hz2 rfl _ _ _ _ rfl (H1.out.keep (Kept.alloc wr (.cells #[.string (nm 117 k)] 9)) (by simp)) wr.heap.size 1 (.string (nm 117 k)) rfl (by simp [go_sem]) rfl (by unfold maxLen; omega) (by omega) (by simp; omega) ?_; intro ad' cp' w2 hsl2 gr2 hwh)
          go_roundw
          case rel =>
            have ka := Kept.alloc wr (.cells #[.string (nm 117 k)] 9)
            have kg := Kept.grown gr2
            have hot : Sl w2 W0.heap.size 9 e2 _ d2 _ := (H2.out.keep ka (by simp)).keep2 kg (fun g hg hm => by
              have hj := (H1.out.keep ka (by simp)).row g hm
              rcases (H1.out).cases with ⟨h0, _⟩ | ⟨g1, h0, _⟩
              · rw [h0] at hm; simp [Value.ownBlock] at hm
              · rw [h0] at hm; simp [Value.ownBlock] at hm
                subst hm
                exact HD.out g h0 hg)
            have kk : Kept [] W0 w2 := (HKK.out.trans ka (by simp)).trans kg (fun j hj => .inr ((H1.out.keep ka (by simp)).row j hj).1)
            refine ⟨k + 1, ad', cp', e2, d2, by omega, by go_num, by rw [len_yes _ _ hP], by rw [len_no _ _ hN], by rw [names_yes _ _ hP, len_yes _ _ hP]; exact hsl2, by rw [names_no _ _ hN, len_no _ _ hN]; exact hot, ?_, kk⟩
            intro g h1 h2
            rcases hwh g h1 with h | h
            · exact HD.out g h h2
            · have := (H2.out.lt' g h2).2
              simp at h
              omega
          case measure => simp [intOf]; omega
        · have hg' : (FloatKind.f64.format.order (fl k) 0 == some Ordering.gt) = false := by simpa using hg
          have hP : above fl k = false := hg'
          by_cases hb : (FloatKind.f64.format.order (fl k) 0 == some Ordering.lt) = true
          · have hN : below fl k = true := by simp [below, hg', hb]
            clear hg
            go_wp2_with (at_builtin; refine wpList_append_one rfl _ _ 27 9 rfl W0.heap.size i0 (.string ⟨#[]⟩) 16 Ybad.underlying27 hi hz0 hz1 hz2 rfl _ _ _ _ rfl (H2.out.keep (Kept.alloc wr (.cells #[.string (nm 117 k)] 9)) (by simp)) wr.heap.size 1 (.string (nm 117 k)) rfl (by simp [go_sem]) rfl (by unfold maxLen; omega) (by omega) (by simp; omega) ?_; intro ad' cp' w2 hsl2 gr2 hwh)
            go_roundw
            case rel =>
              have ka := Kept.alloc wr (.cells #[.string (nm 117 k)] 9)
              have kg := Kept.grown gr2
              have hot : Sl w2 W0.heap.size 9 e1 _ d1 _ := (H1.out.keep ka (by simp)).keep2 kg (fun g hg hm => by
                have hj := (H2.out.keep ka (by simp)).row g hm
                rcases (H2.out).cases with ⟨h0, _⟩ | ⟨g1, h0, _⟩
                · rw [h0] at hm; simp [Value.ownBlock] at hm
                · rw [h0] at hm; simp [Value.ownBlock] at hm
                  subst hm
                  exact HD.out g hg h0)
              have kk : Kept [] W0 w2 := (HKK.out.trans ka (by simp)).trans kg (fun j hj => .inr ((H2.out.keep ka (by simp)).row j hj).1)
              refine ⟨k + 1, e1, d1, ad', cp', by omega, by go_num, by rw [len_no _ _ hP], by rw [len_yes _ _ hN], by rw [names_no _ _ hP, len_no _ _ hP]; exact hot, by rw [names_yes _ _ hN, len_yes _ _ hN]; exact hsl2, ?_, kk⟩
              intro g h1 h2
              rcases hwh g h2 with h | h
              · exact HD.out g h1 h
              · have := (H1.out.lt' g h1).2
                simp at h
                omega
            case measure => simp [intOf]; omega
          · have hb' : (FloatKind.f64.format.order (fl k) 0 == some Ordering.lt) = false := by simpa using hb
            have hN : below fl k = false := by simp [below, hb']
            clear hg hb
            go_wp2_with fail
            go_roundw
            case rel => exact ⟨k + 1, e1, d1, e2, d2, by omega, by go_num, by rw [len_no _ _ hP], by rw [len_no _ _ hN], by rw [names_no _ _ hP, len_no _ _ hP]; exact H1.out, by rw [names_no _ _ hN, len_no _ _ hN]; exact H2.out, HD.out, HKK.out⟩
            case measure => simp [intOf]; omega
    · obtain rfl : k = n := by omega
      clear hr t1 t2 hd hkk
      go_wp2_with fail
      go_ret2
      exact ⟨e1, d1, e2, d2, _, rfl, H1.out, H2.out, HKW.out.size, HKW.out.trans HKK.out (by simp)⟩
end Go.Proofs.YbulkjbuDoor
