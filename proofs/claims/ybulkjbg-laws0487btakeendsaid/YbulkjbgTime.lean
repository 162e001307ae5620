/-
  Seat b0487a: package time's methods on a wall clock without a monotonic reading (wall: the nanoseconds, 0 .. 999999999; ext: the seconds).
-/
import Derived.Test.YbulkjbgProg
import Derived.Conc.MuLone
import Derived.WalkKit
import Derived.Laws.BitsAllLaws
import Derived.KernelRfl
namespace Go.Proofs.Ybulkjbg
open Go.MuLone Go.RowKit

theorem and63 (n : Int) (h0 : 0 ≤ n) (h1 : n < 4611686018427387904) : bits .and .u64 n 9223372036854775808 = 0 := by
  rw [u64_and n _ h0 (by omega) (by omega) (by omega)]
  have e : (9223372036854775808 : Int).toNat = 2 ^ 63 := by decide +kernel
  rw [e, nat_bit]
  have : n.toNat / 2 ^ 63 = 0 := Nat.div_eq_of_lt (by omega)
  rw [this]; rfl
theorem and30 (n : Int) (h0 : 0 ≤ n) (h1 : n < 1073741824) : bits .and .u64 n 1073741823 = n := by
  rw [u64_and n _ h0 (by omega) (by omega) (by omega)]
  have e : (1073741823 : Int).toNat = 2 ^ 30 - 1 := by decide +kernel
  rw [e, Nat.and_two_pow_sub_one_eq_mod]
  omega
theorem andNot30 (n : Int) (h0 : 0 ≤ n) (h1 : n < 1073741824) : bits .andNot .u64 n 1073741823 = 0 := by
  rw [u64_andNot n _ h0 (by omega) (by omega) (by omega)]
  have e : (18446744073709551615 - (1073741823 : Int).toNat) = (2 ^ 34 - 1) * 2 ^ 30 := by decide +kernel
  rw [e]
  have : n.toNat &&& (2 ^ 34 - 1) * 2 ^ 30 = 0 := by
    apply Nat.eq_of_testBit_eq
    intro i
    rw [Nat.testBit_and, Nat.testBit_mul_two_pow]
    by_cases hi : 30 ≤ i
    · have : n.toNat.testBit i = false := Nat.testBit_lt_two_pow (Nat.lt_of_lt_of_le (by omega : n.toNat < 2 ^ 30) (Nat.pow_le_pow_right (by omega) hi))
      simp [this]
    · simp [hi]
  rw [this]; rfl
theorem orZero (m : Int) (h0 : 0 ≤ m) (h1 : m < 18446744073709551616) : bits .or .u64 0 m = m := by
  rw [u64_or 0 m (by omega) (by omega) h0 h1]
  simp; omega
theorem andBound (n m : Int) (h0 : 0 ≤ n) (h1 : n < 1073741824) (h2 : 0 ≤ m) (h3 : m < 1073741824) : 0 ≤ bits .and .u64 n m ∧ bits .and .u64 n m < 4611686018427387904 := by
  rw [u64_and n m h0 (by omega) h2 (by omega)]
  have := @Nat.and_le_left n.toNat m.toNat
  omega
theorem and63' (n m : Int) (h0 : 0 ≤ n) (h1 : n < 1073741824) (h2 : 0 ≤ m) (h3 : m < 1073741824) : bits .and .u64 (bits .and .u64 n m) 9223372036854775808 = 0 := by
  obtain ⟨a, b⟩ := andBound n m h0 h1 h2 h3
  exact and63 _ a b

set_option maxRecDepth 100000 in
set_option maxHeartbeats 400000 in
theorem nsec_any (a : Nat) (n : Int) (w : World) (h0 : 0 ≤ n) (h1 : n < 1073741824) (hc : w.cell? ⟨a, 0, none⟩ = some (.int .u64 n)) :
    Calls Yba.prog 16 #[.pointer (some ⟨a, 0, none⟩)] w fun e w' => e = .returned (.int .i32 n) ∧ w' = w := by
  have e1 := and30 n h0 h1
  go_enter Yba.func16, Yba.ntmps16
  go_wp2
  go_ret
  exact ⟨rfl, rfl⟩
set_option maxRecDepth 100000 in
set_option maxHeartbeats 400000 in
theorem sec_any (a : Nat) (n s : Int) (w : World) (h0 : 0 ≤ n) (h1 : n < 1073741824) (hc : w.cell? ⟨a, 0, none⟩ = some (.int .u64 n)) (hs : w.cell? ⟨a, 1, none⟩ = some (.int .i64 s)) :
    Calls Yba.prog 15 #[.pointer (some ⟨a, 0, none⟩)] w fun e w' => e = .returned (.int .i64 s) ∧ w' = w := by
  have e1 := and63 n h0 (by omega)
  go_enter Yba.func15, Yba.ntmps15
  go_wp2
  go_ret
  exact ⟨rfl, rfl⟩

set_option maxRecDepth 100000 in
set_option maxHeartbeats 400000 in
theorem strip_any (a : Nat) (n : Int) (w : World) (h0 : 0 ≤ n) (h1 : n < 1073741824) (hc : w.cell? ⟨a, 0, none⟩ = some (.int .u64 n)) :
    Calls Yba.prog 18 #[.pointer (some ⟨a, 0, none⟩)] w fun e w' => e = .returned (.tuple #[]) ∧ w' = w := by
  have e1 := and63 n h0 (by omega)
  go_enter Yba.func18, Yba.ntmps18
  go_wp2
  go_end0
  exact ⟨rfl, rfl⟩

set_option maxRecDepth 100000 in
set_option maxHeartbeats 400000 in
theorem addSec_any (a : Nat) (n s d : Int) (w : World) (h0 : 0 ≤ n) (h1 : n < 1073741824) (hc : w.cell? ⟨a, 0, none⟩ = some (.int .u64 n)) (hs : w.cell? ⟨a, 1, none⟩ = some (.int .i64 s)) (hz : w.frozen? ⟨a, 1, none⟩ = false)
    (s0 : -1000000000000000 ≤ s) (s1 : s ≤ 1000000000000000) (d0 : -1000000000000000 ≤ d) (d1 : d ≤ 1000000000000000) :
    Calls Yba.prog 17 #[.pointer (some ⟨a, 0, none⟩), .int .i64 d] w fun e w' => e = .returned (.tuple #[]) ∧ w' = w.setCell ⟨a, 1, none⟩ (.int .i64 (s + d)) := by
  have e1 := and63 n h0 (by omega)
  have e2 : (decide (s < s + d) == decide (0 < d)) = true := by rw [beq_iff_eq, decide_eq_decide]; omega
  go_enter Yba.func17, Yba.ntmps17
  go_wp2_with (go_at_call 18; refine (strip_any _ n _ h0 h1 hc).mono ?_; rintro e w' ⟨rfl, rfl⟩)
  go_end0
  exact ⟨rfl, rfl⟩


set_option maxRecDepth 100000 in
set_option maxHeartbeats 1000000 in
theorem add_mid (n s d q r : Int) (w : World) (h0 : 0 ≤ n) (h1 : n < 1000000000) (s0 : -100000000000000 ≤ s) (s1 : s ≤ 100000000000000)
    (hq : d.tdiv 1000000000 = q) (hr : d.tmod 1000000000 = r) (q0 : -10000000000 ≤ q) (q1 : q ≤ 10000000000) (r0 : -1000000000 < r) (r1 : r < 1000000000) (hlo : 0 ≤ n + r) (hhi : n + r < 1000000000) :
    Calls Yba.prog 10 #[.agg #[.int .u64 n, .int .i64 s, .pointer none], .int .i64 d] w fun e w' =>
      e = .returned (.agg #[.int .u64 (n + r), .int .i64 (s + q), .pointer none]) ∧ w' = (w.alloc (.cells #[.int .u64 (n + r), .int .i64 (s + q), .pointer none] 26)).alloc (.cells #[.int .u64 (n + r), .int .i64 (s + q), .pointer none] 26) := by
  have e1 := and63 (n + r) (by omega) (by omega)
  have e2 := andNot30 n h0 (by omega)
  have e3 := orZero (n + r) (by omega) (by omega)
  go_enter Yba.func10, Yba.ntmps10
  go_wp2_with fail
  refine (nsec_any _ n _ h0 (by omega) (by simp [go_sem])).mono ?_
  rintro e w' ⟨rfl, rfl⟩
  go_wp2_with fail
  refine (addSec_any w.heap.size (n + r) s q _ (by omega) (by omega) (by simp [go_sem]) (by simp [go_sem]) (by simp [go_sem]) (by omega) (by omega) (by omega) (by omega)).mono ?_
  rintro e w' ⟨rfl, rfl⟩
  go_wp2_with fail
  refine bodyPost_ret (v := .agg #[.int .u64 (n + r), .int .i64 (s + q), .pointer none]) ?_ rfl ⟨rfl, ?_⟩
  · simp [results, Yba.results10, go_sem]
  · rfl

set_option maxRecDepth 100000 in
set_option maxHeartbeats 1000000 in
theorem add_hi (n s d q r : Int) (w : World) (h0 : 0 ≤ n) (h1 : n < 1000000000) (s0 : -100000000000000 ≤ s) (s1 : s ≤ 100000000000000)
    (hq : d.tdiv 1000000000 = q) (hr : d.tmod 1000000000 = r) (q0 : -10000000000 ≤ q) (q1 : q ≤ 10000000000) (r0 : -1000000000 < r) (r1 : r < 1000000000) (hhi : 1000000000 ≤ n + r) :
    Calls Yba.prog 10 #[.agg #[.int .u64 n, .int .i64 s, .pointer none], .int .i64 d] w fun e w' =>
      e = .returned (.agg #[.int .u64 (n + r - 1000000000), .int .i64 (s + (q + 1)), .pointer none]) ∧ w' = (w.alloc (.cells #[.int .u64 (n + r - 1000000000), .int .i64 (s + (q + 1)), .pointer none] 26)).alloc (.cells #[.int .u64 (n + r - 1000000000), .int .i64 (s + (q + 1)), .pointer none] 26) := by
  have e1 := and63 (n + r - 1000000000) (by omega) (by omega)
  have e2 := andNot30 n h0 (by omega)
  have e3 := orZero (n + r - 1000000000) (by omega) (by omega)
  go_enter Yba.func10, Yba.ntmps10
  go_wp2_with fail
  refine (nsec_any _ n _ h0 (by omega) (by simp [go_sem])).mono ?_
  rintro e w' ⟨rfl, rfl⟩
  go_wp2_with fail
  refine (addSec_any w.heap.size (n + r - 1000000000) s (q + 1) _ (by omega) (by omega) (by simp [go_sem]) (by simp [go_sem]) (by simp [go_sem]) (by omega) (by omega) (by omega) (by omega)).mono ?_
  rintro e w' ⟨rfl, rfl⟩
  go_wp2_with fail
  refine bodyPost_ret (v := .agg #[.int .u64 (n + r - 1000000000), .int .i64 (s + (q + 1)), .pointer none]) ?_ rfl ⟨rfl, ?_⟩
  · simp [results, Yba.results10, go_sem]
  · rfl

set_option maxRecDepth 100000 in
set_option maxHeartbeats 1000000 in
theorem add_lo (n s d q r : Int) (w : World) (h0 : 0 ≤ n) (h1 : n < 1000000000) (s0 : -100000000000000 ≤ s) (s1 : s ≤ 100000000000000)
    (hq : d.tdiv 1000000000 = q) (hr : d.tmod 1000000000 = r) (q0 : -10000000000 ≤ q) (q1 : q ≤ 10000000000) (r0 : -1000000000 < r) (r1 : r < 1000000000) (hlo : n + r < 0) :
    Calls Yba.prog 10 #[.agg #[.int .u64 n, .int .i64 s, .pointer none], .int .i64 d] w fun e w' =>
      e = .returned (.agg #[.int .u64 (n + r + 1000000000), .int .i64 (s + (q - 1)), .pointer none]) ∧ w' = (w.alloc (.cells #[.int .u64 (n + r + 1000000000), .int .i64 (s + (q - 1)), .pointer none] 26)).alloc (.cells #[.int .u64 (n + r + 1000000000), .int .i64 (s + (q - 1)), .pointer none] 26) := by
  have e1 := and63 (n + r + 1000000000) (by omega) (by omega)
  have e2 := andNot30 n h0 (by omega)
  have e3 := orZero (n + r + 1000000000) (by omega) (by omega)
  go_enter Yba.func10, Yba.ntmps10
  go_wp2_with fail
  refine (nsec_any _ n _ h0 (by omega) (by simp [go_sem])).mono ?_
  rintro e w' ⟨rfl, rfl⟩
  go_wp2_with fail
  refine (addSec_any w.heap.size (n + r + 1000000000) s (q - 1) _ (by omega) (by omega) (by simp [go_sem]) (by simp [go_sem]) (by simp [go_sem]) (by omega) (by omega) (by omega) (by omega)).mono ?_
  rintro e w' ⟨rfl, rfl⟩
  go_wp2_with fail
  refine bodyPost_ret (v := .agg #[.int .u64 (n + r + 1000000000), .int .i64 (s + (q - 1)), .pointer none]) ?_ rfl ⟨rfl, ?_⟩
  · simp [results, Yba.results10, go_sem]
  · rfl

/-- (time.Time).Add on such a time: the nanoseconds add up. -/
theorem add_any (n s d N S : Int) (w : World) (h0 : 0 ≤ n) (h1 : n < 1000000000) (s0 : -100000000000000 ≤ s) (s1 : s ≤ 100000000000000) (hd : (Lit.int .i64 d).wf = true)
    (hN : (s * 1000000000 + n + d) % 1000000000 = N) (hS : (s * 1000000000 + n + d) / 1000000000 = S) :
    Calls Yba.prog 10 #[.agg #[.int .u64 n, .int .i64 s, .pointer none], .int .i64 d] w fun e w' =>
      e = .returned (.agg #[.int .u64 N, .int .i64 S, .pointer none]) ∧ w' = (w.alloc (.cells #[.int .u64 N, .int .i64 S, .pointer none] 26)).alloc (.cells #[.int .u64 N, .int .i64 S, .pointer none] 26) := by
  have hb : -9223372036854775808 ≤ d ∧ d ≤ 9223372036854775807 := by simpa [Lit.wf, IntKind.min, IntKind.max, IntKind.bits, IntKind.signed] using hd
  obtain ⟨q, hq⟩ : ∃ q, d.tdiv 1000000000 = q := ⟨_, rfl⟩
  obtain ⟨r, hr⟩ : ∃ r, d.tmod 1000000000 = r := ⟨_, rfl⟩
  have hdm : 1000000000 * q + r = d := by rw [← hq, ← hr]; exact Int.mul_tdiv_add_tmod d 1000000000
  have hr1 : r < 1000000000 := by rw [← hr]; exact Int.tmod_lt_of_pos d (by omega)
  have hr0 : -1000000000 < r := by rw [← hr]; exact Int.lt_tmod_of_pos d (by omega)
  by_cases hhi : 1000000000 ≤ n + r
  · obtain rfl : n + r - 1000000000 = N := by omega
    obtain rfl : s + (q + 1) = S := by omega
    exact add_hi n s d q r w h0 h1 s0 s1 hq hr (by omega) (by omega) hr0 hr1 hhi
  · by_cases hlo : n + r < 0
    · obtain rfl : n + r + 1000000000 = N := by omega
      obtain rfl : s + (q - 1) = S := by omega
      exact add_lo n s d q r w h0 h1 s0 s1 hq hr (by omega) (by omega) hr0 hr1 hlo
    · obtain rfl : n + r = N := by omega
      obtain rfl : s + q = S := by omega
      exact add_mid n s d q r w h0 h1 s0 s1 hq hr (by omega) (by omega) hr0 hr1 (by omega) (by omega)
end Go.Proofs.Ybulkjbg
