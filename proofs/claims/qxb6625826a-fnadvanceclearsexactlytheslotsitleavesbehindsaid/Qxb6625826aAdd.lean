import Derived.Test.Qxb6625826aTime
namespace Go.Proofs.Qxb6625826a
open Go.RowKit

/-- A time's value: nanoseconds and seconds, no monotonic reading, no place. -/
abbrev TV (s n : Int) : Value := .agg #[.int .u64 n, .int .i64 s, .pointer none]

theorem orNs (n x : Int) (h0 : 0 ≤ n) (h1 : n < 1073741824) (x0 : 0 ≤ x) (x1 : x < 1073741824) : bits .or .u64 (bits .andNot .u64 n 1073741823) x = x := by
  have e : bits .andNot .u64 n 1073741823 = 0 := by
    rw [u64_andNot n 1073741823 h0 (by omega) (by omega) (by omega)]
    have : n.toNat &&& (18446744073709551615 - (1073741823 : Int).toNat) = 0 := by
      apply Nat.eq_of_testBit_eq
      intro i
      rw [Nat.testBit_and, Nat.zero_testBit]
      by_cases hi : i < 30
      · have : (18446744073709551615 - (1073741823 : Int).toNat).testBit i = false := by
          rw [show 18446744073709551615 - (1073741823 : Int).toNat = 2 ^ 30 * (2 ^ 34 - 1) from rfl, Nat.testBit_two_pow_mul]
          have : ¬ 30 ≤ i := by omega
          simp [this]
        rw [this, Bool.and_false]
      · have : n.toNat.testBit i = false := by
          apply Nat.testBit_lt_two_pow
          have : 2 ^ 30 ≤ 2 ^ i := Nat.pow_le_pow_right (by omega) (by omega)
          omega
        rw [this, Bool.false_and]
    rw [this]
    rfl
  rw [e, u64_or 0 x (by omega) (by omega) x0 (by omega)]
  simp
  omega

/-- The walk of 'Add' with the new seconds' step q and the new nanoseconds m, one theorem a way. -/
theorem ret_tv {s n s' n' : Int} (hs : s = s') (hn : n = n') : Ending.returned (TV s n) = .returned (TV s' n') := by rw [hs, hn]

set_option maxHeartbeats 400000 in
theorem add_a (s n d : Int) (w : World) (h0 : 0 ≤ n) (h1 : n < 1000000000) (s0 : -50000000000 ≤ s) (s1 : s ≤ 50000000000) (d0 : -9223372036854775808 ≤ d) (d1 : d ≤ 9223372036854775807) (hd : 0 ≤ d) (hlt : n + d % 1000000000 < 1000000000) :
    Calls Try.prog 15 #[TV s n, .int .i64 d] w fun e w' => e = .returned (TV (s + (d / 1000000000)) (n + d % 1000000000)) ∧ Below w.heap.size w w' := by
  have hor := orNs n (n + d % 1000000000) h0 (by omega) (by omega) (by omega)
  have hmo := mono0 (n + d % 1000000000) (by omega) (by omega)
  go_enter Try.func15, Try.ntmps15
  go_wp2_with fail
  refine (nsec_any w.heap.size 0 n _ h0 h1 ?hc).mono ?_
  case hc => simp
  rintro e w' ⟨rfl, rfl⟩
  go_wp2_with fail
  refine (addSec_any w.heap.size 0 (n + d % 1000000000) s (d / 1000000000) _ (by omega) (by omega) ?hc ?hs ?hf (by omega) (by omega) (by omega) (by omega)).mono ?_
  case hc => simp
  case hs => simp
  case hf => simp
  rintro e w' ⟨rfl, rfl⟩
  go_wp2
  refine bodyPost_ret (v := TV (s + (d / 1000000000)) (n + d % 1000000000)) (by simp [results, Try.results15, go_sem]) rfl ⟨rfl, ?_⟩
  exact ((Below.refl _ _).alloc (Nat.le_refl _) _).alloc (by simp) _

set_option maxHeartbeats 400000 in
theorem add_b (s n d : Int) (w : World) (h0 : 0 ≤ n) (h1 : n < 1000000000) (s0 : -50000000000 ≤ s) (s1 : s ≤ 50000000000) (d0 : -9223372036854775808 ≤ d) (d1 : d ≤ 9223372036854775807) (hd : 0 ≤ d) (hlt : 1000000000 ≤ n + d % 1000000000) :
    Calls Try.prog 15 #[TV s n, .int .i64 d] w fun e w' => e = .returned (TV (s + (d / 1000000000 + 1)) (n + d % 1000000000 - 1000000000)) ∧ Below w.heap.size w w' := by
  have hor := orNs n (n + d % 1000000000 - 1000000000) h0 (by omega) (by omega) (by omega)
  have hmo := mono0 (n + d % 1000000000 - 1000000000) (by omega) (by omega)
  go_enter Try.func15, Try.ntmps15
  go_wp2_with fail
  refine (nsec_any w.heap.size 0 n _ h0 h1 ?hc).mono ?_
  case hc => simp
  rintro e w' ⟨rfl, rfl⟩
  go_wp2_with fail
  refine (addSec_any w.heap.size 0 (n + d % 1000000000 - 1000000000) s (d / 1000000000 + 1) _ (by omega) (by omega) ?hc ?hs ?hf (by omega) (by omega) (by omega) (by omega)).mono ?_
  case hc => simp
  case hs => simp
  case hf => simp
  rintro e w' ⟨rfl, rfl⟩
  go_wp2
  refine bodyPost_ret (v := TV (s + (d / 1000000000 + 1)) (n + d % 1000000000 - 1000000000)) (by simp [results, Try.results15, go_sem]) rfl ⟨rfl, ?_⟩
  exact ((Below.refl _ _).alloc (Nat.le_refl _) _).alloc (by simp) _

set_option maxHeartbeats 400000 in
theorem add_c (s n d : Int) (w : World) (h0 : 0 ≤ n) (h1 : n < 1000000000) (s0 : -50000000000 ≤ s) (s1 : s ≤ 50000000000) (d0 : -9223372036854775808 ≤ d) (d1 : d ≤ 9223372036854775807) (hd : d < 0) (e1 : 1000000000 * d.tdiv 1000000000 + d.tmod 1000000000 ≤ d) (e2 : d ≤ 1000000000 * d.tdiv 1000000000 + d.tmod 1000000000) (t0 : -1000000000 < d.tmod 1000000000) (t1 : d.tmod 1000000000 ≤ 0) (hlt : 0 ≤ n + d.tmod 1000000000) :
    Calls Try.prog 15 #[TV s n, .int .i64 d] w fun e w' => e = .returned (TV (s + (d.tdiv 1000000000)) (n + d.tmod 1000000000)) ∧ Below w.heap.size w w' := by
  have hor := orNs n (n + d.tmod 1000000000) h0 (by omega) (by omega) (by omega)
  have hmo := mono0 (n + d.tmod 1000000000) (by omega) (by omega)
  go_enter Try.func15, Try.ntmps15
  go_wp2_with fail
  refine (nsec_any w.heap.size 0 n _ h0 h1 ?hc).mono ?_
  case hc => simp
  rintro e w' ⟨rfl, rfl⟩
  go_wp2_with fail
  refine (addSec_any w.heap.size 0 (n + d.tmod 1000000000) s (d.tdiv 1000000000) _ (by omega) (by omega) ?hc ?hs ?hf (by omega) (by omega) (by omega) (by omega)).mono ?_
  case hc => simp
  case hs => simp
  case hf => simp
  rintro e w' ⟨rfl, rfl⟩
  go_wp2
  refine bodyPost_ret (v := TV (s + (d.tdiv 1000000000)) (n + d.tmod 1000000000)) (by simp [results, Try.results15, go_sem]) rfl ⟨rfl, ?_⟩
  exact ((Below.refl _ _).alloc (Nat.le_refl _) _).alloc (by simp) _

set_option maxHeartbeats 400000 in
theorem add_d (s n d : Int) (w : World) (h0 : 0 ≤ n) (h1 : n < 1000000000) (s0 : -50000000000 ≤ s) (s1 : s ≤ 50000000000) (d0 : -9223372036854775808 ≤ d) (d1 : d ≤ 9223372036854775807) (hd : d < 0) (e1 : 1000000000 * d.tdiv 1000000000 + d.tmod 1000000000 ≤ d) (e2 : d ≤ 1000000000 * d.tdiv 1000000000 + d.tmod 1000000000) (t0 : -1000000000 < d.tmod 1000000000) (t1 : d.tmod 1000000000 ≤ 0) (hlt : n + d.tmod 1000000000 < 0) :
    Calls Try.prog 15 #[TV s n, .int .i64 d] w fun e w' => e = .returned (TV (s + (d.tdiv 1000000000 - 1)) (n + d.tmod 1000000000 + 1000000000)) ∧ Below w.heap.size w w' := by
  have hor := orNs n (n + d.tmod 1000000000 + 1000000000) h0 (by omega) (by omega) (by omega)
  have hmo := mono0 (n + d.tmod 1000000000 + 1000000000) (by omega) (by omega)
  go_enter Try.func15, Try.ntmps15
  go_wp2_with fail
  refine (nsec_any w.heap.size 0 n _ h0 h1 ?hc).mono ?_
  case hc => simp
  rintro e w' ⟨rfl, rfl⟩
  go_wp2_with fail
  refine (addSec_any w.heap.size 0 (n + d.tmod 1000000000 + 1000000000) s (d.tdiv 1000000000 - 1) _ (by omega) (by omega) ?hc ?hs ?hf (by omega) (by omega) (by omega) (by omega)).mono ?_
  case hc => simp
  case hs => simp
  case hf => simp
  rintro e w' ⟨rfl, rfl⟩
  go_wp2
  refine bodyPost_ret (v := TV (s + (d.tdiv 1000000000 - 1)) (n + d.tmod 1000000000 + 1000000000)) (by simp [results, Try.results15, go_sem]) rfl ⟨rfl, ?_⟩
  exact ((Below.refl _ _).alloc (Nat.le_refl _) _).alloc (by simp) _

/-- The time T nanoseconds behind the zero time. -/
def seO (T : Int) : Int := T / 1000000000
def nsO (T : Int) : Int := T % 1000000000
theorem nsO_0 (T : Int) : 0 ≤ nsO T := by unfold nsO; omega
theorem nsO_1 (T : Int) : nsO T < 1000000000 := by unfold nsO; omega
theorem seO_ns (T : Int) : seO T * 1000000000 + nsO T = T := by unfold seO nsO; omega
theorem seO_of {T s n : Int} (h : s * 1000000000 + n = T) (h0 : 0 ≤ n) (h1 : n < 1000000000) : s = seO T ∧ n = nsO T := by unfold seO nsO; omega
theorem seO_bd {T : Int} (h0 : -40000000000000000000 ≤ T) (h1 : T ≤ 40000000000000000000) : -50000000000 ≤ seO T ∧ seO T ≤ 50000000000 := by unfold seO; omega

theorem add_any (T d : Int) (w : World) (h0 : -40000000000000000000 ≤ T) (h1 : T ≤ 40000000000000000000) (d0 : -9223372036854775808 ≤ d) (d1 : d ≤ 9223372036854775807) :
    Calls Try.prog 15 #[TV (seO T) (nsO T), .int .i64 d] w fun e w' => e = .returned (TV (seO (T + d)) (nsO (T + d))) ∧ Below w.heap.size w w' := by
  have n0 := nsO_0 T
  have n1 := nsO_1 T
  obtain ⟨s0, s1⟩ := seO_bd h0 h1
  have eT := seO_ns T
  generalize seO T = s at *
  generalize nsO T = n at *
  by_cases hd : 0 ≤ d
  · by_cases hlt : n + d % 1000000000 < 1000000000
    · refine (add_a s n d w n0 n1 s0 s1 d0 d1 hd hlt).mono ?_
      rintro e w' ⟨rfl, hb⟩
      obtain ⟨a, b⟩ := seO_of (T := T + d) (s := s + d / 1000000000) (n := n + d % 1000000000) (by omega) (by omega) (by omega)
      exact ⟨ret_tv a b, hb⟩
    · refine (add_b s n d w n0 n1 s0 s1 d0 d1 hd (by omega)).mono ?_
      rintro e w' ⟨rfl, hb⟩
      obtain ⟨a, b⟩ := seO_of (T := T + d) (s := s + (d / 1000000000 + 1)) (n := n + d % 1000000000 - 1000000000) (by omega) (by omega) (by omega)
      exact ⟨ret_tv a b, hb⟩
  · have ed := Int.mul_tdiv_add_tmod d 1000000000
    have t0 := Int.lt_tmod_of_pos d (b := 1000000000) (by omega)
    have t1 : d.tmod 1000000000 ≤ 0 := by
      have h := Int.tmod_nonneg (a := -d) 1000000000 (by omega)
      rw [Int.neg_tmod] at h
      omega
    by_cases hlt : 0 ≤ n + d.tmod 1000000000
    · refine (add_c s n d w n0 n1 s0 s1 d0 d1 (by omega) (by omega) (by omega) t0 t1 hlt).mono ?_
      rintro e w' ⟨rfl, hb⟩
      obtain ⟨a, b⟩ := seO_of (T := T + d) (s := s + d.tdiv 1000000000) (n := n + d.tmod 1000000000) (by omega) (by omega) (by omega)
      exact ⟨ret_tv a b, hb⟩
    · refine (add_d s n d w n0 n1 s0 s1 d0 d1 (by omega) (by omega) (by omega) t0 t1 (by omega)).mono ?_
      rintro e w' ⟨rfl, hb⟩
      obtain ⟨a, b⟩ := seO_of (T := T + d) (s := s + (d.tdiv 1000000000 - 1)) (n := n + d.tmod 1000000000 + 1000000000) (by omega) (by omega) (by omega)
      exact ⟨ret_tv a b, hb⟩
end Go.Proofs.Qxb6625826a
