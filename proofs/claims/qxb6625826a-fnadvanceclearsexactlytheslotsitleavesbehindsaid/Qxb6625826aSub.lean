import Derived.Test.Qxb6625826aAdd
import Derived.Deep.QuietTactic
import Derived.BigQuiet
import Derived.Deep.RegionHeld3
import Derived.Deep.DeepCutAuto
namespace Go.Proofs.Qxb6625826a
open Go.RowKit

theorem mono2 (n m : Int) (h0 : 0 ≤ n) (h1 : n < 1000000000) (m0 : 0 ≤ m) (m1 : m < 1000000000) : bits .and .u64 (bits .and .u64 n m) 9223372036854775808 = 0 := by
  have e := u64_and n m h0 (by omega) m0 (by omega)
  have hl : n.toNat &&& m.toNat ≤ n.toNat := Nat.and_le_left
  refine mono0 _ ?_ ?_
  · rw [e]; omega
  · rw [e]; omega

set_option maxHeartbeats 400000 in
theorem equal_any (s n s' n' : Int) (w : World) (h0 : 0 ≤ n) (h1 : n < 1000000000) (h0' : 0 ≤ n') (h1' : n' < 1000000000) {r : Bool} (hr : r = ((s == s') && (n == n'))) :
    Calls Try.prog 25 #[TV s n, TV s' n'] w fun e w' => e = .returned (.bool r) ∧ Below w.heap.size w w' := by
  have hmo := mono2 n n' h0 h1 h0' h1'
  have HR : Hid (r = ((s == s') && (n == n'))) := hr
  clear hr
  cases hs : s == s' with
  | true =>
    go_enter Try.func25, Try.ntmps25
    go_wp2_with fail
    refine (sec_any (w.heap.size) 0 n s _ h0 h1 ?hc ?hs).mono ?_
    case hc => simp
    case hs => simp
    rintro e w' ⟨rfl, rfl⟩
    go_wp2_with fail
    refine (sec_any (w.heap.size + 1) 0 n' s' _ h0' h1' ?hc ?hs).mono ?_
    case hc => simp
    case hs => simp
    rintro e w' ⟨rfl, rfl⟩
    go_wp2_with fail
    refine (nsec_any (w.heap.size) 0 n _ h0 h1 ?hc).mono ?_
    case hc => simp
    rintro e w' ⟨rfl, rfl⟩
    go_wp2_with fail
    refine (nsec_any (w.heap.size + 1) 0 n' _ h0' h1' ?hc).mono ?_
    case hc => simp
    rintro e w' ⟨rfl, rfl⟩
    go_wp2
    go_ret
    exact ⟨ret_bool (by rw [HR.out, hs]; simp), ((Below.refl _ _).alloc (Nat.le_refl _) _).alloc (by simp) _⟩
  | false =>
    go_enter Try.func25, Try.ntmps25
    go_wp2_with fail
    refine (sec_any (w.heap.size) 0 n s _ h0 h1 ?hc ?hs).mono ?_
    case hc => simp
    case hs => simp
    rintro e w' ⟨rfl, rfl⟩
    go_wp2_with fail
    refine (sec_any (w.heap.size + 1) 0 n' s' _ h0' h1' ?hc ?hs).mono ?_
    case hc => simp
    case hs => simp
    rintro e w' ⟨rfl, rfl⟩
    go_wp2
    go_ret
    exact ⟨ret_bool (by rw [HR.out, hs]; simp), ((Below.refl _ _).alloc (Nat.le_refl _) _).alloc (by simp) _⟩

set_option maxHeartbeats 400000 in
theorem before_lt (s n s' n' : Int) (w : World) (h0 : 0 ≤ n) (h1 : n < 1000000000) (h0' : 0 ≤ n') (h1' : n' < 1000000000) (hs : s < s') :
    Calls Try.prog 26 #[TV s n, TV s' n'] w fun e w' => e = .returned (.bool true) ∧ Below w.heap.size w w' := by
  have hmo := mono2 n n' h0 h1 h0' h1'
  have hd : decide (s < s') = true := by simp [hs]
  · go_enter Try.func26, Try.ntmps26
    go_wp2_with fail
    refine (sec_any (w.heap.size) 0 n s _ h0 h1 ?hc ?hs).mono ?_
    case hc => simp
    case hs => simp
    rintro e w' ⟨rfl, rfl⟩
    go_wp2_with fail
    refine (sec_any (w.heap.size + 1) 0 n' s' _ h0' h1' ?hc ?hs).mono ?_
    case hc => simp
    case hs => simp
    rintro e w' ⟨rfl, rfl⟩
    go_wp2
    go_ret
    exact ⟨rfl, ((Below.refl _ _).alloc (Nat.le_refl _) _).alloc (by simp) _⟩

set_option maxHeartbeats 400000 in
theorem before_gt (s n s' n' : Int) (w : World) (h0 : 0 ≤ n) (h1 : n < 1000000000) (h0' : 0 ≤ n') (h1' : n' < 1000000000) (hs : s' < s) :
    Calls Try.prog 26 #[TV s n, TV s' n'] w fun e w' => e = .returned (.bool false) ∧ Below w.heap.size w w' := by
  have hmo := mono2 n n' h0 h1 h0' h1'
  have hd : decide (s < s') = false := by simp; omega
  have hq : (s == s') = false := by simp; omega
  · go_enter Try.func26, Try.ntmps26
    go_wp2_with fail
    refine (sec_any (w.heap.size) 0 n s _ h0 h1 ?hc ?hs).mono ?_
    case hc => simp
    case hs => simp
    rintro e w' ⟨rfl, rfl⟩
    go_wp2_with fail
    refine (sec_any (w.heap.size + 1) 0 n' s' _ h0' h1' ?hc ?hs).mono ?_
    case hc => simp
    case hs => simp
    rintro e w' ⟨rfl, rfl⟩
    go_wp2
    go_ret
    exact ⟨rfl, ((Below.refl _ _).alloc (Nat.le_refl _) _).alloc (by simp) _⟩

set_option maxHeartbeats 400000 in
theorem before_eq (s n n' : Int) (w : World) (h0 : 0 ≤ n) (h1 : n < 1000000000) (h0' : 0 ≤ n') (h1' : n' < 1000000000) {r : Bool} (hr : r = decide (n < n')) :
    Calls Try.prog 26 #[TV s n, TV s n'] w fun e w' => e = .returned (.bool r) ∧ Below w.heap.size w w' := by
  have hmo := mono2 n n' h0 h1 h0' h1'
  subst hr
  · go_enter Try.func26, Try.ntmps26
    go_wp2_with fail
    refine (sec_any (w.heap.size) 0 n s _ h0 h1 ?hc ?hs).mono ?_
    case hc => simp
    case hs => simp
    rintro e w' ⟨rfl, rfl⟩
    go_wp2_with fail
    refine (sec_any (w.heap.size + 1) 0 n' s _ h0' h1' ?hc ?hs).mono ?_
    case hc => simp
    case hs => simp
    rintro e w' ⟨rfl, rfl⟩
    go_wp2_with fail
    refine (nsec_any (w.heap.size) 0 n _ h0 h1 ?hc).mono ?_
    case hc => simp
    rintro e w' ⟨rfl, rfl⟩
    go_wp2_with fail
    refine (nsec_any (w.heap.size + 1) 0 n' _ h0' h1' ?hc).mono ?_
    case hc => simp
    rintro e w' ⟨rfl, rfl⟩
    go_wp2
    go_ret
    exact ⟨rfl, ((Below.refl _ _).alloc (Nat.le_refl _) _).alloc (by simp) _⟩

/-- 'Before', by the times. -/
theorem before_any (T U : Int) (w : World) {r : Bool} (hr : r = decide (T < U)) :
    Calls Try.prog 26 #[TV (seO T) (nsO T), TV (seO U) (nsO U)] w fun e w' => e = .returned (.bool r) ∧ Below w.heap.size w w' := by
  have a0 := nsO_0 T
  have a1 := nsO_1 T
  have b0 := nsO_0 U
  have b1 := nsO_1 U
  have eT := seO_ns T
  have eU := seO_ns U
  generalize seO T = s at *
  generalize nsO T = n at *
  generalize seO U = s' at *
  generalize nsO U = n' at *
  subst hr
  by_cases h1 : s < s'
  · refine (before_lt s n s' n' w a0 a1 b0 b1 h1).mono ?_
    rintro e w' ⟨rfl, hb⟩
    exact ⟨ret_bool (by simp; omega), hb⟩
  · by_cases h2 : s' < s
    · refine (before_gt s n s' n' w a0 a1 b0 b1 h2).mono ?_
      rintro e w' ⟨rfl, hb⟩
      exact ⟨ret_bool (by simp; omega), hb⟩
    · obtain rfl : s = s' := by omega
      refine before_eq s n n' w a0 a1 b0 b1 ?_
      rw [decide_eq_decide]; omega

/-- 'Equal', by the times. -/
theorem equal_at (T U : Int) (w : World) {r : Bool} (hr : r = decide (T = U)) :
    Calls Try.prog 25 #[TV (seO T) (nsO T), TV (seO U) (nsO U)] w fun e w' => e = .returned (.bool r) ∧ Below w.heap.size w w' := by
  refine equal_any _ _ _ _ w (nsO_0 T) (nsO_1 T) (nsO_0 U) (nsO_1 U) ?_
  have eT := seO_ns T
  have eU := seO_ns U
  rw [hr, Bool.eq_iff_iff]
  simp
  constructor
  · intro h; subst h; exact ⟨rfl, rfl⟩
  · intro ⟨h1, h2⟩; omega

set_option maxHeartbeats 400000 in
theorem isZero_any (s n : Int) (w : World) {r : Bool} (hr : r = ((n == 0) && (s == 0))) :
    Calls Try.prog 22 #[TV s n] w fun e w' => e = .returned (.bool r) ∧ Below w.heap.size w w' := by
  have HR : Hid (r = ((n == 0) && (s == 0))) := hr
  clear hr
  cases hn : n == 0 with
  | true =>
    go_enter Try.func22, Try.ntmps22
    go_wp2
    go_ret
    exact ⟨ret_bool (by rw [HR.out, hn]; simp), (Below.refl _ _).alloc (Nat.le_refl _) _⟩
  | false =>
    go_enter Try.func22, Try.ntmps22
    go_wp2
    go_ret
    exact ⟨ret_bool (by rw [HR.out, hn]; simp), (Below.refl _ _).alloc (Nat.le_refl _) _⟩

theorem isZero_at (T : Int) (w : World) {r : Bool} (hr : r = decide (T = 0)) :
    Calls Try.prog 22 #[TV (seO T) (nsO T)] w fun e w' => e = .returned (.bool r) ∧ Below w.heap.size w w' := by
  refine isZero_any _ _ w ?_
  have eT := seO_ns T
  have a0 := nsO_0 T
  have a1 := nsO_1 T
  rw [hr, Bool.eq_iff_iff]
  simp
  omega
end Go.Proofs.Qxb6625826a
