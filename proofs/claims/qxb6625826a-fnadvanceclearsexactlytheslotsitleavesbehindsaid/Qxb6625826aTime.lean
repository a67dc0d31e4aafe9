import Derived.Test.Qxb6625826aRows
import Derived.WalkKit
import Derived.WalkSpells
import Derived.WalkLawsBesides
namespace Go.Proofs.Qxb6625826a
open Go.RowKit

theorem ret_bool {a b : Bool} (h : a = b) : Ending.returned (.bool a) = .returned (.bool b) := by rw [h]
theorem ret_int {k : IntKind} {a b : Int} (h : a = b) : Ending.returned (.int k a) = .returned (.int k b) := by rw [h]

/-- The mask of the nanoseconds. -/
theorem mask30 (n : Int) (h0 : 0 ≤ n) (h1 : n < 1073741824) : bits .and .u64 n 1073741823 = n := by
  rw [u64_and n 1073741823 h0 (by omega) (by omega) (by omega)]
  rw [show (1073741823 : Int).toNat = 2 ^ 30 - 1 from rfl, Nat.and_two_pow_sub_one_eq_mod, Nat.mod_eq_of_lt (by omega)]
  omega
/-- The mark of a monotonic reading is not set. -/
theorem mono0 (n : Int) (h0 : 0 ≤ n) (h1 : n < 1073741824) : bits .and .u64 n 9223372036854775808 = 0 := by
  rw [u64_and n 9223372036854775808 h0 (by omega) (by omega) (by omega)]
  rw [show (9223372036854775808 : Int).toNat = 2 ^ 63 from rfl, nat_bit, Nat.div_eq_of_lt (by omega)]
  rfl

set_option maxHeartbeats 400000 in
theorem nsec_any (b o : Nat) (n : Int) (w : World) (h0 : 0 ≤ n) (h1 : n < 1000000000) (hc : w.cell? ⟨b, o, none⟩ = some (.int .u64 n)) :
    Calls Try.prog 19 #[.pointer (some ⟨b, o, none⟩)] w fun e w' => e = .returned (.int .i32 n) ∧ w = w' := by
  have hm := mask30 n h0 (by omega)
  go_enter Try.func19, Try.ntmps19
  go_wp2
  go_ret
  exact ⟨ret_int (by omega), rfl⟩

set_option maxHeartbeats 400000 in
theorem sec_any (b o : Nat) (n s : Int) (w : World) (h0 : 0 ≤ n) (h1 : n < 1000000000) (hc : w.cell? ⟨b, o, none⟩ = some (.int .u64 n)) (hs : w.cell? ⟨b, o + 1, none⟩ = some (.int .i64 s)) :
    Calls Try.prog 24 #[.pointer (some ⟨b, o, none⟩)] w fun e w' => e = .returned (.int .i64 s) ∧ w = w' := by
  have hm := mono0 n h0 (by omega)
  go_enter Try.func24, Try.ntmps24
  go_wp2
  go_ret
  exact ⟨rfl, rfl⟩

set_option maxHeartbeats 400000 in
theorem addSec_any (b o : Nat) (n s d : Int) (w : World) (h0 : 0 ≤ n) (h1 : n < 1000000000) (hc : w.cell? ⟨b, o, none⟩ = some (.int .u64 n)) (hs : w.cell? ⟨b, o + 1, none⟩ = some (.int .i64 s)) (hf : w.frozen? ⟨b, o + 1, none⟩ = false)
    (s0 : -100000000000 ≤ s) (s1 : s ≤ 100000000000) (d0 : -100000000000 ≤ d) (d1 : d ≤ 100000000000) :
    Calls Try.prog 20 #[.pointer (some ⟨b, o, none⟩), .int .i64 d] w fun e w' => e = .returned (.tuple #[]) ∧ w.setCell ⟨b, o + 1, none⟩ (.int .i64 (s + d)) = w' := by
  have hm := mono0 n h0 (by omega)
  have hq : (decide (s < s + d) == decide (0 < d)) = true := by
    rw [beq_iff_eq, decide_eq_decide]; omega
  go_enter Try.func20, Try.ntmps20
  go_wp2
  go_end0
  exact ⟨rfl, rfl⟩
end Go.Proofs.Qxb6625826a
