import Derived.Test.Qxb6625826aSub2
namespace Go.Proofs.Qxb6625826a
open Go.RowKit

set_option maxHeartbeats 400000 in
theorem same_any (f : Nat) (w : World) : Calls Try.prog 12 #[.float .f64 f, .float .f64 f] w fun e w' => e = .returned (.bool true) ∧ w = w' := by
  cases h : (FloatKind.f64.format.order f f == some .eq) with
  | true =>
    go_enter Try.func12, Try.ntmps12
    go_wp2
    go_ret
    exact ⟨rfl, rfl⟩
  | false =>
    have h2 : (FloatKind.f64.format.order f f != some .eq) = true := by rw [bne, h]; rfl
    go_enter Try.func12, Try.ntmps12
    go_wp2
    go_ret
    exact ⟨rfl, rfl⟩

set_option maxHeartbeats 400000 in
theorem total_any (b : Nat) (x : Int) (w : World) (hc : w.cell? ⟨b, 1006, none⟩ = some (.int .i64 x)) :
    Calls Try.prog 9 #[.pointer (some ⟨b, 0, none⟩)] w fun e w' => e = .returned (.int .i64 x) ∧ w' = w := by
  go_enter Try.func9, Try.ntmps9
  go_wp2
  go_ret
  exact ⟨rfl, rfl⟩

set_option maxHeartbeats 400000 in
theorem latest_any (b : Nat) (x : Int) (w : World) (hc : w.cell? ⟨b, 1005, none⟩ = some (.int .i64 x)) :
    Calls Try.prog 10 #[.pointer (some ⟨b, 0, none⟩)] w fun e w' => e = .returned (.int .i64 x) ∧ w' = w := by
  go_enter Try.func10, Try.ntmps10
  go_wp2
  go_ret
  exact ⟨rfl, rfl⟩

set_option maxHeartbeats 400000 in
theorem most_any (b : Nat) (f : Nat) (w : World) (hc : w.cell? ⟨b, 0, none⟩ = some (.float .f64 f)) :
    Calls Try.prog 13 #[.pointer (some ⟨b, 0, none⟩)] w fun e w' => e = .returned (.float .f64 f) ∧ w' = w := by
  go_enter Try.func13, Try.ntmps13
  go_wp2
  go_ret
  exact ⟨rfl, rfl⟩

set_option maxHeartbeats 400000 in
theorem start_any (b : Nat) (T : Int) (w : World) (T0 : -9223372036854775808 ≤ T) (T1 : T ≤ 9223372036854775807) (h1 : w.cell? ⟨b, 1, none⟩ = some (.int .u64 (nsO T))) (h2 : w.cell? ⟨b, 2, none⟩ = some (.int .i64 (seO T))) (h3 : w.cell? ⟨b, 3, none⟩ = some (.pointer none)) :
    Calls Try.prog 11 #[.pointer (some ⟨b, 0, none⟩)] w fun e w' => e = .returned (.int .i64 T) ∧ Below w.heap.size w w' := by
  go_enter Try.func11, Try.ntmps11
  go_wp2_with fail
  refine (sub_any T 0 _ T0 T1 (by omega) (by omega)).mono ?_
  rintro e w7 ⟨rfl, hb7⟩
  go_wp2
  go_ret
  exact ⟨ret_int (by rw [satS_in (by omega) (by omega)]; omega), hb7⟩

set_option maxHeartbeats 400000 in
theorem satSub_any (a b : Int) (w : World) (a0 : -9223372036854775808 ≤ a) (a1 : a ≤ 9223372036854775807) (b0 : -9223372036854775808 ≤ b) (b1 : b ≤ 9223372036854775807) :
    Calls Try.prog 7 #[.int .i64 a, .int .i64 b] w fun e w' => e = .returned (.int .i64 (satS a b)) ∧ w = w' := by
  by_cases ha : 0 ≤ a
  · by_cases hb : 0 ≤ b
    · go_enter Try.func7, Try.ntmps7
      go_wp2
      go_ret
      exact ⟨ret_int (by rw [satS_in (by omega) (by omega)]), rfl⟩
    · by_cases hr : a - b ≤ 9223372036854775807
      · have hle : decide (b ≤ a) = true := by simp; omega
        go_enter Try.func7, Try.ntmps7
        go_wp2
        go_ret
        exact ⟨ret_int (by rw [satS_in (by omega) (by omega)]), rfl⟩
      · have hw : wrap64 (a - b) < 0 := by unfold wrap64; omega
        have hwd : decide (0 ≤ wrap64 (a - b)) = false := by simp; omega
        go_enter Try.func7, Try.ntmps7
        go_wp2
        go_ret
        exact ⟨ret_int (by rw [satS_hi (by omega)]), rfl⟩
  · by_cases hb : 0 ≤ b
    · by_cases hr : -9223372036854775808 ≤ a - b
      · have hle : decide (b ≤ a) = false := by simp; omega
        go_enter Try.func7, Try.ntmps7
        go_wp2
        go_ret
        exact ⟨ret_int (by rw [satS_in (by omega) (by omega)]), rfl⟩
      · have hw : 0 ≤ wrap64 (a - b) := by unfold wrap64; omega
        go_enter Try.func7, Try.ntmps7
        go_wp2
        go_ret
        exact ⟨ret_int (by rw [satS_lo (by omega)]), rfl⟩
    · go_enter Try.func7, Try.ntmps7
      go_wp2
      go_ret
      exact ⟨ret_int (by rw [satS_in (by omega) (by omega)]), rfl⟩
end Go.Proofs.Qxb6625826a
