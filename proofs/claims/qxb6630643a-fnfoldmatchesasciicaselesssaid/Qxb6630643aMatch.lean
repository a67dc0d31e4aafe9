import Derived.Test.Qxb6630643aFold
namespace Go.Proofs.Qxb6630643a
open Go.RowKit

theorem fold_beq (a b : ByteArray) : ((foldS a).toList == (foldS b).toList) = true ↔ Same a b := by
  rw [beq_iff_eq, ByteArray.toList_eq, ByteArray.toList_eq, same_iff]
  exact ⟨fun h => WideShapes.bytes_inj h, fun h => by rw [h]⟩

set_option maxHeartbeats 400000 in
theorem match_big (a b : ByteArray) (w : World) (ha : a.size ≤ maxLen) (hb : b.size ≤ maxLen) (h : ¬ a.size + b.size ≤ 1048576) :
    Calls Try.prog 3 #[.string a, .string b] w fun e w' => e = .returned (.bool true) ∧ Below w.heap.size w w' := by
  go_enter Try.func3, Try.ntmps3
  go_wp2_with fail
  refine (by5_any a b w ha hb h).mono ?_
  rintro e w' ⟨rfl, rfl⟩
  go_wp2
  go_ret
  exact ⟨rfl, Below.refl _ _⟩

set_option maxHeartbeats 400000 in
theorem match_a (a b : ByteArray) (w : World) (h : a.size + b.size ≤ 1048576) (h' : ¬ a.size ≤ 524288) :
    Calls Try.prog 3 #[.string a, .string b] w fun e w' => e = .returned (.bool true) ∧ Below w.heap.size w w' := by
  go_enter Try.func3, Try.ntmps3
  go_wp2_with fail
  refine (by5_yes a b w h).mono ?_
  rintro e w' ⟨rfl, rfl⟩
  go_wp2
  go_ret
  exact ⟨rfl, Below.refl _ _⟩

set_option maxHeartbeats 400000 in
theorem match_b (a b : ByteArray) (w : World) (h : a.size + b.size ≤ 1048576) (h1 : a.size ≤ 524288) (h' : ¬ b.size ≤ 524288) :
    Calls Try.prog 3 #[.string a, .string b] w fun e w' => e = .returned (.bool true) ∧ Below w.heap.size w w' := by
  go_enter Try.func3, Try.ntmps3
  go_wp2_with fail
  refine (by5_yes a b w h).mono ?_
  rintro e w' ⟨rfl, rfl⟩
  go_wp2
  go_ret
  exact ⟨rfl, Below.refl _ _⟩

set_option maxHeartbeats 400000 in
theorem match_main (a b : ByteArray) (w : World) (h1 : a.size ≤ 524288) (h2 : b.size ≤ 524288) :
    Calls Try.prog 3 #[.string a, .string b] w fun e w' => e = .returned (.bool true) ∧ Below w.heap.size w w' := by
  go_enter Try.func3, Try.ntmps3
  go_wp2_with fail
  refine (by5_yes a b w (by omega)).mono ?_
  rintro e w' ⟨rfl, rfl⟩
  go_wp2_with fail
  refine (fold_any a _ (by unfold maxLen; omega)).mono ?_
  rintro e w1 ⟨rfl, hb1⟩
  go_wp2_with fail
  refine (fold_any b _ (by unfold maxLen; omega)).mono ?_
  rintro e w2 ⟨rfl, hb2⟩
  go_wp2_with fail
  refine (same_any a b _ (by unfold maxLen; omega) (r := (foldS a).toList == (foldS b).toList) ?_).mono ?_
  · exact fold_beq a b
  rintro e w' ⟨rfl, rfl⟩
  go_wp2
  go_ret
  have s1 := hb1.size
  exact ⟨rfl, hb1.trans (hb2.mono s1)⟩

theorem match_any (a b : ByteArray) (w : World) (ha : a.size ≤ maxLen) (hb : b.size ≤ maxLen) :
    Calls Try.prog 3 #[.string a, .string b] w fun e w' => e = .returned (.bool true) ∧ Below w.heap.size w w' := by
  by_cases h : a.size + b.size ≤ 1048576
  · by_cases h1 : a.size ≤ 524288
    · by_cases h2 : b.size ≤ 524288
      · exact match_main a b w h1 h2
      · exact match_b a b w h h1 h2
    · exact match_a a b w h h1
  · exact match_big a b w ha hb h
end Go.Proofs.Qxb6630643a
