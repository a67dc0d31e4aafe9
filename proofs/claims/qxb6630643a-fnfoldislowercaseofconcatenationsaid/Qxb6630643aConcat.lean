import Derived.Test.Qxb6630643aMatch
namespace Go.Proofs.Qxb6630643a
open Go.RowKit

theorem fold_as {s r : ByteArray} (hr : foldS s = r) (w : World) (hs : s.size ≤ maxLen) :
    Calls Try.prog 6 #[.string s] w fun e w' => e = .returned (.string r) ∧ Below w.heap.size w w' := by
  subst hr
  exact fold_any s w hs

set_option maxHeartbeats 400000 in
theorem conc_big (a b : ByteArray) (w : World) (ha : a.size ≤ maxLen) (hb : b.size ≤ maxLen) (h : ¬ a.size + b.size ≤ 1048576) :
    Calls Try.prog 4 #[.string a, .string b] w fun e w' => e = .returned (.bool true) ∧ Below w.heap.size w w' := by
  go_enter Try.func4, Try.ntmps4
  go_wp2_with fail
  refine (by8_any a b w ha hb h).mono ?_
  rintro e w' ⟨rfl, rfl⟩
  go_wp2
  go_ret
  exact ⟨rfl, Below.refl _ _⟩

set_option maxHeartbeats 400000 in
theorem conc_a (a b : ByteArray) (w : World) (h : a.size + b.size ≤ 1048576) (h' : ¬ a.size ≤ 524288) :
    Calls Try.prog 4 #[.string a, .string b] w fun e w' => e = .returned (.bool true) ∧ Below w.heap.size w w' := by
  go_enter Try.func4, Try.ntmps4
  go_wp2_with fail
  refine (by8_yes a b w h).mono ?_
  rintro e w' ⟨rfl, rfl⟩
  go_wp2
  go_ret
  exact ⟨rfl, Below.refl _ _⟩

set_option maxHeartbeats 400000 in
theorem conc_b (a b : ByteArray) (w : World) (h : a.size + b.size ≤ 1048576) (h1 : a.size ≤ 524288) (h' : ¬ b.size ≤ 524288) :
    Calls Try.prog 4 #[.string a, .string b] w fun e w' => e = .returned (.bool true) ∧ Below w.heap.size w w' := by
  go_enter Try.func4, Try.ntmps4
  go_wp2_with fail
  refine (by8_yes a b w h).mono ?_
  rintro e w' ⟨rfl, rfl⟩
  go_wp2
  go_ret
  exact ⟨rfl, Below.refl _ _⟩

set_option maxHeartbeats 400000 in
theorem conc_main (a b : ByteArray) (w : World) (h1 : a.size ≤ 524288) (h2 : b.size ≤ 524288) :
    Calls Try.prog 4 #[.string a, .string b] w fun e w' => e = .returned (.bool true) ∧ Below w.heap.size w w' := by
  have hadd := fun w => run_string_add_sum (P := Try.prog) w a b (by omega)
  have hadd2 := fun w => run_string_add_sum (P := Try.prog) w (foldS a) (foldS b) (by rw [foldS_size, foldS_size]; omega)
  go_enter Try.func4, Try.ntmps4
  go_wp2_with fail
  refine (by8_yes a b w (by omega)).mono ?_
  rintro e w' ⟨rfl, rfl⟩
  have hRs : (foldS a ++ foldS b).size ≤ 1048576 := by rw [ByteArray.size_append, foldS_size, foldS_size]; omega
  have hSs : (a ++ b).size ≤ 1048576 := by rw [ByteArray.size_append]; omega
  go_wp2_with fail
  refine (fold_as (foldS_append a b) w' (by unfold maxLen; omega)).mono ?_
  rintro e w1 ⟨rfl, hb1⟩
  go_wp2_with fail
  refine (fold_any a _ (by unfold maxLen; omega)).mono ?_
  rintro e w2 ⟨rfl, hb2⟩
  go_wp2_with fail
  refine (fold_any b _ (by unfold maxLen; omega)).mono ?_
  rintro e w3 ⟨rfl, hb3⟩
  go_wp2_with fail
  refine (same_any (foldS a ++ foldS b) (a ++ b) _ (by unfold maxLen; omega) (r := true) ?_).mono ?_
  · exact ⟨fun _ => by rw [← foldS_append]; exact same_fold _, fun _ => rfl⟩
  rintro e w' ⟨rfl, rfl⟩
  go_wp2_with fail
  refine (cap_yes (foldS a ++ foldS b) _ (by unfold maxLen; omega) (by rw [← foldS_append]; exact noCap_fold _)).mono ?_
  rintro e w' ⟨rfl, rfl⟩
  go_wp2_with fail
  refine (fold_as (r := foldS a ++ foldS b) (by rw [← foldS_append]; exact foldS_foldS _) _ (by unfold maxLen; omega)).mono ?_
  rintro e w4 ⟨rfl, hb4⟩
  go_wp2
  go_ret
  have s1 := hb1.size
  have s2 := hb2.size
  have s3 := hb3.size
  exact ⟨ret_bool (by simp), ((hb1.trans (hb2.mono s1)).trans (hb3.mono (by omega))).trans (hb4.mono (by omega))⟩

theorem conc_any (a b : ByteArray) (w : World) (ha : a.size ≤ maxLen) (hb : b.size ≤ maxLen) :
    Calls Try.prog 4 #[.string a, .string b] w fun e w' => e = .returned (.bool true) ∧ Below w.heap.size w w' := by
  by_cases h : a.size + b.size ≤ 1048576
  · by_cases h1 : a.size ≤ 524288
    · by_cases h2 : b.size ≤ 524288
      · exact conc_main a b w h1 h2
      · exact conc_b a b w h h1 h2
    · exact conc_a a b w h h1
  · exact conc_big a b w ha hb h
end Go.Proofs.Qxb6630643a
