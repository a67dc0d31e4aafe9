import Derived.Test.Qxb6625826aSub
namespace Go.Proofs.Qxb6625826a
open Go.RowKit

/-- The two boxes of 'Sub' hold the two times; below them nothing has turned. -/
theorem boxes_keep {w W1 w2 : World} {a0 a1 b0 b1 : Value} (hb : Below W1.heap.size W1 w2) (h : W1.cell? ⟨w.heap.size, 0, none⟩ = some a0 ∧ W1.cell? ⟨w.heap.size, 1, none⟩ = some a1 ∧ W1.cell? ⟨w.heap.size, 2, none⟩ = some (.pointer none) ∧
      W1.cell? ⟨w.heap.size + 1, 0, none⟩ = some b0 ∧ W1.cell? ⟨w.heap.size + 1, 1, none⟩ = some b1 ∧ W1.cell? ⟨w.heap.size + 1, 2, none⟩ = some (.pointer none) ∧ w.heap.size + 1 < W1.heap.size ∧ Below w.heap.size w W1) :
    w2.cell? ⟨w.heap.size, 0, none⟩ = some a0 ∧ w2.cell? ⟨w.heap.size, 1, none⟩ = some a1 ∧ w2.cell? ⟨w.heap.size, 2, none⟩ = some (.pointer none) ∧
      w2.cell? ⟨w.heap.size + 1, 0, none⟩ = some b0 ∧ w2.cell? ⟨w.heap.size + 1, 1, none⟩ = some b1 ∧ w2.cell? ⟨w.heap.size + 1, 2, none⟩ = some (.pointer none) ∧ w.heap.size + 1 < w2.heap.size ∧ Below w.heap.size w w2 := by
  obtain ⟨h1, h2, h3, h4, h5, h6, h7, h8⟩ := h
  have l0 : w.heap.size < W1.heap.size := by omega
  refine ⟨?_, ?_, ?_, ?_, ?_, ?_, Nat.lt_of_lt_of_le h7 hb.size, h8.trans (hb.mono h8.size)⟩
  · exact (hb.cell (p := ⟨w.heap.size, 0, none⟩) l0).trans h1
  · exact (hb.cell (p := ⟨w.heap.size, 1, none⟩) l0).trans h2
  · exact (hb.cell (p := ⟨w.heap.size, 2, none⟩) l0).trans h3
  · exact (hb.cell (p := ⟨w.heap.size + 1, 0, none⟩) h7).trans h4
  · exact (hb.cell (p := ⟨w.heap.size + 1, 1, none⟩) h7).trans h5
  · exact (hb.cell (p := ⟨w.heap.size + 1, 2, none⟩) h7).trans h6

theorem boxes_start (w : World) (n s n' s' : Value) : 
    let W1 := (w.alloc (.cells #[n, s, .pointer none] 39)).alloc (.cells #[n', s', .pointer none] 39)
    W1.drew.cell? ⟨w.heap.size, 0, none⟩ = some n ∧ W1.drew.cell? ⟨w.heap.size, 1, none⟩ = some s ∧ W1.drew.cell? ⟨w.heap.size, 2, none⟩ = some (.pointer none) ∧
      W1.drew.cell? ⟨w.heap.size + 1, 0, none⟩ = some n' ∧ W1.drew.cell? ⟨w.heap.size + 1, 1, none⟩ = some s' ∧ W1.drew.cell? ⟨w.heap.size + 1, 2, none⟩ = some (.pointer none) ∧ w.heap.size + 1 < W1.drew.heap.size ∧ Below w.heap.size w W1.drew := by
  have e1 : ((w.alloc (.cells #[n, s, .pointer none] 39)).alloc (.cells #[n', s', .pointer none] 39)).heap[w.heap.size + 1]? = _ := heap_alloc2_new w _ _
  have e0 : ((w.alloc (.cells #[n, s, .pointer none] 39)).alloc (.cells #[n', s', .pointer none] 39)).heap[w.heap.size]? = _ := heap_alloc2_old w _ _
  refine ⟨?_, ?_, ?_, ?_, ?_, ?_, ?_, (((Below.refl _ _).alloc (Nat.le_refl _) _).alloc (by simp) _).drew⟩
  · exact cell_of_row _ _ _ _ _ _ e0
  · exact cell_of_row _ _ _ _ _ _ e0
  · exact cell_of_row _ _ _ _ _ _ e0
  · exact cell_of_row _ _ _ _ _ _ e1
  · exact cell_of_row _ _ _ _ _ _ e1
  · exact cell_of_row _ _ _ _ _ _ e1
  · show w.heap.size + 1 < ((w.alloc _).alloc _).heap.size
    rw [World.size_alloc, World.size_alloc]; omega

set_option maxHeartbeats 400000 in
theorem sub_eq (T U D : Int) (w : World) (T0 : -9223372036854775808 ≤ T) (T1 : T ≤ 9223372036854775807) (U0 : -9223372036854775808 ≤ U) (U1 : U ≤ 9223372036854775807)
    (hD : wrap64 (wrap64 ((seO T - seO U) * 1000000000) + (nsO T - nsO U)) = D) (D0 : -9223372036854775808 ≤ D) (D1 : D ≤ 9223372036854775807) (hE : Hid (U + D = T)) :
    Calls Try.prog 17 #[TV (seO T) (nsO T), TV (seO U) (nsO U)] w fun e w' => e = .returned (.int .i64 (D)) ∧ Below w.heap.size w w' := by
  have h0 := nsO_0 T
  have h1 := nsO_1 T
  have h0' := nsO_0 U
  have h1' := nsO_1 U
  obtain ⟨s0, s1⟩ := seO_bd (T := T) (by omega) (by omega)
  obtain ⟨s0', s1'⟩ := seO_bd (T := U) (by omega) (by omega)
  have hmo := mono2 (nsO T) (nsO U) h0 h1 h0' h1'
  have hbx := boxes_start w (.int .u64 (nsO T)) (.int .i64 (seO T)) (.int .u64 (nsO U)) (.int .i64 (seO U))
  dsimp only at hbx
  go_enter Try.func17, Try.ntmps17
  go_wp2_with fail
  refine (sec_any (w.heap.size) 0 (nsO T) (seO T) _ h0 h1 ?hc ?hs).mono ?_
  case hc => simp
  case hs => simp
  rintro e w' ⟨rfl, rfl⟩
  go_wp2_with fail
  refine (sec_any (w.heap.size + 1) 0 (nsO U) (seO U) _ h0' h1' ?hc ?hs).mono ?_
  case hc => simp
  case hs => simp
  rintro e w' ⟨rfl, rfl⟩
  go_wp2_with fail
  refine (nsec_any (w.heap.size) 0 (nsO T) _ h0 h1 ?hc).mono ?_
  case hc => simp
  rintro e w' ⟨rfl, rfl⟩
  go_wp2_with fail
  refine (nsec_any (w.heap.size + 1) 0 (nsO U) _ h0' h1' ?hc).mono ?_
  case hc => simp
  rintro e w' ⟨rfl, rfl⟩
  go_wp2_with fail
  rw [hD]
  clear hD hmo
  go_region_held3 (fun w' => w'.cell? ⟨w.heap.size, 0, none⟩ = some (.int .u64 (nsO T)) ∧ w'.cell? ⟨w.heap.size, 1, none⟩ = some (.int .i64 (seO T)) ∧ w'.cell? ⟨w.heap.size, 2, none⟩ = some (.pointer none) ∧ w'.cell? ⟨w.heap.size + 1, 0, none⟩ = some (.int .u64 (nsO U)) ∧ w'.cell? ⟨w.heap.size + 1, 1, none⟩ = some (.int .i64 (seO U)) ∧ w'.cell? ⟨w.heap.size + 1, 2, none⟩ = some (.pointer none) ∧ w.heap.size + 1 < w'.heap.size ∧ Below w.heap.size w w')
      (first | with_reducible exact hbx | with_reducible exact boxes_keep hb25 (by assumption) | with_reducible exact boxes_keep hb15 (by assumption))
      (first | (go_at_call 15; refine (add_any U D _ (by omega) (by omega) D0 D1).mono ?_; rintro e w' ⟨rfl, hb15⟩) | (go_at_call 25; refine (equal_at (U + D) T _ (r := true) (by rw [hE.out]; simp)).mono ?_; rintro e w' ⟨rfl, hb25⟩))
  rename_i hS
  have hB := hS.2.2.2.2.2.2.2
  go_wp2
  go_ret
  exact ⟨rfl, hB⟩

set_option maxHeartbeats 400000 in
theorem sub_ne (T U D : Int) (w : World) (T0 : -9223372036854775808 ≤ T) (T1 : T ≤ 9223372036854775807) (U0 : -9223372036854775808 ≤ U) (U1 : U ≤ 9223372036854775807)
    (hD : wrap64 (wrap64 ((seO T - seO U) * 1000000000) + (nsO T - nsO U)) = D) (D0 : -9223372036854775808 ≤ D) (D1 : D ≤ 9223372036854775807) (hE : Hid (U + D ≠ T)) (r : Bool) (hr : Hid (r = decide (T < U))) :
    Calls Try.prog 17 #[TV (seO T) (nsO T), TV (seO U) (nsO U)] w fun e w' => e = .returned (.int .i64 (if r then -9223372036854775808 else 9223372036854775807)) ∧ Below w.heap.size w w' := by
  have h0 := nsO_0 T
  have h1 := nsO_1 T
  have h0' := nsO_0 U
  have h1' := nsO_1 U
  obtain ⟨s0, s1⟩ := seO_bd (T := T) (by omega) (by omega)
  obtain ⟨s0', s1'⟩ := seO_bd (T := U) (by omega) (by omega)
  have hmo := mono2 (nsO T) (nsO U) h0 h1 h0' h1'
  have hbx := boxes_start w (.int .u64 (nsO T)) (.int .i64 (seO T)) (.int .u64 (nsO U)) (.int .i64 (seO U))
  dsimp only at hbx
  go_enter Try.func17, Try.ntmps17
  go_wp2_with fail
  refine (sec_any (w.heap.size) 0 (nsO T) (seO T) _ h0 h1 ?hc ?hs).mono ?_
  case hc => simp
  case hs => simp
  rintro e w' ⟨rfl, rfl⟩
  go_wp2_with fail
  refine (sec_any (w.heap.size + 1) 0 (nsO U) (seO U) _ h0' h1' ?hc ?hs).mono ?_
  case hc => simp
  case hs => simp
  rintro e w' ⟨rfl, rfl⟩
  go_wp2_with fail
  refine (nsec_any (w.heap.size) 0 (nsO T) _ h0 h1 ?hc).mono ?_
  case hc => simp
  rintro e w' ⟨rfl, rfl⟩
  go_wp2_with fail
  refine (nsec_any (w.heap.size + 1) 0 (nsO U) _ h0' h1' ?hc).mono ?_
  case hc => simp
  rintro e w' ⟨rfl, rfl⟩
  go_wp2_with fail
  rw [hD]
  clear hD hmo
  go_region_held3 (fun w' => w'.cell? ⟨w.heap.size, 0, none⟩ = some (.int .u64 (nsO T)) ∧ w'.cell? ⟨w.heap.size, 1, none⟩ = some (.int .i64 (seO T)) ∧ w'.cell? ⟨w.heap.size, 2, none⟩ = some (.pointer none) ∧ w'.cell? ⟨w.heap.size + 1, 0, none⟩ = some (.int .u64 (nsO U)) ∧ w'.cell? ⟨w.heap.size + 1, 1, none⟩ = some (.int .i64 (seO U)) ∧ w'.cell? ⟨w.heap.size + 1, 2, none⟩ = some (.pointer none) ∧ w.heap.size + 1 < w'.heap.size ∧ Below w.heap.size w w')
      (first | with_reducible exact hbx | with_reducible exact boxes_keep hb25 (by assumption) | with_reducible exact boxes_keep hb15 (by assumption))
      (first | (go_at_call 15; refine (add_any U D _ (by omega) (by omega) D0 D1).mono ?_; rintro e w' ⟨rfl, hb15⟩) | (go_at_call 25; refine (equal_at (U + D) T _ (r := false) (by have := hE.out; simp [this])).mono ?_; rintro e w' ⟨rfl, hb25⟩))
  rename_i hS
  have hB := hS.2.2.2.2.2.2.2
  cases r with
  | true =>
    go_wp2_with fail
    refine (before_any T U _ hr.out).mono ?_
    rintro e w7 ⟨rfl, hb7⟩
    go_wp2
    go_ret
    exact ⟨rfl, hB.trans (hb7.mono hB.size)⟩
  | false =>
    go_wp2_with fail
    refine (before_any T U _ hr.out).mono ?_
    rintro e w7 ⟨rfl, hb7⟩
    go_wp2
    go_ret
    exact ⟨rfl, hB.trans (hb7.mono hB.size)⟩

/-- a - b, pinned to the ends of an int64. -/
def satS (a b : Int) : Int := if a - b < -9223372036854775808 then -9223372036854775808 else if 9223372036854775807 < a - b then 9223372036854775807 else a - b

theorem satS_in {a b : Int} (h0 : -9223372036854775808 ≤ a - b) (h1 : a - b ≤ 9223372036854775807) : satS a b = a - b := by
  unfold satS; rw [if_neg (by omega), if_neg (by omega)]
theorem satS_lo {a b : Int} (h0 : a - b < -9223372036854775808) : satS a b = -9223372036854775808 := by
  unfold satS; rw [if_pos h0]
theorem satS_hi {a b : Int} (h0 : 9223372036854775807 < a - b) : satS a b = 9223372036854775807 := by
  unfold satS; rw [if_neg (by omega), if_pos h0]

theorem sub_any (T U : Int) (w : World) (T0 : -9223372036854775808 ≤ T) (T1 : T ≤ 9223372036854775807) (U0 : -9223372036854775808 ≤ U) (U1 : U ≤ 9223372036854775807) :
    Calls Try.prog 17 #[TV (seO T) (nsO T), TV (seO U) (nsO U)] w fun e w' => e = .returned (.int .i64 (satS T U)) ∧ Below w.heap.size w w' := by
  have eT := seO_ns T
  have eU := seO_ns U
  obtain ⟨D, hD⟩ : ∃ D, wrap64 (wrap64 ((seO T - seO U) * 1000000000) + (nsO T - nsO U)) = D := ⟨_, rfl⟩
  have hD2 : (T - U + 9223372036854775808) % 18446744073709551616 - 9223372036854775808 = D := by
    rw [← hD]; unfold wrap64; omega
  by_cases h0 : -9223372036854775808 ≤ T - U
  · by_cases h1 : T - U ≤ 9223372036854775807
    · refine (sub_eq T U D w T0 T1 U0 U1 hD (by omega) (by omega) (show U + D = T by omega)).mono ?_
      rintro e w' ⟨rfl, hb⟩
      exact ⟨ret_int (by rw [satS_in h0 h1]; omega), hb⟩
    · refine (sub_ne T U D w T0 T1 U0 U1 hD (by omega) (by omega) (show U + D ≠ T by omega) false (show false = decide (T < U) by simp; omega)).mono ?_
      rintro e w' ⟨rfl, hb⟩
      exact ⟨ret_int (by rw [satS_hi (by omega)]; rfl), hb⟩
  · refine (sub_ne T U D w T0 T1 U0 U1 hD (by omega) (by omega) (show U + D ≠ T by omega) true (show true = decide (T < U) by simp; omega)).mono ?_
    rintro e w' ⟨rfl, hb⟩
    exact ⟨ret_int (by rw [satS_lo (by omega)]; rfl), hb⟩
end Go.Proofs.Qxb6625826a
