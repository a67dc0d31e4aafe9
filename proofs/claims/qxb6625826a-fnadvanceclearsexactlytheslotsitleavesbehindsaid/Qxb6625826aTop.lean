import Derived.Test.Qxb6625826aCnt
import Derived.Deep.RegionHeld3
namespace Go.Proofs.Qxb6625826a
open Go.RowKit
set_option linter.unusedVariables false

/-- What the last region reads. -/
def Fin (w : World) (X B f : Nat) (ST LT TT : Int) (D : Nat → Int) (w' : World) : Prop := w'.rangeAt X 0 (arrL D) ∧ Win w' B f ST D LT TT ∧ X < w'.heap.size ∧ Below w.heap.size w w' ∧ w.heap.size ≤ B ∧ w.heap.size ≤ X

theorem range_block {w w' : World} {X o : Nat} {L : List Value} (e : w'.heap[X]? = w.heap[X]?) (h : w.rangeAt X o L) : w'.rangeAt X o L := fun j v hv => by
  have h1 := h j v hv
  unfold World.cell? at h1 ⊢
  simp only at h1 ⊢
  rw [e]
  exact h1
theorem range_below {w w' : World} {A X o : Nat} {L : List Value} (hb : Below A w w') (hA : X < A) (h : w.rangeAt X o L) : w'.rangeAt X o L := range_block (hb.block X hA) h

theorem fin_keep {w W1 w2 : World} {X B f : Nat} {ST LT TT : Int} {D : Nat → Int} (hb : Below W1.heap.size W1 w2)
    (h : W1.rangeAt X 0 (arrL D) ∧ Win W1 B f ST D LT TT ∧ X < W1.heap.size ∧ Below w.heap.size w W1 ∧ w.heap.size ≤ B ∧ w.heap.size ≤ X) :
    w2.rangeAt X 0 (arrL D) ∧ Win w2 B f ST D LT TT ∧ X < w2.heap.size ∧ Below w.heap.size w w2 ∧ w.heap.size ≤ B ∧ w.heap.size ≤ X :=
  ⟨range_below hb h.2.2.1 h.1, h.2.1.below hb h.2.1.lt, Nat.lt_of_lt_of_le h.2.2.1 hb.size, h.2.2.2.1.trans (hb.mono h.2.2.2.1.size), h.2.2.2.2⟩
theorem fin_win {w W1 : World} {X B f : Nat} {ST LT TT : Int} {D : Nat → Int}
    (h : W1.rangeAt X 0 (arrL D) ∧ Win W1 B f ST D LT TT ∧ X < W1.heap.size ∧ Below w.heap.size w W1 ∧ w.heap.size ≤ B ∧ w.heap.size ≤ X) : Win W1 B f ST D LT TT := h.2.1

theorem fin_start {w W2 : World} {B f : Nat} {ST LT TT : Int} {D : Nat → Int} (hW : Win W2 B f ST D LT TT) (hb : Below w.heap.size w W2) (hB : w.heap.size ≤ B) :
    let W1 := (W2.alloc (.cells (arrL D).toArray 23)).drew
    W1.rangeAt W2.heap.size 0 (arrL D) ∧ Win W1 B f ST D LT TT ∧ W2.heap.size < W1.heap.size ∧ Below w.heap.size w W1 ∧ w.heap.size ≤ B ∧ w.heap.size ≤ W2.heap.size := by
  obtain ⟨h1, h2, h3⟩ := new_start D W2
  exact ⟨h1, hW.block (h3.block B hW.lt), h2, hb.trans (h3.mono hb.size), hB, hb.size⟩
theorem range_new (C : Nat → Int) (w : World) : (w.alloc (.cells (arrL C).toArray 23)).rangeAt w.heap.size 0 (arrL C) := (World.rangeAt_drew _ _ _ _).1 (new_start C w).1

theorem slF_zero (N : Int) (N0 : -9223372036854775808 ≤ N) (N1 : N ≤ 9223372036854775807) : slF 0 N = 0 := by
  show IntKind.i64.wrap ((satS N N).tdiv 10000000) = 0
  rw [satS_in (by omega) (by omega), Int.sub_self]; rfl

set_option maxRecDepth 20000 in
set_option maxHeartbeats 400000 in
theorem top_old (f : Nat) (T N lat tot : Int) (C : Nat → Int) (w : World) (T0 : -9223372036854775808 ≤ T) (T1 : T ≤ 9223372036854775807) (N0 : -9223372036854775808 ≤ N) (N1 : N ≤ 9223372036854775807) (hl0 : 0 ≤ lat)
    (hT : T ≠ 0) (hle : ¬ lat < slF T N) :
    Calls Try.prog 3 #[.float .f64 f, .int .i64 T, .agg (arrL C).toArray, .int .i64 lat, .int .i64 tot, .int .i64 N] w fun e w' => e = .returned (.bool true) ∧ Below w.heap.size w w' := by
  obtain ⟨Z, hZ, ha⟩ := alloc23
  have u23 := Try.underlying23
  have hsz := size23L C
  have hlen := arrL_len C
  have hone := arrL_one C
  have hl := range_new C w
  go_enter Try.func3, Try.ntmps3
  go_wp2_with (first | (refine wl_alloc23 ha rfl rfl ?_; simp only [Act.put, List.setIfInBounds_toArray, List.set_cons_zero, List.set_cons_succ])
                     | (refine wl_load23 rfl _ rfl rfl (by assumption) ?_; simp only [Act.put, List.setIfInBounds_toArray, List.set_cons_zero, List.set_cons_succ])
                     | (refine wl_store23 rfl _ _ rfl rfl rfl hZ ?_; simp only [Act.put]))
  refine (new_any f T lat tot C _ T0 T1).mono ?_
  rintro e w1 ⟨B, rfl, hB1, hW1, hb1⟩
  have r1 : w1.rangeAt w.heap.size 0 (arrL C) := range_below hb1 (by simp) (range_new C w)
  have hs1 := hb1.size
  rw [World.size_alloc] at hB1 hs1
  have hbw1 : Below w.heap.size w w1 := ((Below.refl _ _).alloc (Nat.le_refl _) _).trans (hb1.mono (by simp))
  clear hb1 hl
  go_wp2_with fail
  refine (zzadv_any B f T N lat tot C w1 hW1 T0 T1 N0 N1 hl0).mono ?_
  rintro e w2 ⟨rfl, hW2, hb2⟩
  have r2 : w2.rangeAt w.heap.size 0 (arrL C) := range_below hb2 (by omega) r1
  have hbw2 : Below w.heap.size w w2 := hbw1.trans (hb2.mono (by omega))
  have hs2 := hb2.size
  have hB2 := hW2.lt
  clear hb2 hbw1 r1 hW1
  have e1 : stepsF lat (slF T N) = 0 := if_neg (by omega)
  have e2 : latF lat (slF T N) = lat := if_neg (by omega)
  have e3 : stF T N = T := if_neg hT
  have hSL : IntKind.i64.wrap ((satS N T).tdiv 10000000) = slF T N := by unfold slF; rw [e3]
  rw [e1, e2, e3] at hW2
  replace hW2 : Win w2 B f T C lat tot := hW2
  obtain ⟨q0, q1⟩ := slF_bd T N
  obtain ⟨SL, hs⟩ : ∃ SL, SL = slF T N := ⟨_, rfl⟩
  rw [← hs] at hSL hle q0 q1
  clear e1 e2 e3 hs
  go_wp2_with fail
  refine (satSub_any N T _ N0 N1 T0 T1).mono ?_
  rintro e w' ⟨rfl, rfl⟩
  obtain ⟨p0, p1⟩ := satS_bd N T
  go_wp2_with (first | (refine wl_alloc23 ha rfl rfl ?_; simp only [Act.put, List.setIfInBounds_toArray, List.set_cons_zero, List.set_cons_succ])
                     | (refine wl_load23 rfl _ rfl rfl (by assumption) ?_; simp only [Act.put, List.setIfInBounds_toArray, List.set_cons_zero, List.set_cons_succ])
                     | (refine wl_store23 rfl _ _ rfl rfl rfl hZ ?_; simp only [Act.put]))
  have hS0 := fin_start hW2 hbw2 (by omega : w.heap.size ≤ B)
  have heq := eq_arr C
  clear hW2 hbw2 r2 hSL
  go_region_held3 (fun w' => w'.rangeAt w2.heap.size 0 (arrL C) ∧ Win w' B f T C lat tot ∧ w2.heap.size < w'.heap.size ∧ Below w.heap.size w w' ∧ w.heap.size ≤ B ∧ w.heap.size ≤ w2.heap.size)
      (first | with_reducible exact hS0 | with_reducible assumption | with_reducible exact fin_keep hb8 (by assumption) | with_reducible exact fin_keep hb11 (by assumption))
      (first | (go_at_call 8; refine (counts_any B f T lat tot C _ (fin_win (by assumption))).mono ?_; rintro e w' ⟨rfl, hb8⟩)
             | (go_at_call 9; refine (total_any B tot _ (fin_win (by assumption)).total).mono ?_; rintro e w' ⟨rfl, hw'⟩; subst hw')
             | (go_at_call 10; refine (latest_any B lat _ (fin_win (by assumption)).latest).mono ?_; rintro e w' ⟨rfl, hw'⟩; subst hw')
             | (go_at_call 11; refine (start_any B T _ T0 T1 (fin_win (by assumption)).ns (fin_win (by assumption)).se (fin_win (by assumption)).loc).mono ?_; rintro e w' ⟨rfl, hb11⟩)
             | (go_at_call 13; refine (most_any B f _ (fin_win (by assumption)).most).mono ?_; rintro e w' ⟨rfl, hw'⟩; subst hw')
             | (go_at_call 12; refine (same_any f _).mono ?_; rintro e w' ⟨rfl, hw'⟩; subst hw'))
  rename_i hh
  go_wp2_with fail
  go_ret
  exact ⟨rfl, hh.2.2.2.1⟩

set_option maxRecDepth 20000 in
set_option maxHeartbeats 400000 in
theorem top_zero (f : Nat) (N lat tot : Int) (C : Nat → Int) (w : World) (N0 : -9223372036854775808 ≤ N) (N1 : N ≤ 9223372036854775807) (hl0 : 0 ≤ lat) :
    Calls Try.prog 3 #[.float .f64 f, .int .i64 0, .agg (arrL C).toArray, .int .i64 lat, .int .i64 tot, .int .i64 N] w fun e w' => e = .returned (.bool true) ∧ Below w.heap.size w w' := by
  obtain ⟨Z, hZ, ha⟩ := alloc23
  have u23 := Try.underlying23
  have hsz := size23L C
  have hlen := arrL_len C
  have hone := arrL_one C
  have hl := range_new C w
  go_enter Try.func3, Try.ntmps3
  go_wp2_with (first | (refine wl_alloc23 ha rfl rfl ?_; simp only [Act.put, List.setIfInBounds_toArray, List.set_cons_zero, List.set_cons_succ])
                     | (refine wl_load23 rfl _ rfl rfl (by assumption) ?_; simp only [Act.put, List.setIfInBounds_toArray, List.set_cons_zero, List.set_cons_succ])
                     | (refine wl_store23 rfl _ _ rfl rfl rfl hZ ?_; simp only [Act.put]))
  refine (new_any f 0 lat tot C _ (by omega) (by omega)).mono ?_
  rintro e w1 ⟨B, rfl, hB1, hW1, hb1⟩
  have r1 : w1.rangeAt w.heap.size 0 (arrL C) := range_below hb1 (by simp) (range_new C w)
  have hs1 := hb1.size
  rw [World.size_alloc] at hB1 hs1
  have hbw1 : Below w.heap.size w w1 := ((Below.refl _ _).alloc (Nat.le_refl _) _).trans (hb1.mono (by simp))
  clear hb1 hl
  go_wp2_with fail
  refine (zzadv_any B f 0 N lat tot C w1 hW1 (by omega) (by omega) N0 N1 hl0).mono ?_
  rintro e w2 ⟨rfl, hW2, hb2⟩
  have r2 : w2.rangeAt w.heap.size 0 (arrL C) := range_below hb2 (by omega) r1
  have hbw2 : Below w.heap.size w w2 := hbw1.trans (hb2.mono (by omega))
  have hs2 := hb2.size
  have hB2 := hW2.lt
  clear hb2 hbw1 r1 hW1
  have h0 : slF 0 N = 0 := slF_zero N N0 N1
  have e1 : stepsF lat (slF 0 N) = 0 := if_neg (by omega)
  have e2 : latF lat (slF 0 N) = lat := if_neg (by omega)
  have hSL : IntKind.i64.wrap ((satS N N).tdiv 10000000) = 0 := h0
  rw [e1, e2] at hW2
  replace hW2 : Win w2 B f N C lat tot := hW2
  clear e1 e2 h0
  go_wp2_with fail
  refine (satSub_any N N _ N0 N1 N0 N1).mono ?_
  rintro e w' ⟨rfl, rfl⟩
  obtain ⟨p0, p1⟩ := satS_bd N N
  go_wp2_with (first | (refine wl_alloc23 ha rfl rfl ?_; simp only [Act.put, List.setIfInBounds_toArray, List.set_cons_zero, List.set_cons_succ])
                     | (refine wl_load23 rfl _ rfl rfl (by assumption) ?_; simp only [Act.put, List.setIfInBounds_toArray, List.set_cons_zero, List.set_cons_succ])
                     | (refine wl_store23 rfl _ _ rfl rfl rfl hZ ?_; simp only [Act.put]))
  have hS0 := fin_start hW2 hbw2 (by omega : w.heap.size ≤ B)
  have heq := eq_arr C
  clear hW2 hbw2 r2 hSL
  go_region_held3 (fun w' => w'.rangeAt w2.heap.size 0 (arrL C) ∧ Win w' B f N C lat tot ∧ w2.heap.size < w'.heap.size ∧ Below w.heap.size w w' ∧ w.heap.size ≤ B ∧ w.heap.size ≤ w2.heap.size)
      (first | with_reducible exact hS0 | with_reducible assumption | with_reducible exact fin_keep hb8 (by assumption) | with_reducible exact fin_keep hb11 (by assumption))
      (first | (go_at_call 8; refine (counts_any B f N lat tot C _ (fin_win (by assumption))).mono ?_; rintro e w' ⟨rfl, hb8⟩)
             | (go_at_call 9; refine (total_any B tot _ (fin_win (by assumption)).total).mono ?_; rintro e w' ⟨rfl, hw'⟩; subst hw')
             | (go_at_call 10; refine (latest_any B lat _ (fin_win (by assumption)).latest).mono ?_; rintro e w' ⟨rfl, hw'⟩; subst hw')
             | (go_at_call 11; refine (start_any B N _ N0 N1 (fin_win (by assumption)).ns (fin_win (by assumption)).se (fin_win (by assumption)).loc).mono ?_; rintro e w' ⟨rfl, hb11⟩)
             | (go_at_call 13; refine (most_any B f _ (fin_win (by assumption)).most).mono ?_; rintro e w' ⟨rfl, hw'⟩; subst hw')
             | (go_at_call 12; refine (same_any f _).mono ?_; rintro e w' ⟨rfl, hw'⟩; subst hw'))
  rename_i hh
  go_wp2_with fail
  go_ret
  exact ⟨rfl, hh.2.2.2.1⟩

set_option maxHeartbeats 400000 in
theorem top_neg (f : Nat) (T N lat tot : Int) (C : Nat → Int) (w : World) (hl0 : lat < 0) :
    Calls Try.prog 3 #[.float .f64 f, .int .i64 T, .agg (arrL C).toArray, .int .i64 lat, .int .i64 tot, .int .i64 N] w fun e w' => e = .returned (.bool true) ∧ Below w.heap.size w w' := by
  go_enter Try.func3, Try.ntmps3
  go_wp2_with fail
  go_ret
  exact ⟨rfl, (Below.refl _ _).alloc (Nat.le_refl _) _⟩

end Go.Proofs.Qxb6625826a
