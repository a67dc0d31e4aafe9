import Derived.Test.Qxb6625826aTop
import Derived.Test.Qxb6625826aLaw
namespace Go.Proofs.Qxb6625826a
open Go.RowKit
set_option linter.unusedVariables false

/-- Block X holds the counts. -/
abbrev Row (w : World) (X : Nat) (C : Nat → Int) : Prop := w.rowIs X 23 1001 (fun j => .int .i64 (C j))
theorem row_new (C : Nat → Int) (w : World) : Row (w.alloc (.cells (arrL C).toArray 23)) w.heap.size C := by
  have h := World.rowIs_alloc w (arrL C).toArray 23 (fun j => .int .i64 (C j)) (fun i hi => by
    simp only [List.size_toArray, arrL_len] at hi
    simpa using arrL_get (C := C) hi)
  have e : (arrL C).toArray.size = 1001 := by simp [arrL_len]
  rw [e] at h
  exact h
theorem row_range {w : World} {X : Nat} {C : Nat → Int} (h : Row w X C) : w.rangeAt X 0 (arrL C) := fun j v hv => by
  obtain ⟨h1, rfl⟩ := arrL_inv hv
  rw [Nat.zero_add]
  exact World.rowIs.cell h h1
/-- One round that empties. -/
theorem row_clear {w : World} {X k : Nat} {C : Nat → Int} {SL gap : Int} (h : Row w X (dF C SL gap k)) (hg : (SL - k) % 1001 < gap) : Row (w.setCell ⟨X, k, none⟩ (.int .i64 0)) X (dF C SL gap (k + 1)) := by
  refine (World.rowIs.set h k _).congr fun j hj => ?_
  unfold dF
  by_cases e : j = k
  · subst e
    rw [if_pos rfl, if_pos ⟨by omega, hg⟩]
  · rw [if_neg e]
    by_cases h2 : j < k ∧ (SL - j) % 1001 < gap
    · rw [if_pos h2, if_pos ⟨by omega, h2.2⟩]
    · rw [if_neg h2, if_neg (fun h3 => h2 ⟨by omega, h3.2⟩)]
theorem row_leave {w : World} {X k : Nat} {C : Nat → Int} {SL gap : Int} (h : Row w X (dF C SL gap k)) (hg : ¬ (SL - k) % 1001 < gap) : Row w X (dF C SL gap (k + 1)) := by
  refine World.rowIs.congr h fun j hj => ?_
  unfold dF
  by_cases h2 : j < k ∧ (SL - j) % 1001 < gap
  · rw [if_pos h2, if_pos ⟨by omega, h2.2⟩]
  · rw [if_neg h2, if_neg (fun h3 => ?_)]
    by_cases e : j = k
    · subst e; exact hg h3.2
    · exact h2 ⟨by omega, h3.2⟩
theorem w_clear {C : Nat → Int} {tot SL gap : Int} {k : Nat} (hg : (SL - k) % 1001 < gap) : wF C tot SL gap (k + 1) = wrap64 (wF C tot SL gap k - C k) := if_pos hg
theorem w_leave {C : Nat → Int} {tot SL gap : Int} {k : Nat} (hg : ¬ (SL - k) % 1001 < gap) : wF C tot SL gap (k + 1) = wF C tot SL gap k := if_neg hg
theorem tmod_is (a : Int) : -1001 < a.tmod 1001 ∧ a.tmod 1001 < 1001 ∧ (a.tmod 1001 < 0 → a % 1001 = a.tmod 1001 + 1001) ∧ (0 ≤ a.tmod 1001 → a % 1001 = a.tmod 1001) := by
  rcases Int.lt_or_le a 0 with hn | hn
  · have h2 : a.tmod 1001 = -((-a) % 1001) := by
      rw [← Int.tmod_eq_emod_of_nonneg (by omega), Int.neg_tmod, Int.neg_neg]
    omega
  · have h2 : a.tmod 1001 = a % 1001 := Int.tmod_eq_emod_of_nonneg hn
    omega

/-- What stands between two rounds. -/
def Mid (w : World) (X1 B f : Nat) (T SL tot2 : Int) (C D E : Nat → Int) (wr : World) : Prop := Row wr X1 E ∧ Row wr w.heap.size C ∧ Win wr B f T D SL tot2 ∧ Below w.heap.size w wr ∧ w.heap.size < B ∧ B < X1
theorem mid_clear {w wr : World} {X1 B f k : Nat} {T SL gap tot2 : Int} {C D : Nat → Int} (h : Mid w X1 B f T SL tot2 C D (dF C SL gap k) wr) (hg : (SL - k) % 1001 < gap) :
    Mid w X1 B f T SL tot2 C D (dF C SL gap (k + 1)) (wr.setCell ⟨X1, k, none⟩ (.int .i64 0)) := by
  obtain ⟨h1, h2, h3, h4, h5, h6⟩ := h
  exact ⟨row_clear h1 hg, h2.setOther (by show w.heap.size ≠ X1; omega) _, World.rowIs.setOther h3 (by show B ≠ X1; omega) _, h4.setCell (by show w.heap.size ≤ X1; omega) _, h5, h6⟩
theorem mid_leave {w wr : World} {X1 B f k : Nat} {T SL gap tot2 : Int} {C D : Nat → Int} (h : Mid w X1 B f T SL tot2 C D (dF C SL gap k) wr) (hg : ¬ (SL - k) % 1001 < gap) :
    Mid w X1 B f T SL tot2 C D (dF C SL gap (k + 1)) wr := ⟨row_leave h.1 hg, h.2⟩

theorem mid_fin {w wr : World} {X1 B f : Nat} {T SL tot2 : Int} {C D E : Nat → Int} (h : Mid w X1 B f T SL tot2 C D E wr) (he : ∀ i, i < 1001 → D i = E i) :
    wr.drew.rangeAt X1 0 (arrL D) ∧ Win wr.drew B f T D SL tot2 ∧ X1 < wr.drew.heap.size ∧ Below w.heap.size w wr.drew ∧ w.heap.size ≤ B ∧ w.heap.size ≤ X1 := by
  obtain ⟨h1, h2, h3, h4, h5, h6⟩ := h
  rw [arrL_congr he]
  exact ⟨(World.rangeAt_drew _ _ _ _).2 (row_range h1), World.rowIs.drew h3, World.rowIs.lt h1, h4.drew, by omega, by omega⟩

set_option maxRecDepth 20000 in
set_option maxHeartbeats 400000 in
theorem top_new (f : Nat) (T N lat tot : Int) (C : Nat → Int) (w : World) (T0 : -9223372036854775808 ≤ T) (T1 : T ≤ 9223372036854775807) (N0 : -9223372036854775808 ≤ N) (N1 : N ≤ 9223372036854775807) (hl0 : 0 ≤ lat)
    (hT : T ≠ 0) (hle : lat < slF T N) (ht : wrap64 tot = tot) :
    Calls Try.prog 3 #[.float .f64 f, .int .i64 T, .agg (arrL C).toArray, .int .i64 lat, .int .i64 tot, .int .i64 N] w fun e w' => e = .returned (.bool true) ∧ Below w.heap.size w w' := by
  obtain ⟨Z, hZ, ha⟩ := alloc23
  have u23 := Try.underlying23
  have hsz := size23L C
  have hlen := arrL_len C
  have hone := arrL_one C
  have hl := range_new C w
  go_enter Try.func3, Try.ntmps3
  go_wp2_with (first | (refine wl_alloc23 ha rfl rfl ?_; simp only [Act.put, List.setIfInBounds_toArray, List.set_cons_zero, List.set_cons_succ])
                     | (refine wl_load23 rfl _ rfl rfl (by assumption) ?_; simp only [Act.put, List.setIfInBounds_toArray, List.set_cons_zero, List.set_cons_succ])
                     | (refine wl_store23 rfl _ _ rfl rfl rfl hZ ?_; simp only [Act.put]))
  refine (new_any f T lat tot C _ T0 T1).mono ?_
  rintro e w1 ⟨B, rfl, hB1, hW1, hb1⟩
  have r1 : Row w1 w.heap.size C := (row_new C w).of_block (hb1.block _ (by simp))
  have hs1 := hb1.size
  rw [World.size_alloc] at hB1 hs1
  have hbw1 : Below w.heap.size w w1 := ((Below.refl _ _).alloc (Nat.le_refl _) _).trans (hb1.mono (by simp))
  clear hb1 hl
  go_wp2_with fail
  refine (zzadv_any B f T N lat tot C w1 hW1 T0 T1 N0 N1 hl0).mono ?_
  rintro e w2 ⟨rfl, hW2, hb2⟩
  have r2 : Row w2 w.heap.size C := r1.of_block (hb2.block _ (by omega))
  have hbw2 : Below w.heap.size w w2 := hbw1.trans (hb2.mono (by omega))
  have hs2 := hb2.size
  have hB2 := hW2.lt
  clear hb2 hbw1 r1 hW1
  have e2 : latF lat (slF T N) = slF T N := if_pos hle
  have e3 : stF T N = T := if_neg hT
  have hSL : IntKind.i64.wrap ((satS N T).tdiv 10000000) = slF T N := by unfold slF; rw [e3]
  have hcl := clr_is C lat (slF T N) hl0 hle
  rw [tot_is C tot lat _ hl0 hle ht, e2, e3] at hW2
  obtain ⟨D, hD⟩ : ∃ D, D = clrF C (loF lat (slF T N)) (stepsF lat (slF T N)) := ⟨_, rfl⟩
  rw [← hD] at hcl hW2
  obtain ⟨q0, q1⟩ := slF_bd T N
  obtain ⟨SL, hs⟩ : ∃ SL, SL = slF T N := ⟨_, rfl⟩
  rw [← hs] at hSL hle q0 q1 hcl hW2
  have hcl2 : Hid (∀ i, i < 1001 → D i = dF C SL (SL - lat) 1001 i) := hcl
  clear e2 e3 hs hD hcl
  go_wp2_with fail
  refine (satSub_any N T _ N0 N1 T0 T1).mono ?_
  rintro e w' ⟨rfl, rfl⟩
  obtain ⟨p0, p1⟩ := satS_bd N T
  have hl := row_range r2
  go_wp2_with (first | (refine wl_alloc23 ha rfl rfl ?_; simp only [Act.put, List.setIfInBounds_toArray, List.set_cons_zero, List.set_cons_succ])
                     | (refine wl_load23 rfl _ rfl rfl (by assumption) ?_; simp only [Act.put, List.setIfInBounds_toArray, List.set_cons_zero, List.set_cons_succ])
                     | (refine wl_store23 rfl _ _ rfl rfl rfl hZ ?_; simp only [Act.put]))
  have m0 : Mid w w2.heap.size B f T SL (wF C tot SL (SL - lat) 1001) C D (dF C SL (SL - lat) 0) (w2.alloc (.cells (arrL C).toArray 23)) :=
    ⟨(row_new C w2).congr fun j hj => by simp [dF], r2.alloc _, World.rowIs.alloc hW2 _, hbw2.trans ((Below.refl _ _).alloc (by omega) _), by omega, hB2⟩
  clear hW2 r2 hbw2 hl hSL
  go_loopw [17, 20] (fun t i wr => ∃ k : Nat, i = .int .i64 (k : Int) ∧ k ≤ 1001 ∧ t = .int .i64 (wF C tot SL (SL - lat) k) ∧ Mid w w2.heap.size B f T SL (wF C tot SL (SL - lat) 1001) C D (dF C SL (SL - lat) k) wr) (fun _ i _ => (1001 - intOf i).toNat)
  case atStart => exact ⟨0, rfl, by omega, rfl, m0⟩
  case round =>
    obtain ⟨k, rfl, hk, rfl, hm⟩ := hrel
    by_cases hlt : (k : Int) < 1001
    · obtain ⟨t0, t1, t2, t3⟩ := tmod_is (SL - k)
      have hl3 := World.rowIs.cell hm.2.1 (i := k) (by omega)
      have hs3 := World.rowIs.cell hm.1 (i := k) (by omega)
      have hf3 := World.rowIs.frozen hm.1 k
      by_cases hg : (SL - k) % 1001 < SL - lat
      · have hm2 := mid_clear hm hg
        have hw2 := w_clear (C := C) (tot := tot) hg
        by_cases hr : (SL - k).tmod 1001 < 0
        · have hrg : (SL - k).tmod 1001 + 1001 < SL - lat := by have := t2 hr; omega
          clear t2 t3 hg
          go_wp2_with fail
          exact ⟨⟨k + 1, congrArg (Value.int .i64) (by omega), by omega, congrArg (Value.int .i64) hw2.symm, hm2⟩, by simp [intOf]; omega⟩
        · have hrg : (SL - k).tmod 1001 < SL - lat := by have := t3 (by omega); omega
          clear t2 t3 hg
          go_wp2_with fail
          exact ⟨⟨k + 1, congrArg (Value.int .i64) (by omega), by omega, congrArg (Value.int .i64) hw2.symm, hm2⟩, by simp [intOf]; omega⟩
      · have hm2 := mid_leave hm hg
        have hw2 := w_leave (C := C) (tot := tot) hg
        by_cases hr : (SL - k).tmod 1001 < 0
        · have hrg : ¬ (SL - k).tmod 1001 + 1001 < SL - lat := by have := t2 hr; omega
          clear t2 t3 hg
          go_wp2_with fail
          exact ⟨⟨k + 1, congrArg (Value.int .i64) (by omega), by omega, congrArg (Value.int .i64) hw2.symm, hm2⟩, by simp [intOf]; omega⟩
        · have hrg : ¬ (SL - k).tmod 1001 < SL - lat := by have := t3 (by omega); omega
          clear t2 t3 hg
          go_wp2_with fail
          exact ⟨⟨k + 1, congrArg (Value.int .i64) (by omega), by omega, congrArg (Value.int .i64) hw2.symm, hm2⟩, by simp [intOf]; omega⟩
    · have hk2 : k = 1001 := by omega
      subst hk2
      go_wp2_with fail
      have hS0 := mid_fin hm hcl2.out
      have heq := eq_arr D
      have hszD := size23L D
      have hlenD := arrL_len D
      have honeD := arrL_one D
      clear hm m0 hcl2
      obtain ⟨TT, hTT⟩ : ∃ TT, TT = wF C tot SL (SL - lat) 1001 := ⟨_, rfl⟩
      rw [← hTT] at hS0 ⊢
      clear hTT
      go_region_held3 (fun w' => w'.rangeAt w2.heap.size 0 (arrL D) ∧ Win w' B f T D SL TT ∧ w2.heap.size < w'.heap.size ∧ Below w.heap.size w w' ∧ w.heap.size ≤ B ∧ w.heap.size ≤ w2.heap.size)
          (first | with_reducible exact hS0 | with_reducible assumption | with_reducible exact fin_keep hb8 (by assumption) | with_reducible exact fin_keep hb11 (by assumption))
          (first | (go_at_call 8; refine (counts_any B f T SL TT D _ (fin_win (by assumption))).mono ?_; rintro e w' ⟨rfl, hb8⟩)
                 | (go_at_call 9; refine (total_any B TT _ (fin_win (by assumption)).total).mono ?_; rintro e w' ⟨rfl, hw'⟩; subst hw')
                 | (go_at_call 10; refine (latest_any B SL _ (fin_win (by assumption)).latest).mono ?_; rintro e w' ⟨rfl, hw'⟩; subst hw')
                 | (go_at_call 11; refine (start_any B T _ T0 T1 (fin_win (by assumption)).ns (fin_win (by assumption)).se (fin_win (by assumption)).loc).mono ?_; rintro e w' ⟨rfl, hb11⟩)
                 | (go_at_call 13; refine (most_any B f _ (fin_win (by assumption)).most).mono ?_; rintro e w' ⟨rfl, hw'⟩; subst hw')
                 | (go_at_call 12; refine (same_any f _).mono ?_; rintro e w' ⟨rfl, hw'⟩; subst hw'))
      rename_i hh
      go_wp2_with fail
      go_ret
      exact ⟨rfl, hh.2.2.2.1⟩
end Go.Proofs.Qxb6625826a
