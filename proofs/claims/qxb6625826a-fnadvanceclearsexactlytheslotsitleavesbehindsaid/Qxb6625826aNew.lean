import Derived.Test.Qxb6625826aArr
namespace Go.Proofs.Qxb6625826a
open Go.RowKit
set_option linter.unusedVariables false

theorem zero43 : (Try.prog.info? 43).map (fun i => i.zero.map (fun z => z.cells.size)) = some (some 1007) := by kernel_rfl
theorem places43 : (match Try.prog.underlying 43 with | some (.struct fs) => fs.toList.mapM (fun f => (Try.prog.info? f.type).map fun i => (f.offset, i.size)) | _ => none) = some [(0, 1), (1, 3), (4, 1001), (1005, 1), (1006, 1)] := by kernel_rfl
theorem struct43 : ∃ fs, Try.prog.underlying 43 = some (.struct fs) := ⟨_, Try.underlying43⟩

theorem build43 (f : Nat) (T lat tot : Int) (C : Nat → Int) : ∃ R : Array Value, R.size = 1007 ∧ (∀ i, i < 1007 → R[i]? = some (winF f T C lat tot i)) ∧
    ∀ w, (Instr.build 43 #[(0, .float .f64 f), (1, .agg #[.int .u64 (nsO T), .int .i64 (seO T), .pointer none]), (2, .agg (arrL C).toArray), (3, .int .i64 lat), (4, .int .i64 tot)]).run Try.prog w = .ok (.agg R) w := by
  obtain ⟨it, hit, hz⟩ := Option.map_eq_some_iff.1 zero43
  obtain ⟨z, hzz, hzs⟩ := Option.map_eq_some_iff.1 hz
  obtain ⟨Z, hZ⟩ : ∃ Z, z.cells = Z := ⟨_, rfl⟩
  rw [hZ] at hzs
  obtain ⟨fs, hfs⟩ := struct43
  have hpl := places43
  rw [hfs] at hpl
  simp only at hpl
  have sA : (arrL C).toArray.size = 1001 := by simp [arrL_len]
  obtain ⟨s0, g0⟩ := putAt_spec 0 #[.float .f64 f] Z (by simp; omega)
  obtain ⟨s1, g1⟩ := putAt_spec 1 #[.int .u64 (nsO T), .int .i64 (seO T), .pointer none] (putAt 0 #[.float .f64 f] Z) (by simp; omega)
  obtain ⟨s2, g2⟩ := putAt_spec 4 (arrL C).toArray (putAt 1 #[.int .u64 (nsO T), .int .i64 (seO T), .pointer none] (putAt 0 #[.float .f64 f] Z)) (by rw [sA]; omega)
  obtain ⟨s3, g3⟩ := putAt_spec 1005 #[.int .i64 lat] (putAt 4 (arrL C).toArray (putAt 1 #[.int .u64 (nsO T), .int .i64 (seO T), .pointer none] (putAt 0 #[.float .f64 f] Z))) (by simp; omega)
  obtain ⟨s4, g4⟩ := putAt_spec 1006 #[.int .i64 tot] (putAt 1005 #[.int .i64 lat] (putAt 4 (arrL C).toArray (putAt 1 #[.int .u64 (nsO T), .int .i64 (seO T), .pointer none] (putAt 0 #[.float .f64 f] Z)))) (by simp; omega)
  refine ⟨_, by rw [s4, s3, s2, s1, s0]; exact hzs, fun i hi => ?_, fun w => ?_⟩
  rotate_left
  · refine run_build w 43 _ (putAt 1006 #[.int .i64 tot] (putAt 1005 #[.int .i64 lat] (putAt 4 (arrL C).toArray (putAt 1 #[.int .u64 (nsO T), .int .i64 (seO T), .pointer none] (putAt 0 #[.float .f64 f] Z))))) ?_
    unfold Program.built
    rw [hit, hfs]
    simp only [hzz, hpl, hZ]
    refine Eq.trans (fill_cons (off := 0) ?_ ?_) ?_
    · rfl
    · show 0 + 1 ≤ Z.size; omega
    refine Eq.trans (fill_cons (off := 1) ?_ ?_) ?_
    · rfl
    · show 1 + 3 ≤ (putAt 0 #[.float .f64 f] Z).size; omega
    refine Eq.trans (fill_cons (off := 4) ?_ ?_) ?_
    · show _ = some (4, (arrL C).toArray.size); rw [sA]; rfl
    · show 4 + (arrL C).toArray.size ≤ (putAt 1 #[.int .u64 (nsO T), .int .i64 (seO T), .pointer none] (putAt 0 #[.float .f64 f] Z)).size; rw [sA]; omega
    refine Eq.trans (fill_cons (off := 1005) ?_ ?_) ?_
    · rfl
    · show 1005 + 1 ≤ (putAt 4 (arrL C).toArray (putAt 1 #[.int .u64 (nsO T), .int .i64 (seO T), .pointer none] (putAt 0 #[.float .f64 f] Z))).size; omega
    refine Eq.trans (fill_cons (off := 1006) ?_ ?_) ?_
    · rfl
    · show 1006 + 1 ≤ (putAt 1005 #[.int .i64 lat] (putAt 4 (arrL C).toArray (putAt 1 #[.int .u64 (nsO T), .int .i64 (seO T), .pointer none] (putAt 0 #[.float .f64 f] Z)))).size; omega
    rfl
  · rw [g4 i, g3 i, g2 i, g1 i, g0 i, sA]
    unfold winF
    by_cases h1006 : i = 1006
    · subst h1006; rfl
    rw [if_neg (by simp; omega)]
    by_cases h1005 : i = 1005
    · subst h1005; rfl
    rw [if_neg (by simp; omega)]
    by_cases h4 : 4 ≤ i
    · rw [if_pos (by omega), if_neg (by omega), if_neg (by omega), if_neg (by omega), if_neg (by omega), if_pos (by omega)]
      simpa using arrL_get (C := C) (i := i - 4) (by omega)
    · have h5 : i = 0 ∨ i = 1 ∨ i = 2 ∨ i = 3 := by omega
      rcases h5 with rfl | rfl | rfl | rfl <;> rfl

theorem size23 : (Try.prog.info? 23).map (·.size) = some 1001 := by kernel_rfl
theorem size23L (C : Nat → Int) : (Try.prog.info? 23).map (·.size) = some (arrL C).length := by rw [arrL_len]; exact size23

theorem add_zero (T : Int) (w : World) (T0 : -9223372036854775808 ≤ T) (T1 : T ≤ 9223372036854775807) :
    Calls Try.prog 15 #[.agg #[.int .u64 0, .int .i64 0, .pointer none], .int .i64 T] w fun e w' => e = .returned (.agg #[.int .u64 (nsO T), .int .i64 (seO T), .pointer none]) ∧ Below w.heap.size w w' := by
  have h := add_any 0 T w (by omega) (by omega) T0 T1
  rw [Int.zero_add] at h
  exact h

theorem new_keep {w W1 w2 : World} {X : Nat} {L : List Value} (hb : Below W1.heap.size W1 w2) (h : W1.rangeAt X 0 L ∧ X < W1.heap.size ∧ Below X w W1) : w2.rangeAt X 0 L ∧ X < w2.heap.size ∧ Below X w w2 :=
  ⟨fun j v hv => (hb.cell (p := ⟨X, 0 + j, none⟩) h.2.1).trans (h.1 j v hv), Nat.lt_of_lt_of_le h.2.1 hb.size, h.2.2.trans (hb.mono (Nat.le_of_lt h.2.1))⟩
theorem new_alloc {w W1 : World} {X : Nat} {L : List Value} (h : W1.rangeAt X 0 L ∧ X < W1.heap.size ∧ Below X w W1) (o : Obj) : (W1.alloc o).rangeAt X 0 L ∧ X < (W1.alloc o).heap.size ∧ Below X w (W1.alloc o) :=
  new_keep ((Below.refl _ _).alloc (Nat.le_refl _) o) h
theorem new_start (C : Nat → Int) (w : World) : (w.alloc (.cells (arrL C).toArray 23)).drew.rangeAt w.heap.size 0 (arrL C) ∧ w.heap.size < (w.alloc (.cells (arrL C).toArray 23)).drew.heap.size ∧ Below w.heap.size w (w.alloc (.cells (arrL C).toArray 23)).drew := by
  refine ⟨fun j v hv => ?_, ?_, ((Below.refl _ _).alloc (Nat.le_refl _) _).drew⟩
  · show (w.alloc (.cells (arrL C).toArray 23)).cell? _ = _
    rw [cell_of_row _ _ _ _ _ _ (heap_alloc_new w _), Nat.zero_add]
    simpa using hv
  · show w.heap.size < (w.alloc _).heap.size
    rw [World.size_alloc]; omega

theorem build39 (w : World) : (Instr.build 39 #[]).run Try.prog w = .ok (.agg #[.int .u64 0, .int .i64 0, .pointer none]) w := by
  refine run_build w 39 _ _ ?_
  kernel_rfl
attribute [-go_sem] Instr.build Instr.fill
set_option maxRecDepth 20000 in
set_option maxHeartbeats 400000 in
theorem new_any (f : Nat) (T lat tot : Int) (C : Nat → Int) (w : World) (T0 : -9223372036854775808 ≤ T) (T1 : T ≤ 9223372036854775807) :
    Calls Try.prog 5 #[.float .f64 f, .int .i64 T, .agg (arrL C).toArray, .int .i64 lat, .int .i64 tot] w fun e w' => ∃ B : Nat, e = .returned (.pointer (some ⟨B, 0, none⟩)) ∧ w.heap.size ≤ B ∧ Win w' B f T C lat tot ∧ Below w.heap.size w w' := by
  obtain ⟨R, R0, R1, hbuild⟩ := build43 f T lat tot C
  have u23 := Try.underlying23
  have hb39 := build39
  have hsz := size23L C
  have hlen := arrL_len C
  have hone := arrL_one C
  go_enter Try.func5, Try.ntmps5
  go_wp2_with fail
  have hS0 := new_start C w
  go_region_held3 (fun w' => w'.rangeAt w.heap.size 0 (arrL C) ∧ w.heap.size < w'.heap.size ∧ Below w.heap.size w w')
      (first | with_reducible exact hS0 | with_reducible exact new_alloc (by assumption) _ | with_reducible exact new_keep hb15 (by assumption))
      (first | (go_at_call 15; refine (add_zero T _ T0 T1).mono ?_; rintro e w' ⟨rfl, hb15⟩))
  go_wp2_with fail
  rename_i hh
  go_ret
  refine ⟨_, rfl, ?_, ?_, hh.2.2⟩
  · have h1 := hb15.size
    rw [World.size_drew, World.size_alloc] at h1
    omega
  · have h2 := World.rowIs_alloc w' R 43 (winF f T C lat tot) (fun i hi => R1 i (by omega))
    rw [R0] at h2
    exact h2
end Go.Proofs.Qxb6625826a
