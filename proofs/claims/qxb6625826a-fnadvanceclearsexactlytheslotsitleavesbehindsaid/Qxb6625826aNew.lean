import Derived.Test.Qxb6625826aArr
namespace Go.Proofs.Qxb6625826a
open Go.RowKit
set_option linter.unusedVariables false

theorem zero43 : (Try.prog.info? 43).map (fun i => i.zero.map (fun z => z.cells.size)) = some (some 1007) := by kernel_rfl
/-- The zero window: its cells. -/
theorem zero_at : ∃ Z : Array Value, Z.size = 1007 ∧ ∀ w, (zeroValue 43).run Try.prog w = .ok (.agg Z) w := by
  obtain ⟨it, hit, hz⟩ := Option.map_eq_some_iff.1 zero43
  obtain ⟨z, hzz, hzs⟩ := Option.map_eq_some_iff.1 hz
  cases z with
  | agg Z => exact ⟨Z, hzs, fun w => by simp [zeroValue, typeInfo, hit, hzz]⟩
  | _ => simp [Value.cells] at hzs

theorem fold_size (off : Nat) : ∀ (l : List (Value × Nat)) (A : Array Value), (List.foldl (fun cs x => cs.setIfInBounds (off + x.snd) x.fst) A l).size = A.size
  | [], A => rfl
  | x :: l, A => by rw [List.foldl_cons, fold_size off l]; simp

/-- The window's cells as the walk builds them. -/
theorem new_cells (Z : Array Value) (hZ : Z.size = 1007) (f : Nat) (T lat tot : Int) (C : Nat → Int) (i : Nat) (hi : i < 1007) :
    (((List.foldl (fun cs x => cs.setIfInBounds (4 + x.snd) x.fst) ((((Z.setIfInBounds 0 (.float .f64 f)).setIfInBounds 1 (.int .u64 (nsO T))).setIfInBounds 2 (.int .i64 (seO T))).setIfInBounds 3 (.pointer none)) (arrL C).zipIdx).setIfInBounds 1005 (.int .i64 lat)).setIfInBounds 1006 (.int .i64 tot))[i]? = some (winF f T C lat tot i) := by
  obtain ⟨h1, h2⟩ := putAt_list 4 (arrL C) 0 ((((Z.setIfInBounds 0 (.float .f64 f)).setIfInBounds 1 (.int .u64 (nsO T))).setIfInBounds 2 (.int .i64 (seO T))).setIfInBounds 3 (.pointer none)) (by simp [arrL_len]; omega)
  have e : (List.foldl (fun cs x => cs.setIfInBounds (4 + x.snd) x.fst) ((((Z.setIfInBounds 0 (.float .f64 f)).setIfInBounds 1 (.int .u64 (nsO T))).setIfInBounds 2 (.int .i64 (seO T))).setIfInBounds 3 (.pointer none)) (arrL C).zipIdx) = (((arrL C).zipIdx 0).foldl (fun cs (c, j) => cs.setIfInBounds (4 + j) c) ((((Z.setIfInBounds 0 (.float .f64 f)).setIfInBounds 1 (.int .u64 (nsO T))).setIfInBounds 2 (.int .i64 (seO T))).setIfInBounds 3 (.pointer none))) := rfl
  rw [e, Array.getElem?_setIfInBounds, Array.getElem?_setIfInBounds, h2 i, arrL_len]
  simp only [Array.size_setIfInBounds, h1, hZ]
  unfold winF
  by_cases h1006 : i = 1006
  · subst h1006; rfl
  rw [if_neg (fun h => h1006 h.symm)]
  by_cases h1005 : i = 1005
  · subst h1005; rfl
  rw [if_neg (fun h => h1005 h.symm)]
  by_cases h4 : 4 ≤ i
  · rw [if_pos (by omega), if_neg (by omega), if_neg (by omega), if_neg (by omega), if_neg (by omega), if_pos (by omega)]
    exact arrL_get (C := C) (i := i - 4) (by omega)
  · have h5 : i = 0 ∨ i = 1 ∨ i = 2 ∨ i = 3 := by omega
    rw [if_neg (by omega)]
    rcases h5 with rfl | rfl | rfl | rfl <;> simp [hZ]

theorem size23 : (Try.prog.info? 23).map (·.size) = some 1001 := by kernel_rfl
theorem size23L (C : Nat → Int) : (Try.prog.info? 23).map (·.size) = some (arrL C).length := by rw [arrL_len]; exact size23

theorem add_zero (T : Int) (w : World) (T0 : -9223372036854775808 ≤ T) (T1 : T ≤ 9223372036854775807) :
    Calls Try.prog 15 #[.agg #[.int .u64 0, .int .i64 0, .pointer none], .int .i64 T] w fun e w' => e = .returned (.agg #[.int .u64 (nsO T), .int .i64 (seO T), .pointer none]) ∧ Below w.heap.size w w' := by
  have h := add_any 0 T w (by omega) (by omega) T0 T1
  rw [Int.zero_add] at h
  exact h

theorem new_keep {w W1 w2 : World} {X : Nat} {L : List Value} (hb : Below W1.heap.size W1 w2) (h : W1.rangeAt X 0 L ∧ X < W1.heap.size ∧ Below X w W1) : w2.rangeAt X 0 L ∧ X < w2.heap.size ∧ Below X w w2 :=
  ⟨fun j v hv => (hb.cell (p := ⟨X, 0 + j, none⟩) h.2.1).trans (h.1 j v hv), Nat.lt_of_lt_of_le h.2.1 hb.size, h.2.2.trans (hb.mono (Nat.le_of_lt h.2.1))⟩
theorem new_alloc {w W1 : World} {X : Nat} {L : List Value} (h : W1.rangeAt X 0 L ∧ X < W1.heap.size ∧ Below X w W1) (o : Obj) : (W1.alloc o).rangeAt X 0 L ∧ X < (W1.alloc o).heap.size ∧ Below X w (W1.alloc o) :=
  new_keep ((Below.refl _ _).alloc (Nat.le_refl _) o) h
theorem new_start (C : Nat → Int) (w : World) : (w.alloc (.cells (arrL C).toArray 23)).drew.rangeAt w.heap.size 0 (arrL C) ∧ w.heap.size < (w.alloc (.cells (arrL C).toArray 23)).drew.heap.size ∧ Below w.heap.size w (w.alloc (.cells (arrL C).toArray 23)).drew := by
  refine ⟨fun j v hv => ?_, ?_, ((Below.refl _ _).alloc (Nat.le_refl _) _).drew⟩
  · show (w.alloc (.cells (arrL C).toArray 23)).cell? _ = _
    rw [cell_of_row _ _ _ _ _ _ (heap_alloc_new w _), Nat.zero_add]
    simpa using hv
  · show w.heap.size < (w.alloc _).heap.size
    rw [World.size_alloc]; omega

set_option maxRecDepth 20000 in
set_option maxHeartbeats 400000 in
theorem new_any (f : Nat) (T lat tot : Int) (C : Nat → Int) (w : World) (T0 : -9223372036854775808 ≤ T) (T1 : T ≤ 9223372036854775807) :
    Calls Try.prog 5 #[.float .f64 f, .int .i64 T, .agg (arrL C).toArray, .int .i64 lat, .int .i64 tot] w fun e w' => ∃ B : Nat, e = .returned (.pointer (some ⟨B, 0, none⟩)) ∧ w.heap.size ≤ B ∧ Win w' B f T C lat tot ∧ Below w.heap.size w w' := by
  obtain ⟨Z, hZ, hz43⟩ := zero_at
  have hZn : ¬ Z = #[] := fun h => by rw [h] at hZ; simp at hZ
  have hfs := fun A : Array Value => fold_size 4 (arrL C).zipIdx A
  have u23 := Try.underlying23
  have hsz := size23L C
  have hlen := arrL_len C
  have hone := arrL_one C
  go_enter Try.func5, Try.ntmps5
  go_wp2_with fail
  have hS0 := new_start C w
  go_region_held3 (fun w' => w'.rangeAt w.heap.size 0 (arrL C) ∧ w.heap.size < w'.heap.size ∧ Below w.heap.size w w')
      (first | with_reducible exact hS0 | with_reducible exact new_alloc (by assumption) _ | with_reducible exact new_keep hb15 (by assumption))
      (first | (go_at_call 15; refine (add_zero T _ T0 T1).mono ?_; rintro e w' ⟨rfl, hb15⟩))
  go_wp2_with fail
  rename_i hh
  go_ret
  refine ⟨_, rfl, ?_, ?_, hh.2.2⟩
  · have h1 := hb15.size
    rw [World.size_drew, World.size_alloc] at h1
    omega
  · have hE : (((List.foldl (fun cs x => cs.setIfInBounds (4 + x.snd) x.fst) ((((Z.setIfInBounds 0 (.float .f64 f)).setIfInBounds 1 (.int .u64 (nsO T))).setIfInBounds 2 (.int .i64 (seO T))).setIfInBounds 3 (.pointer none)) (arrL C).zipIdx).setIfInBounds 1005 (.int .i64 lat)).setIfInBounds 1006 (.int .i64 tot)).size = 1007 := by
      simp only [Array.size_setIfInBounds, hfs, hZ]
    have h2 := World.rowIs_alloc w' _ 43 (winF f T C lat tot) (fun i hi => new_cells Z hZ f T lat tot C i (by omega))
    rw [hE] at h2
    exact h2
end Go.Proofs.Qxb6625826a
