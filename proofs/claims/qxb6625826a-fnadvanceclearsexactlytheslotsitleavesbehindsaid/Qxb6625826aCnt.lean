import Derived.Test.Qxb6625826aNew
import Derived.Deep.WholeRow
namespace Go.Proofs.Qxb6625826a
open Go.RowKit
set_option linter.unusedVariables false

/-- The start behind an advance. -/
def stF (T N : Int) : Int := if T = 0 then N else T
/-- The slot number of now. -/
def slF (T N : Int) : Int := IntKind.i64.wrap ((satS N (stF T N)).tdiv 10000000)
/-- The first slot that is emptied, and how many. -/
def loF (lat SL : Int) : Int := if lat + 1 < SL - 1001 + 1 then SL - 1001 + 1 else lat + 1
def stepsF (lat SL : Int) : Nat := if lat < SL then (if lat + 1 < SL - 1001 + 1 then 1001 else (SL - lat).toNat) else 0
def latF (lat SL : Int) : Int := if lat < SL then SL else lat

theorem slF_bd (T N : Int) : -1000000000000 ≤ slF T N ∧ slF T N ≤ 1000000000000 := by
  have h := satS_bd N (stF T N)
  unfold slF
  have e : -1000000000000 ≤ (satS N (stF T N)).tdiv 10000000 ∧ (satS N (stF T N)).tdiv 10000000 ≤ 1000000000000 := by
    have h1 := Int.mul_tdiv_add_tmod (satS N (stF T N)) 10000000
    rcases Int.lt_or_le (satS N (stF T N)) 0 with hn | hn
    · have h2 : (satS N (stF T N)).tmod 10000000 = -((-(satS N (stF T N))) % 10000000) := by
        rw [← Int.tmod_eq_emod_of_nonneg (by omega), Int.neg_tmod, Int.neg_neg]
      omega
    · rw [Int.tmod_eq_emod_of_nonneg hn] at h1
      omega
  have : IntKind.i64.wrap ((satS N (stF T N)).tdiv 10000000) = (satS N (stF T N)).tdiv 10000000 := by
    rw [IntWalk.i64_left]
    unfold wrap64
    omega
  rw [this]
  exact e

theorem adv_any (B f : Nat) (T N lat tot : Int) (C : Nat → Int) (w : World) (hW : Win w B f T C lat tot) (T0 : -9223372036854775808 ≤ T) (T1 : T ≤ 9223372036854775807) (N0 : -9223372036854775808 ≤ N) (N1 : N ≤ 9223372036854775807) (hl0 : 0 ≤ lat) :
    Calls Try.prog 16 #[.pointer (some ⟨B, 0, none⟩), .agg #[.int .u64 (nsO N), .int .i64 (seO N), .pointer none]] w fun e w' => e = .returned (.tuple #[]) ∧
      Win w' B f (stF T N) (clrF C (loF lat (slF T N)) (stepsF lat (slF T N))) (latF lat (slF T N)) (totF C tot (loF lat (slF T N)) (stepsF lat (slF T N))) ∧ Below B w w' := by
  have hb := slF_bd T N
  by_cases hT : T = 0
  · subst hT
    have h0 : slF 0 N = 0 := by
      show IntKind.i64.wrap ((satS N N).tdiv 10000000) = 0
      rw [satS_in (by omega) (by omega), Int.sub_self]; rfl
    rw [h0]
    have e1 : stepsF lat 0 = 0 := if_neg (by omega)
    have e2 : latF lat 0 = lat := if_neg (by omega)
    rw [e1, e2]
    exact adv_zero B f N lat tot C w hW N0 N1 hl0
  · have e0 : stF T N = T := if_neg hT
    have hSL : IntKind.i64.wrap ((satS N T).tdiv 10000000) = slF T N := by unfold slF; rw [e0]
    rw [e0]
    by_cases hle : lat < slF T N
    · have e2 : latF lat (slF T N) = slF T N := if_pos hle
      rw [e2]
      by_cases hm : lat + 1 < slF T N - 1001 + 1
      · have e1 : stepsF lat (slF T N) = 1001 := by unfold stepsF; rw [if_pos hle, if_pos hm]
        have e3 : loF lat (slF T N) = slF T N - 1001 + 1 := if_pos hm
        rw [e1, e3]
        exact adv_new_b B f T N lat tot _ C w hW T0 T1 N0 N1 hT hSL hle hl0 hb.2 hm
      · have e1 : stepsF lat (slF T N) = (slF T N - lat).toNat := by unfold stepsF; rw [if_pos hle, if_neg hm]
        have e3 : loF lat (slF T N) = lat + 1 := if_neg hm
        rw [e1, e3]
        exact adv_new_a B f T N lat tot _ C w hW T0 T1 N0 N1 hT hSL hle hl0 hb.2 hm
    · have e1 : stepsF lat (slF T N) = 0 := if_neg hle
      have e2 : latF lat (slF T N) = lat := if_neg hle
      rw [e1, e2]
      exact adv_old B f T N lat tot _ C w hW T0 T1 N0 N1 hT hSL (by omega)

set_option maxHeartbeats 400000 in
theorem zzadv_any (B f : Nat) (T N lat tot : Int) (C : Nat → Int) (w : World) (hW : Win w B f T C lat tot) (T0 : -9223372036854775808 ≤ T) (T1 : T ≤ 9223372036854775807) (N0 : -9223372036854775808 ≤ N) (N1 : N ≤ 9223372036854775807) (hl0 : 0 ≤ lat) :
    Calls Try.prog 6 #[.pointer (some ⟨B, 0, none⟩), .int .i64 N] w fun e w' => e = .returned (.tuple #[]) ∧
      Win w' B f (stF T N) (clrF C (loF lat (slF T N)) (stepsF lat (slF T N))) (latF lat (slF T N)) (totF C tot (loF lat (slF T N)) (stepsF lat (slF T N))) ∧ Below B w w' := by
  have hB := hW.lt
  go_enter Try.func6, Try.ntmps6
  go_wp2_with fail
  refine (add_zero N _ N0 N1).mono ?_
  rintro e w1 ⟨rfl, hb1⟩
  go_wp2_with fail
  refine (adv_any B f T N lat tot C w1 (hW.below hb1 hB) T0 T1 N0 N1 hl0).mono ?_
  rintro e w2 ⟨rfl, hW2, hb2⟩
  go_wp2_with fail
  go_end0
  exact ⟨rfl, hW2, (hb1.mono (Nat.le_of_lt hB)).trans hb2⟩

theorem zero23 : (Try.prog.info? 23).map (fun i => i.zero.map (fun z => z.cells.size)) = some (some 1001) := by kernel_rfl
theorem alloc23 : ∃ Z : Array Value, Z.size = 1001 ∧ ∀ w, (Instr.alloc 23 true (.tuple #[])).run Try.prog w = .ok (.pointer (some ⟨w.heap.size, 0, none⟩)) (w.alloc (.cells Z 23)) := by
  obtain ⟨it, hit, hz⟩ := Option.map_eq_some_iff.1 zero23
  obtain ⟨z, hzz, hzs⟩ := Option.map_eq_some_iff.1 hz
  refine ⟨z.cells, hzs, fun w => ?_⟩
  simp [Instr.alloc, zeroValue, typeInfo, newVar, newRow, hit, hzz]

theorem size23A (C : Nat → Int) : (Try.prog.info? 23).map (·.size) = some (arrL C).toArray.size := by simp [size23, arrL_len]
theorem Win.range {w : World} {B f : Nat} {T lat tot : Int} {C : Nat → Int} (h : Win w B f T C lat tot) : w.rangeAt B 4 (arrL C) := fun j v hv => by
  obtain ⟨h1, rfl⟩ := arrL_inv hv
  exact h.count h1

/-! The three operations on a whole array, as a plain region meets them. -/
section
variable {ops : Array Oper} {rest : List Oper} {o : Oper} {a : Act} {w : World} {Q : Exit → Act → World → Prop}
theorem wl_alloc23 {Z : Array Value} (ha : ∀ w, (Instr.alloc 23 true (.tuple #[])).run Try.prog w = .ok (.pointer (some ⟨w.heap.size, 0, none⟩)) (w.alloc (.cells Z 23)))
    (hg : o.guard = none) (ho : o.op = .alloc 23) (h : wpList Try.prog ops Q rest (a.put o.dst (.pointer (some ⟨w.heap.size, 0, none⟩))) (w.alloc (.cells Z 23))) : wpList Try.prog ops Q (o :: rest) a w :=
  wpList_plain hg fun _ hK => by
    unfold Oper.wp execOp
    simp only [ho, Sem.run_bind, ha, Result.andThen_ok]
    exact hK _ _ h
theorem wl_load23 {b off : Nat} {C : Nat → Int} (hg : o.guard = none) (x : Operand) (ho : o.op = .load 23 x) (hx : a.eval x = .pointer (some ⟨b, off, none⟩)) (hc : w.rangeAt b off (arrL C))
    (h : wpList Try.prog ops Q rest (a.put o.dst (.agg (arrL C).toArray)) w) : wpList Try.prog ops Q (o :: rest) a w :=
  wpList_load_mid hg 23 x ho b off hx (arrL C) _ hc Try.underlying23 rfl (size23L C) h
theorem wl_store23 {Z : Array Value} {C : Nat → Int} (hg : o.guard = none) (x y : Operand) (ho : o.op = .store 23 x y) (hx : a.eval x = .pointer (some ⟨w.heap.size, 0, none⟩)) (hy : a.eval y = .agg (arrL C).toArray) (hZ : Z.size = 1001)
    (h : wpList Try.prog ops Q rest (a.put o.dst undef) (w.alloc (.cells (arrL C).toArray 23))) : wpList Try.prog ops Q (o :: rest) a (w.alloc (.cells Z 23)) :=
  wpList_store_row hg 23 x y ho w.heap.size (arrL C).toArray hx hy 23 Z (heap_alloc_last w _) (size23A C) (by simp [hZ, arrL_len]) (all_oneCell_toArray (arrL_one C)) (by rw [World.setRow_alloc_new]; exact h)
end
set_option maxHeartbeats 400000 in
theorem counts_any (B f : Nat) (T lat tot : Int) (C : Nat → Int) (w : World) (hW : Win w B f T C lat tot) :
    Calls Try.prog 8 #[.pointer (some ⟨B, 0, none⟩)] w fun e w' => e = .returned (.agg (arrL C).toArray) ∧ Below w.heap.size w w' := by
  obtain ⟨Z, hZ, ha⟩ := alloc23
  have u23 := Try.underlying23
  have hsz := size23L C
  have hB := hW.lt
  have hW1 : Win (w.alloc (.cells Z 23)) B f T C lat tot := hW.block (Below.heap_alloc _ _ _ hB)
  have hl := hW1.range
  go_enter Try.func8, Try.ntmps8
  go_wp2_with (first | (refine wl_alloc23 ha rfl rfl ?_; simp only [Act.put, List.setIfInBounds_toArray, List.set_cons_zero, List.set_cons_succ])
                     | (refine wl_load23 rfl _ rfl rfl (by assumption) ?_; simp only [Act.put, List.setIfInBounds_toArray, List.set_cons_zero, List.set_cons_succ])
                     | (refine wl_store23 rfl _ _ rfl rfl rfl hZ ?_; simp only [Act.put]))
  exact bodyPost_ret (results_cell_row Try.results8 _ _ w.heap.size 23 (arrL C).toArray (0, 0) _ rfl (heap_alloc_last w _) Try.underlying23 rfl (size23A C)) rfl ⟨rfl, (Below.refl _ _).alloc (Nat.le_refl _) _⟩
end Go.Proofs.Qxb6625826a
