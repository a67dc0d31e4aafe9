import Derived.Test.Qxb6625826aAdv
import Derived.Deep.MidRow
import Derived.ChangeKeysEq
namespace Go.Proofs.Qxb6625826a
open Go.RowKit
set_option linter.unusedVariables false

/-- The counts, as a list of cells. -/
def arrL (C : Nat → Int) : List Value := (List.range 1001).map fun i => .int .i64 (C i)
theorem arrL_len (C : Nat → Int) : (arrL C).length = 1001 := by simp [arrL]
theorem arrL_get {C : Nat → Int} {i : Nat} (h : i < 1001) : (arrL C)[i]? = some (.int .i64 (C i)) := by simp [arrL, h]
theorem arrL_inv {C : Nat → Int} {i : Nat} {v : Value} (h : (arrL C)[i]? = some v) : i < 1001 ∧ v = .int .i64 (C i) := by
  have hi := (List.getElem?_eq_some_iff.1 h).1
  rw [arrL_len] at hi
  rw [arrL_get hi] at h
  exact ⟨hi, (Option.some.inj h).symm⟩
theorem arrL_one (C : Nat → Int) : ∀ v ∈ arrL C, v.oneCell' = true := by
  intro v hv
  simp only [arrL, List.mem_map] at hv
  obtain ⟨i, _, rfl⟩ := hv
  rfl
theorem arrL_congr {C C' : Nat → Int} (h : ∀ i, i < 1001 → C i = C' i) : arrL C = arrL C' := by
  unfold arrL
  exact List.map_congr_left fun i hi => by rw [h i (List.mem_range.1 hi)]

theorem info3 : ∃ i, Try.prog.info? 3 = some i ∧ Try.prog.cellsOf 3 = 1 := by
  cases h : Try.prog.info? 3 with
  | none =>
    have : (Try.prog.info? 3).isSome = true := by kernel_rfl
    rw [h] at this
    simp at this
  | some i => exact ⟨i, rfl, by kernel_rfl⟩

/-- '==' on the counts: an array equals itself. -/
theorem eq_arr (C : Nat → Int) (w : World) : (binOp .eql 23 (.agg (arrL C).toArray) (.agg (arrL C).toArray)).run Try.prog w = .ok (.bool true) w := by
  obtain ⟨i3, hi3, hc3⟩ := info3
  rw [run_eql_struct, show (10000 : Nat) = 9999 + 1 from rfl, run_equalIn_array w 9999 _ _ Try.underlying23 hi3, hc3]
  have h : ∀ l : List Nat, (∀ i ∈ l, i < 1001) → (Op.eqItems 9999 3 1 (arrL C).toArray (arrL C).toArray l).run Try.prog w = .ok true w := by
    intro l
    induction l with
    | nil => intro _; simp [Op.eqItems]
    | cons j l ih =>
      intro hl
      have hj : j < 1001 := hl j (by simp)
      have px : (part 3 (arrL C).toArray (j * 1)).run Try.prog w = .ok (.int .i64 (C j)) w := by
        simp [part, isAgg, run_underlying Try.underlying3, arrL_get hj]
      have pe : (Op.equalIn 9999 3 (.int .i64 (C j)) (.int .i64 (C j))).run Try.prog w = .ok true w := by
        rw [show (9999 : Nat) = 9998 + 1 from rfl, run_equalIn_int w 9998 3 .i64 .i64 _ _ Try.underlying3]
        simp
      simp only [Op.eqItems, Sem.run_bind, px, pe, Result.andThen_ok]
      simpa using ih fun i hi => hl i (by simp [hi])
  rw [h _ (by simp)]
  rfl

/-! ### the window as a value -/
theorem putAt_list (off : Nat) : ∀ (l : List Value) (k : Nat) (cells : Array Value), off + k + l.length ≤ cells.size →
    ((l.zipIdx k).foldl (fun cs (c, j) => cs.setIfInBounds (off + j) c) cells).size = cells.size ∧
    ∀ i, ((l.zipIdx k).foldl (fun cs (c, j) => cs.setIfInBounds (off + j) c) cells)[i]? = if off + k ≤ i ∧ i < off + k + l.length then l[i - (off + k)]? else cells[i]?
  | [], k, cells, _ => ⟨rfl, fun i => by simp; intro h1 h2; omega⟩
  | x :: l, k, cells, h => by
    simp only [List.length_cons] at h
    obtain ⟨h1, h2⟩ := putAt_list off l (k + 1) (cells.setIfInBounds (off + k) x) (by simp; omega)
    simp only [List.zipIdx_cons, List.foldl_cons]
    refine ⟨by rw [h1]; simp, fun i => ?_⟩
    rw [h2 i]
    by_cases e : i = off + k
    · subst e
      rw [if_neg (by omega), if_pos (by simp)]
      rw [Array.getElem?_setIfInBounds]
      simp
      omega
    · by_cases e2 : off + (k + 1) ≤ i ∧ i < off + (k + 1) + l.length
      · rw [if_pos e2, if_pos (by simp; omega), show i - (off + k) = (i - (off + (k + 1))) + 1 by omega]
        simp
      · rw [if_neg e2, if_neg (by simp; omega), Array.getElem?_setIfInBounds, if_neg (fun h => e h.symm)]
end Go.Proofs.Qxb6625826a
