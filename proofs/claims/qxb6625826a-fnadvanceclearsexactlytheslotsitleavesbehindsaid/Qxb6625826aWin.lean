import Derived.Test.Qxb6625826aSmall
import Derived.Deep.OwnRows
namespace Go.Proofs.Qxb6625826a
open Go.RowKit

/-- The cells of a window. -/
def winF (f : Nat) (T : Int) (C : Nat → Int) (lat tot : Int) (j : Nat) : Value :=
  if j = 0 then .float .f64 f else if j = 1 then .int .u64 (nsO T) else if j = 2 then .int .i64 (seO T) else if j = 3 then .pointer none
  else if j < 1005 then .int .i64 (C (j - 4)) else if j = 1005 then .int .i64 lat else .int .i64 tot

/-- Block B of w is a window. -/
def Win (w : World) (B f : Nat) (T : Int) (C : Nat → Int) (lat tot : Int) : Prop := w.rowIs B 43 1007 (winF f T C lat tot)

namespace Win
variable {w w' : World} {B f : Nat} {T : Int} {C : Nat → Int} {lat tot : Int}
theorem lt (h : Win w B f T C lat tot) : B < w.heap.size := World.rowIs.lt h
theorem most (h : Win w B f T C lat tot) : w.cell? ⟨B, 0, none⟩ = some (.float .f64 f) := World.rowIs.cell h (i := 0) (by omega)
theorem ns (h : Win w B f T C lat tot) : w.cell? ⟨B, 1, none⟩ = some (.int .u64 (nsO T)) := World.rowIs.cell h (i := 1) (by omega)
theorem se (h : Win w B f T C lat tot) : w.cell? ⟨B, 2, none⟩ = some (.int .i64 (seO T)) := World.rowIs.cell h (i := 2) (by omega)
theorem loc (h : Win w B f T C lat tot) : w.cell? ⟨B, 3, none⟩ = some (.pointer none) := World.rowIs.cell h (i := 3) (by omega)
theorem latest (h : Win w B f T C lat tot) : w.cell? ⟨B, 1005, none⟩ = some (.int .i64 lat) := World.rowIs.cell h (i := 1005) (by omega)
theorem total (h : Win w B f T C lat tot) : w.cell? ⟨B, 1006, none⟩ = some (.int .i64 tot) := World.rowIs.cell h (i := 1006) (by omega)
theorem count (h : Win w B f T C lat tot) {i : Nat} (hi : i < 1001) : w.cell? ⟨B, 4 + i, none⟩ = some (.int .i64 (C i)) := by
  rw [World.rowIs.cell h (i := 4 + i) (by omega)]
  unfold winF
  rw [if_neg (by omega), if_neg (by omega), if_neg (by omega), if_neg (by omega), if_pos (by omega), show 4 + i - 4 = i by omega]
theorem free (h : Win w B f T C lat tot) (i : Nat) : w.frozen? ⟨B, i, none⟩ = false := World.rowIs.frozen h i
theorem block (h : Win w B f T C lat tot) (e : w'.heap[B]? = w.heap[B]?) : Win w' B f T C lat tot := World.rowIs.of_block h e
theorem below {A : Nat} (h : Win w B f T C lat tot) (hb : Below A w w') (hA : B < A) : Win w' B f T C lat tot := h.block (hb.block B hA)

theorem setTotal (h : Win w B f T C lat tot) (t : Int) : Win (w.setCell ⟨B, 1006, none⟩ (.int .i64 t)) B f T C lat t := by
  refine (World.rowIs.set h 1006 _).congr fun j hj => ?_
  by_cases e : j = 1006
  · subst e; rw [if_pos rfl]; rfl
  · rw [if_neg e]
    unfold winF
    repeat (first | rfl | split)
    all_goals omega
theorem setLatest (h : Win w B f T C lat tot) (t : Int) : Win (w.setCell ⟨B, 1005, none⟩ (.int .i64 t)) B f T C t tot := by
  refine (World.rowIs.set h 1005 _).congr fun j hj => ?_
  by_cases e : j = 1005
  · subst e; rw [if_pos rfl]; rfl
  · rw [if_neg e]
    unfold winF
    repeat (first | rfl | split)
    all_goals omega
theorem setCount (h : Win w B f T C lat tot) {i : Nat} (hi : i < 1001) (t : Int) : Win (w.setCell ⟨B, 4 + i, none⟩ (.int .i64 t)) B f T (fun k => if k = i then t else C k) lat tot := by
  refine (World.rowIs.set h (4 + i) _).congr fun j hj => ?_
  by_cases e : j = 4 + i
  · subst e; rw [if_pos rfl]
    unfold winF
    rw [if_neg (by omega), if_neg (by omega), if_neg (by omega), if_neg (by omega), if_pos (by omega)]
    simp
  · rw [if_neg e]
    unfold winF
    by_cases h4 : 4 ≤ j
    · have e2 : ¬ j - 4 = i := by omega
      simp [e2]
    · have h5 : j = 0 ∨ j = 1 ∨ j = 2 ∨ j = 3 := by omega
      rcases h5 with rfl | rfl | rfl | rfl <;> rfl
theorem setStart (h : Win w B f T C lat tot) (N : Int) : Win (((w.setCell ⟨B, 1, none⟩ (.int .u64 (nsO N))).setCell ⟨B, 2, none⟩ (.int .i64 (seO N))).setCell ⟨B, 3, none⟩ (.pointer none)) B f N C lat tot := by
  refine (World.rowIs.set (World.rowIs.set (World.rowIs.set h 1 _) 2 _) 3 _).congr fun j hj => ?_
  by_cases e3 : j = 3
  · subst e3; rfl
  · rw [if_neg e3]
    by_cases e2 : j = 2
    · subst e2; rfl
    · rw [if_neg e2]
      by_cases e1 : j = 1
      · subst e1; rfl
      · rw [if_neg e1]
        unfold winF
        simp [e1, e2, e3]
end Win
end Go.Proofs.Qxb6625826a
