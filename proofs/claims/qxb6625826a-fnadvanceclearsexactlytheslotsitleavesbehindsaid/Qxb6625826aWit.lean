import Derived.Test.Qxb6625826aRows
import Derived.Test.Qxb6625826aArr
import Derived.ProofKit
import Derived.OpenShut
import Derived.Laws.Cover2
import Derived.DataBytes
namespace Go.Proofs.Qxb6625826a
open Go.ChangeShapes Go.WideShapes Go.ChangeAt Go.RowKit
set_option linter.unusedVariables false

namespace advRow
theorem cells23 : Try.prog.cellsOf 23 = 1001 := by kernel_rfl
theorem cells3 : Try.prog.cellsOf 3 = 1 := by kernel_rfl
set_option maxRecDepth 100000 in
theorem kinds23 : Try.prog.cellTypes Try.prog.depth 23 = some (List.replicate 1001 3) := by kernel_rfl

/-- Nought everywhere. -/
def wit : Array Value := #[.float .f64 0, .int .i64 0, .agg (arrL fun _ => 0).toArray, .int .i64 0, .int .i64 0, .int .i64 0]
/-- The counts of the witness, as data. -/
def zerosD (H : Type) : DataW H := .agg (List.replicate 1001 (.lit (.int .i64 0)))

theorem agg_cells (L : List Value) : (Value.agg L.toArray).cells.toList = L := rfl

section
variable {H : Type} {enc : TypeId × Value → H} {W : World}
theorem shut_zeros {base : Nat} {spare : Nat → Bool} {held : Bool} : DataW.Trod enc Try.prog W base spare held 23 (.agg (arrL fun _ => 0).toArray) (zerosD H) [] := by
  refine ⟨2, ?_⟩
  have hm : ((List.range 1001).mapM fun i => DataW.trod enc Try.prog W base spare held 1 3 (((arrL fun _ => 0).drop (i * 1)).take 1)) = some ((List.range 1001).map fun _ => (DataW.lit (.int .i64 0), [])) :=
    mapM_some_of_forall _ fun i hi => by
      have hi := List.mem_range.1 hi
      have e : ((arrL fun _ => 0).drop (i * 1)).take 1 = [.int .i64 0] := by
        apply List.ext_getElem?
        intro j
        rw [List.getElem?_take]
        by_cases hj : j < 1
        · have : j = 0 := by omega
          subst this
          simp [List.getElem?_drop, arrL_get hi]
        · rw [if_neg hj]
          simp; omega
      rw [e]
      unfold DataW.trod
      rw [Try.underlying3]
      rfl
  rw [agg_cells]
  unfold DataW.trod
  rw [Try.underlying23]
  simp only [cells23, cells3, arrL_len, if_true, hm, Option.map_some]
  have e1 : (List.map (fun x => x.1) (List.map (fun _ => ((DataW.lit (.int .i64 0), []) : DataW H × List MemPlace)) (List.range 1001))) = List.replicate 1001 (.lit (.int .i64 0)) := by
    rw [List.map_map, List.eq_replicate_iff]
    exact ⟨by simp, fun b hb => by obtain ⟨_, _, rfl⟩ := List.mem_map.1 hb; rfl⟩
  have e2 : (List.flatMap (fun x => x.2) (List.map (fun _ => ((DataW.lit (.int .i64 0), []) : DataW H × List MemPlace)) (List.range 1001))) = [] := by
    rw [List.flatMap_eq_nil_iff]
    intro x hx
    obtain ⟨_, _, rfl⟩ := List.mem_map.1 hx
    rfl
  rw [e1, e2]
  rfl

theorem ok_zeros {b : Nat} : Value.okWide Try.prog W .any b 23 (.agg (arrL fun _ => 0).toArray) := by
  unfold Value.okWide
  rw [Try.underlying23]
  refine ⟨_, rfl, by rw [List.size_toArray, arrL_len, cells23], List.replicate 1001 3, kinds23, ⟨1, by rw [List.length_replicate, List.size_toArray, arrL_len]⟩, fun i v hv => ?_⟩
  rw [List.getElem?_toArray] at hv
  obtain ⟨hi, rfl⟩ := arrL_inv hv
  refine ⟨3, ?_, Cell.okWide_of_okWideB (by kernel_rfl)⟩
  rw [List.length_replicate, Nat.mod_eq_of_lt hi, List.getElem?_replicate, if_pos hi]

theorem ok_wit {b : Nat} : Input.okWide Try.prog W .any b 3 ⟨#[], wit, []⟩ := by
  refine ⟨by simp, by simp, by kernel_rfl, Try.f3, Try.func3, by kernel_rfl, by kernel_rfl, by kernel_rfl, by rw [Try.params3]; rfl, fun j t v hj hv => ?_⟩
  rw [Try.params3] at hj
  have h6 : j < 6 := by
    have := (Array.getElem?_eq_some_iff.1 hv).1
    exact this
  have hc : j = 0 ∨ j = 1 ∨ j = 2 ∨ j = 3 ∨ j = 4 ∨ j = 5 := by omega
  rcases hc with rfl | rfl | rfl | rfl | rfl | rfl <;> (obtain rfl := Option.some.inj hj; obtain rfl := Option.some.inj hv)
  · exact Value.okWide_of_okWideB (by kernel_rfl)
  · exact Value.okWide_of_okWideB (by kernel_rfl)
  · exact ok_zeros
  · exact Value.okWide_of_okWideB (by kernel_rfl)
  · exact Value.okWide_of_okWideB (by kernel_rfl)
  · exact Value.okWide_of_okWideB (by kernel_rfl)

theorem whole_wit : DataW.Whole enc Try.prog [22, 2, 23, 2, 3, 2] [] false W wit.toList [.lit (.float .f64 0), .lit (.int .i64 0), zerosD H, .lit (.int .i64 0), .lit (.int .i64 0), .lit (.int .i64 0)] [] [] :=
  ⟨_, [], trodAll_cons_mk (shut_float Try.underlying22 rfl) (trodAll_cons_mk (shut_int Try.underlying2 rfl) (trodAll_cons_mk shut_zeros (trodAll_cons_mk (shut_int Try.underlying2 rfl) (trodAll_cons_mk (shut_int Try.underlying3 rfl) (trodAll_cons_mk (shut_int Try.underlying2 rfl) trodAll_mk0))))),
    rfl, rfl, fun _ _ h => absurd h (by simp), fun h => by cases h⟩

set_option maxRecDepth 100000 in
theorem weights : (DataW.weightsEach (H := H) Try.prog [22, 2, 23, 2, 3, 2] [.lit (.float .f64 0), .lit (.int .i64 0), zerosD H, .lit (.int .i64 0), .lit (.int .i64 0), .lit (.int .i64 0)]).all (· ≤ reachBytes) = true := by kernel_rfl

theorem pre_wit : Rows.fnAdvanceClearsExactlyTheSlotsItLeavesBehindSpec.pre6 enc Try.prog Try.f3 Rows.fnAdvanceClearsExactlyTheSlotsItLeavesBehindRow.domain false W wit := by
  have e : Try.f3.params.toList = [22, 2, 23, 2, 3, 2] := by rw [Try.params3]
  refine ⟨⟨[.lit (.float .f64 0), .lit (.int .i64 0), zerosD H, .lit (.int .i64 0), .lit (.int .i64 0), .lit (.int .i64 0)], [], [], ?_, rfl⟩, by kernel_rfl, [.lit (.float .f64 0), .lit (.int .i64 0), zerosD H, .lit (.int .i64 0), .lit (.int .i64 0), .lit (.int .i64 0)], [], [], ?_, ?_⟩
  · rw [e]; exact whole_wit
  · rw [e]; exact whole_wit
  · rw [e]; exact weights
end

set_option maxRecDepth 100000 in
theorem witness (os : Os) (H : Type) (enc : TypeId × Value → H) :
    ∃ (w : World) (tape : Tape) (i : Input), w.os = os ∧ (w.forCall tape i).Shaped Try.checked.prog ∧ i.vars = [] ∧ Input.okWide Try.checked.prog (w.forCall tape i) .any w.heap.size 3 i ∧
      Rows.fnAdvanceClearsExactlyTheSlotsItLeavesBehindSpec.pre6 enc Try.checked.prog Try.f3 Rows.fnAdvanceClearsExactlyTheSlotsItLeavesBehindRow.domain false (w.forCall tape i).memory i.args ∧ ({} : Assume).holds Try.checked.prog (lone (Frame.enter Try.checked.prog 3 i.args .normal) [] (w.forCall tape i)) :=
  ⟨World.holding Try.checked.prog os ⟨#[], wit, []⟩, fun _ _ => 0, ⟨#[], wit, []⟩, rfl, World.shaped_of_B (by kernel_rfl) (by kernel_rfl), rfl, ok_wit, pre_wit, by
    simp only [Assume.holds]
    exact ⟨by simp, by simp, by simp, by simp, by simp⟩⟩
end advRow
end Go.Proofs.Qxb6625826a
