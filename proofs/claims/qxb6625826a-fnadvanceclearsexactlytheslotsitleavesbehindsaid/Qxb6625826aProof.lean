import Derived.Test.Qxb6625826aLoop
import Derived.Test.Qxb6625826aWit
import Derived.ProofKit
import Derived.OpenShut
import Derived.ChangeOld
import Derived.Below
import Derived.Deep.SlicePairs
import Derived.Laws.Cover2
namespace Go.Proofs.Qxb6625826a
open Go.ChangeShapes Go.WideShapes Go.ChangeAt Go.RowKit
open Go.Deep (choose_lt)
set_option linter.unusedVariables false

namespace advRow
theorem own : ownKnob Try.prog.godebug = none := by kernel_rfl
theorem laidOut : laidOutB Try.prog = true := by kernel_rfl

/-- The counts that came in. -/
theorem open_counts {H : Type} {enc : TypeId × Value → H} {W : World} {b0 base : Nat} {spare : Nat → Bool} {held : Bool} {r : Reach} {v : Value} {d : DataW H} {p : List MemPlace}
    (hv : Value.okWide Try.prog W r b0 23 v) (h : DataW.Trod enc Try.prog W base spare held 23 v d p) : ∃ C : Nat → Int, v = .agg (arrL C).toArray := by
  unfold Value.okWide at hv
  rw [Try.underlying23] at hv
  obtain ⟨cs, rfl, hn, _⟩ := hv
  rw [cells23] at hn
  obtain ⟨fuel, hf⟩ := h
  obtain ⟨xs, m, _, _, _, hxs, hx⟩ := DataW.trod_array Try.underlying23 hf
  have h0 : ∀ i, i < 1001 → ∃ z : Int, cs[i]? = some (.int .i64 z) := fun i hi => by
    have h1 := hx i hi
    rw [List.getElem?_eq_getElem (by omega), cells3] at h1
    obtain ⟨z, hz, _, _⟩ := DataW.trod_int Try.underlying3 h1
    refine ⟨z, ?_⟩
    have h2 := congrArg (fun l : List Value => l[0]?) hz
    simp [Value.cells, List.getElem?_drop] at h2
    simpa using h2
  obtain ⟨C, hC⟩ := choose_lt h0
  refine ⟨C, congrArg Value.agg ?_⟩
  apply Array.ext_getElem?
  intro i
  by_cases hi : i < 1001
  · rw [hC i hi]
    simpa using (arrL_get (C := C) hi).symm
  · rw [Array.getElem?_eq_none (by omega), Array.getElem?_eq_none (by simp [arrL_len]; omega)]

theorem walk (f : Nat) (T lat tot N : Int) (C : Nat → Int) (w : World) (wT : (Lit.int .i64 T).wf = true) (wt : (Lit.int .i64 tot).wf = true) (wN : (Lit.int .i64 N).wf = true) :
    Calls Try.prog 3 #[.float .f64 f, .int .i64 T, .agg (arrL C).toArray, .int .i64 lat, .int .i64 tot, .int .i64 N] w fun e w' => e = .returned (.bool true) ∧ Below w.heap.size w w' := by
  obtain ⟨T0, T1⟩ := bounds_i64 wT
  obtain ⟨t0, t1⟩ := bounds_i64 wt
  obtain ⟨N0, N1⟩ := bounds_i64 wN
  by_cases hl : lat < 0
  · exact top_neg f T N lat tot C w hl
  · by_cases hT : T = 0
    · subst hT
      exact top_zero f N lat tot C w N0 N1 (by omega)
    · by_cases hle : lat < slF T N
      · exact top_new f T N lat tot C w T0 T1 N0 N1 (by omega) hT hle (IntWalk.wrap64_in tot ⟨t0, t1⟩)
      · exact top_old f T N lat tot C w T0 T1 N0 N1 (by omega) hT hle

set_option maxRecDepth 100000 in
theorem lifted (os : Os) (started : os.Started) (H : Type) (enc : TypeId × Value → H) :
    ReturnsInHanded {} Try.checked os 3 .any (Rows.fnAdvanceClearsExactlyTheSlotsItLeavesBehindSpec.pre6 enc Try.prog Try.f3 Rows.fnAdvanceClearsExactlyTheSlotsItLeavesBehindRow.domain false) (Rows.fnAdvanceClearsExactlyTheSlotsItLeavesBehindSpec.post enc Try.prog Try.f3 false true false false) := by
  refine returnsInHanded_of_change (C := Try.checked) own started (by kernel_rfl) Try.func3
    (witness os H enc) ?_
  intro W base args ds gs before hval0 hW hcnd _
  have hval : ∀ (j : Nat) t v, Try.f3.params[j]? = some t → args[j]? = some v → Value.okWide Try.prog W .any base t v := hval0
  have hW' := hW
  obtain ⟨p, q, hA0, hV, rfl, hfz, hnd⟩ := hW
  have hA : DataW.TrodAll enc Try.prog W 0 (fun _ => true) true Try.f3.params.toList args.toList ds p := hA0
  rw [Try.params3] at hA hval
  obtain ⟨v0, vs0, d0, ds0, p0, q0, hargs, rfl, rfl, h0, r0⟩ := trodAll_cons hA
  obtain ⟨v1, vs1, d1, ds1, p1, q1, rfl, rfl, rfl, h1, r1⟩ := trodAll_cons r0
  obtain ⟨v2, vs2, d2, ds2, p2, q2, rfl, rfl, rfl, h2, r2⟩ := trodAll_cons r1
  obtain ⟨v3, vs3, d3, ds3, p3, q3, rfl, rfl, rfl, h3, r3⟩ := trodAll_cons r2
  obtain ⟨v4, vs4, d4, ds4, p4, q4, rfl, rfl, rfl, h4, r4⟩ := trodAll_cons r3
  obtain ⟨v5, vs5, d5, ds5, p5, q5, rfl, rfl, rfl, h5, r5⟩ := trodAll_cons r4
  obtain ⟨rfl, rfl, rfl⟩ := trodAll_nil r5
  obtain rfl : args = #[v0, v1, v2, v3, v4, v5] := by cases args; simp_all
  obtain ⟨rfl, rfl⟩ := trodVars_none hV
  obtain ⟨a0, rfl, rfl, rfl, w0⟩ := open_float Try.underlying22 (hval 0 22 v0 rfl rfl) h0
  obtain ⟨a1, rfl, rfl, rfl, w1⟩ := open_int Try.underlying2 (hval 1 2 v1 rfl rfl) h1
  obtain ⟨C, rfl⟩ := open_counts (hval 2 23 v2 rfl rfl) h2
  have k2 := h2
  have lt2 : ∀ x ∈ p2, x.block < W.heap.size := by obtain ⟨m, hm⟩ := k2; exact DataW.trod_lt m _ _ _ hm
  obtain ⟨a3, rfl, rfl, rfl, w3⟩ := open_int Try.underlying2 (hval 3 2 v3 rfl rfl) h3
  obtain ⟨a4, rfl, rfl, rfl, w4⟩ := open_int Try.underlying3 (hval 4 3 v4 rfl rfl) h4
  obtain ⟨a5, rfl, rfl, rfl, w5⟩ := open_int Try.underlying2 (hval 5 2 v5 rfl rfl) h5
  clear hA0 hval0
  refine (walk a0 a1 a3 a4 a5 C W w1 w4 w5).mono fun e W' ⟨he, bel⟩ => ?_
  subst he
  exact ⟨_, rfl, _, _, _, [], _, [], hW', trodAll_mk1 (shut_bool Try.underlying4 _),
    (trodAll_cons_mk (shut_float Try.underlying22 w0) (trodAll_cons_mk (shut_int Try.underlying2 w1)
      (trodAll_cons_mk (Below.trod laidOut (by kernel_rfl) (of_decide_eq_true (by kernel_rfl)) k2 bel lt2)
        (trodAll_cons_mk (shut_int Try.underlying2 w3) (trodAll_cons_mk (shut_int Try.underlying3 w4) (trodAll_cons_mk (shut_int Try.underlying2 w5) trodAll_mk0)))))), rfl, bel.frame _, fun h => by cases h⟩

theorem over : Rows.fnAdvanceClearsExactlyTheSlotsItLeavesBehindRow.holds Try.pinned (OpenSpec.ofChange Rows.fnAdvanceClearsExactlyTheSlotsItLeavesBehindSpec) :=
  OpenClaim.holds_of_wide 3 Try.f3 rfl rfl rfl rfl rfl rfl rfl ⟨rfl, rfl, rfl, rfl, rfl⟩ rfl rfl rfl rfl rfl (by kernel_rfl) Try.func3 (by kernel_rfl)
    (of_decide_eq_true (by kernel_rfl)) (by unfold Func.isWrapper; first | (rw [if_pos (by decide +kernel)]; kernel_rfl) | (rw [if_neg (by decide +kernel)]; exact ⟨rfl, rfl⟩))
    (fun os started H enc _ => lifted os started H enc)
end advRow

/-- THE STATEMENT -/
theorem fnAdvanceClearsExactlyTheSlotsItLeavesBehind_holds : Rows.FnAdvanceClearsExactlyTheSlotsItLeavesBehindSaid := advRow.over
end Go.Proofs.Qxb6625826a
