import Derived.Test.Qxb6626044aFs
import Derived.ProofKit
import Derived.OpenShut
import Derived.ShutString
import Derived.ChangeOld
import Derived.Below
import Derived.Deep.SlicePairs
namespace Go.Proofs.Qxb6626044a
open Go.ChangeShapes Go.WideShapes Go.ChangeAt Go.RowKit
open Go.Deep (open_slice_pairs choose_lt)
set_option linter.unusedVariables false

theorem lt_of_cell {w : World} {a : Addr} {v : Value} (h : w.cell? a = some v) : a.block < w.heap.size := by
  unfold World.cell? at h
  split at h
  · rename_i hh
    exact (Array.getElem?_eq_some_iff.1 hh).1
  · simp at h

/-- What a walk is told of a []Shape that came in. -/
theorem shapes_of {H : Type} {enc : TypeId × Value → H} {W : World} {base : Nat} {ao : Option Addr} {len cap : Nat} {d : DataW H} {p : List MemPlace}
    (h : DataW.Trod enc Try.prog W base (fun _ => true) true 22 (.slice ao len cap) d p) :
    ∃ (b off : Nat) (K : Nat → Key), len ≤ maxLen ∧ (0 < len → ao = some ⟨b, off, none⟩) ∧ Shapes W b off len K := by
  obtain ⟨fuel, hf⟩ := h
  rcases open_slice_pairs Try.underlying22 Try.underlying31 cells31 rfl rfl cells3 cells9 hf with ⟨hcs, _⟩ | ⟨a, l, c, m, n, V0, V1, D0, D1, P0, P1, hcs, hb, hl, hm, hmm, _, hx⟩
  · simp [Value.cells] at hcs
    obtain ⟨rfl, rfl, rfl⟩ := hcs
    exact ⟨0, 0, fun _ => (0, ByteArray.empty), Nat.zero_le _, fun h => by omega, ⟨fun h => by omega, fun i h => by omega, fun i h => by omega, fun i h => by omega⟩⟩
  · simp [Value.cells] at hcs
    obtain ⟨rfl, rfl, rfl⟩ := hcs
    simp at hmm
    subst hmm
    have h0 : ∀ i, i < m → ∃ z : Key, V0 i = .int .i64 z.1 ∧ V1 i = .string z.2 ∧ GK z := fun i hi => by
      obtain ⟨z, hz, _, hw⟩ := DataW.trod_int Try.underlying3 (hx i hi).2.2.1
      obtain ⟨s, hs, _, hn⟩ := DataW.trod_string Try.underlying9 (hx i hi).2.2.2
      exact ⟨(z, s), by simpa using hz, by simpa using hs, hw, hn⟩
    obtain ⟨K, hK⟩ := choose_lt h0
    obtain ⟨b, off, spot⟩ := a
    refine ⟨b, off, K, by omega, fun hp => ?_, ⟨fun hp => ?_, fun i hi => (hK i (by omega)).2.2, fun i hi => ?_, fun i hi => ?_⟩⟩
    · have := World.cell?_spot (hx 0 (by omega)).1
      simpa [Addr.add] using this
    · exact lt_of_cell (a := (Addr.add ⟨b, off, spot⟩ (0 * 2))) (hx 0 (by omega)).1
    · have hs := World.cell?_spot (hx 0 (by omega)).1
      simp [Addr.add] at hs
      subst hs
      rw [← (hK i (by omega)).1, ← add_plain]
      exact (hx i (by omega)).1
    · have hs := World.cell?_spot (hx 0 (by omega)).1
      simp [Addr.add] at hs
      subst hs
      rw [← (hK i (by omega)).2.1, Nat.add_assoc, ← add_plain]
      exact (hx i (by omega)).2.1
end Go.Proofs.Qxb6626044a
