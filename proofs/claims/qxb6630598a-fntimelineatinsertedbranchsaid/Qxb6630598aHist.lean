import Derived.Test.Qxb6630598aRows
import Derived.WalkKit
import Derived.ProofKit
import Derived.ShutString
import Derived.OpenShut
import Derived.ChangeOld
import Derived.Below
import Derived.Deep.SlicePairs
namespace Go.Proofs.Qxb6630598a
open Go.ChangeShapes Go.WideShapes Go.ChangeAt Go.RowKit
open Go.Deep (open_slice_pairs choose_lt)
set_option linter.unusedVariables false

/-- What a walk is told of a []HistRow that came in. -/
def IsHist (w : World) (ao : Option Addr) (len cap : Nat) : Prop :=
  (ao = none ∧ len = 0 ∧ cap = 0) ∨
  ∃ (ad : Addr) (b off : Nat) (T E : Nat → Int), ao = some ad ∧ len ≤ maxLen ∧ (0 < len → b < w.heap.size) ∧ (0 < len → ad = ⟨b, off, none⟩) ∧
    (∀ i, i < len → w.cell? ⟨b, off + i * 2, none⟩ = some (.int .u32 (T i))) ∧ (∀ i, i < len → w.cell? ⟨b, off + i * 2 + 1, none⟩ = some (.int .u64 (E i)))

theorem lt_of_cell {w : World} {a : Addr} {v : Value} (h : w.cell? a = some v) : a.block < w.heap.size := by
  unfold World.cell? at h
  split at h
  · rename_i hh
    exact (Array.getElem?_eq_some_iff.1 hh).1
  · simp at h

theorem Try.cells35 : Try.prog.cellsOf 35 = 2 := by kernel_rfl
theorem Try.cells23 : Try.prog.cellsOf 23 = 1 := by kernel_rfl
theorem Try.cells24 : Try.prog.cellsOf 24 = 1 := by kernel_rfl

theorem isHist_of {H : Type} {enc : TypeId × Value → H} {W : World} {base : Nat} {ao : Option Addr} {len cap : Nat} {d : DataW H} {p : List MemPlace}
    (h : DataW.Trod enc Try.prog W base (fun _ => true) true 22 (.slice ao len cap) d p) : IsHist W ao len cap := by
  obtain ⟨fuel, hf⟩ := h
  rcases open_slice_pairs Try.underlying22 Try.underlying35 Try.cells35 rfl rfl Try.cells23 Try.cells24 hf with ⟨hcs, _⟩ | ⟨a, l, c, m, n, V0, V1, D0, D1, P0, P1, hcs, hb, hl, hm, hmm, _, hx⟩
  · simp [Value.cells] at hcs
    exact .inl hcs
  · simp [Value.cells] at hcs
    obtain ⟨rfl, rfl, rfl⟩ := hcs
    simp at hmm
    subst hmm
    have h0 : ∀ i, i < m → ∃ z, V0 i = .int .u32 z := fun i hi => by
      obtain ⟨z, hz, _⟩ := DataW.trod_int Try.underlying23 (hx i hi).2.2.1
      exact ⟨z, by simpa using hz⟩
    have h1 : ∀ i, i < m → ∃ z, V1 i = .int .u64 z := fun i hi => by
      obtain ⟨z, hz, _⟩ := DataW.trod_int Try.underlying24 (hx i hi).2.2.2
      exact ⟨z, by simpa using hz⟩
    obtain ⟨T, hT⟩ := choose_lt h0
    obtain ⟨E, hE⟩ := choose_lt h1
    obtain ⟨b, off, spot⟩ := a
    refine .inr ⟨⟨b, off, spot⟩, b, off, T, E, rfl, by omega, fun hp => ?_, fun hp => ?_, fun i hi => ?_, fun i hi => ?_⟩
    · exact lt_of_cell (a := (Addr.add ⟨b, off, spot⟩ (0 * 2))) (hx 0 (by omega)).1
    · have := World.cell?_spot (hx 0 (by omega)).1
      simpa [Addr.add] using this
    · have hs := World.cell?_spot (hx 0 (by omega)).1
      simp [Addr.add] at hs
      subst hs
      rw [← hT i (by omega), ← add_plain]
      exact (hx i (by omega)).1
    · have hs := World.cell?_spot (hx 0 (by omega)).1
      simp [Addr.add] at hs
      subst hs
      rw [← hE i (by omega), Nat.add_assoc, ← add_plain]
      exact (hx i (by omega)).2.1
end Go.Proofs.Qxb6630598a
