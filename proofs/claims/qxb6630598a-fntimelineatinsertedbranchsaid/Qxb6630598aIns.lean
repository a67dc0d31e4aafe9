import Derived.Test.Qxb6630598aSplit
import Derived.Test.Qxb6630598aHist
namespace Go.Proofs.Qxb6630598a
open Go.RowKit

/-! ### The plain law -/

/-- The rows with one more at place k. -/
def insF (F : Nat → Int) (k : Nat) (x : Int) (j : Nat) : Int := if j < k then F j else if j = k then x else F (j - 1)

theorem tlF_ins (T E : Nat → Int) (l d t e : Int) (k len : Nat) (hk : k ≤ len) :
    tlF (insF T k t) (insF E k e) l d 0 (len + 1) = if l < e then tlF T E l t 0 k else tlF T E l d 0 len := by
  have h1 := tlF_split (insF T k t) (insF E k e) l d 0 k (len - k + 1)
  rw [show k + (len - k + 1) = len + 1 by omega, Nat.zero_add] at h1
  rw [h1]
  rw [tlF_congr (T' := T) (E' := E) (i := 0) (n := k) (fun j _ hj => by simp [insF]; omega) (fun j _ hj => by simp [insF]; omega)]
  have hT : insF T k t k = t := by simp [insF]
  have hE : insF E k e k = e := by simp [insF]
  by_cases h : l < e
  · rw [if_pos h, tlF_hit (by rw [hE]; exact h), hT]
  · rw [if_neg h, tlF_miss (by rw [hE]; exact h)]
    have h2 := tlF_shift (insF T k t) (insF E k e) l d 1 k (len - k)
    rw [Nat.add_comm 1 k] at h2
    rw [← h2]
    rw [tlF_congr (T' := T) (E' := E) (i := k) (n := len - k) (fun j h1 _ => by
      have a : ¬ 1 + j < k := by omega
      have b : ¬ 1 + j = k := by omega
      simp [insF, a, b]) (fun j h1 _ => by
      have a : ¬ 1 + j < k := by omega
      have b : ¬ 1 + j = k := by omega
      simp [insF, a, b])]
    have h3 := tlF_split T E l d 0 k (len - k)
    rw [show k + (len - k) = len by omega, Nat.zero_add] at h3
    exact h3.symm

/-! ### Rows as lists of cells -/

def pairF (T E : Nat → Int) (j : Nat) : Value := if j % 2 = 0 then .int .u32 (T (j / 2)) else .int .u64 (E (j / 2))
def rowsL (T E : Nat → Int) (i n : Nat) : List Value := (List.range (n * 2)).map fun j => pairF T E (i * 2 + j)

theorem rowsL_len (T E : Nat → Int) (i n : Nat) : (rowsL T E i n).length = n * 2 := by simp [rowsL]
theorem rowsL_get {T E : Nat → Int} {i n j : Nat} {u : Value} (h : (rowsL T E i n)[j]? = some u) : j < n * 2 ∧ u = pairF T E (i * 2 + j) := by
  have hj := (List.getElem?_eq_some_iff.1 h).1
  rw [rowsL_len] at hj
  refine ⟨hj, ?_⟩
  simp [rowsL, hj] at h
  exact h.symm
theorem rowsL_at {T E : Nat → Int} {i n j : Nat} (hj : j < n * 2) : (rowsL T E i n)[j]? = some (pairF T E (i * 2 + j)) := by simp [rowsL, hj]
theorem pairF_one (T E : Nat → Int) (j : Nat) : (pairF T E j).oneCell' = true := by unfold pairF; split <;> rfl
theorem rowsL_one (T E : Nat → Int) (i n : Nat) : ∀ u ∈ rowsL T E i n, u.oneCell' = true := by
  intro u hu
  simp only [rowsL, List.mem_map] at hu
  obtain ⟨j, _, rfl⟩ := hu
  exact pairF_one T E _

theorem rows_ins (T E : Nat → Int) (t e : Int) (k len : Nat) (hk : k ≤ len) (j : Nat) (hj : j < (len + 1) * 2) :
    (rowsL T E 0 k ++ [.int .u32 t, .int .u64 e] ++ rowsL T E k (len - k))[j]? = some (pairF (insF T k t) (insF E k e) j) := by
  by_cases h1 : j < k * 2
  · rw [List.append_assoc, List.getElem?_append_left (by rw [rowsL_len]; exact h1), rowsL_at h1]
    have : j / 2 < k := by omega
    simp [pairF, insF, this]
  · by_cases h2 : j < k * 2 + 2
    · rw [List.getElem?_append_left (by simp [rowsL_len]; omega), List.getElem?_append_right (by rw [rowsL_len]; omega), rowsL_len]
      rcases (show j = k * 2 ∨ j = k * 2 + 1 by omega) with rfl | rfl
      · simp [pairF, insF]
      · have a : (k * 2 + 1) / 2 = k := by omega
        have b : (k * 2 + 1) % 2 = 1 := by omega
        simp [pairF, insF, a, b]
    · rw [List.getElem?_append_right (by simp [rowsL_len]; omega)]
      rw [rowsL_at (by simp [rowsL_len]; omega)]
      have a : ¬ j / 2 < k := by omega
      have b : ¬ j / 2 = k := by omega
      have c : (k * 2 + (j - (k * 2 + 2))) / 2 = j / 2 - 1 := by omega
      have d : (k * 2 + (j - (k * 2 + 2))) % 2 = j % 2 := by omega
      simp [rowsL_len, pairF, insF, a, b, c, d]

/-! ### The history, nil or not -/

structure HistO (w : World) (ao : Option Addr) (B len : Nat) (T E : Nat → Int) : Prop where
  lt : ao = some ⟨B, 0, none⟩ ∧ B < w.heap.size ∨ ao = none ∧ len = 0
  small : len ≤ 65536
  t : ∀ i, i < len → w.cell? ⟨B, i * 2, none⟩ = some (.int .u32 (T i))
  e : ∀ i, i < len → w.cell? ⟨B, i * 2 + 1, none⟩ = some (.int .u64 (E i))

namespace HistO
variable {w w' : World} {ao : Option Addr} {B len : Nat} {T E : Nat → Int}

theorem pos (h : HistO w ao B len T E) (hp : 0 < len) : ao = some ⟨B, 0, none⟩ ∧ B < w.heap.size := by
  rcases h.lt with h | ⟨_, h⟩
  · exact h
  · omega

theorem keep (h : HistO w ao B len T E) {C : Nat} (hC : 0 < len → B < C) (hb : Below C w w') : HistO w' ao B len T E := by
  refine ⟨?_, h.small, fun i hi => ?_, fun i hi => ?_⟩
  · rcases h.lt with ⟨a, b⟩ | h
    · exact .inl ⟨a, Nat.lt_of_lt_of_le b hb.size⟩
    · exact .inr h
  · exact (hb.cell (p := ⟨B, i * 2, none⟩) (hC (by omega))).trans (h.t i hi)
  · exact (hb.cell (p := ⟨B, i * 2 + 1, none⟩) (hC (by omega))).trans (h.e i hi)

theorem below (h : HistO w ao B len T E) (hb : Below w.heap.size w w') : HistO w' ao B len T E := h.keep (fun hp => (h.pos hp).2) hb

theorem cellAt (h : HistO w ao B len T E) {j : Nat} (hj : j < len * 2) : w.cell? ⟨B, j, none⟩ = some (pairF T E j) := by
  rcases Nat.mod_two_eq_zero_or_one j with hm | hm
  · have := h.t (j / 2) (by omega)
    rw [show j / 2 * 2 = j by omega] at this
    simp [pairF, hm, this]
  · have := h.e (j / 2) (by omega)
    rw [show j / 2 * 2 + 1 = j by omega] at this
    simp [pairF, hm, this]

theorem tl_whole (h : HistO w ao B len T E) (d l : Int) {r : Int} (hr : tlF T E l d 0 len = r) :
    Calls Try.prog 7 #[.slice ao len len, .int .u32 d, .int .u64 l] w fun e w' => e = .returned (.int .u32 r) ∧ Below w.heap.size w w' := by
  have := h.small
  subst hr
  exact tl_any ao B 0 len len T E d l w (fun hp => (h.pos hp).2) (fun hp => (h.pos hp).1) (by unfold maxLen; omega) (fun i hi => by rw [Nat.zero_add]; exact h.t i hi) (fun i hi => by rw [Nat.zero_add]; exact h.e i hi)

theorem tl_head (h : HistO w ao B len T E) (k : Nat) (hk : k ≤ len) (d l : Int) {r : Int} (hr : tlF T E l d 0 k = r) :
    Calls Try.prog 7 #[.slice ao k len, .int .u32 d, .int .u64 l] w fun e w' => e = .returned (.int .u32 r) ∧ Below w.heap.size w w' := by
  have := h.small
  subst hr
  exact tl_any ao B 0 k len T E d l w (fun hp => (h.pos (by omega)).2) (fun hp => (h.pos (by omega)).1) (by unfold maxLen; omega) (fun i hi => by rw [Nat.zero_add]; exact h.t i (by omega)) (fun i hi => by rw [Nat.zero_add]; exact h.e i (by omega))

theorem no_head (h : HistO w ao B len T E) (k : Nat) (hk : k ≤ len) (l : Int) {r : Bool} (hr : noneF E l 0 k = r) :
    Calls Try.prog 8 #[.slice ao k len, .int .u64 l] w fun e w' => e = .returned (.bool r) ∧ w = w' := by
  have := h.small
  refine (no_any ao B 0 k len E l w (fun hp => (h.pos (by omega)).1) (by unfold maxLen; omega) (fun i hi => by rw [Nat.zero_add]; exact h.e i (by omega))).mono ?_
  rintro e w' ⟨rfl, rfl⟩
  exact ⟨ret_bool hr, rfl⟩

theorem cut_head (h : HistO w ao B len T E) (k : Nat) (hk : k ≤ len) (v : World) : (Instr.slice 26 (.slice ao len len) none (some (.int .i64 (k : Int))) none).run Try.prog v = .ok (.slice ao k len) v := by
  rcases h.lt with ⟨rfl, _⟩ | ⟨rfl, rfl⟩
  · exact Qxb6630598a.cut_head B len k hk v
  · obtain rfl : k = 0 := by omega
    obtain ⟨i, hi, hz0, hz1, hz2⟩ := info_parts Try.info30
    have hs : (sizeOf 30).run Try.prog v = .ok 2 v := by simp [sizeOf, typeInfo, hi, hz1]
    rw [run_slice_h v 26 none 0 0 Try.underlying26 .i64 ((0 : Nat) : Int) (by omega) (by omega)]
    rw [show Try.prog.elem 26 = 30 from by kernel_rfl, hs]
    rfl

theorem cut_tail (h : HistO w ao B len T E) (k : Nat) (hk : k ≤ len) : ∃ ao' : Option Addr, ((0 < len - k → ao' = some ⟨B, k * 2, none⟩) ∧ (ao' = none → len - k = 0)) ∧
    ∀ v, (Instr.slice 26 (.slice ao len len) (some (.int .i64 (k : Int))) none none).run Try.prog v = .ok (.slice ao' (len - k) (len - k)) v := by
  rcases h.lt with ⟨rfl, _⟩ | ⟨rfl, rfl⟩
  · obtain ⟨ao', h1, h2⟩ := Qxb6630598a.cut_tail B len k hk
    refine ⟨ao', ⟨h1, fun hn => ?_⟩, h2⟩
    by_cases hp : 0 < len - k
    · rw [h1 hp] at hn; simp at hn
    · omega
  · obtain rfl : k = 0 := by omega
    refine ⟨none, ⟨fun hp => by omega, fun _ => rfl⟩, fun v => ?_⟩
    obtain ⟨i, hi, hz0, hz1, hz2⟩ := info_parts Try.info30
    have hs : (sizeOf 30).run Try.prog v = .ok 2 v := by simp [sizeOf, typeInfo, hi, hz1]
    rw [run_slice_l v 26 none 0 0 Try.underlying26 .i64 ((0 : Nat) : Int) (by omega) (by omega)]
    rw [show Try.prog.elem 26 = 30 from by kernel_rfl, hs]
    rfl
end HistO

theorem toWal_any (ao : Option Addr) (len cap : Nat) (w : World) (hh : IsHist w ao len cap) (hlen : len ≤ 65536) : ∃ (ao' : Option Addr) (T E : Nat → Int), 
    Calls Try.prog 6 #[.slice ao len cap] w fun e w' => e = .returned (.slice ao' len len) ∧ HistO w' ao' w.heap.size len T E ∧ Below w.heap.size w w' := by
  rcases hh with ⟨rfl, rfl, rfl⟩ | ⟨ad, b, off, T, E, rfl, hm, hb, had, hT, hE⟩
  · refine ⟨none, fun _ => 0, fun _ => 0, (toWal_nil w).mono ?_⟩
    rintro e w' ⟨rfl, rfl⟩
    exact ⟨rfl, ⟨.inr ⟨rfl, rfl⟩, by omega, fun i hi => by omega, fun i hi => by omega⟩, Below.refl _ _⟩
  · refine ⟨some ⟨w.heap.size, 0, none⟩, T, E, (toWal_some ad len cap T E w b off hb had hlen hT hE).mono ?_⟩
    rintro e w' ⟨rfl, hrow, hbel⟩
    have h := Hist.of_row hrow hlen
    exact ⟨rfl, ⟨.inl ⟨rfl, h.lt⟩, hlen, h.t, h.e⟩, hbel⟩
end Go.Proofs.Qxb6630598a
