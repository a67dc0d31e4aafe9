/-
  THE PLAIN FUNCTIONS of the laws on wal.TimelineAt: rows by index ('T i': the timeline of row i, 'E i': its end). No Go in sight.
-/
namespace Go.Proofs.Qxb6630598a

/-- The answer over the rows i, i+1, .., i+n-1. -/
def tlF (T E : Nat → Int) (l d : Int) : Nat → Nat → Int
  | _, 0 => d
  | i, n + 1 => if l < E i then T i else tlF T E l d (i + 1) n

/-- No row of i, .., i+n-1 ends beyond l. -/
def noneF (E : Nat → Int) (l : Int) : Nat → Nat → Bool
  | _, 0 => true
  | i, n + 1 => if l < E i then false else noneF E l (i + 1) n

theorem tlF_hit {T E : Nat → Int} {l d : Int} {i n : Nat} (h : l < E i) : tlF T E l d i (n + 1) = T i := by simp [tlF, h]
theorem tlF_miss {T E : Nat → Int} {l d : Int} {i n : Nat} (h : ¬ l < E i) : tlF T E l d i (n + 1) = tlF T E l d (i + 1) n := by simp [tlF, h]
theorem noneF_hit {E : Nat → Int} {l : Int} {i n : Nat} (h : l < E i) : noneF E l i (n + 1) = false := by simp [noneF, h]
theorem noneF_miss {E : Nat → Int} {l : Int} {i n : Nat} (h : ¬ l < E i) : noneF E l i (n + 1) = noneF E l (i + 1) n := by simp [noneF, h]

theorem tlF_shift (T E : Nat → Int) (l d : Int) (k i n : Nat) : tlF (fun j => T (k + j)) (fun j => E (k + j)) l d i n = tlF T E l d (k + i) n := by
  induction n generalizing i with
  | zero => rfl
  | succ n ih => simp only [tlF]; rw [ih (i + 1), Nat.add_assoc]

theorem noneF_shift (E : Nat → Int) (l : Int) (k i n : Nat) : noneF (fun j => E (k + j)) l i n = noneF E l (k + i) n := by
  induction n generalizing i with
  | zero => rfl
  | succ n ih => simp only [noneF]; rw [ih (i + 1), Nat.add_assoc]

theorem tlF_split (T E : Nat → Int) (l d : Int) (i m n : Nat) : tlF T E l d i (m + n) = tlF T E l (tlF T E l d (i + m) n) i m := by
  induction m generalizing i with
  | zero => simp [tlF]
  | succ m ih =>
    rw [show m + 1 + n = (m + n) + 1 by omega]
    simp only [tlF]
    split
    · rfl
    · rw [ih (i + 1), show i + 1 + m = i + (m + 1) by omega]

theorem tlF_none {T E : Nat → Int} {l d : Int} {i n : Nat} (h : noneF E l i n = true) : tlF T E l d i n = d := by
  induction n generalizing i with
  | zero => rfl
  | succ n ih =>
    simp only [noneF] at h
    split at h
    · simp at h
    · rename_i hh
      rw [tlF_miss hh, ih h]

/-- Rows agree: answers agree. -/
theorem tlF_congr {T E T' E' : Nat → Int} {l d : Int} {i n : Nat} (hT : ∀ j, i ≤ j → j < i + n → T j = T' j) (hE : ∀ j, i ≤ j → j < i + n → E j = E' j) : tlF T E l d i n = tlF T' E' l d i n := by
  induction n generalizing i with
  | zero => rfl
  | succ n ih =>
    simp only [tlF]
    rw [hT i (by omega) (by omega), hE i (by omega) (by omega), ih (fun j h1 h2 => hT j (by omega) (by omega)) (fun j h1 h2 => hE j (by omega) (by omega))]

/-- Where some row ends beyond l the answer is the timeline of such a row. -/
theorem tlF_some {T E : Nat → Int} {l d : Int} {i n : Nat} (h : noneF E l i n = false) : ∃ j, i ≤ j ∧ j < i + n ∧ l < E j ∧ T j = tlF T E l d i n := by
  induction n generalizing i with
  | zero => simp [noneF] at h
  | succ n ih =>
    by_cases hh : l < E i
    · exact ⟨i, by omega, by omega, hh, (tlF_hit hh).symm⟩
    · rw [noneF_miss hh] at h
      obtain ⟨j, h1, h2, h3, h4⟩ := ih h
      exact ⟨j, by omega, by omega, h3, by rw [h4, tlF_miss hh]⟩

end Go.Proofs.Qxb6630598a
