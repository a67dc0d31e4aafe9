/-
  THE PLAIN FUNCTIONS of the laws on manuscript.firstSurplus: shapes by index. No Go in sight.
-/
namespace Go.Proofs.Qxb6626044a

section
variable {α : Type} [DecidableEq α]

/-- How many of K 0, .., K (n-1) are k. -/
def cnt (K : Nat → α) : Nat → α → Nat
  | 0, _ => 0
  | n + 1, k => cnt K n k + if K n = k then 1 else 0

theorem cnt_succ (K : Nat → α) (n : Nat) (k : α) : cnt K (n + 1) k = cnt K n k + if K n = k then 1 else 0 := rfl
theorem cnt_hit (K : Nat → α) (n : Nat) : cnt K (n + 1) (K n) = cnt K n (K n) + 1 := by simp [cnt]
theorem cnt_le (K : Nat → α) (n : Nat) (k : α) : cnt K n k ≤ n := by
  induction n with
  | zero => exact Nat.le_refl _
  | succ n ih => simp only [cnt]; split <;> omega
theorem cnt_mono (K : Nat → α) (k : α) {m n : Nat} (h : m ≤ n) : cnt K m k ≤ cnt K n k := by
  induction n with
  | zero =>
    obtain rfl : m = 0 := by omega
    exact Nat.le_refl _
  | succ n ih =>
    by_cases e : m = n + 1
    · subst e; exact Nat.le_refl _
    · have := ih (by omega)
      simp only [cnt]
      omega

/-- Of more than h occurrences one has just h before it. -/
theorem cnt_at (K : Nat → α) (k : α) (h : Nat) : ∀ n, h < cnt K n k → ∃ i, i < n ∧ K i = k ∧ cnt K i k = h
  | 0, hh => by simp [cnt] at hh
  | n + 1, hh => by
    by_cases e : h < cnt K n k
    · obtain ⟨i, hi, r⟩ := cnt_at K k h n e
      exact ⟨i, by omega, r⟩
    · simp only [cnt] at hh
      split at hh
      · rename_i hk
        exact ⟨n, by omega, hk, by omega⟩
      · omega

/-- What firstSurplus answers from index i on, over the next n shapes. -/
def fsF (K : Nat → α) (M : α → Int) : Nat → Nat → Int
  | _, 0 => -1
  | i, n + 1 => if (cnt K i (K i) : Int) = M (K i) then i else fsF K M (i + 1) n

theorem fsF_hit {K : Nat → α} {M : α → Int} {i n : Nat} (h : (cnt K i (K i) : Int) = M (K i)) : fsF K M i (n + 1) = i := by simp [fsF, h]
theorem fsF_miss {K : Nat → α} {M : α → Int} {i n : Nat} (h : ¬ (cnt K i (K i) : Int) = M (K i)) : fsF K M i (n + 1) = fsF K M (i + 1) n := by simp [fsF, h]

theorem fsF_all {K : Nat → α} {M : α → Int} {i n : Nat} (h : ∀ j, i ≤ j → j < i + n → ¬ (cnt K j (K j) : Int) = M (K j)) : fsF K M i n = -1 := by
  induction n generalizing i with
  | zero => rfl
  | succ n ih => rw [fsF_miss (h i (by omega) (by omega)), ih fun j h1 h2 => h j (by omega) (by omega)]

theorem fsF_first {K : Nat → α} {M : α → Int} {i n r : Nat} (h1 : i ≤ r) (h2 : r < i + n) (hr : (cnt K r (K r) : Int) = M (K r)) (h : ∀ j, i ≤ j → j < r → ¬ (cnt K j (K j) : Int) = M (K j)) : fsF K M i n = r := by
  induction n generalizing i with
  | zero => omega
  | succ n ih =>
    by_cases e : i = r
    · subst e; exact fsF_hit hr
    · rw [fsF_miss (h i (by omega) (by omega)), ih (by omega) (by omega) fun j a b => h j (by omega) b]

/-- Either no shape, or a first one, stands just as often before itself as M says. -/
theorem fsF_cases (K : Nat → α) (M : α → Int) (n : Nat) :
    (fsF K M 0 n = -1 ∧ ∀ j, j < n → ¬ (cnt K j (K j) : Int) = M (K j)) ∨ ∃ r, r < n ∧ fsF K M 0 n = (r : Int) ∧ (cnt K r (K r) : Int) = M (K r) ∧ ∀ j, j < r → ¬ (cnt K j (K j) : Int) = M (K j) := by
  induction n with
  | zero => exact .inl ⟨rfl, fun j h => by omega⟩
  | succ n ih =>
    rcases ih with ⟨_, h⟩ | ⟨r, h1, _, h3, h4⟩
    · by_cases e : (cnt K n (K n) : Int) = M (K n)
      · exact .inr ⟨n, by omega, fsF_first (by omega) (by omega) e fun j _ hj => h j hj, e, h⟩
      · have h' : ∀ j, j < n + 1 → ¬ (cnt K j (K j) : Int) = M (K j) := fun j hj => by
          by_cases e' : j = n
          · subst e'; exact e
          · exact h j (by omega)
        exact .inl ⟨fsF_all fun j _ hj => h' j (by omega), h'⟩
    · exact .inr ⟨r, by omega, fsF_first (by omega) (by omega) h3 fun j _ hj => h4 j hj, h3, h4⟩

/-! ### exact counts -/
theorem exact_none {K : Nat → α} {M : α → Int} {n : Nat} (h : ∀ i, i < n → M (K i) = cnt K n (K i)) : fsF K M 0 n = -1 := by
  refine fsF_all fun j _ hj => ?_
  rw [h j (by omega)]
  have h1 := cnt_mono K (K j) (m := j + 1) (n := n) (by omega)
  rw [cnt_hit] at h1
  omega

/-- The index of the last of the first n that is k; -1 where there is none. -/
def lastF (K : Nat → α) (k : α) : Nat → Int
  | 0 => -1
  | n + 1 => if K n = k then n else lastF K k n

theorem lastF_is {K : Nat → α} {k : α} : ∀ {n : Nat}, 0 < cnt K n k → ∃ r, r < n ∧ lastF K k n = (r : Int) ∧ K r = k ∧ cnt K r k + 1 = cnt K n k
  | 0, h => by simp [cnt] at h
  | n + 1, h => by
    by_cases e : K n = k
    · exact ⟨n, by omega, by simp [lastF, e], e, by simp [cnt, e]⟩
    · obtain ⟨r, h1, h2, h3, h4⟩ := lastF_is (K := K) (k := k) (n := n) (by simpa [cnt, e] using h)
      exact ⟨r, by omega, by simp [lastF, e, h2], h3, by simp [cnt, e, h4]⟩

theorem exact_last {K : Nat → α} {M : α → Int} {n j : Nat} (hj : j < n) (h : ∀ i, i < n → K i ≠ K j → M (K i) = cnt K n (K i)) (hjm : M (K j) = (cnt K n (K j) : Int) - 1) : fsF K M 0 n = lastF K (K j) n := by
  have hpos : 0 < cnt K n (K j) := by
    have h1 := cnt_mono K (K j) (m := j + 1) (n := n) (by omega)
    rw [cnt_hit] at h1
    omega
  obtain ⟨r, hr, hl, hk, hc⟩ := lastF_is hpos
  rw [hl]
  refine fsF_first (by omega) (by omega) (by rw [hk, hjm]; omega) fun i _ hi => ?_
  by_cases e : K i = K j
  · rw [e, hjm]
    have h1 := cnt_mono K (K j) (m := i + 1) (n := r) (by omega)
    rw [cnt_succ, if_pos e] at h1
    omega
  · rw [h i (by omega) e]
    have h1 := cnt_mono K (K i) (m := i + 1) (n := n) (by omega)
    rw [cnt_hit] at h1
    omega

/-! ### the first overflow -/
/-- Some shape of the first m stands among them more times than a count of M that is not negative grants it. -/
def Surplus (K : Nat → α) (M : α → Int) (m : Nat) : Prop := ∃ i, i < m ∧ 0 ≤ M (K i) ∧ M (K i) < cnt K m (K i)

theorem surplus_iff (K : Nat → α) (M : α → Int) (m : Nat) : Surplus K M m ↔ ∃ i, i < m ∧ (cnt K i (K i) : Int) = M (K i) := by
  constructor
  · intro ⟨i, hi, h0, h1⟩
    obtain ⟨j, hj, hk, hc⟩ := cnt_at K (K i) (M (K i)).toNat m (by omega)
    exact ⟨j, hj, by rw [hk, hc]; omega⟩
  · intro ⟨i, hi, h⟩
    refine ⟨i, hi, by omega, ?_⟩
    have h1 := cnt_mono K (K i) (m := i + 1) (n := m) (by omega)
    rw [cnt_hit] at h1
    omega
end
end Go.Proofs.Qxb6626044a
