import Derived.Test.Qxb6625826aCnt
namespace Go.Proofs.Qxb6625826a
open Go.RowKit
set_option linter.unusedVariables false

/-- The wanted counts behind k rounds of the law's loop. -/
def dF (C : Nat → Int) (SL gap : Int) (k i : Nat) : Int := if i < k ∧ (SL - i) % 1001 < gap then 0 else C i
/-- The wanted total behind k rounds. -/
def wF (C : Nat → Int) (tot SL gap : Int) : Nat → Int
  | 0 => tot
  | k + 1 => if (SL - k) % 1001 < gap then wrap64 (wF C tot SL gap k - C k) else wF C tot SL gap k

theorem clr_miss (C : Nat → Int) (LO : Int) (i : Nat) : ∀ n : Nat, (∀ k : Nat, k < n → i ≠ ((LO + k) % 1001).toNat) → clrF C LO n i = C i
  | 0, _ => rfl
  | n + 1, h => by
    show (if i = ((LO + n) % 1001).toNat then 0 else clrF C LO n i) = C i
    rw [if_neg (h n (by omega))]
    exact clr_miss C LO i n fun k hk => h k (by omega)
theorem clr_hit (C : Nat → Int) (LO : Int) (i : Nat) : ∀ n k : Nat, k < n → i = ((LO + k) % 1001).toNat → clrF C LO n i = 0
  | 0, _, h, _ => absurd h (by omega)
  | n + 1, k, h, e => by
    show (if i = ((LO + n) % 1001).toNat then 0 else clrF C LO n i) = 0
    by_cases h2 : i = ((LO + n) % 1001).toNat
    · rw [if_pos h2]
    · rw [if_neg h2]
      refine clr_hit C LO i n k ?_ e
      rcases Nat.lt_or_ge k n with h3 | h3
      · exact h3
      · have : k = n := by omega
        subst this
        exact absurd e h2

theorem clr_is (C : Nat → Int) (lat SL : Int) (hl0 : 0 ≤ lat) (hle : lat < SL) (i : Nat) (hi : i < 1001) : clrF C (loF lat SL) (stepsF lat SL) i = dF C SL (SL - lat) 1001 i := by
  have hn : loF lat SL + (stepsF lat SL : Int) = SL + 1 ∧ (loF lat SL = lat + 1 ∨ (loF lat SL = SL - 1000 ∧ 1001 < SL - lat)) ∧ 0 ≤ loF lat SL := by
    unfold loF stepsF
    rw [if_pos hle]
    split <;> omega
  obtain ⟨h1, h2, h3⟩ := hn
  unfold dF
  by_cases hr : (SL - i) % 1001 < SL - lat
  · rw [if_pos ⟨hi, hr⟩]
    refine clr_hit C _ i _ (SL - (SL - i) % 1001 - loF lat SL).toNat ?_ ?_
    · omega
    · omega
  · rw [if_neg (fun h => hr h.2)]
    refine clr_miss C _ i _ fun k hk => ?_
    omega

/-- The sum of the first n. -/
def sumF (C : Nat → Int) : Nat → Int
  | 0 => 0
  | n + 1 => sumF C n + C n
theorem sum_congr {C D : Nat → Int} : ∀ n : Nat, (∀ i, i < n → C i = D i) → sumF C n = sumF D n
  | 0, _ => rfl
  | n + 1, h => by
    show sumF C n + C n = sumF D n + D n
    rw [sum_congr n fun i hi => h i (by omega), h n (by omega)]
theorem sum_upd (C : Nat → Int) (p : Nat) : ∀ n : Nat, sumF (fun i => if i = p then 0 else C i) n = if p < n then sumF C n - C p else sumF C n
  | 0 => by simp [sumF]
  | n + 1 => by
    show sumF (fun i => if i = p then 0 else C i) n + (if n = p then 0 else C n) = _
    rw [sum_upd C p n]
    show _ = if p < n + 1 then sumF C n + C n - C p else sumF C n + C n
    by_cases h : n = p
    · subst h
      rw [if_neg (by omega), if_pos rfl, if_pos (by omega)]; omega
    · rw [if_neg h]
      by_cases h2 : p < n
      · rw [if_pos h2, if_pos (by omega)]; omega
      · rw [if_neg h2, if_neg (by omega)]

theorem wrap_wrap (a : Int) : wrap64 (wrap64 a) = wrap64 a := by unfold wrap64; omega
theorem wrap_sub (a b c : Int) (h : wrap64 a = wrap64 b) : wrap64 (wrap64 (a - c)) = wrap64 (b - c) := by
  unfold wrap64 at *
  omega
theorem tot_cong (C : Nat → Int) (tot LO : Int) (n : Nat) : wrap64 (totF C tot LO n) = wrap64 (tot - sumF C 1001 + sumF (clrF C LO n) 1001) := by
  induction n with
  | zero =>
    show wrap64 tot = wrap64 (tot - sumF C 1001 + sumF C 1001)
    rw [show tot - sumF C 1001 + sumF C 1001 = tot by omega]
  | succ n ih =>
    show wrap64 (wrap64 (totF C tot LO n - clrF C LO n ((LO + n) % 1001).toNat)) = wrap64 (tot - sumF C 1001 + sumF (fun i => if i = ((LO + n) % 1001).toNat then 0 else clrF C LO n i) 1001)
    rw [sum_upd, if_pos (by omega), wrap_sub _ _ _ ih]
    congr 1
    omega
theorem w_cong (C : Nat → Int) (tot SL gap : Int) (n : Nat) (hn : n ≤ 1001) : wrap64 (wF C tot SL gap n) = wrap64 (tot - sumF C n + sumF (dF C SL gap 1001) n) := by
  induction n with
  | zero =>
    show wrap64 tot = wrap64 (tot - 0 + 0)
    rw [show tot - 0 + 0 = tot by omega]
  | succ n ih =>
    show wrap64 (if (SL - n) % 1001 < gap then wrap64 (wF C tot SL gap n - C n) else wF C tot SL gap n) = wrap64 (tot - (sumF C n + C n) + (sumF (dF C SL gap 1001) n + dF C SL gap 1001 n))
    have ih := ih (by omega)
    by_cases h : (SL - n) % 1001 < gap
    · have e : dF C SL gap 1001 n = 0 := if_pos ⟨by omega, h⟩
      rw [if_pos h, e, wrap_sub _ _ _ ih]
      congr 1
      omega
    · have e : dF C SL gap 1001 n = C n := if_neg fun h2 => h h2.2
      rw [if_neg h, e, ih]
      congr 1
      omega
theorem tot_range (C : Nat → Int) (tot LO : Int) (h : wrap64 tot = tot) : ∀ n : Nat, wrap64 (totF C tot LO n) = totF C tot LO n
  | 0 => h
  | n + 1 => by show wrap64 (wrap64 _) = wrap64 _; unfold wrap64; omega
theorem w_range (C : Nat → Int) (tot SL gap : Int) (h : wrap64 tot = tot) : ∀ n : Nat, wrap64 (wF C tot SL gap n) = wF C tot SL gap n
  | 0 => h
  | n + 1 => by
    have ih := w_range C tot SL gap h n
    show wrap64 (if _ then wrap64 _ else wF C tot SL gap n) = if _ then wrap64 _ else wF C tot SL gap n
    split
    · exact wrap_wrap _
    · exact ih
theorem tot_is (C : Nat → Int) (tot lat SL : Int) (hl0 : 0 ≤ lat) (hle : lat < SL) (ht : wrap64 tot = tot) : totF C tot (loF lat SL) (stepsF lat SL) = wF C tot SL (SL - lat) 1001 := by
  rw [← tot_range C tot _ ht, ← w_range C tot _ _ ht, tot_cong, w_cong _ _ _ _ _ (Nat.le_refl _), sum_congr 1001 fun i hi => clr_is C lat SL hl0 hle i hi]
end Go.Proofs.Qxb6625826a
