import Derived.Test.Qxb6630643aSmall
namespace Go.Proofs.Qxb6630643a
open Go.RowKit

theorem ce_eq {c d : Nat} (h : ((c : Int) == (d : Int)) = true) : ceqN c d = true := by
  have : c = d := by have h' := beq_iff_eq.1 h; omega
  simp [ceqN, this]
theorem ce_xor {c d : Nat} (hc : c < 256) (hd : d < 256) (h0 : ((c : Int) == (d : Int)) = false) (h : (bits .xor .u8 (c : Int) (d : Int) != 32) = true) : ceqN c d = false := by
  rw [u8_xor_nat c d hc hd] at h
  have e : c ≠ d := by intro e; subst e; simp at h0
  have e2 : c ^^^ d ≠ 32 := by
    intro e2
    rw [e2] at h
    simp at h
  simp [ceqN, e, e2]
theorem or_nat {c : Nat} (hc : c < 256) : bits .or .u8 (c : Int) 32 = ((c ||| 32 : Nat) : Int) := u8_or_nat c 32 hc (by omega)
theorem ce_or {c d : Nat} (hc : c < 256) (h0 : ((c : Int) == (d : Int)) = false) (h : bits .or .u8 (c : Int) 32 < 97 ∨ 122 < bits .or .u8 (c : Int) 32) : ceqN c d = false := by
  rw [or_nat hc] at h
  have e : c ≠ d := by intro e; subst e; simp at h0
  have e2 : ¬ (97 ≤ c ||| 32 ∧ c ||| 32 ≤ 122) := by omega
  simp [ceqN, e]
  intro _ h1
  omega
theorem ce_yes {c d : Nat} (hc : c < 256) (hd : d < 256) (h : (bits .xor .u8 (c : Int) (d : Int) != 32) = false) (h1 : 97 ≤ bits .or .u8 (c : Int) 32) (h2 : bits .or .u8 (c : Int) 32 ≤ 122) : ceqN c d = true := by
  rw [or_nat hc] at h1 h2
  rw [u8_xor_nat c d hc hd] at h
  have e2 : c ^^^ d = 32 := by
    have : ((c ^^^ d : Nat) : Int) = 32 := by simpa using h
    omega
  have a : 97 ≤ c ||| 32 := by omega
  have b : c ||| 32 ≤ 122 := by omega
  simp [ceqN, e2, a, b]

theorem close_no {x y : ByteArray} {r : Bool} (hr : r = true ↔ ∀ (j : Nat) (h : j < x.size) (h' : j < y.size), ceqN x[j].toNat y[j].toNat = true) {k : Nat} {h : k < x.size} {h' : k < y.size}
    (hf : ceqN x[k].toNat y[k].toNat = false) : false = r := by
  cases r with
  | false => rfl
  | true =>
    have := hr.1 rfl k h h'
    rw [hf] at this
    exact this
theorem close_yes {x y : ByteArray} {k : Nat} (ha : ∀ (j : Nat) (h : j < x.size) (h' : j < y.size), j < k → ceqN x[j].toNat y[j].toNat = true) {h : k < x.size} {h' : k < y.size}
    (hf : ceqN x[k].toNat y[k].toNat = true) : ∀ (j : Nat) (h : j < x.size) (h' : j < y.size), j < k + 1 → ceqN x[j].toNat y[j].toNat = true := by
  intro j h h' hj
  by_cases e : j = k
  · subst e; exact hf
  · exact ha j h h' (by omega)

set_option maxHeartbeats 400000 in
theorem same_len (x y : ByteArray) (w : World) (h : ¬ x.size = y.size) :
    Calls Try.prog 7 #[.string x, .string y] w fun e w' => e = .returned (.bool false) ∧ w' = w := by
  go_enter Try.func7, Try.ntmps7
  go_wp2
  go_ret
  exact ⟨rfl, rfl⟩

set_option maxHeartbeats 400000 in
theorem same_eq (x y : ByteArray) (w : World) (hx : x.size ≤ maxLen) (hs : x.size = y.size) (r : Bool)
    (hr : r = true ↔ ∀ (j : Nat) (h : j < x.size) (h' : j < y.size), ceqN x[j].toNat y[j].toNat = true) :
    Calls Try.prog 7 #[.string x, .string y] w fun e w' => e = .returned (.bool r) ∧ w' = w := by
  unfold maxLen at hx
  obtain ⟨n, hn⟩ : ∃ n, n = y.size := ⟨_, rfl⟩
  have HR : Hid (r = true ↔ ∀ (j : Nat) (h : j < x.size) (h' : j < y.size), ceqN x[j].toNat y[j].toNat = true) := hr
  have HS : Hid (x.size = y.size) := hs
  have hq : ((x.size : Int) == y.size) = true := by simp [hs]
  clear hr hs hn
  go_enter Try.func7, Try.ntmps7
  go_wp2
  go_loop [5] (fun i => ∃ k : Nat, k ≤ x.size ∧ i = .int .i64 k ∧ ∀ (j : Nat) (h : j < x.size) (h' : j < y.size), j < k → ceqN x[j].toNat y[j].toNat = true) (fun i => x.size - (intOf i).toNat)
  case atStart => exact ⟨0, Nat.zero_le _, rfl, fun j _ _ h => absurd h (by omega)⟩
  case round =>
    obtain ⟨k, hk, rfl, hall⟩ := hrel
    have HA : Hid (∀ (j : Nat) (h : j < x.size) (h' : j < y.size), j < k → ceqN x[j].toNat y[j].toNat = true) := hall
    clear hall
    by_cases hlt : k < x.size
    · have hlt' : k < y.size := by have := HS.out; omega
      go_wp2
      all_goals first
        | (go_ret; exact ⟨ret_bool (close_no HR.out (ce_xor (UInt8.toNat_lt _) (UInt8.toNat_lt _) ‹_› ‹_›)), rfl⟩)
        | (go_ret; exact ⟨ret_bool (close_no HR.out (ce_or (UInt8.toNat_lt _) ‹_› ‹_›)), rfl⟩)
        | (go_ret; exact ⟨ret_bool (close_no HR.out (ce_or (UInt8.toNat_lt _) ‹_› (.inl ‹_›))), rfl⟩)
        | (go_round
           case rel => exact ⟨k + 1, by omega, by go_num, close_yes HA.out (ce_eq ‹_›)⟩
           case measure => simp [intOf]; omega)
        | (go_round
           case rel => exact ⟨k + 1, by omega, by go_num, close_yes HA.out (ce_yes (UInt8.toNat_lt _) (UInt8.toNat_lt _) ‹_› (by omega) (by omega))⟩
           case measure => simp [intOf]; omega)
    · go_wp2
      go_ret
      refine ⟨ret_bool ?_, rfl⟩
      exact (HR.out.2 fun j h h' => HA.out j h h' (by omega)).symm

theorem same_any (x y : ByteArray) (w : World) (hx : x.size ≤ maxLen) {r : Bool} (hr : r = true ↔ Same x y) :
    Calls Try.prog 7 #[.string x, .string y] w fun e w' => e = .returned (.bool r) ∧ w = w' := by
  by_cases h : x.size = y.size
  · refine (same_eq x y w hx h r (hr.trans ⟨fun q => q.2, fun q => ⟨h, q⟩⟩)).mono ?_
    rintro e w' ⟨rfl, rfl⟩
    exact ⟨rfl, rfl⟩
  · refine (same_len x y w h).mono ?_
    rintro e w' ⟨rfl, rfl⟩
    refine ⟨ret_bool ?_, rfl⟩
    cases r with
    | false => rfl
    | true => exact absurd (hr.1 rfl).1 h
end Go.Proofs.Qxb6630643a
