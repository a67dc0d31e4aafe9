import Derived.Test.Qxb6630598aRows
import Derived.Test.Qxb6630598aPlain
import Derived.WalkKit
import Derived.WalkSpells
import Derived.WalkLawsBesides
namespace Go.Proofs.Qxb6630598a
open Go.RowKit

theorem ret_int {k : IntKind} {a b : Int} (h : a = b) : Ending.returned (.int k a) = .returned (.int k b) := by rw [h]
theorem ret_bool {a b : Bool} (h : a = b) : Ending.returned (.bool a) = .returned (.bool b) := by rw [h]

set_option maxHeartbeats 400000 in
theorem tl_zero (ao : Option Addr) (cap : Nat) (d l : Int) (w : World) :
    Calls Try.prog 7 #[.slice ao 0 cap, .int .u32 d, .int .u64 l] w fun e w' => e = .returned (.int .u32 d) ∧ Below w.heap.size w w' := by
  go_enter Try.func7, Try.ntmps7
  go_wp2
  refine wp_loop_rounds 1 ?_
  rw [rounds_succ]
  go_wp2
  go_ret
  exact ⟨rfl, Below.refl _ _⟩

set_option maxHeartbeats 400000 in
theorem tl_some (b off len cap : Nat) (T E : Nat → Int) (d l : Int) (w : World) (hb : b < w.heap.size) (hlen : len ≤ maxLen)
    (hT : ∀ i, i < len → w.cell? ⟨b, off + i * 2, none⟩ = some (.int .u32 (T i))) (hE : ∀ i, i < len → w.cell? ⟨b, off + i * 2 + 1, none⟩ = some (.int .u64 (E i))) :
    Calls Try.prog 7 #[.slice (some ⟨b, off, none⟩) len cap, .int .u32 d, .int .u64 l] w fun e w' => e = .returned (.int .u32 (tlF T E l d 0 len)) ∧ Below w.heap.size w w' := by
  unfold maxLen at hlen
  go_enter Try.func7, Try.ntmps7
  go_wp2
  go_loopw [11] (fun i wr => ∃ k : Nat, k ≤ len ∧ i = .int .i64 k ∧ tlF T E l d k (len - k) = tlF T E l d 0 len ∧ Below w.heap.size w wr) (fun i _ => len - (intOf i).toNat)
  case atStart => exact ⟨0, Nat.zero_le _, rfl, rfl, Below.refl _ _⟩
  case round =>
    obtain ⟨k, hk, rfl, htl, hbel⟩ := hrel
    have HT : Hid (tlF T E l d k (len - k) = tlF T E l d 0 len) := htl
    clear htl
    by_cases hlt : k < len
    · have c0 : wr.cell? ⟨b, off + k * 2, none⟩ = some (.int .u32 (T k)) := (hbel.cell (by exact hb)).trans (hT k hlt)
      have c1 : wr.cell? ⟨b, off + k * 2 + 1, none⟩ = some (.int .u64 (E k)) := (hbel.cell (by exact hb)).trans (hE k hlt)
      by_cases hh : l < E k
      · go_wp2
        go_ret
        refine ⟨?_, ?_⟩
        · have h2 := HT.out
          rw [show len - k = (len - k - 1) + 1 by omega, tlF_hit hh] at h2
          exact ret_int h2
        · have := hbel.size
          exact hbel.alloc (by omega) _
      · go_wp2
        go_roundw
        case rel =>
          refine ⟨k + 1, by omega, by go_num, ?_, ?_⟩
          · have h2 := HT.out
            rw [show len - k = (len - (k + 1)) + 1 by omega, tlF_miss hh] at h2
            exact h2
          · have := hbel.size
            exact hbel.alloc (by omega) _
        case measure => simp [intOf]; omega
    · go_wp2
      go_ret
      refine ⟨?_, hbel⟩
      have h2 := HT.out
      rw [show len - k = 0 by omega] at h2
      exact ret_int h2

theorem tl_any (ao : Option Addr) (b off len cap : Nat) (T E : Nat → Int) (d l : Int) (w : World) (hb : 0 < len → b < w.heap.size) (hao : 0 < len → ao = some ⟨b, off, none⟩) (hlen : len ≤ maxLen)
    (hT : ∀ i, i < len → w.cell? ⟨b, off + i * 2, none⟩ = some (.int .u32 (T i))) (hE : ∀ i, i < len → w.cell? ⟨b, off + i * 2 + 1, none⟩ = some (.int .u64 (E i))) :
    Calls Try.prog 7 #[.slice ao len cap, .int .u32 d, .int .u64 l] w fun e w' => e = .returned (.int .u32 (tlF T E l d 0 len)) ∧ Below w.heap.size w w' := by
  by_cases h : 0 < len
  · rw [hao h]
    exact tl_some b off len cap T E d l w (hb h) hlen hT hE
  · obtain rfl : len = 0 := by omega
    exact tl_zero ao cap d l w

set_option maxHeartbeats 400000 in
theorem no_zero (ao : Option Addr) (cap : Nat) (l : Int) (w : World) :
    Calls Try.prog 8 #[.slice ao 0 cap, .int .u64 l] w fun e w' => e = .returned (.bool true) ∧ w' = w := by
  go_enter Try.func8, Try.ntmps8
  go_wp2
  refine wp_loop_rounds 1 ?_
  rw [rounds_succ]
  go_wp2
  go_ret
  exact ⟨rfl, rfl⟩

set_option maxHeartbeats 400000 in
theorem no_some (b off len cap : Nat) (E : Nat → Int) (l : Int) (w : World) (hlen : len ≤ maxLen)
    (hE : ∀ i, i < len → w.cell? ⟨b, off + i * 2 + 1, none⟩ = some (.int .u64 (E i))) :
    Calls Try.prog 8 #[.slice (some ⟨b, off, none⟩) len cap, .int .u64 l] w fun e w' => e = .returned (.bool (noneF E l 0 len)) ∧ w' = w := by
  unfold maxLen at hlen
  go_enter Try.func8, Try.ntmps8
  go_wp2
  go_loop [5] (fun i => ∃ k : Nat, k ≤ len ∧ i = .int .i64 k ∧ noneF E l k (len - k) = noneF E l 0 len) (fun i => len - (intOf i).toNat)
  case atStart => exact ⟨0, Nat.zero_le _, rfl, rfl⟩
  case round =>
    obtain ⟨k, hk, rfl, htl⟩ := hrel
    have HT : Hid (noneF E l k (len - k) = noneF E l 0 len) := htl
    clear htl
    by_cases hlt : k < len
    · have c1 := hE k hlt
      by_cases hh : l < E k
      · go_wp2
        go_ret
        refine ⟨?_, rfl⟩
        have h2 := HT.out
        rw [show len - k = (len - k - 1) + 1 by omega, noneF_hit hh] at h2
        exact ret_bool h2
      · go_wp2
        go_round
        case rel =>
          refine ⟨k + 1, by omega, by go_num, ?_⟩
          have h2 := HT.out
          rw [show len - k = (len - (k + 1)) + 1 by omega, noneF_miss hh] at h2
          exact h2
        case measure => simp [intOf]; omega
    · go_wp2
      go_ret
      refine ⟨?_, rfl⟩
      have h2 := HT.out
      rw [show len - k = 0 by omega] at h2
      exact ret_bool h2

theorem no_any (ao : Option Addr) (b off len cap : Nat) (E : Nat → Int) (l : Int) (w : World) (hao : 0 < len → ao = some ⟨b, off, none⟩) (hlen : len ≤ maxLen)
    (hE : ∀ i, i < len → w.cell? ⟨b, off + i * 2 + 1, none⟩ = some (.int .u64 (E i))) :
    Calls Try.prog 8 #[.slice ao len cap, .int .u64 l] w fun e w' => e = .returned (.bool (noneF E l 0 len)) ∧ w' = w := by
  by_cases h : 0 < len
  · rw [hao h]
    exact no_some b off len cap E l w hlen hE
  · obtain rfl : len = 0 := by omega
    exact no_zero ao cap l w

set_option maxHeartbeats 400000 in
theorem by4_any (ao : Option Addr) (len cap : Nat) (k d l : Int) (w : World) (hlen : len ≤ maxLen) :
    Calls Try.prog 9 #[.slice ao len cap, .int .i64 k, .int .u32 d, .int .u64 l] w fun e w' => e = .returned (.bool (decide (len ≤ 1048576))) ∧ w' = w := by
  unfold maxLen at hlen
  by_cases h : len ≤ 1048576
  · go_enter Try.func9, Try.ntmps9
    go_wp2
    go_ret
    exact ⟨by simp [h], rfl⟩
  · go_enter Try.func9, Try.ntmps9
    go_wp2
    go_ret
    exact ⟨by simp [h], rfl⟩

set_option maxHeartbeats 400000 in
theorem by6_any (ao : Option Addr) (len cap : Nat) (k d l d' l' : Int) (w : World) (hlen : len ≤ maxLen) :
    Calls Try.prog 5 #[.slice ao len cap, .int .i64 k, .int .u32 d, .int .u64 l, .int .u32 d', .int .u64 l'] w fun e w' => e = .returned (.bool (decide (len ≤ 1048576))) ∧ w' = w := by
  unfold maxLen at hlen
  by_cases h : len ≤ 1048576
  · go_enter Try.func5, Try.ntmps5
    go_wp2
    go_ret
    exact ⟨by simp [h], rfl⟩
  · go_enter Try.func5, Try.ntmps5
    go_wp2
    go_ret
    exact ⟨by simp [h], rfl⟩

theorem by4_yes (ao : Option Addr) (len cap : Nat) (k d l : Int) (w : World) (h : len ≤ 1048576) :
    Calls Try.prog 9 #[.slice ao len cap, .int .i64 k, .int .u32 d, .int .u64 l] w fun e w' => e = .returned (.bool true) ∧ w = w' := by
  refine (by4_any ao len cap k d l w (by unfold maxLen; omega)).mono ?_
  rintro e w' ⟨rfl, rfl⟩
  exact ⟨ret_bool (by simp [h]), rfl⟩
theorem by4_no (ao : Option Addr) (len cap : Nat) (k d l : Int) (w : World) (hl : len ≤ maxLen) (h : ¬ len ≤ 1048576) :
    Calls Try.prog 9 #[.slice ao len cap, .int .i64 k, .int .u32 d, .int .u64 l] w fun e w' => e = .returned (.bool false) ∧ w = w' := by
  refine (by4_any ao len cap k d l w hl).mono ?_
  rintro e w' ⟨rfl, rfl⟩
  exact ⟨ret_bool (by simp [h]), rfl⟩
theorem by6_yes (ao : Option Addr) (len cap : Nat) (k d l d' l' : Int) (w : World) (h : len ≤ 1048576) :
    Calls Try.prog 5 #[.slice ao len cap, .int .i64 k, .int .u32 d, .int .u64 l, .int .u32 d', .int .u64 l'] w fun e w' => e = .returned (.bool true) ∧ w = w' := by
  refine (by6_any ao len cap k d l d' l' w (by unfold maxLen; omega)).mono ?_
  rintro e w' ⟨rfl, rfl⟩
  exact ⟨ret_bool (by simp [h]), rfl⟩
theorem by6_no (ao : Option Addr) (len cap : Nat) (k d l d' l' : Int) (w : World) (hl : len ≤ maxLen) (h : ¬ len ≤ 1048576) :
    Calls Try.prog 5 #[.slice ao len cap, .int .i64 k, .int .u32 d, .int .u64 l, .int .u32 d', .int .u64 l'] w fun e w' => e = .returned (.bool false) ∧ w = w' := by
  refine (by6_any ao len cap k d l d' l' w hl).mono ?_
  rintro e w' ⟨rfl, rfl⟩
  exact ⟨ret_bool (by simp [h]), rfl⟩
end Go.Proofs.Qxb6630598a
