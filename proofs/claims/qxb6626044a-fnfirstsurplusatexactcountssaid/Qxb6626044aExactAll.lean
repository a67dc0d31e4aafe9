import Derived.Test.Qxb6626044aExact
namespace Go.Proofs.Qxb6626044a
open Go.RowKit
set_option linter.unusedVariables false

set_option maxHeartbeats 400000 in
theorem exact_big (ao : Option Addr) (b off len cap : Nat) (K : Nat → Key) (j : Int) (w : World) (hao : 0 < len → ao = some ⟨b, off, none⟩) (hm : len ≤ maxLen) (hlen : ¬ len ≤ 4096) (hsh : Shapes w b off len K) :
    Calls Try.prog 4 #[.slice ao len cap, .int .i64 j] w fun e w' => e = .returned (.bool true) ∧ Below w.heap.size w w' := by
  go_enter Try.func4, Try.ntmps4
  go_wp2_with fail
  refine (by9_any ao b off len cap K j w hao hm hsh).mono ?_
  rintro e w' ⟨⟨r, rfl⟩, rfl⟩
  unfold maxLen at hm
  cases r with
  | false =>
    go_wp2
    go_ret
    exact ⟨rfl, Below.refl _ _⟩
  | true =>
    go_wp2
    go_ret
    exact ⟨rfl, Below.refl _ _⟩

set_option maxHeartbeats 400000 in
theorem exact_neg (ao : Option Addr) (b off len cap : Nat) (K : Nat → Key) (j : Int) (w : World) (hao : 0 < len → ao = some ⟨b, off, none⟩) (hlen : len ≤ 4096) (hp : 0 < len) (hj : j < 0) (hsh : Shapes w b off len K) :
    Calls Try.prog 4 #[.slice ao len cap, .int .i64 j] w fun e w' => e = .returned (.bool true) ∧ Below w.heap.size w w' := by
  obtain rfl := hao hp
  clear hao
  go_enter Try.func4, Try.ntmps4
  go_wp2_with fail
  refine (by9_any _ b off len cap K j w (fun _ => rfl) (by unfold maxLen; omega) hsh).mono ?_
  rintro e w' ⟨⟨r, rfl⟩, rfl⟩
  cases r with
  | false =>
    go_wp2
    go_ret
    exact ⟨rfl, Below.refl _ _⟩
  | true =>
    go_wp2_with fail
    refine (lines_any _ b off len cap K w (fun _ => rfl) hlen hsh).mono ?_
    rintro e w' ⟨⟨t, rfl⟩, rfl⟩
    go_wp2
    all_goals
      go_ret
      exact ⟨rfl, Below.refl _ _⟩

set_option maxHeartbeats 400000 in
theorem exact_far (ao : Option Addr) (b off len cap : Nat) (K : Nat → Key) (j : Int) (w : World) (hao : 0 < len → ao = some ⟨b, off, none⟩) (hlen : len ≤ 4096) (hp : 0 < len) (h0 : 0 ≤ j) (hj : (len : Int) ≤ j) (hsh : Shapes w b off len K) :
    Calls Try.prog 4 #[.slice ao len cap, .int .i64 j] w fun e w' => e = .returned (.bool true) ∧ Below w.heap.size w w' := by
  obtain rfl := hao hp
  clear hao
  go_enter Try.func4, Try.ntmps4
  go_wp2_with fail
  refine (by9_any _ b off len cap K j w (fun _ => rfl) (by unfold maxLen; omega) hsh).mono ?_
  rintro e w' ⟨⟨r, rfl⟩, rfl⟩
  cases r with
  | false =>
    go_wp2
    go_ret
    exact ⟨rfl, Below.refl _ _⟩
  | true =>
    go_wp2_with fail
    refine (lines_any _ b off len cap K w (fun _ => rfl) hlen hsh).mono ?_
    rintro e w' ⟨⟨t, rfl⟩, rfl⟩
    go_wp2
    all_goals
      go_ret
      exact ⟨rfl, Below.refl _ _⟩

set_option maxHeartbeats 1000000 in
theorem exact_empty (ao : Option Addr) (cap : Nat) (j : Int) (w : World) :
    Calls Try.prog 4 #[.slice ao 0 cap, .int .i64 j] w fun e w' => e = .returned (.bool true) ∧ Below w.heap.size w w' := by
  have hmm := @run_makeMap Try.prog
  have hmk := make_run 0 (by omega)
  simp only [Int.ofNat_zero] at hmk
  have hsh : Shapes w 0 0 0 (fun _ => (0, ByteArray.empty)) := ⟨fun h => by omega, fun i h => by omega, fun i h => by omega, fun i h => by omega⟩
  go_enter Try.func4, Try.ntmps4
  go_wp2_with fail
  refine (by9_any ao 0 0 0 cap (fun _ => (0, ByteArray.empty)) j w (fun h => by omega) (Nat.zero_le _) hsh).mono ?_
  rintro e w' ⟨⟨r, rfl⟩, rfl⟩
  cases r with
  | false =>
    go_wp2
    go_ret
    exact ⟨rfl, Below.refl _ _⟩
  | true =>
    go_wp2_with fail
    refine (lines_any ao 0 0 0 cap (fun _ => (0, ByteArray.empty)) w (fun h => by omega) (by omega) hsh).mono ?_
    rintro e w' ⟨⟨t, rfl⟩, rfl⟩
    go_wp2
    · go_ret
      exact ⟨rfl, Below.refl _ _⟩
    · refine wp_loop_rounds 1 ?_
      rw [rounds_succ]
      go_wp2
      refine wp_loop_rounds 1 ?_
      rw [rounds_succ]
      have hM0 := MapOwn.made 28 ((w.alloc (.map #[] 0)).alloc (.cells (madeCells #[.int .i64 0, .string ByteArray.empty] 0) 28))
      have hs2 : ((w.alloc (.map #[] 0)).alloc (.cells (madeCells #[.int .i64 0, .string ByteArray.empty] 0) 28)).heap.size = w.heap.size + 1 + 1 := by rw [World.size_alloc, World.size_alloc]
      rw [hs2] at hM0
      have bA : Below w.heap.size w (((w.alloc (.map #[] 0)).alloc (.cells (madeCells #[.int .i64 0, .string ByteArray.empty] 0) 28)).alloc (.map #[] 0)) :=
        (((Below.refl _ _).alloc (Nat.le_refl _) _).alloc (by rw [World.size_alloc]; omega) _).alloc (by rw [hs2]; omega) _
      clear hmm hmk
      go_wp2_with fail
      refine (zz_any (w.heap.size + 1) 0 0 (w.heap.size + 1 + 1) 0 (fun _ => (0, ByteArray.empty)) _ _ (by omega) ⟨fun h => by omega, fun i h => by omega, fun i h => by omega, fun i h => by omega⟩ hM0 (r := -1) rfl).mono ?_
      rintro e w9 ⟨rfl, hb9⟩
      go_wp2
      go_ret
      exact ⟨rfl, bA.trans (hb9.mono bA.size)⟩

theorem exact_any (ao : Option Addr) (b off len cap : Nat) (K : Nat → Key) (j : Int) (w : World) (hao : 0 < len → ao = some ⟨b, off, none⟩) (hm : len ≤ maxLen) (hsh : Shapes w b off len K) :
    Calls Try.prog 4 #[.slice ao len cap, .int .i64 j] w fun e w' => e = .returned (.bool true) ∧ Below w.heap.size w w' := by
  by_cases h : len ≤ 4096
  · by_cases hp : 0 < len
    · by_cases h0 : j < 0
      · exact exact_neg ao b off len cap K j w hao h hp h0 hsh
      · by_cases h1 : (len : Int) ≤ j
        · exact exact_far ao b off len cap K j w hao h hp (by omega) h1 hsh
        · obtain ⟨n, rfl⟩ : ∃ n : Nat, j = n := ⟨j.toNat, by omega⟩
          rw [hao hp]
          exact exact_main b off len cap K n w h (by omega) hsh
    · obtain rfl : len = 0 := by omega
      exact exact_empty ao cap j w
  · exact exact_big ao b off len cap K j w hao hm h hsh
end Go.Proofs.Qxb6626044a
