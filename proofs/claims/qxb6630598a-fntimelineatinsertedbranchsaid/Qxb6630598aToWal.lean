import Derived.Test.Qxb6630598aTl
import Derived.Deep.OwnRows
namespace Go.Proofs.Qxb6630598a
open Go.RowKit

/-- What the new row holds behind k rounds, cell by cell. -/
def mixF (T E : Nat → Int) (k j : Nat) : Value :=
  if j / 2 < k then (if j % 2 = 0 then .int .u32 (T (j / 2)) else .int .u64 (E (j / 2))) else (if j % 2 = 0 then .int .u32 0 else .int .u64 0)

theorem mixF_even {T E : Nat → Int} {k i : Nat} (h : i < k) : mixF T E k (i * 2) = .int .u32 (T i) := by
  have h1 : i * 2 / 2 = i := by omega
  have h2 : i * 2 % 2 = 0 := by omega
  simp [mixF, h]
theorem mixF_odd {T E : Nat → Int} {k i : Nat} (h : i < k) : mixF T E k (i * 2 + 1) = .int .u64 (E i) := by
  have h1 : (i * 2 + 1) / 2 = i := by omega
  have h2 : (i * 2 + 1) % 2 = 1 := by omega
  simp [mixF, h, h1, h2]

theorem made_start (T E : Nat → Int) (w : World) (n : Nat) : (w.alloc (.cells (madeCells #[.int .u32 0, .int .u64 0] (n * 2)) 30)).rowIs w.heap.size 30 (n * 2) (mixF T E 0) := by
  refine ⟨_, Go.Deep.blk_alloc_new _ _, size_madeCells _ _, fun i hi => ?_⟩
  rcases Nat.mod_two_eq_zero_or_one i with h | h <;> simp [madeCells, hi, mixF, h]

theorem mix_step {T E : Nat → Int} {wr : World} {B n k : Nat} (h : wr.rowIs B 30 (n * 2) (mixF T E k)) :
    ((wr.setCell ⟨B, k * 2, none⟩ (.int .u32 (T k))).setCell ⟨B, k * 2 + 1, none⟩ (.int .u64 (E k))).rowIs B 30 (n * 2) (mixF T E (k + 1)) := by
  refine ((h.set (k * 2) _).set (k * 2 + 1) _).congr fun j hj => ?_
  by_cases e1 : j = k * 2 + 1
  · subst e1; rw [if_pos rfl, mixF_odd (by omega)]
  · rw [if_neg e1]
    by_cases e0 : j = k * 2
    · subst e0; rw [if_pos rfl, mixF_even (by omega)]
    · rw [if_neg e0]
      have : j / 2 < k + 1 ↔ j / 2 < k := by omega
      simp [mixF, this]

theorem Try.info30 : (Try.prog.info? 30).map (fun i => (i.zero, i.size, i.bytes)) = some (some (.agg #[.int .u32 0, .int .u64 0]), 2, 16) := by kernel_rfl

theorem make_run (n : Nat) (hn : n ≤ 65537) (w : World) : (Instr.makeSlice 26 (.int .i64 (n : Int)) (.int .i64 (n : Int))).run Try.prog w = .ok (.slice (some ⟨w.heap.size, 0, none⟩) n n) (w.alloc (.cells (madeCells #[.int .u32 0, .int .u64 0] (n * 2)) 30)) := by
  obtain ⟨i, hi, hz0, hz1, hz2⟩ := info_parts Try.info30
  have := run_make (P := Try.prog) w 26 30 i _ Try.underlying26 hi hz0 .i64 .i64 n n (by omega) (Int.le_refl _) (by rw [hz2]; omega) (by omega)
  rw [this, hz1]
  rfl

set_option maxHeartbeats 400000 in
theorem toWal_nil (w : World) : Calls Try.prog 6 #[.slice none 0 0] w fun e w' => e = .returned (.slice none 0 0) ∧ w' = w := by
  have hnil : ∀ w, (binOp .eql 22 (.slice none 0 0) (.slice none 0 0)).run Try.prog w = .ok (.bool true) w := fun w => by
    rw [Lib.run_eql_slice_nil w 22 35 _ _ _ _ _ Try.underlying22]; rfl
  go_enter Try.func6, Try.ntmps6
  go_wp2
  go_ret
  exact ⟨rfl, rfl⟩

set_option maxHeartbeats 400000 in
theorem toWal_zero (ad : Addr) (cap : Nat) (T E : Nat → Int) (w : World) :
    Calls Try.prog 6 #[.slice (some ad) 0 cap] w fun e w' => e = .returned (.slice (some ⟨w.heap.size, 0, none⟩) 0 0) ∧ w'.rowIs w.heap.size 30 (0 * 2) (mixF T E 0) ∧ Below w.heap.size w w' := by
  have hmk := make_run 0 (by omega)
  simp only [Int.ofNat_zero] at hmk
  have hnil : ∀ w, (binOp .eql 22 (.slice (some ad) 0 cap) (.slice none 0 0)).run Try.prog w = .ok (.bool false) w := fun w => by
    rw [Lib.run_eql_slice_nil w 22 35 _ _ _ _ _ Try.underlying22]; rfl
  have hst := made_start T E w 0
  go_enter Try.func6, Try.ntmps6
  go_wp2
  refine wp_loop_rounds 1 ?_
  rw [rounds_succ]
  go_wp2
  go_ret
  exact ⟨rfl, hst, (Below.refl _ _).alloc (Nat.le_refl _) _⟩

set_option maxHeartbeats 400000 in
theorem toWal_pos (len cap : Nat) (T E : Nat → Int) (w : World) (b off : Nat) (hb : b < w.heap.size) (hlen : len ≤ 65536)
    (hT : ∀ i, i < len → w.cell? ⟨b, off + i * 2, none⟩ = some (.int .u32 (T i))) (hE : ∀ i, i < len → w.cell? ⟨b, off + i * 2 + 1, none⟩ = some (.int .u64 (E i))) :
    Calls Try.prog 6 #[.slice (some ⟨b, off, none⟩) len cap] w fun e w' => e = .returned (.slice (some ⟨w.heap.size, 0, none⟩) len len) ∧ w'.rowIs w.heap.size 30 (len * 2) (mixF T E len) ∧ Below w.heap.size w w' := by
  have hmk := make_run len (by omega)
  have hnil : ∀ w, (binOp .eql 22 (.slice (some ⟨b, off, none⟩) len cap) (.slice none 0 0)).run Try.prog w = .ok (.bool false) w := fun w => by
    rw [Lib.run_eql_slice_nil w 22 35 _ _ _ _ _ Try.underlying22]; rfl
  have hst : Hid ((w.alloc (.cells (madeCells #[.int .u32 0, .int .u64 0] (len * 2)) 30)).rowIs w.heap.size 30 (len * 2) (mixF T E 0)) := made_start T E w len
  go_enter Try.func6, Try.ntmps6
  go_wp2
  clear hmk hnil
  go_loopw [4] (fun i wr => ∃ k : Nat, k ≤ len ∧ i = .int .i64 k ∧ wr.rowIs w.heap.size 30 (len * 2) (mixF T E k) ∧ Below w.heap.size w wr) (fun i _ => len - (intOf i).toNat)
  case atStart => exact ⟨0, Nat.zero_le _, rfl, hst.out, (Below.refl _ _).alloc (Nat.le_refl _) _⟩
  case round =>
    obtain ⟨k, hk, rfl, hrow, hbel⟩ := hrel
    by_cases hlt : k < len
    · have c0 : wr.cell? ⟨b, off + k * 2, none⟩ = some (.int .u32 (T k)) := (hbel.cell (by exact hb)).trans (hT k hlt)
      have c1 : wr.cell? ⟨b, off + k * 2 + 1, none⟩ = some (.int .u64 (E k)) := (hbel.cell (by exact hb)).trans (hE k hlt)
      have d0 : ∃ v, wr.cell? ⟨w.heap.size, k * 2, none⟩ = some v := ⟨_, hrow.cell (by omega)⟩
      have d1 : ∃ v, wr.cell? ⟨w.heap.size, k * 2 + 1, none⟩ = some v := ⟨_, hrow.cell (by omega)⟩
      obtain ⟨v0, d0⟩ := d0
      obtain ⟨v1, d1⟩ := d1
      have f0 := hrow.frozen (k * 2)
      have f1 := hrow.frozen (k * 2 + 1)
      have hstep := mix_step hrow
      go_wp2
      go_region
      go_wp2
      go_roundw
      case rel => exact ⟨k + 1, by omega, by go_num, hstep, ((hbel.setCell (Nat.le_refl _) _).setCell (Nat.le_refl _) _).drew⟩
      case measure => simp [intOf]; omega
    · go_wp2
      go_ret
      obtain rfl : k = len := by omega
      exact ⟨rfl, hrow, hbel⟩

/-- 'toWal' of whatever slice that is not nil: a row of its own, one branch a row. -/
theorem toWal_some (ad : Addr) (len cap : Nat) (T E : Nat → Int) (w : World) (b off : Nat) (hb : 0 < len → b < w.heap.size) (had : 0 < len → ad = ⟨b, off, none⟩) (hlen : len ≤ 65536)
    (hT : ∀ i, i < len → w.cell? ⟨b, off + i * 2, none⟩ = some (.int .u32 (T i))) (hE : ∀ i, i < len → w.cell? ⟨b, off + i * 2 + 1, none⟩ = some (.int .u64 (E i))) :
    Calls Try.prog 6 #[.slice (some ad) len cap] w fun e w' => e = .returned (.slice (some ⟨w.heap.size, 0, none⟩) len len) ∧ w'.rowIs w.heap.size 30 (len * 2) (mixF T E len) ∧ Below w.heap.size w w' := by
  by_cases h : 0 < len
  · rw [had h]
    exact toWal_pos len cap T E w b off (hb h) hlen hT hE
  · obtain rfl : len = 0 := by omega
    exact toWal_zero ad cap T E w
end Go.Proofs.Qxb6630598a
