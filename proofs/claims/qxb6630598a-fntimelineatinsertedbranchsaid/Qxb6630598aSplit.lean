import Derived.Test.Qxb6630598aToWal
import Derived.Deep.QuietTactic
import Derived.BigQuiet
namespace Go.Proofs.Qxb6630598a
open Go.RowKit

theorem cut_tail (B len k : Nat) (hk : k ≤ len) : ∃ ao : Option Addr, (0 < len - k → ao = some ⟨B, k * 2, none⟩) ∧
    ∀ w, (Instr.slice 26 (.slice (some ⟨B, 0, none⟩) len len) (some (.int .i64 (k : Int))) none none).run Try.prog w = .ok (.slice ao (len - k) (len - k)) w := by
  refine ⟨if len = k then some ⟨B, 0, none⟩ else some ⟨B, k * 2, none⟩, fun h => if_neg (by omega), fun w => ?_⟩
  obtain ⟨i, hi, hz0, hz1, hz2⟩ := info_parts Try.info30
  have hs : (sizeOf 30).run Try.prog w = .ok 2 w := by simp [sizeOf, typeInfo, hi, hz1]
  rw [run_slice_l w 26 (some ⟨B, 0, none⟩) len len Try.underlying26 .i64 k (by omega) (by omega)]
  rw [show Try.prog.elem 26 = 30 from by kernel_rfl, hs]
  simp only [Result.andThen, sliced, Int.toNat_natCast]
  congr 2
  split
  · rfl
  · simp [Addr.add]
    omega

theorem cut_head (B len k : Nat) (hk : k ≤ len) (w : World) : (Instr.slice 26 (.slice (some ⟨B, 0, none⟩) len len) none (some (.int .i64 (k : Int))) none).run Try.prog w = .ok (.slice (some ⟨B, 0, none⟩) k len) w := by
  obtain ⟨i, hi, hz0, hz1, hz2⟩ := info_parts Try.info30
  have hs : (sizeOf 30).run Try.prog w = .ok 2 w := by simp [sizeOf, typeInfo, hi, hz1]
  rw [run_slice_h w 26 (some ⟨B, 0, none⟩) len len Try.underlying26 .i64 k (by omega) (by omega)]
  rw [show Try.prog.elem 26 = 30 from by kernel_rfl, hs]
  simp only [Result.andThen, sliced, Int.toNat_natCast]
  congr 2
  split
  · rfl
  · simp [Addr.add]

/-- The history in memory: block B holds the rows. -/
structure Hist (w : World) (B len : Nat) (T E : Nat → Int) : Prop where
  lt : B < w.heap.size
  small : len ≤ 65536
  t : ∀ i, i < len → w.cell? ⟨B, i * 2, none⟩ = some (.int .u32 (T i))
  e : ∀ i, i < len → w.cell? ⟨B, i * 2 + 1, none⟩ = some (.int .u64 (E i))

theorem Hist.below {w w' : World} {B len : Nat} {T E : Nat → Int} (h : Hist w B len T E) (hb : Below w.heap.size w w') : Hist w' B len T E :=
  ⟨Nat.lt_of_lt_of_le h.lt hb.size, h.small, fun i hi => (hb.cell (p := ⟨B, i * 2, none⟩) h.lt).trans (h.t i hi), fun i hi => (hb.cell (p := ⟨B, i * 2 + 1, none⟩) h.lt).trans (h.e i hi)⟩

theorem Hist.of_row {w : World} {B len : Nat} {T E : Nat → Int} (h : w.rowIs B 30 (len * 2) (mixF T E len)) (hl : len ≤ 65536) : Hist w B len T E :=
  ⟨h.lt, hl, fun i hi => by rw [h.cell (by omega), mixF_even hi], fun i hi => by rw [h.cell (by omega), mixF_odd hi]⟩

theorem tl_whole {w : World} {B len : Nat} {T E : Nat → Int} (h : Hist w B len T E) (d l : Int) :
    Calls Try.prog 7 #[.slice (some ⟨B, 0, none⟩) len len, .int .u32 d, .int .u64 l] w fun e w' => e = .returned (.int .u32 (tlF T E l d 0 len)) ∧ Below w.heap.size w w' := by
  have := h.small
  exact tl_any (some ⟨B, 0, none⟩) B 0 len len T E d l w (fun _ => h.lt) (fun _ => rfl) (by unfold maxLen; omega) (fun i hi => by rw [Nat.zero_add]; exact h.t i hi) (fun i hi => by rw [Nat.zero_add]; exact h.e i hi)

theorem tl_tail {w : World} {B len : Nat} {T E : Nat → Int} (h : Hist w B len T E) (ao : Option Addr) (k : Nat) (hao : 0 < len - k → ao = some ⟨B, k * 2, none⟩) (d l : Int) :
    Calls Try.prog 7 #[.slice ao (len - k) (len - k), .int .u32 d, .int .u64 l] w fun e w' => e = .returned (.int .u32 (tlF T E l d k (len - k))) ∧ Below w.heap.size w w' := by
  have := h.small
  refine (tl_any ao B (k * 2) (len - k) (len - k) (fun j => T (k + j)) (fun j => E (k + j)) d l w (fun _ => h.lt) hao (by unfold maxLen; omega)
    (fun i hi => by rw [show k * 2 + i * 2 = (k + i) * 2 by omega]; exact h.t (k + i) (by omega)) (fun i hi => by rw [show k * 2 + i * 2 + 1 = (k + i) * 2 + 1 by omega]; exact h.e (k + i) (by omega))).mono ?_
  rintro e w' ⟨rfl, hb⟩
  exact ⟨ret_int (by rw [tlF_shift, Nat.add_zero]), hb⟩

theorem tl_head {w : World} {B len : Nat} {T E : Nat → Int} (h : Hist w B len T E) (k : Nat) (hk : k ≤ len) (d l : Int) :
    Calls Try.prog 7 #[.slice (some ⟨B, 0, none⟩) k len, .int .u32 d, .int .u64 l] w fun e w' => e = .returned (.int .u32 (tlF T E l d 0 k)) ∧ Below w.heap.size w w' := by
  have := h.small
  exact tl_any (some ⟨B, 0, none⟩) B 0 k len T E d l w (fun _ => h.lt) (fun _ => rfl) (by unfold maxLen; omega) (fun i hi => by rw [Nat.zero_add]; exact h.t i (by omega)) (fun i hi => by rw [Nat.zero_add]; exact h.e i (by omega))

/-- The answer over the head, with the answer over the tail as its fallback, is the answer over the whole. -/
theorem tl_join {w : World} {B len : Nat} {T E : Nat → Int} (h : Hist w B len T E) (k : Nat) (hk : k ≤ len) (d l : Int) :
    Calls Try.prog 7 #[.slice (some ⟨B, 0, none⟩) k len, .int .u32 (tlF T E l d k (len - k)), .int .u64 l] w fun e w' => e = .returned (.int .u32 (tlF T E l d 0 len)) ∧ Below w.heap.size w w' := by
  refine (tl_head h k hk _ l).mono ?_
  rintro e w' ⟨rfl, hb⟩
  refine ⟨ret_int ?_, hb⟩
  have := tlF_split T E l d 0 k (len - k)
  rw [show k + (len - k) = len by omega, Nat.zero_add] at this
  exact this.symm

theorem no_head {w : World} {B len : Nat} {T E : Nat → Int} (h : Hist w B len T E) (k : Nat) (hk : k ≤ len) (l : Int) {r : Bool} (hr : noneF E l 0 k = r) :
    Calls Try.prog 8 #[.slice (some ⟨B, 0, none⟩) k len, .int .u64 l] w fun e w' => e = .returned (.bool r) ∧ w = w' := by
  have := h.small
  refine (no_any (some ⟨B, 0, none⟩) B 0 k len E l w (fun _ => rfl) (by unfold maxLen; omega) (fun i hi => by rw [Nat.zero_add]; exact h.e i (by omega))).mono ?_
  rintro e w' ⟨rfl, rfl⟩
  exact ⟨ret_bool hr, rfl⟩

set_option maxHeartbeats 400000 in
theorem split_yes (ad : Addr) (len cap : Nat) (T E : Nat → Int) (k : Nat) (d l : Int) (w : World) (b off : Nat) (hb : 0 < len → b < w.heap.size) (had : 0 < len → ad = ⟨b, off, none⟩) (hlen : len ≤ 65536) (hk : k ≤ len)
    (hT : ∀ i, i < len → w.cell? ⟨b, off + i * 2, none⟩ = some (.int .u32 (T i))) (hE : ∀ i, i < len → w.cell? ⟨b, off + i * 2 + 1, none⟩ = some (.int .u64 (E i)))
    (HN : Hid (noneF E l 0 len = true)) :
    Calls Try.prog 4 #[.slice (some ad) len cap, .int .i64 k, .int .u32 d, .int .u64 l] w fun e w' => e = .returned (.bool true) ∧ Below w.heap.size w w' := by
  obtain ⟨ao, hao, hcut⟩ := cut_tail w.heap.size len k hk
  have hcut' := cut_head w.heap.size len k hk
  go_enter Try.func4, Try.ntmps4
  go_wp2_with fail
  refine (by4_yes (some ad) len cap k d l w (by omega)).mono ?_
  rintro e w' ⟨rfl, rfl⟩
  go_wp2_with fail
  refine (toWal_some ad len cap T E w b off hb had hlen hT hE).mono ?_
  rintro e w1 ⟨rfl, hrow, hb1⟩
  have h1 := Hist.of_row hrow hlen
  clear hrow hT hE hb had
  go_wp2_with fail
  refine (tl_whole h1 d l).mono ?_
  rintro e w2 ⟨rfl, hb2⟩
  have h2 := h1.below hb2
  go_wp2_with fail
  refine (tl_tail h2 ao k hao d l).mono ?_
  rintro e w3 ⟨rfl, hb3⟩
  have h3 := h2.below hb3
  go_wp2_with fail
  refine (tl_join h3 k hk d l).mono ?_
  rintro e w4 ⟨rfl, hb4⟩
  have h4 := h3.below hb4
  go_wp2_with fail
  refine (no_head h4 len (Nat.le_refl _) l HN.out).mono ?_
  rintro e w' ⟨rfl, rfl⟩
  go_wp2
  go_ret
  refine ⟨ret_bool (by rw [tlF_none HN.out]; simp), ?_⟩
  have s1 := h1.lt
  have s2 := h2.lt
  have s3 := h3.lt
  exact ((hb1.trans (hb2.mono (by omega))).trans (hb3.mono (by omega))).trans (hb4.mono (by omega))

set_option maxHeartbeats 400000 in
theorem split_no (ad : Addr) (len cap : Nat) (T E : Nat → Int) (k : Nat) (d l : Int) (w : World) (b off : Nat) (hb : 0 < len → b < w.heap.size) (had : 0 < len → ad = ⟨b, off, none⟩) (hlen : len ≤ 65536) (hk : k ≤ len)
    (hT : ∀ i, i < len → w.cell? ⟨b, off + i * 2, none⟩ = some (.int .u32 (T i))) (hE : ∀ i, i < len → w.cell? ⟨b, off + i * 2 + 1, none⟩ = some (.int .u64 (E i)))
    (HN : Hid (noneF E l 0 len = false)) :
    Calls Try.prog 4 #[.slice (some ad) len cap, .int .i64 k, .int .u32 d, .int .u64 l] w fun e w' => e = .returned (.bool true) ∧ Below w.heap.size w w' := by
  obtain ⟨ao, hao, hcut⟩ := cut_tail w.heap.size len k hk
  have hcut' := cut_head w.heap.size len k hk
  go_enter Try.func4, Try.ntmps4
  go_wp2_with fail
  refine (by4_yes (some ad) len cap k d l w (by omega)).mono ?_
  rintro e w' ⟨rfl, rfl⟩
  go_wp2_with fail
  refine (toWal_some ad len cap T E w b off hb had hlen hT hE).mono ?_
  rintro e w1 ⟨rfl, hrow, hb1⟩
  have h1 := Hist.of_row hrow hlen
  clear hrow hT hE hb had
  go_wp2_with fail
  refine (tl_whole h1 d l).mono ?_
  rintro e w2 ⟨rfl, hb2⟩
  have h2 := h1.below hb2
  go_wp2_with fail
  refine (tl_tail h2 ao k hao d l).mono ?_
  rintro e w3 ⟨rfl, hb3⟩
  have h3 := h2.below hb3
  go_wp2_with fail
  refine (tl_join h3 k hk d l).mono ?_
  rintro e w4 ⟨rfl, hb4⟩
  have h4 := h3.below hb4
  go_wp2_with fail
  refine (no_head h4 len (Nat.le_refl _) l HN.out).mono ?_
  rintro e w' ⟨rfl, rfl⟩
  go_wp2
  have s1 := h1.lt
  have s2 := h2.lt
  have s3 := h3.lt
  have hbel := ((hb1.trans (hb2.mono (by omega))).trans (hb3.mono (by omega))).trans (hb4.mono (by omega))
  clear hcut hcut' h1 h2 h3 hb1 hb2 hb3 hb4 s1 s2 s3
  go_loop [13] (fun i => ∃ n : Nat, n ≤ len ∧ i = .int .i64 n ∧ ∀ j, j < n → l < E j → T j ≠ tlF T E l d 0 len) (fun i => len - (intOf i).toNat)
  case atStart => exact ⟨0, Nat.zero_le _, rfl, fun j hj => absurd hj (by omega)⟩
  case round =>
    obtain ⟨n, hn, rfl, hall⟩ := hrel
    have HA : Hid (∀ j, j < n → l < E j → T j ≠ tlF T E l d 0 len) := hall
    clear hall
    by_cases hlt : n < len
    · have c0 := h4.t n hlt
      have c1 := h4.e n hlt
      by_cases hh : l < E n
      · by_cases ht : T n = tlF T E l d 0 len
        · have HT : Hid (T n = tlF T E l d 0 len) := ht
          have hq : (T n == tlF T E l d 0 len) = true := by simp [ht]
          clear ht
          go_wp2
          go_ret
          exact ⟨rfl, hbel⟩
        · have HT : Hid (T n ≠ tlF T E l d 0 len) := ht
          have hq : (T n == tlF T E l d 0 len) = false := by simp [ht]
          clear ht
          go_wp2
          go_round
          case rel =>
            refine ⟨n + 1, by omega, by go_num, fun j hj hl => ?_⟩
            by_cases e : j = n
            · subst e; exact HT.out
            · exact HA.out j (by omega) hl
          case measure => simp [intOf]; omega
      · go_wp2
        go_round
        case rel =>
          refine ⟨n + 1, by omega, by go_num, fun j hj hl => ?_⟩
          by_cases e : j = n
          · subst e; exact absurd hl hh
          · exact HA.out j (by omega) hl
        case measure => simp [intOf]; omega
    · obtain ⟨j, _, hj, hl, ht⟩ := tlF_some (T := T) (d := d) HN.out
      exact absurd ht (HA.out j (by omega) hl)
end Go.Proofs.Qxb6630598a
