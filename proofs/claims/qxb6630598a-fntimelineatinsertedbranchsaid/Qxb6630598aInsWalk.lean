import Derived.Test.Qxb6630598aIns
namespace Go.Proofs.Qxb6630598a
open Go.RowKit

theorem make_room (n : Nat) (hn : n ≤ 65536) (w : World) : (Instr.makeSlice 26 (.int .i64 0) (.int .i64 ((n : Int) + 1))).run Try.prog w = .ok (.slice (some ⟨w.heap.size, 0, none⟩) 0 (n + 1)) (w.alloc (.cells (madeCells #[.int .u32 0, .int .u64 0] ((n + 1) * 2)) 30)) := by
  obtain ⟨i, hi, hz0, hz1, hz2⟩ := info_parts Try.info30
  have := run_make (P := Try.prog) w 26 30 i _ Try.underlying26 hi hz0 .i64 .i64 0 (n + 1) (by omega) (by omega) (by rw [hz2]; omega) (by omega)
  rw [this, hz1]
  rfl

theorem cells_head {w : World} {ao : Option Addr} {B len : Nat} {T E : Nat → Int} (h : HistO w ao B len T E) (k : Nat) (hk : k ≤ len) :
    ∀ ad, ao = some ad → ∀ j u, (rowsL T E 0 k)[j]? = some u → w.cell? (ad.add j) = some u := by
  intro ad had j u hu
  obtain ⟨hj, rfl⟩ := rowsL_get hu
  obtain ⟨ha, _⟩ := h.pos (by omega)
  rw [had] at ha
  obtain rfl := Option.some.inj ha
  rw [Addr.add_lit, Nat.zero_add, h.cellAt (by omega)]

theorem cells_tail {w : World} {ao ao' : Option Addr} {B len : Nat} {T E : Nat → Int} (h : HistO w ao B len T E) (k : Nat) (hk : k ≤ len) (ha : 0 < len - k → ao' = some ⟨B, k * 2, none⟩) :
    ∀ ad, ao' = some ad → ∀ j u, (rowsL T E k (len - k))[j]? = some u → w.cell? (ad.add j) = some u := by
  intro ad had j u hu
  obtain ⟨hj, rfl⟩ := rowsL_get hu
  have hp := ha (by omega)
  rw [had] at hp
  obtain rfl := Option.some.inj hp
  rw [Addr.add_lit, h.cellAt (by omega)]

theorem tl_ins {w : World} {g base k len : Nat} {T E : Nat → Int} {t e d l r : Int}
    (hown : w.ownsRow base 30 2 (.slice (some ⟨g, 0, none⟩) (k + 1 + (len - k)) (len + 1)) (k + 1 + (len - k)) (rowsL T E 0 k ++ [.int .u32 t, .int .u64 e] ++ rowsL T E k (len - k)))
    (hk : k ≤ len) (hlen : len ≤ 65536) (hr : (if l < e then tlF T E l t 0 k else tlF T E l d 0 len) = r) :
    Calls Try.prog 7 #[.slice (some ⟨g, 0, none⟩) (k + 1 + (len - k)) (len + 1), .int .u32 d, .int .u64 l] w fun e w' => e = .returned (.int .u32 r) ∧ Below w.heap.size w w' := by
  have hg : g < w.heap.size := (hown.lt g rfl).2
  have hcell : ∀ j, j < (len + 1) * 2 → w.cell? ⟨g, j, none⟩ = some (pairF (insF T k t) (insF E k e) j) := fun j hj => by
    rw [hown.cellAt j (by omega)]
    exact rows_ins T E t e k len hk j hj
  have hn : k + 1 + (len - k) = len + 1 := by omega
  rw [hn]
  refine (tl_some g 0 (len + 1) (len + 1) (insF T k t) (insF E k e) d l w hg (by unfold maxLen; omega) (fun i hi => ?_) (fun i hi => ?_)).mono ?_
  · rw [Nat.zero_add, hcell _ (by omega)]
    simp [pairF]
  · rw [Nat.zero_add, hcell _ (by omega)]
    have a : (i * 2 + 1) / 2 = i := by omega
    have b : (i * 2 + 1) % 2 = 1 := by omega
    simp [pairF, a, b]
  · rintro e' w' ⟨rfl, hb⟩
    exact ⟨ret_int (by rw [tlF_ins T E l d t e k len hk]; exact hr), hb⟩

set_option maxHeartbeats 400000 in
theorem ins_walk (ao : Option Addr) (len cap : Nat) (k : Nat) (t e d l : Int) (w : World) (hh : IsHist w ao len cap) (hlen : len ≤ 65536) (hk : k ≤ len) :
    Calls Try.prog 3 #[.slice ao len cap, .int .i64 k, .int .u32 t, .int .u64 e, .int .u32 d, .int .u64 l] w fun e w' => e = .returned (.bool true) ∧ Below w.heap.size w w' := by
  obtain ⟨ao', T, E, hwal⟩ := toWal_any ao len cap w hh hlen
  have hmk := make_room len hlen
  obtain ⟨i0, hi, hz0, hz1, hz2⟩ := info_parts Try.info30
  have HI : Hid (Try.prog.info? 30 = some i0 ∧ i0.size = 2) := ⟨hi, hz1⟩
  clear hi hz0 hz1 hz2
  go_enter Try.func3, Try.ntmps3
  go_wp2_with fail
  refine (by6_yes ao len cap k t e d l w (by omega)).mono ?_
  rintro e' w' ⟨rfl, rfl⟩
  go_wp2_with fail
  refine hwal.mono ?_
  rintro e' w1 ⟨rfl, h1, hb1⟩
  clear hwal
  have hch := h1.cut_head k hk
  obtain ⟨at', hat, hct⟩ := h1.cut_tail k hk
  have hown0 : (w1.alloc (.cells (madeCells #[.int .u32 0, .int .u64 0] ((len + 1) * 2)) 30)).ownsRow w1.heap.size 30 2 (.slice (some ⟨w1.heap.size, 0, none⟩) 0 (len + 1)) 0 [] :=
    World.ownsRow_made w1 _ (len + 1) (Nat.le_refl _) (by unfold maxLen; omega) (size_madeCells _ _)
  have bA : Below w1.heap.size w1 (w1.alloc (.cells (madeCells #[.int .u32 0, .int .u64 0] ((len + 1) * 2)) 30)) := (Below.refl _ _).alloc (Nat.le_refl _) _
  have hA := h1.below bA
  have hnone : ao' = none → k = 0 ∧ len = 0 := fun hn => by
    rcases h1.lt with ⟨h, _⟩ | ⟨_, h⟩
    · rw [h] at hn; simp at hn
    · omega
  have hcells := cells_head hA k hk
  go_wp2_with (first | (at_builtin; refine wpList_append_fits_any _ rfl (.tmp 44) (.tmp 47) 26 rfl w1.heap.size 30 i0 2 Try.underlying26 HI.out.1 HI.out.2 w1.heap.size 0 (len + 1) [] rfl hown0 ao' k len (rowsL T E 0 k) rfl (rowsL_len _ _ _ _) hnone hcells (rowsL_one _ _ _ _) (by omega) ?_) | fail)
  intro w2 hown1 hg1
  have b2 : Below w1.heap.size w1 w2 := bA.grown hg1 (by simp) (fun k hk => by simp at hk; omega)
  have h2 := h1.below b2
  clear hown0 hg1 bA hA hcells hmk
  have hcells2 : ∀ j u, [Value.int .u32 t, .int .u64 e][j]? = some u → (w2.alloc (.cells #[.int .u32 t, .int .u64 e] 30)).cell? ((⟨w2.heap.size, 0, none⟩ : Addr).add j) = some u := by
    intro j u hj
    match j, hj with
    | 0, hj => simp at hj; subst hj; simp [Addr.add]
    | 1, hj => simp at hj; subst hj; simp [Addr.add]
  have hone : ∀ u ∈ [Value.int .u32 t, .int .u64 e], u.oneCell' = true := by
    intro u hu
    simp at hu
    rcases hu with rfl | rfl <;> rfl
  go_wp2_with (first | (at_builtin; refine wpList_append_fits _ rfl (.tmp 49) (.tmp 53) 26 rfl w1.heap.size 30 i0 2 Try.underlying26 HI.out.1 HI.out.2 w1.heap.size k (len + 1) (rowsL T E 0 k) rfl (hown1.alloc _) ⟨w2.heap.size, 0, none⟩ 1 1 [.int .u32 t, .int .u64 e] rfl rfl hcells2 hone (by omega) ?_) | fail)
  intro w3 hown2 hg2
  have b3 : Below w1.heap.size w1 w3 := (b2.alloc b2.size _).grown hg2 (by simp; have := b2.size; omega) (fun k hk => by simp at hk; omega)
  have h3 := h1.below b3
  clear hown1 hg2 b2 h2 hcells2 hone
  have hcells3 := cells_tail h3 k hk hat.1
  have hnone3 : at' = none → len - k = 0 ∧ len - k = 0 := fun hn => ⟨hat.2 hn, hat.2 hn⟩
  go_wp2_with (first | (at_builtin; refine wpList_append_fits_any _ rfl (.tmp 55) (.tmp 58) 26 rfl w1.heap.size 30 i0 2 Try.underlying26 HI.out.1 HI.out.2 w1.heap.size (k + 1) (len + 1) (rowsL T E 0 k ++ [.int .u32 t, .int .u64 e]) rfl hown2 at' (len - k) (len - k) (rowsL T E k (len - k)) rfl (rowsL_len _ _ _ _) hnone3 hcells3 (rowsL_one _ _ _ _) (by omega) ?_) | fail)
  intro w4 hown3 hg3
  have b4 : Below w1.heap.size w1 w4 := b3.grown hg3 b3.size (fun k hk => by simp at hk; omega)
  have h4 := h1.below b4
  clear hown2 hg3 b3 h3 hcells3 hnone3 hct hnone
  have HO : Hid (w4.ownsRow w1.heap.size 30 2 (.slice (some ⟨w1.heap.size, 0, none⟩) (k + 1 + (len - k)) (len + 1)) (k + 1 + (len - k)) (rowsL T E 0 k ++ [.int .u32 t, .int .u64 e] ++ rowsL T E k (len - k))) := by rw [List.append_assoc]; exact hown3
  clear hown3 HI
  have s1 := hb1.size
  have bW : Below w.heap.size w w4 := hb1.trans (b4.mono (by omega))
  have s4 := b4.size
  clear b4 hb1
  go_wp2_with fail
  by_cases hle : l < e
  · cases hN : noneF E l 0 k with
    | true =>
      have HN : Hid (noneF E l 0 k = true) := hN
      clear hN
      refine (tl_ins (r := t) HO.out hk hlen (by rw [if_pos hle]; exact tlF_none HN.out)).mono ?_
      rintro e' w5 ⟨rfl, hb5⟩
      have h5 := h4.below hb5
      go_wp2_with fail
      refine (h5.tl_head k hk t l (tlF_none HN.out)).mono ?_
      rintro e' w6 ⟨rfl, hb6⟩
      have h6 := h5.below hb6
      go_wp2_with fail
      refine (h6.no_head k hk l HN.out).mono ?_
      rintro e' w' ⟨rfl, rfl⟩
      go_wp2
      go_ret
      have s5 := hb5.size
      exact ⟨rfl, (bW.trans (hb5.mono (by omega))).trans (hb6.mono (by omega))⟩
    | false =>
      have HN : Hid (noneF E l 0 k = false) := hN
      clear hN
      refine (tl_ins (r := tlF T E l t 0 k) HO.out hk hlen (by rw [if_pos hle])).mono ?_
      rintro e' w5 ⟨rfl, hb5⟩
      have h5 := h4.below hb5
      go_wp2_with fail
      refine (h5.tl_head k hk t l rfl).mono ?_
      rintro e' w6 ⟨rfl, hb6⟩
      have h6 := h5.below hb6
      go_wp2_with fail
      refine (h6.no_head k hk l HN.out).mono ?_
      rintro e' w' ⟨rfl, rfl⟩
      go_wp2
      go_ret
      have s5 := hb5.size
      exact ⟨rfl, (bW.trans (hb5.mono (by omega))).trans (hb6.mono (by omega))⟩
  · refine (tl_ins (r := tlF T E l d 0 len) HO.out hk hlen (by rw [if_neg hle])).mono ?_
    rintro e' w5 ⟨rfl, hb5⟩
    have h5 := h4.below hb5
    go_wp2_with fail
    refine (h5.tl_whole d l rfl).mono ?_
    rintro e' w6 ⟨rfl, hb6⟩
    go_wp2
    go_ret
    have s5 := hb5.size
    exact ⟨ret_bool (by simp), (bW.trans (hb5.mono (by omega))).trans (hb6.mono (by omega))⟩
end Go.Proofs.Qxb6630598a
