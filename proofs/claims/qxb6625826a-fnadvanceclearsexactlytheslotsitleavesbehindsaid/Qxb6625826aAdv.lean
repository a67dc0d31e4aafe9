import Derived.Test.Qxb6625826aWin
namespace Go.Proofs.Qxb6625826a
open Go.RowKit
set_option linter.unusedVariables false

/-- The box of 'now' and the window's start, in the world at hand. -/
theorem adv_keep {W0 W1 w2 : World} {B X f : Nat} {T lat tot : Int} {C : Nat → Int} {n0 s0 n1 s1 : Value} (hb : Below W1.heap.size W1 w2)
    (h : W1.cell? ⟨X, 0, none⟩ = some n0 ∧ W1.cell? ⟨X, 1, none⟩ = some s0 ∧ W1.cell? ⟨X, 2, none⟩ = some (.pointer none) ∧
      W1.cell? ⟨B, 1, none⟩ = some n1 ∧ W1.cell? ⟨B, 2, none⟩ = some s1 ∧ W1.cell? ⟨B, 3, none⟩ = some (.pointer none) ∧ X < W1.heap.size ∧ Win W1 B f T C lat tot ∧ Below B W0 W1) :
    w2.cell? ⟨X, 0, none⟩ = some n0 ∧ w2.cell? ⟨X, 1, none⟩ = some s0 ∧ w2.cell? ⟨X, 2, none⟩ = some (.pointer none) ∧
      w2.cell? ⟨B, 1, none⟩ = some n1 ∧ w2.cell? ⟨B, 2, none⟩ = some s1 ∧ w2.cell? ⟨B, 3, none⟩ = some (.pointer none) ∧ X < w2.heap.size ∧ Win w2 B f T C lat tot ∧ Below B W0 w2 := by
  obtain ⟨h1, h2, h3, h4, h5, h6, h7, h8, h9⟩ := h
  have hB := h8.lt
  refine ⟨?_, ?_, ?_, ?_, ?_, ?_, Nat.lt_of_lt_of_le h7 hb.size, h8.below hb hB, h9.trans (hb.mono (by omega))⟩
  · exact (hb.cell (p := ⟨X, 0, none⟩) h7).trans h1
  · exact (hb.cell (p := ⟨X, 1, none⟩) h7).trans h2
  · exact (hb.cell (p := ⟨X, 2, none⟩) h7).trans h3
  · exact (hb.cell (p := ⟨B, 1, none⟩) hB).trans h4
  · exact (hb.cell (p := ⟨B, 2, none⟩) hB).trans h5
  · exact (hb.cell (p := ⟨B, 3, none⟩) hB).trans h6

theorem adv_start {w w1 : World} {B f : Nat} {T N lat tot : Int} {C : Nat → Int} (hW : Win w B f T C lat tot)
    (hb : Below (w.alloc (.cells #[.int .u64 (nsO N), .int .i64 (seO N), .pointer none] 39)).heap.size (w.alloc (.cells #[.int .u64 (nsO N), .int .i64 (seO N), .pointer none] 39)) w1) :
    w1.drew.cell? ⟨w.heap.size, 0, none⟩ = some (.int .u64 (nsO N)) ∧ w1.drew.cell? ⟨w.heap.size, 1, none⟩ = some (.int .i64 (seO N)) ∧ w1.drew.cell? ⟨w.heap.size, 2, none⟩ = some (.pointer none) ∧
      w1.drew.cell? ⟨B, 1, none⟩ = some (.int .u64 (nsO T)) ∧ w1.drew.cell? ⟨B, 2, none⟩ = some (.int .i64 (seO T)) ∧ w1.drew.cell? ⟨B, 3, none⟩ = some (.pointer none) ∧ w.heap.size < w1.drew.heap.size ∧ Win w1.drew B f T C lat tot ∧ Below B w w1.drew := by
  have hB := hW.lt
  rw [World.size_alloc] at hb
  have e0 : (w.alloc (.cells #[.int .u64 (nsO N), .int .i64 (seO N), .pointer none] 39)).heap[w.heap.size]? = _ := heap_alloc_new w _
  have hW1 : Win w1 B f T C lat tot := (hW.block (w' := w.alloc (.cells #[.int .u64 (nsO N), .int .i64 (seO N), .pointer none] 39)) (Below.heap_alloc _ _ _ hB)).below hb (by omega)
  have hs := hb.size
  rw [World.size_alloc] at hs
  refine ⟨?_, ?_, ?_, hW1.ns, hW1.se, hW1.loc, (show w.heap.size < w1.heap.size by omega), hW1, ?_⟩
  · exact (hb.cell (p := ⟨w.heap.size, 0, none⟩) (Nat.lt_succ_self _)).trans (cell_of_row _ _ _ _ _ _ e0)
  · exact (hb.cell (p := ⟨w.heap.size, 1, none⟩) (Nat.lt_succ_self _)).trans (cell_of_row _ _ _ _ _ _ e0)
  · exact (hb.cell (p := ⟨w.heap.size, 2, none⟩) (Nat.lt_succ_self _)).trans (cell_of_row _ _ _ _ _ _ e0)
  · exact (((Below.refl B w).alloc (by omega) _).trans (hb.mono (by omega))).drew

theorem satS_bd (a b : Int) : -9223372036854775808 ≤ satS a b ∧ satS a b ≤ 9223372036854775807 := by
  unfold satS; split <;> (try split) <;> omega

set_option maxHeartbeats 400000 in
theorem adv_old (B f : Nat) (T N lat tot SL : Int) (C : Nat → Int) (w : World) (hW : Win w B f T C lat tot) (T0 : -9223372036854775808 ≤ T) (T1 : T ≤ 9223372036854775807) (N0 : -9223372036854775808 ≤ N) (N1 : N ≤ 9223372036854775807)
    (hT : Hid (T ≠ 0)) (hSL : IntKind.i64.wrap ((satS N T).tdiv 10000000) = SL) (hle : SL ≤ lat) :
    Calls Try.prog 16 #[.pointer (some ⟨B, 0, none⟩), TV (seO N) (nsO N)] w fun e w' => e = .returned (.tuple #[]) ∧ Win w' B f T C lat tot ∧ Below B w w' := by
  have hB := hW.lt
  have g1 := hW.ns
  have g2 := hW.se
  have g3 := hW.loc
  go_enter Try.func16, Try.ntmps16
  go_wp2_with fail
  refine (isZero_at T _ (r := false) (by simp [hT.out])).mono ?_
  rintro e w1 ⟨rfl, hb1⟩
  have hS0 := adv_start (N := N) hW hb1
  obtain ⟨q0, q1⟩ := satS_bd N T
  clear hb1
  go_wp2_with fail
  go_region_held3 (fun w' => w'.cell? ⟨w.heap.size, 0, none⟩ = some (.int .u64 (nsO N)) ∧ w'.cell? ⟨w.heap.size, 1, none⟩ = some (.int .i64 (seO N)) ∧ w'.cell? ⟨w.heap.size, 2, none⟩ = some (.pointer none) ∧ w'.cell? ⟨B, 1, none⟩ = some (.int .u64 (nsO T)) ∧ w'.cell? ⟨B, 2, none⟩ = some (.int .i64 (seO T)) ∧ w'.cell? ⟨B, 3, none⟩ = some (.pointer none) ∧ w.heap.size < w'.heap.size ∧ Win w' B f T C lat tot ∧ Below B w w')
      (first | with_reducible exact hS0 | with_reducible exact adv_keep hb17 (by assumption))
      (first | (go_at_call 17; refine (sub_any N T _ N0 N1 T0 T1).mono ?_; rintro e w' ⟨rfl, hb17⟩))
  rename_i hS
  obtain ⟨w2, rfl⟩ : ∃ w2 : World, w2 = w' := ⟨_, rfl⟩
  have hW2 : Win w2 B f T C lat tot := hS.2.2.2.2.2.2.2.1
  have bW2 : Below B w w2 := hS.2.2.2.2.2.2.2.2
  have c5 := hW2.latest
  clear hS hS0 g1 g2 g3 hW hSL hb17
  go_wp2
  exact bodyPost_ret (v := .tuple #[]) (by simp [results, Try.results16, go_sem]) rfl ⟨rfl, hW2, bW2⟩

/-- The counts behind k steps of the loop from slot LO on. -/
def clrF (C : Nat → Int) (LO : Int) : Nat → Nat → Int
  | 0 => C
  | k + 1 => fun i => if i = ((LO + k) % 1001).toNat then 0 else clrF C LO k i
/-- The total behind k steps. -/
def totF (C : Nat → Int) (tot LO : Int) : Nat → Int
  | 0 => tot
  | k + 1 => wrap64 (totF C tot LO k - clrF C LO k ((LO + k) % 1001).toNat)

set_option maxHeartbeats 400000 in
theorem adv_new_a (B f : Nat) (T N lat tot SL : Int) (C : Nat → Int) (w : World) (hW : Win w B f T C lat tot) (T0 : -9223372036854775808 ≤ T) (T1 : T ≤ 9223372036854775807) (N0 : -9223372036854775808 ≤ N) (N1 : N ≤ 9223372036854775807)
    (hT : Hid (T ≠ 0)) (hSL : IntKind.i64.wrap ((satS N T).tdiv 10000000) = SL) (hle : lat < SL) (hl0 : 0 ≤ lat) (hs1 : SL ≤ 1000000000000) (hmx : ¬ lat + 1 < SL - 1001 + 1) :
    Calls Try.prog 16 #[.pointer (some ⟨B, 0, none⟩), TV (seO N) (nsO N)] w fun e w' => e = .returned (.tuple #[]) ∧ Win w' B f T (clrF C (lat + 1) (SL - lat).toNat) SL (totF C tot (lat + 1) (SL - lat).toNat) ∧ Below B w w' := by
  have hB := hW.lt
  have g1 := hW.ns
  have g2 := hW.se
  have g3 := hW.loc
  go_enter Try.func16, Try.ntmps16
  go_wp2_with fail
  refine (isZero_at T _ (r := false) (by simp [hT.out])).mono ?_
  rintro e w1 ⟨rfl, hb1⟩
  have hS0 := adv_start (N := N) hW hb1
  obtain ⟨q0, q1⟩ := satS_bd N T
  clear hb1
  go_wp2_with fail
  go_region_held3 (fun w' => w'.cell? ⟨w.heap.size, 0, none⟩ = some (.int .u64 (nsO N)) ∧ w'.cell? ⟨w.heap.size, 1, none⟩ = some (.int .i64 (seO N)) ∧ w'.cell? ⟨w.heap.size, 2, none⟩ = some (.pointer none) ∧ w'.cell? ⟨B, 1, none⟩ = some (.int .u64 (nsO T)) ∧ w'.cell? ⟨B, 2, none⟩ = some (.int .i64 (seO T)) ∧ w'.cell? ⟨B, 3, none⟩ = some (.pointer none) ∧ w.heap.size < w'.heap.size ∧ Win w' B f T C lat tot ∧ Below B w w')
      (first | with_reducible exact hS0 | with_reducible exact adv_keep hb17 (by assumption))
      (first | (go_at_call 17; refine (sub_any N T _ N0 N1 T0 T1).mono ?_; rintro e w' ⟨rfl, hb17⟩))
  rename_i hS
  obtain ⟨w2, rfl⟩ : ∃ w2 : World, w2 = w' := ⟨_, rfl⟩
  have hW2 : Win w2 B f T C lat tot := hS.2.2.2.2.2.2.2.1
  have bW2 : Below B w w2 := hS.2.2.2.2.2.2.2.2
  have c5 := hW2.latest
  clear hS hS0 g1 g2 g3 hW hSL hb17
  go_wp2
  go_loopw [6] (fun i wr => ∃ (o : Int) (k : Nat), i = .int .i64 o ∧ 0 ≤ o ∧ o ≤ SL + 1 ∧ o = lat + 1 + k ∧ Win wr B f T (clrF C (lat + 1) k) lat (totF C tot (lat + 1) k) ∧ Below B w wr) (fun i _ => (SL + 1 - intOf i).toNat)
  case atStart => exact ⟨lat + 1, 0, rfl, by omega, by omega, by simp, hW2, bW2⟩
  case round =>
    obtain ⟨o, k, rfl, o0, o1, ho, hWr, bWr⟩ := hrel
    have HO : Hid (o = lat + 1 + k) := ho
    clear ho
    by_cases hlt : o ≤ SL
    · have c6 := hWr.total
      have hix : (o % 1001).toNat < 1001 := by omega
      have cI := hWr.count hix
      have f6 := hWr.free 1006
      have fI := hWr.free (4 + (o % 1001).toNat)
      have hW3 := (hWr.setTotal (wrap64 (totF C tot (lat + 1) k - clrF C (lat + 1) k (o % 1001).toNat))).setCount hix 0
      have hW4 : Win ((wr.setCell ⟨B, 1006, none⟩ (.int .i64 (wrap64 (totF C tot (lat + 1) k - clrF C (lat + 1) k (o % 1001).toNat)))).setCell ⟨B, 4 + (o % 1001).toNat, none⟩ (.int .i64 0)) B f T (clrF C (lat + 1) (k + 1)) lat (totF C tot (lat + 1) (k + 1)) := by
        simp only [clrF, totF]
        rw [← HO.out]
        exact hW3
      have bW4 := (bWr.setCell (p := ⟨B, 1006, none⟩) (Nat.le_refl _) (.int .i64 (wrap64 (totF C tot (lat + 1) k - clrF C (lat + 1) k (o % 1001).toNat)))).setCell (p := ⟨B, 4 + (o % 1001).toNat, none⟩) (Nat.le_refl _) (.int .i64 0)
      clear hW3
      go_wp2
      go_region
      go_wp2
      go_region
      go_wp2
      go_roundw
      case rel => exact ⟨o + 1, k + 1, rfl, by omega, by omega, by have := HO.out; omega, hW4.block rfl, bW4.drew.drew⟩
      case measure => simp [intOf]; omega
    · have f5 := hWr.free 1005
      have c5 := hWr.latest
      have hk : (SL - lat).toNat = k := by have := HO.out; omega
      have hW5 := hWr.setLatest SL
      have bW5 := bWr.setCell (p := ⟨B, 1005, none⟩) (Nat.le_refl _) (.int .i64 SL)
      have HK : Hid ((SL - lat).toNat = k) := hk
      clear hk
      go_wp2
      go_end0
      rw [HK.out]
      exact ⟨rfl, hW5, bW5⟩
set_option maxHeartbeats 400000 in
theorem adv_new_b (B f : Nat) (T N lat tot SL : Int) (C : Nat → Int) (w : World) (hW : Win w B f T C lat tot) (T0 : -9223372036854775808 ≤ T) (T1 : T ≤ 9223372036854775807) (N0 : -9223372036854775808 ≤ N) (N1 : N ≤ 9223372036854775807)
    (hT : Hid (T ≠ 0)) (hSL : IntKind.i64.wrap ((satS N T).tdiv 10000000) = SL) (hle : lat < SL) (hl0 : 0 ≤ lat) (hs1 : SL ≤ 1000000000000) (hmx : lat + 1 < SL - 1001 + 1) :
    Calls Try.prog 16 #[.pointer (some ⟨B, 0, none⟩), TV (seO N) (nsO N)] w fun e w' => e = .returned (.tuple #[]) ∧ Win w' B f T (clrF C (SL - 1001 + 1) 1001) SL (totF C tot (SL - 1001 + 1) 1001) ∧ Below B w w' := by
  have hB := hW.lt
  have g1 := hW.ns
  have g2 := hW.se
  have g3 := hW.loc
  go_enter Try.func16, Try.ntmps16
  go_wp2_with fail
  refine (isZero_at T _ (r := false) (by simp [hT.out])).mono ?_
  rintro e w1 ⟨rfl, hb1⟩
  have hS0 := adv_start (N := N) hW hb1
  obtain ⟨q0, q1⟩ := satS_bd N T
  clear hb1
  go_wp2_with fail
  go_region_held3 (fun w' => w'.cell? ⟨w.heap.size, 0, none⟩ = some (.int .u64 (nsO N)) ∧ w'.cell? ⟨w.heap.size, 1, none⟩ = some (.int .i64 (seO N)) ∧ w'.cell? ⟨w.heap.size, 2, none⟩ = some (.pointer none) ∧ w'.cell? ⟨B, 1, none⟩ = some (.int .u64 (nsO T)) ∧ w'.cell? ⟨B, 2, none⟩ = some (.int .i64 (seO T)) ∧ w'.cell? ⟨B, 3, none⟩ = some (.pointer none) ∧ w.heap.size < w'.heap.size ∧ Win w' B f T C lat tot ∧ Below B w w')
      (first | with_reducible exact hS0 | with_reducible exact adv_keep hb17 (by assumption))
      (first | (go_at_call 17; refine (sub_any N T _ N0 N1 T0 T1).mono ?_; rintro e w' ⟨rfl, hb17⟩))
  rename_i hS
  obtain ⟨w2, rfl⟩ : ∃ w2 : World, w2 = w' := ⟨_, rfl⟩
  have hW2 : Win w2 B f T C lat tot := hS.2.2.2.2.2.2.2.1
  have bW2 : Below B w w2 := hS.2.2.2.2.2.2.2.2
  have c5 := hW2.latest
  clear hS hS0 g1 g2 g3 hW hSL hb17
  go_wp2
  go_loopw [6] (fun i wr => ∃ (o : Int) (k : Nat), i = .int .i64 o ∧ 0 ≤ o ∧ o ≤ SL + 1 ∧ o = SL - 1001 + 1 + k ∧ Win wr B f T (clrF C (SL - 1001 + 1) k) lat (totF C tot (SL - 1001 + 1) k) ∧ Below B w wr) (fun i _ => (SL + 1 - intOf i).toNat)
  case atStart => exact ⟨SL - 1001 + 1, 0, rfl, by omega, by omega, by simp, hW2, bW2⟩
  case round =>
    obtain ⟨o, k, rfl, o0, o1, ho, hWr, bWr⟩ := hrel
    have HO : Hid (o = SL - 1001 + 1 + k) := ho
    clear ho
    by_cases hlt : o ≤ SL
    · have c6 := hWr.total
      have hix : (o % 1001).toNat < 1001 := by omega
      have cI := hWr.count hix
      have f6 := hWr.free 1006
      have fI := hWr.free (4 + (o % 1001).toNat)
      have hW3 := (hWr.setTotal (wrap64 (totF C tot (SL - 1001 + 1) k - clrF C (SL - 1001 + 1) k (o % 1001).toNat))).setCount hix 0
      have hW4 : Win ((wr.setCell ⟨B, 1006, none⟩ (.int .i64 (wrap64 (totF C tot (SL - 1001 + 1) k - clrF C (SL - 1001 + 1) k (o % 1001).toNat)))).setCell ⟨B, 4 + (o % 1001).toNat, none⟩ (.int .i64 0)) B f T (clrF C (SL - 1001 + 1) (k + 1)) lat (totF C tot (SL - 1001 + 1) (k + 1)) := by
        simp only [clrF, totF]
        rw [← HO.out]
        exact hW3
      have bW4 := (bWr.setCell (p := ⟨B, 1006, none⟩) (Nat.le_refl _) (.int .i64 (wrap64 (totF C tot (SL - 1001 + 1) k - clrF C (SL - 1001 + 1) k (o % 1001).toNat)))).setCell (p := ⟨B, 4 + (o % 1001).toNat, none⟩) (Nat.le_refl _) (.int .i64 0)
      clear hW3
      go_wp2
      go_region
      go_wp2
      go_region
      go_wp2
      go_roundw
      case rel => exact ⟨o + 1, k + 1, rfl, by omega, by omega, by have := HO.out; omega, hW4.block rfl, bW4.drew.drew⟩
      case measure => simp [intOf]; omega
    · have f5 := hWr.free 1005
      have c5 := hWr.latest
      have hk : 1001 = k := by have := HO.out; omega
      have hW5 := hWr.setLatest SL
      have bW5 := bWr.setCell (p := ⟨B, 1005, none⟩) (Nat.le_refl _) (.int .i64 SL)
      have HK : Hid (1001 = k) := hk
      clear hk
      go_wp2
      go_end0
      rw [HK.out]
      exact ⟨rfl, hW5, bW5⟩
theorem adv_start0 {w w1 : World} {B f : Nat} {T N lat tot : Int} {C : Nat → Int} (hW : Win w B f T C lat tot)
    (hb : Below (w.alloc (.cells #[.int .u64 (nsO N), .int .i64 (seO N), .pointer none] 39)).heap.size (w.alloc (.cells #[.int .u64 (nsO N), .int .i64 (seO N), .pointer none] 39)) w1) :
    let W2 := ((w1.setCell ⟨B, 1, none⟩ (.int .u64 (nsO N))).setCell ⟨B, 2, none⟩ (.int .i64 (seO N))).setCell ⟨B, 3, none⟩ (.pointer none)
    W2.drew.cell? ⟨w.heap.size, 0, none⟩ = some (.int .u64 (nsO N)) ∧ W2.drew.cell? ⟨w.heap.size, 1, none⟩ = some (.int .i64 (seO N)) ∧ W2.drew.cell? ⟨w.heap.size, 2, none⟩ = some (.pointer none) ∧
      W2.drew.cell? ⟨B, 1, none⟩ = some (.int .u64 (nsO N)) ∧ W2.drew.cell? ⟨B, 2, none⟩ = some (.int .i64 (seO N)) ∧ W2.drew.cell? ⟨B, 3, none⟩ = some (.pointer none) ∧ w.heap.size < W2.drew.heap.size ∧ Win W2.drew B f N C lat tot ∧ Below B w W2.drew := by
  obtain ⟨h1, h2, h3, _, _, _, h7, h8, h9⟩ := adv_start hW hb
  have hB := hW.lt
  have h8' : Win w1 B f T C lat tot := h8
  have hW2 := h8'.setStart N
  have hne : w.heap.size ≠ B := by omega
  have hx : (((w1.setCell ⟨B, 1, none⟩ (.int .u64 (nsO N))).setCell ⟨B, 2, none⟩ (.int .i64 (seO N))).setCell ⟨B, 3, none⟩ (.pointer none)).heap[w.heap.size]? = w1.heap[w.heap.size]? := by
    rw [heap_setCell_other _ _ _ _ hne, heap_setCell_other _ _ _ _ hne, heap_setCell_other _ _ _ _ hne]
  refine ⟨?_, ?_, ?_, hW2.ns, hW2.se, hW2.loc, ?_, hW2, ?_⟩
  · exact (World.cell?_of_block (w := w1) (a := ⟨w.heap.size, 0, none⟩) hx).trans h1
  · exact (World.cell?_of_block (w := w1) (a := ⟨w.heap.size, 1, none⟩) hx).trans h2
  · exact (World.cell?_of_block (w := w1) (a := ⟨w.heap.size, 2, none⟩) hx).trans h3
  · show w.heap.size < (((w1.setCell _ _).setCell _ _).setCell _ _).heap.size
    simp [World.setCell]
    exact h7
  · have h9' : Below B w w1 := ⟨h9.os, h9.tape, h9.output, h9.size, h9.block⟩
    exact (((h9'.setCell (Nat.le_refl _) _).setCell (Nat.le_refl _) _).setCell (Nat.le_refl _) _).drew

set_option maxHeartbeats 400000 in
theorem adv_zero (B f : Nat) (N lat tot : Int) (C : Nat → Int) (w : World) (hW : Win w B f 0 C lat tot) (N0 : -9223372036854775808 ≤ N) (N1 : N ≤ 9223372036854775807) (hl0 : 0 ≤ lat) :
    Calls Try.prog 16 #[.pointer (some ⟨B, 0, none⟩), TV (seO N) (nsO N)] w fun e w' => e = .returned (.tuple #[]) ∧ Win w' B f N C lat tot ∧ Below B w w' := by
  have hB := hW.lt
  have g1 := hW.ns
  have g2 := hW.se
  have g3 := hW.loc
  have hSL : IntKind.i64.wrap ((satS N N).tdiv 10000000) = 0 := by rw [satS_in (by omega) (by omega), Int.sub_self]; rfl
  go_enter Try.func16, Try.ntmps16
  go_wp2_with fail
  refine (isZero_at 0 _ (r := true) rfl).mono ?_
  rintro e w1 ⟨rfl, hb1⟩
  have hS0 := adv_start0 (N := N) hW hb1
  dsimp only at hS0
  obtain ⟨p1, p2, p3, _, _, _, p7, p8, _⟩ := adv_start (N := N) hW hb1
  have p8' : Win w1 B f 0 C lat tot := p8
  have r1 : w1.cell? ⟨w.heap.size, 0, none⟩ = some (.int .u64 (nsO N)) := p1
  have r2 : w1.cell? ⟨w.heap.size, 1, none⟩ = some (.int .i64 (seO N)) := p2
  have r3 : w1.cell? ⟨w.heap.size, 2, none⟩ = some (.pointer none) := p3
  have z1 := p8'.ns
  have z2 := p8'.se
  have z3 := p8'.loc
  have y1 := p8'.free 1
  have y2 := p8'.free 2
  have y3 := p8'.free 3
  clear hb1 p1 p2 p3 p7 p8 p8'
  go_wp2_with fail
  clear r1 r2 r3 z1 z2 z3 y1 y2 y3 g1 g2 g3
  go_region_held3 (fun w' => w'.cell? ⟨w.heap.size, 0, none⟩ = some (.int .u64 (nsO N)) ∧ w'.cell? ⟨w.heap.size, 1, none⟩ = some (.int .i64 (seO N)) ∧ w'.cell? ⟨w.heap.size, 2, none⟩ = some (.pointer none) ∧ w'.cell? ⟨B, 1, none⟩ = some (.int .u64 (nsO N)) ∧ w'.cell? ⟨B, 2, none⟩ = some (.int .i64 (seO N)) ∧ w'.cell? ⟨B, 3, none⟩ = some (.pointer none) ∧ w.heap.size < w'.heap.size ∧ Win w' B f N C lat tot ∧ Below B w w')
      (first | with_reducible exact hS0 | with_reducible exact adv_keep hb17 (by assumption))
      (first | (go_at_call 17; refine (sub_any N N _ N0 N1 N0 N1).mono ?_; rintro e w' ⟨rfl, hb17⟩))
  rename_i hS
  obtain ⟨w2, rfl⟩ : ∃ w2 : World, w2 = w' := ⟨_, rfl⟩
  have hW2 : Win w2 B f N C lat tot := hS.2.2.2.2.2.2.2.1
  have bW2 : Below B w w2 := hS.2.2.2.2.2.2.2.2
  have c5 := hW2.latest
  clear hS hS0 hW hb17
  go_wp2
  exact bodyPost_ret (v := .tuple #[]) (by simp [results, Try.results16, go_sem]) rfl ⟨rfl, hW2, bW2⟩

end Go.Proofs.Qxb6625826a
