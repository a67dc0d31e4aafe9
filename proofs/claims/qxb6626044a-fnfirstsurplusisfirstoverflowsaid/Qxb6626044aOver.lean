import Derived.Test.Qxb6626044aHas
namespace Go.Proofs.Qxb6626044a
open Go.RowKit

theorem fsF_congr {K : Nat → Key} {M M' : Key → Int} {i n : Nat} (h : ∀ j, i ≤ j → j < i + n → M (K j) = M' (K j)) : fsF K M i n = fsF K M' i n := by
  induction n generalizing i with
  | zero => rfl
  | succ n ih =>
    simp only [fsF]
    rw [h i (by omega) (by omega), ih fun j h1 h2 => h j (by omega) (by omega)]

theorem has_at (b off len cap m : Nat) (K : Nat → Key) (hv : Value) (M : Key → Int) (hs : Key → Bool) (w : World) (hm : m ≤ len) (hlen : len ≤ 4096) (hsh : Shapes w b off len K) (hh : Held w hv M hs) {r : Bool} (hr : r = true ↔ Surplus K M m) {mi : Int} (hmi : mi = (m : Int)) :
    Calls Try.prog 8 #[.slice (some ⟨b, off, none⟩) len cap, hv, .int .i64 mi] w fun e w' => e = .returned (.bool r) ∧ Below w.heap.size w w' := by
  subst hmi
  exact has_any b off len cap m K hv M hs w hm hlen hsh hh r hr

theorem iff_no {p : Prop} (h : ¬ p) : false = true ↔ p := ⟨fun e => Bool.noConfusion e, fun q => absurd q h⟩
theorem iff_yes {p : Prop} (h : p) : true = true ↔ p := ⟨fun _ => h, fun _ => rfl⟩

theorem MapOwn.more {kt : TypeId} {w : World} {b n : Nat} {M : Key → Int} (h : MapOwn kt w b n M) : MapOwn kt w b (n + 1) M := by
  obtain ⟨H, D, h, r⟩ := h
  exact ⟨H, D, h.mono (Nat.le_succ _), r⟩

theorem hmF_same (K : Nat → Key) (M : Key → Int) (k : Nat) (h : M (K k) = 0) : ∀ x, GK x → hmF K M k x = hmF K M (k + 1) x := fun x _ => by
  unfold hmF
  by_cases hx : x = K k
  · subst hx
    simp [cnt_hit, h]
  · have e : K k ≠ x := fun e => hx e.symm
    simp [cnt_succ, e]

set_option maxRecDepth 4000 in
set_option maxHeartbeats 1000000 in
theorem over_main (b off len cap : Nat) (K : Nat → Key) (hv : Value) (M : Key → Int) (hs : Key → Bool) (w : World) (hlen : len ≤ 1024) (hp : 0 < len) (hsh : Shapes w b off len K) (hh : Held w hv M hs) :
    Calls Try.prog 3 #[.slice (some ⟨b, off, none⟩) len cap, hv] w fun e w' => e = .returned (.bool true) ∧ Below w.heap.size w w' := by
  obtain ⟨nh, hn⟩ := hh.len
  have hln := hn w (Below.refl _ _)
  clear hn
  have hmm := @run_makeMap Try.prog
  have hmk := make_run len (by omega)
  have R0 := made_start K w len
  have hM0 := MapOwn.made 28 (w.alloc (.cells (madeCells #[.int .i64 0, .string ByteArray.empty] (len * 2)) 28))
  rw [World.size_alloc] at hM0
  by_cases hnh : nh ≤ 4096
  · go_enter Try.func3, Try.ntmps3
    go_wp2_with fail
    refine (lines_any _ b off len cap K w (fun _ => rfl) (by omega) hsh).mono ?_
    rintro e w' ⟨⟨t, rfl⟩, rfl⟩
    go_wp2_with fail
    · go_ret
      exact ⟨rfl, Below.refl _ _⟩
    · clear hmm hmk hln
      go_loopw [8] (fun i wr => ∃ q : Nat, q ≤ len ∧ i = .int .i64 q ∧ wr.rowIs w.heap.size 28 (len * 2) (mixK K q) ∧ MapOwn 28 wr (w.heap.size + 1) q (hmF K M q) ∧ Below w.heap.size w wr) (fun i _ => len - (intOf i).toNat)
      case atStart => exact ⟨0, Nat.zero_le _, rfl, R0.alloc _, (hM0.congr fun x _ => rfl), ((Below.refl _ _).alloc (Nat.le_refl _) _).alloc (by simp) _⟩
      case round =>
        obtain ⟨q, hq, rfl, R, hM, hb2⟩ := hrel
        clear R0 hM0
        by_cases hql : q < len
        · have hshr := hsh.below hb2 hsh.lt
          have c0 := hshr.v q hql
          have c1 := hshr.s q hql
          have hbl : b < wr.heap.size := hshr.lt (by omega)
          go_wp2_with fail
          go_cut [9] (fun p wx => ∃ c : Nat, p = .pointer (some ⟨c, 0, none⟩) ∧ wr.heap.size ≤ c ∧ c < wx.heap.size ∧ Below wr.heap.size wr wx ∧ wx.cell? ⟨c, 0, none⟩ = some (.int .i64 (K q).1) ∧ wx.cell? ⟨c, 1, none⟩ = some (.string (K q).2))
          case first =>
            go_region_held3 (fun w' => w'.cell? ⟨b, off + q * 2, none⟩ = some (.int .i64 (K q).1) ∧ w'.cell? ⟨b, off + q * 2 + 1, none⟩ = some (.string (K q).2)) (go_keep) (first | (go_at_call 6; refine (mk_any _ _ _).mono ?_; rintro e w' ⟨rfl, rfl⟩))
            all_goals
              go_wp2
              go_meet
              case rel => first | exact ⟨_, rfl, two_new wr (K q) _ (.inl rfl)⟩ | exact ⟨_, rfl, two_new wr (K q) _ (.inr rfl)⟩
          case rest =>
            obtain ⟨c, rfl, hc1, hc2, hbc, cc0, cc1⟩ := hcut
            have hRl := R.lt
            have hMl := hM.lt
            have R' : wc.rowIs w.heap.size 28 (len * 2) (mixK K q) := R.of_block (hbc.block _ hRl)
            have hM' := hM.below hbc hMl
            have d0 : ∃ v, wc.cell? ⟨w.heap.size, q * 2, none⟩ = some v := ⟨_, R'.cell (by omega)⟩
            have d1 : ∃ v, wc.cell? ⟨w.heap.size, q * 2 + 1, none⟩ = some v := ⟨_, R'.cell (by omega)⟩
            obtain ⟨v0, d0⟩ := d0
            obtain ⟨v1, d1⟩ := d1
            have f0 := R'.frozen (q * 2)
            have f1 := R'.frozen (q * 2 + 1)
            have g0 : wc.cell? ⟨b, off + q * 2, none⟩ = some (.int .i64 (K q).1) := (hbc.cell (by exact hbl)).trans c0
            have g1 : wc.cell? ⟨b, off + q * 2 + 1, none⟩ = some (.string (K q).2) := (hbc.cell (by exact hbl)).trans c1
            have hg := hsh.good q hql
            have hbo : b < w.heap.size := hsh.lt hp
            have R'' := mixK_step R'
            have hM2 : MapOwn 28 ((wc.setCell ⟨w.heap.size, q * 2, none⟩ (.int .i64 (K q).1)).setCell ⟨w.heap.size, q * 2 + 1, none⟩ (.string (K q).2)) (w.heap.size + 1) q (hmF K M q) :=
              hM'.block ((heap_setCell_other _ _ _ _ (by simp)).trans (heap_setCell_other _ _ _ _ (by simp)))
            have b3 : Below w.heap.size w ((wc.setCell ⟨w.heap.size, q * 2, none⟩ (.int .i64 (K q).1)).setCell ⟨w.heap.size, q * 2 + 1, none⟩ (.string (K q).2)) :=
              ((hb2.trans (hbc.mono hb2.size)).setCell (Nat.le_refl _) _).setCell (Nat.le_refl _) _
            have l1 := hh.lookok _ b3 (K q) hg
            have hwf := hh.wf (K q) hg
            clear R R' hM hM'
            by_cases hok : hs (K q) = true
            · obtain ⟨w1, u1, u2, u3⟩ := hM2.put ty26 (by unfold maxLen; omega) hg (v := M (K q)) hwf
              simp only [kv] at u1
              have u2' := u2.congr (hmF_step K M q)
              have R3 : w1.rowIs w.heap.size 28 (len * 2) (mixK K (q + 1)) := R''.of_block (u3.block _ R''.lt (by simp))
              have b4 : Below w.heap.size w w1 := b3.grown u3 b3.size (fun j hj => by cases hj; omega)
              clear R'' hM2 u2 u3 hbc b3
              go_wp2
              go_roundw
              case rel => exact ⟨q + 1, by omega, by go_num, R3, u2', b4⟩
              case measure => simp [intOf]; omega
            · have hok' : hs (K q) = false := by simpa using hok
              have u2' : MapOwn 28 _ (w.heap.size + 1) (q + 1) (hmF K M (q + 1)) := (hM2.congr (hmF_same K M q (hh.none _ hg hok'))).more
              clear hok hM2 hbc
              go_wp2
              go_roundw
              case rel => exact ⟨q + 1, by omega, by go_num, R'', u2', b3⟩
              case measure => simp [intOf]; omega
        · obtain rfl : q = len := by omega
          have hs1 : Shapes wr w.heap.size 0 q K := shapes_of_row R hsh.good
          have hsh2 := hsh.below hb2 hsh.lt
          have hh2 := hh.below hb2
          have hfs : fsF K (hmF K M q) 0 q = fsF K M 0 q := fsF_congr fun j _ hj => hmF_in K M (by omega)
          rcases fsF_cases K M q with ⟨e1, e2⟩ | ⟨ρ, e1, e2, e3, e4⟩
          · have hr : fsF K (hmF K M q) 0 q = -1 := hfs.trans e1
            have hno : ¬ Surplus K M q := fun h => by
              obtain ⟨i, hi, h1⟩ := (surplus_iff K M q).1 h
              exact e2 i hi h1
            clear hfs e1 e2
            go_wp2_with fail
            refine (zz_any w.heap.size q q (w.heap.size + 1) q K _ wr (by omega) hs1 hM hr).mono ?_
            rintro e w5 ⟨rfl, hb5⟩
            have hsh5 := hsh2.below hb5 hsh2.lt
            have hh5 := hh2.below hb5
            go_wp2_with fail
            refine (has_at b off q cap q K hv M hs w5 (Nat.le_refl _) (by omega) hsh5 hh5 (iff_no hno) rfl).mono ?_
            rintro e w6 ⟨rfl, hb6⟩
            go_wp2
            go_ret
            have s5 := hb5.size
            have s2 := hb2.size
            exact ⟨rfl, (hb2.trans (hb5.mono s2)).trans (hb6.mono (by omega))⟩
          · have hr : fsF K (hmF K M q) 0 q = ρ := hfs.trans e2
            have hno : ¬ Surplus K M ρ := fun h => by
              obtain ⟨i, hi, h1⟩ := (surplus_iff K M ρ).1 h
              exact e4 i hi h1
            have hyes : Surplus K M (ρ + 1) := (surplus_iff K M (ρ + 1)).2 ⟨ρ, by omega, e3⟩
            have hq1 : ((ρ : Int) == -1) = false := by
              have h1 : (ρ : Int) ≠ -1 := by omega
              simp [h1]
            clear hfs e2 e3 e4
            go_wp2_with fail
            refine (zz_any w.heap.size q q (w.heap.size + 1) q K _ wr (by omega) hs1 hM hr).mono ?_
            rintro e w5 ⟨rfl, hb5⟩
            have hsh5 := hsh2.below hb5 hsh2.lt
            have hh5 := hh2.below hb5
            clear hr
            go_wp2_with fail
            refine (has_at b off q cap ρ K hv M hs w5 (by omega) (by omega) hsh5 hh5 (iff_no hno) rfl).mono ?_
            rintro e w6 ⟨rfl, hb6⟩
            have hsh6 := hsh5.below hb6 hsh5.lt
            have hh6 := hh5.below hb6
            go_wp2_with fail
            refine (has_at b off q cap (ρ + 1) K hv M hs w6 (by omega) (by omega) hsh6 hh6 (iff_yes hyes) (by omega)).mono ?_
            rintro e w7 ⟨rfl, hb7⟩
            go_wp2
            go_ret
            have s2 := hb2.size
            have s5 := hb5.size
            have s6 := hb6.size
            exact ⟨rfl, ((hb2.trans (hb5.mono s2)).trans (hb6.mono (by omega))).trans (hb7.mono (by omega))⟩
  · go_enter Try.func3, Try.ntmps3
    go_wp2
    go_ret
    exact ⟨rfl, Below.refl _ _⟩

set_option maxHeartbeats 400000 in
theorem over_big (ao : Option Addr) (len cap : Nat) (hv : Value) (w : World) (hm : len ≤ maxLen) (hlen : ¬ len ≤ 1024) :
    Calls Try.prog 3 #[.slice ao len cap, hv] w fun e w' => e = .returned (.bool true) ∧ Below w.heap.size w w' := by
  unfold maxLen at hm
  go_enter Try.func3, Try.ntmps3
  go_wp2
  go_ret
  exact ⟨rfl, Below.refl _ _⟩

set_option maxHeartbeats 1000000 in
theorem over_empty (ao : Option Addr) (cap : Nat) (hv : Value) (M : Key → Int) (hs : Key → Bool) (w : World) (hh : Held w hv M hs) :
    Calls Try.prog 3 #[.slice ao 0 cap, hv] w fun e w' => e = .returned (.bool true) ∧ Below w.heap.size w w' := by
  obtain ⟨nh, hn⟩ := hh.len
  have hln := hn w (Below.refl _ _)
  clear hn
  have hmm := @run_makeMap Try.prog
  have hmk := make_run 0 (by omega)
  simp only [Int.ofNat_zero] at hmk
  have hsh : Shapes w 0 0 0 (fun _ => (0, ByteArray.empty)) := ⟨fun h => by omega, fun i h => by omega, fun i h => by omega, fun i h => by omega⟩
  by_cases hnh : nh ≤ 4096
  · go_enter Try.func3, Try.ntmps3
    go_wp2_with fail
    refine (lines_any ao 0 0 0 cap (fun _ => (0, ByteArray.empty)) w (fun h => by omega) (by omega) hsh).mono ?_
    rintro e w' ⟨⟨t, rfl⟩, rfl⟩
    go_wp2_with fail
    · go_ret
      exact ⟨rfl, Below.refl _ _⟩
    · refine wp_loop_rounds 1 ?_
      rw [rounds_succ]
      have hM0 := MapOwn.made 28 (w.alloc (.cells (madeCells #[.int .i64 0, .string ByteArray.empty] 0) 28))
      rw [World.size_alloc] at hM0
      have bA : Below w.heap.size w ((w.alloc (.cells (madeCells #[.int .i64 0, .string ByteArray.empty] 0) 28)).alloc (.map #[] 0)) :=
        ((Below.refl _ _).alloc (Nat.le_refl _) _).alloc (by rw [World.size_alloc]; omega) _
      clear hmm hmk hln
      go_wp2_with fail
      refine (zz_any w.heap.size 0 0 (w.heap.size + 1) 0 (fun _ => (0, ByteArray.empty)) _ _ (by omega) ⟨fun h => by omega, fun i h => by omega, fun i h => by omega, fun i h => by omega⟩ hM0 (r := -1) rfl).mono ?_
      rintro e w9 ⟨rfl, hb9⟩
      go_wp2_with fail
      refine (has_zero ao 0 cap hv w9).mono ?_
      rintro e w10 ⟨rfl, hb10⟩
      go_wp2
      go_ret
      have s9 := hb9.size
      have sA := bA.size
      exact ⟨rfl, (bA.trans (hb9.mono sA)).trans (hb10.mono (by omega))⟩
  · go_enter Try.func3, Try.ntmps3
    go_wp2
    go_ret
    exact ⟨rfl, Below.refl _ _⟩

theorem over_any (ao : Option Addr) (b off len cap : Nat) (K : Nat → Key) (hv : Value) (M : Key → Int) (hs : Key → Bool) (w : World) (hao : 0 < len → ao = some ⟨b, off, none⟩) (hm : len ≤ maxLen) (hsh : Shapes w b off len K) (hh : Held w hv M hs) :
    Calls Try.prog 3 #[.slice ao len cap, hv] w fun e w' => e = .returned (.bool true) ∧ Below w.heap.size w w' := by
  by_cases h : len ≤ 1024
  · by_cases hp : 0 < len
    · rw [hao hp]
      exact over_main b off len cap K hv M hs w h hp hsh hh
    · obtain rfl : len = 0 := by omega
      exact over_empty ao cap hv M hs w hh
  · exact over_big ao len cap hv w hm h
end Go.Proofs.Qxb6626044a
