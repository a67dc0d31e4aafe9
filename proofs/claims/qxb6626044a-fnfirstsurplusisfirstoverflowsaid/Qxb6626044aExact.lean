import Derived.Test.Qxb6626044aFs
import Derived.Deep.OwnRows
import Derived.Deep.RegionHeld3
import Derived.Deep.DeepCutAuto
namespace Go.Proofs.Qxb6626044a
open Go.RowKit

/-- It has returned a bool. -/
def SomeBool (e : Ending) : Prop := ∃ t : Bool, e = .returned (.bool t)
theorem SomeBool.mk {e : Ending} {t : Bool} (h : e = .returned (.bool t)) : SomeBool e := ⟨t, h⟩

set_option maxHeartbeats 400000 in
theorem by9_any (ao : Option Addr) (b off len cap : Nat) (K : Nat → Key) (j : Int) (w : World) (hao : 0 < len → ao = some ⟨b, off, none⟩) (hlen : len ≤ maxLen) (hsh : Shapes w b off len K) :
    Calls Try.prog 9 #[.slice ao len cap, .int .i64 j] w fun e w' => SomeBool e ∧ w = w' := by
  unfold maxLen at hlen
  by_cases hp : 0 < len
  · rw [hao hp]
    go_enter Try.func9, Try.ntmps9
    go_wp2
    · go_ret
      exact ⟨SomeBool.mk rfl, rfl⟩
    · go_loop [5, 6] (fun t i => ∃ (k : Nat) (q : Int), k ≤ len ∧ i = .int .i64 k ∧ t = .int .i64 q) (fun _ i => len - (intOf i).toNat)
      case atStart => exact ⟨0, _, Nat.zero_le _, rfl, rfl⟩
      case round =>
        obtain ⟨k, q, hk, rfl, rfl⟩ := hrel
        by_cases hkl : k < len
        · have c1 := hsh.s k hkl
          go_wp2
          · go_ret
            exact ⟨SomeBool.mk rfl, rfl⟩
          · go_ret
            exact ⟨SomeBool.mk rfl, rfl⟩
          · go_round
            case rel => exact ⟨k + 1, _, by omega, by go_num, rfl⟩
            case measure => simp [intOf]; omega
        · go_wp2
          go_ret
          exact ⟨SomeBool.mk rfl, rfl⟩
  · obtain rfl : len = 0 := by omega
    go_enter Try.func9, Try.ntmps9
    go_wp2
    refine wp_loop_rounds 1 ?_
    rw [rounds_succ]
    go_wp2
    go_ret
    exact ⟨SomeBool.mk rfl, rfl⟩

theorem cnt_upd (K : Nat → Key) (k : Nat) : ∀ x, GK x → upd (fun x => (cnt K k x : Int)) (K k) ((cnt K k (K k) : Int) + 1) x = (cnt K (k + 1) x : Int) := fun x _ => by
  unfold upd
  simp only [cnt_succ]
  by_cases hx : x = K k
  · subst hx; simp
  · rw [if_neg hx, if_neg (fun e => hx e.symm)]; simp

theorem Try.info28 : (Try.prog.info? 28).map (fun i => (i.zero, i.size, i.bytes)) = some (some (.agg #[.int .i64 0, .string ByteArray.empty]), 2, 24) := by kernel_rfl

theorem make_run (n : Nat) (hn : n ≤ 65536) (w : World) : (Instr.makeSlice 25 (.int .i64 (n : Int)) (.int .i64 (n : Int))).run Try.prog w = .ok (.slice (some ⟨w.heap.size, 0, none⟩) n n) (w.alloc (.cells (madeCells #[.int .i64 0, .string ByteArray.empty] (n * 2)) 28)) := by
  obtain ⟨i, hi, hz0, hz1, hz2⟩ := info_parts Try.info28
  have := run_make (P := Try.prog) w 25 28 i _ Try.underlying25 hi hz0 .i64 .i64 n n (by omega) (Int.le_refl _) (by rw [hz2]; omega) (by omega)
  rw [this, hz1]
  rfl

/-- What the new row of shapes holds behind k rounds, cell by cell. -/
def mixK (K : Nat → Key) (k j : Nat) : Value :=
  if j / 2 < k then (if j % 2 = 0 then .int .i64 (K (j / 2)).1 else .string (K (j / 2)).2) else (if j % 2 = 0 then .int .i64 0 else .string ByteArray.empty)

theorem mixK_even {K : Nat → Key} {k i : Nat} (h : i < k) : mixK K k (i * 2) = .int .i64 (K i).1 := by
  have h1 : i * 2 / 2 = i := by omega
  have h2 : i * 2 % 2 = 0 := by omega
  simp [mixK, h]
theorem mixK_odd {K : Nat → Key} {k i : Nat} (h : i < k) : mixK K k (i * 2 + 1) = .string (K i).2 := by
  have h1 : (i * 2 + 1) / 2 = i := by omega
  have h2 : (i * 2 + 1) % 2 = 1 := by omega
  simp [mixK, h, h1, h2]

theorem made_start (K : Nat → Key) (w : World) (n : Nat) : (w.alloc (.cells (madeCells #[.int .i64 0, .string ByteArray.empty] (n * 2)) 28)).rowIs w.heap.size 28 (n * 2) (mixK K 0) := by
  refine ⟨_, Go.Deep.blk_alloc_new _ _, size_madeCells _ _, fun i hi => ?_⟩
  rcases Nat.mod_two_eq_zero_or_one i with h | h <;> simp [madeCells, hi, mixK, h]

theorem mixK_step {K : Nat → Key} {wr : World} {B n k : Nat} (h : wr.rowIs B 28 (n * 2) (mixK K k)) :
    ((wr.setCell ⟨B, k * 2, none⟩ (.int .i64 (K k).1)).setCell ⟨B, k * 2 + 1, none⟩ (.string (K k).2)).rowIs B 28 (n * 2) (mixK K (k + 1)) := by
  refine ((h.set (k * 2) _).set (k * 2 + 1) _).congr fun j hj => ?_
  by_cases e1 : j = k * 2 + 1
  · subst e1; rw [if_pos rfl, mixK_odd (by omega)]
  · rw [if_neg e1]
    by_cases e0 : j = k * 2
    · subst e0; rw [if_pos rfl, mixK_even (by omega)]
    · rw [if_neg e0]
      have : j / 2 < k + 1 ↔ j / 2 < k := by omega
      simp [mixK, this]

/-- The map of the shapes seen so far, each with its number in C. -/
def hmF (K : Nat → Key) (C : Key → Int) (k : Nat) (x : Key) : Int := if 0 < cnt K k x then C x else 0

theorem hmF_step (K : Nat → Key) (C : Key → Int) (k : Nat) : ∀ x, GK x → upd (hmF K C k) (K k) (C (K k)) x = hmF K C (k + 1) x := fun x _ => by
  unfold upd hmF
  by_cases hx : x = K k
  · subst hx; simp [cnt_hit]
  · have e : K k ≠ x := fun e => hx e.symm
    simp [hx, cnt_succ, e]

theorem two_new (wr : World) (x : Key) (c : Nat) (hc : c = wr.heap.size + 1 ∨ c = wr.heap.size) :
    wr.heap.size ≤ c ∧ c < ((wr.alloc (.cells #[.int .i64 x.1, .string x.2] 28)).alloc (.cells #[.int .i64 x.1, .string x.2] 28)).drew.heap.size ∧
      Below wr.heap.size wr ((wr.alloc (.cells #[.int .i64 x.1, .string x.2] 28)).alloc (.cells #[.int .i64 x.1, .string x.2] 28)).drew ∧
      ((wr.alloc (.cells #[.int .i64 x.1, .string x.2] 28)).alloc (.cells #[.int .i64 x.1, .string x.2] 28)).drew.cell? ⟨c, 0, none⟩ = some (.int .i64 x.1) ∧
      ((wr.alloc (.cells #[.int .i64 x.1, .string x.2] 28)).alloc (.cells #[.int .i64 x.1, .string x.2] 28)).drew.cell? ⟨c, 1, none⟩ = some (.string x.2) := by
  have hs : (wr.alloc (.cells #[.int .i64 x.1, .string x.2] 28)).heap.size = wr.heap.size + 1 := World.size_alloc _ _
  have hs2 : ((wr.alloc (.cells #[.int .i64 x.1, .string x.2] 28)).alloc (.cells #[.int .i64 x.1, .string x.2] 28)).heap.size = wr.heap.size + 2 := by rw [World.size_alloc, hs]
  refine ⟨by omega, ?_, (((Below.refl _ _).alloc (Nat.le_refl _) _).alloc (by omega) _).drew, ?_, ?_⟩
  · show c < ((wr.alloc _).alloc _).heap.size
    rw [hs2]; omega
  all_goals
    show World.cell? ((wr.alloc _).alloc _) _ = _
    rcases hc with rfl | rfl
    · rw [cell_of_row _ _ _ _ _ _ (heap_alloc2_new wr _ _)]; rfl
    · rw [cell_of_row _ _ _ _ _ _ (heap_alloc2_old wr _ _)]; rfl

theorem hmF_in (K : Nat → Key) (C : Key → Int) {i n : Nat} (hi : i < n) : hmF K C n (K i) = C (K i) := by
  have h1 := cnt_mono K (K i) (m := i + 1) (n := n) (by omega)
  rw [cnt_hit] at h1
  unfold hmF
  rw [if_pos (by omega)]

theorem shapes_of_row {w : World} {B n : Nat} {K : Nat → Key} (h : w.rowIs B 28 (n * 2) (mixK K n)) (hg : ∀ i, i < n → GK (K i)) : Shapes w B 0 n K :=
  ⟨fun _ => h.lt, hg, fun i hi => by rw [Nat.zero_add, h.cell (by omega), mixK_even hi], fun i hi => by rw [Nat.zero_add, h.cell (by omega), mixK_odd hi]⟩

theorem Shapes.grown {w w' : World} {b off len : Nat} {K : Nat → Key} {row : Option Nat} (h : Shapes w b off len K) (hg : w.grownBy w' row) (hne : some b ≠ row) : Shapes w' b off len K := by
  by_cases hp : 0 < len
  · have hb := hg.block b (h.lt hp) hne
    exact ⟨fun _ => Nat.lt_of_lt_of_le (h.lt hp) hg.size, h.good, fun i hi => (World.cell?_of_block (w := w) (a := ⟨b, off + i * 2, none⟩) hb).trans (h.v i hi), fun i hi => (World.cell?_of_block (w := w) (a := ⟨b, off + i * 2 + 1, none⟩) hb).trans (h.s i hi)⟩
  · exact ⟨fun h => absurd h hp, h.good, fun i hi => by omega, fun i hi => by omega⟩

theorem eq_run (a b : Key) (w : World) : (binOp .eql 31 (.agg #[.int .i64 a.1, .string a.2]) (.agg #[.int .i64 b.1, .string b.2])).run Try.prog w = .ok (.bool (decide (a = b))) w := by
  have hu : Try.prog.underlying 31 = some (.struct (Try.prog.fieldsOf 31)) := by simp [Program.fieldsOf, Try.underlying31]
  have h : (Op.equal 31 (.agg #[.int .i64 a.1, .string a.2]) (.agg #[.int .i64 b.1, .string b.2])).run Try.prog w = .ok (decide (a = b)) w := by
    unfold Op.equal
    rw [show Op.maxDepth = 9999 + 1 from rfl, run_equalIn_struct w 9999 31 _ _ hu (by kernel_rfl)]
    simp [Program.fieldsOf, Try.underlying31, Op.eqFields, go_sem]
    obtain ⟨a1, a2⟩ := a
    obtain ⟨b1, b2⟩ := b
    by_cases h1 : a1 = b1
    · by_cases h2 : a2 = b2
      · simp [h1, h2]
      · have h3 : ¬ a2.toList = b2.toList := fun e => h2 (WideShapes.bytes_inj (by rw [← ByteArray.toList_eq, ← ByteArray.toList_eq, e]))
        simp [h1, h2, h3]
    · simp [h1]
  simp [binOp, h]

set_option maxRecDepth 4000 in
set_option maxHeartbeats 1000000 in
theorem exact_main (b off len cap : Nat) (K : Nat → Key) (j : Nat) (w : World) (hlen : len ≤ 4096) (hj : j < len) (hsh : Shapes w b off len K) :
    Calls Try.prog 4 #[.slice (some ⟨b, off, none⟩) len cap, .int .i64 j] w fun e w' => e = .returned (.bool true) ∧ Below w.heap.size w w' := by
  have hmm := @run_makeMap Try.prog
  have hd1 : decide (len ≤ j) = false := by simp; omega
  have hd2 : decide ((j : Int) < 0) = false := by simp
  go_enter Try.func4, Try.ntmps4
  go_wp2_with fail
  refine (by9_any _ b off len cap K j w (fun _ => rfl) (by unfold maxLen; omega) hsh).mono ?_
  rintro e w' ⟨⟨r, rfl⟩, rfl⟩
  cases r with
  | false =>
    go_wp2
    go_ret
    exact ⟨rfl, Below.refl _ _⟩
  | true =>
    go_wp2_with fail
    refine (lines_any _ b off len cap K w (fun _ => rfl) hlen hsh).mono ?_
    rintro e w' ⟨⟨t, rfl⟩, rfl⟩
    go_wp2_with fail
    · go_ret
      exact ⟨rfl, Below.refl _ _⟩
    · clear hmm
      go_loopw [7] (fun i wr => ∃ k : Nat, k ≤ len ∧ i = .int .i64 k ∧ MapOwn 31 wr w.heap.size k (fun x => (cnt K k x : Int)) ∧ Below w.heap.size w wr) (fun i _ => len - (intOf i).toNat)
      case atStart => exact ⟨0, Nat.zero_le _, rfl, MapOwn.made 31 w, (Below.refl _ _).alloc (Nat.le_refl _) _⟩
      case round =>
        obtain ⟨k, hk, rfl, hown, hbel⟩ := hrel
        by_cases hkl : k < len
        · have hshr := hsh.below hbel hsh.lt
          have c0 := hshr.v k hkl
          have c1 := hshr.s k hkl
          have hg := hsh.good k hkl
          have hcl := cnt_le K k (K k)
          have ho : MapOwn 31 wr.drew w.heap.size k (fun x => (cnt K k x : Int)) := hown
          have l1 := ho.look ty23 hg
          obtain ⟨w1, u1, u2, u3⟩ := ho.put ty23 (by unfold maxLen; omega) hg (v := (cnt K k (K k) : Int) + 1) (WalkArith.wf_i64 (by omega))
          simp only [kv] at l1 u1
          have b2 : Below w.heap.size w w1 := hbel.drew.grown u3 hbel.size (fun j hj => by cases hj; exact Nat.le_refl _)
          have u2' : MapOwn 31 w1 w.heap.size (k + 1) (fun x => (cnt K (k + 1) x : Int)) := u2.congr (cnt_upd K k)
          clear ho u2 u3
          go_wp2
          go_region
          go_wp2
          go_roundw
          case rel => exact ⟨k + 1, by omega, by go_num, u2', b2⟩
          case measure => simp [intOf]; omega
        · obtain rfl : k = len := by omega
          have hmk := make_run k (by omega)
          have hmm := @run_makeMap Try.prog
          have R0 := made_start K wr k
          have hM0 := MapOwn.made 28 (wr.alloc (.cells (madeCells #[.int .i64 0, .string ByteArray.empty] (k * 2)) 28))
          rw [World.size_alloc] at hM0
          go_wp2
          clear hmk hmm
          obtain ⟨wo, rfl⟩ : ∃ wo : World, wo = wr := ⟨_, rfl⟩
          have hle := hbel.size
          go_loopw [10] (fun i wr => ∃ q : Nat, q ≤ k ∧ i = .int .i64 q ∧ wr.rowIs wo.heap.size 28 (k * 2) (mixK K q) ∧ MapOwn 28 wr (wo.heap.size + 1) q (hmF K (fun x => (cnt K k x : Int)) q) ∧ Below wo.heap.size wo wr) (fun i _ => k - (intOf i).toNat)
          case atStart => exact ⟨0, Nat.zero_le _, rfl, R0.alloc _, (hM0.congr fun x _ => rfl), ((Below.refl _ _).alloc (Nat.le_refl _) _).alloc (by simp) _⟩
          case round =>
            obtain ⟨q, hq, rfl, R, hM, hb2⟩ := hrel
            by_cases hql : q < k
            · have hshr := hsh.below (hbel.trans (hb2.mono hle)) hsh.lt
              have c0 := hshr.v q hql
              have c1 := hshr.s q hql
              have hbl : b < wr.heap.size := hshr.lt (by omega)
              go_wp2_with fail
              go_cut [11] (fun p wx => ∃ c : Nat, p = .pointer (some ⟨c, 0, none⟩) ∧ wr.heap.size ≤ c ∧ c < wx.heap.size ∧ Below wr.heap.size wr wx ∧ wx.cell? ⟨c, 0, none⟩ = some (.int .i64 (K q).1) ∧ wx.cell? ⟨c, 1, none⟩ = some (.string (K q).2))
              case first =>
                go_region_held3 (fun w' => w'.cell? ⟨b, off + q * 2, none⟩ = some (.int .i64 (K q).1) ∧ w'.cell? ⟨b, off + q * 2 + 1, none⟩ = some (.string (K q).2)) (go_keep) (first | (go_at_call 6; refine (mk_any _ _ _).mono ?_; rintro e w' ⟨rfl, rfl⟩))
                all_goals
                  go_wp2
                  go_meet
                  case rel => first | exact ⟨_, rfl, two_new wr (K q) _ (.inl rfl)⟩ | exact ⟨_, rfl, two_new wr (K q) _ (.inr rfl)⟩
              case rest =>
                obtain ⟨c, rfl, hc1, hc2, hbc, cc0, cc1⟩ := hcut
                have hRl := R.lt
                have hMl := hM.lt
                have R' : wc.rowIs wo.heap.size 28 (k * 2) (mixK K q) := R.of_block (hbc.block _ hRl)
                have hM' := hM.below hbc hMl
                have hC' := (hown.below hb2 hown.lt).below hbc (by have := hown.lt; have := hb2.size; omega)
                have hBw : w.heap.size ≠ wo.heap.size := by have := hown.lt; omega
                have d0 : ∃ v, wc.cell? ⟨wo.heap.size, q * 2, none⟩ = some v := ⟨_, R'.cell (by omega)⟩
                have d1 : ∃ v, wc.cell? ⟨wo.heap.size, q * 2 + 1, none⟩ = some v := ⟨_, R'.cell (by omega)⟩
                obtain ⟨v0, d0⟩ := d0
                obtain ⟨v1, d1⟩ := d1
                have f0 := R'.frozen (q * 2)
                have f1 := R'.frozen (q * 2 + 1)
                have g0 : wc.cell? ⟨b, off + q * 2, none⟩ = some (.int .i64 (K q).1) := (hbc.cell (by exact hbl)).trans c0
                have g1 : wc.cell? ⟨b, off + q * 2 + 1, none⟩ = some (.string (K q).2) := (hbc.cell (by exact hbl)).trans c1
                have hg := hsh.good q hql
                have hbo : b < wo.heap.size := by have := hsh.lt (by omega); omega
                have R'' := mixK_step R'
                have hM2 : MapOwn 28 ((wc.setCell ⟨wo.heap.size, q * 2, none⟩ (.int .i64 (K q).1)).setCell ⟨wo.heap.size, q * 2 + 1, none⟩ (.string (K q).2)).drew (wo.heap.size + 1) q (hmF K (fun x => (cnt K k x : Int)) q) :=
                  hM'.block ((heap_setCell_other _ _ _ _ (by simp)).trans (heap_setCell_other _ _ _ _ (by simp)))
                have hC2 : MapOwn 31 ((wc.setCell ⟨wo.heap.size, q * 2, none⟩ (.int .i64 (K q).1)).setCell ⟨wo.heap.size, q * 2 + 1, none⟩ (.string (K q).2)).drew w.heap.size k (fun x => (cnt K k x : Int)) :=
                  hC'.block ((heap_setCell_other _ _ _ _ hBw).trans (heap_setCell_other _ _ _ _ hBw))
                have l1 := hC2.look ty23 hg
                have hcl := cnt_le K k (K q)
                obtain ⟨w1, u1, u2, u3⟩ := hM2.put ty26 (by unfold maxLen; omega) hg (v := (cnt K k (K q) : Int)) (WalkArith.wf_i64 (by omega))
                simp only [kv] at l1 u1
                have u2' := u2.congr (hmF_step K (fun x => (cnt K k x : Int)) q)
                have R3 : w1.rowIs wo.heap.size 28 (k * 2) (mixK K (q + 1)) := R''.of_block (u3.block _ R''.lt (by simp))
                have b3 : Below wo.heap.size wo w1 := ((((hb2.trans (hbc.mono hb2.size)).setCell (Nat.le_refl _) _).setCell (Nat.le_refl _) _).drew).grown u3 (by simp; have := hb2.size; have := hbc.size; omega) (fun j hj => by cases hj; omega)
                clear R R' R'' hM hM' hM2 hC' hC2 u2 u3 hbc
                go_wp2
                go_region
                go_wp2
                go_roundw
                case rel => exact ⟨q + 1, by omega, by go_num, R3, u2', b3⟩
                case measure => simp [intOf]; omega
            · obtain rfl : q = k := by omega
              have hs1 : Shapes wr wo.heap.size 0 q K := shapes_of_row R hsh.good
              have hle2 := hb2.size
              have hsh2 := hsh.below (hbel.trans (hb2.mono hle)) hsh.lt
              have hC2 := hown.below hb2 hown.lt
              have bW := hbel.trans (hb2.mono hle)
              go_wp2_with fail
              refine (zz_any wo.heap.size q q (wo.heap.size + 1) q K _ wr hlen hs1 hM (exact_none fun i hi => hmF_in K _ hi)).mono ?_
              rintro e w5 ⟨rfl, hb5⟩
              have hs5 := hs1.below hb5 hs1.lt
              have hsh5 := hsh2.below hb5 hsh2.lt
              have hM5 := hM.below hb5 hM.lt
              have hC5 := hC2.below hb5 hC2.lt
              have bW5 := bW.trans (hb5.mono (by omega))
              have hM5l := hM5.lt
              have hC5l := hC5.lt
              have hCM : w.heap.size ≠ wo.heap.size + 1 := by have := hown.lt; omega
              clear R hM hs1 hsh2 hC2 bW hown hbel hb2 hb5
              go_wp2_with fail
              have heq := eq_run
              go_loopw [12, 13] (fun la i wx => ∃ p nd : Nat, p ≤ q ∧ i = .int .i64 p ∧ la = .int .i64 (lastF K (K j) p) ∧ wx = w5.drewN nd) (fun _ i _ => q - (intOf i).toNat)
              case atStart => exact ⟨0, 0, Nat.zero_le _, rfl, rfl, rfl⟩
              case round =>
                obtain ⟨p, nd, hp, rfl, rfl, rfl⟩ := hrel
                by_cases hpl : p < q
                · have c0 := hsh5.v p hpl
                  have c1 := hsh5.s p hpl
                  have e0 := hsh5.v j hj
                  have e1 := hsh5.s j hj
                  by_cases hkk : K p = K j
                  · have hkd : decide (K p = K j) = true := by simp [hkk]
                    have HK : Hid (lastF K (K j) (p + 1) = p) := by simp [Hid, lastF, hkk]
                    clear hkk
                    go_wp2
                    go_quiet (fail)
                    go_wp2
                    go_roundw
                    case rel => exact ⟨p + 1, nd + nq, by omega, by go_num, by rw [HK.out], rfl⟩
                    case measure => simp [intOf]; omega
                  · have hkd : decide (K p = K j) = false := by simp [hkk]
                    have HK : Hid (lastF K (K j) (p + 1) = lastF K (K j) p) := by simp [Hid, lastF, hkk]
                    clear hkk
                    go_wp2
                    go_quiet (fail)
                    go_wp2
                    go_roundw
                    case rel => exact ⟨p + 1, nd + nq, by omega, by go_num, by rw [HK.out], rfl⟩
                    case measure => simp [intOf]; omega
                · obtain rfl : p = q := by omega
                  go_wp2
                  have hs6 : Shapes (w5.drewN nd) wo.heap.size 0 p K := ⟨hs5.lt, hs5.good, hs5.v, hs5.s⟩
                  have hsh6 : Shapes (w5.drewN nd) b off p K := ⟨hsh5.lt, hsh5.good, hsh5.v, hsh5.s⟩
                  have hM6 := hM5.block (w' := w5.drewN nd) rfl
                  have hC6 := hC5.block (w' := w5.drewN nd) rfl
                  have bW6 := below_drewN bW5 nd
                  have hM6l := hM6.lt
                  have hC6l := hC6.lt
                  clear hs5 hsh5 hM5 hC5 bW5 hM5l hC5l heq
                  generalize w5.drewN nd = w6 at hs6 hsh6 hM6 hC6 bW6 hM6l hC6l ⊢
                  have e0 := hsh6.v j hj
                  have e1 := hsh6.s j hj
                  have hbl : b < w6.heap.size := hsh6.lt (by omega)
                  go_cut [14] (fun pp wx => ∃ c : Nat, pp = .pointer (some ⟨c, 0, none⟩) ∧ w6.heap.size ≤ c ∧ c < wx.heap.size ∧ Below w6.heap.size w6 wx ∧ wx.cell? ⟨c, 0, none⟩ = some (.int .i64 (K j).1) ∧ wx.cell? ⟨c, 1, none⟩ = some (.string (K j).2))
                  case first =>
                    clear hs6 hsh6 hM6 hC6 bW6 hM6l hC6l hCM hle hle2
                    go_region_held3 (fun w' => w'.cell? ⟨b, off + j * 2, none⟩ = some (.int .i64 (K j).1) ∧ w'.cell? ⟨b, off + j * 2 + 1, none⟩ = some (.string (K j).2)) (go_keep) (first | (go_at_call 6; refine (mk_any _ _ _).mono ?_; rintro e w' ⟨rfl, rfl⟩))
                    all_goals
                      go_wp2
                      go_meet
                      case rel => first | exact ⟨_, rfl, two_new w6 (K j) _ (.inl rfl)⟩ | exact ⟨_, rfl, two_new w6 (K j) _ (.inr rfl)⟩
                  case rest =>
                    obtain ⟨c, rfl, hc1, hc2, hbc, cc0, cc1⟩ := hcut
                    have hg := hsh6.good j hj
                    have hs7 := hs6.below hbc hs6.lt
                    have hsh7 := hsh6.below hbc hsh6.lt
                    have hM7 := hM6.below hbc hM6l
                    have hC7 := hC6.below hbc hC6l
                    have bW7 := bW6.trans (hbc.mono bW6.size)
                    have g0 := hsh7.v j hj
                    have g1 := hsh7.s j hj
                    have l1 := (hC7.block (w' := wc.drew) rfl).look ty23 hg
                    have hcl := cnt_le K p (K j)
                    obtain ⟨w8, u1, u2, u3⟩ := (hM7.block (w' := wc.drew) rfl).put ty26 (by unfold maxLen; omega) hg (v := (cnt K p (K j) : Int) - 1) (WalkArith.wf_i64 (by omega))
                    simp only [kv] at l1 u1
                    have hs8 : Shapes w8 wo.heap.size 0 p K := Shapes.grown (w := wc.drew) ⟨hs7.lt, hs7.good, hs7.v, hs7.s⟩ u3 (by simp)
                    have bW8 : Below w.heap.size w w8 := bW7.drew.grown u3 bW7.size (fun j hj => by cases hj; omega)
                    have hb7 := hsh7.lt (by omega)
                    clear hs6 hsh6 hM6 hC6 bW6 hM7 hC7 bW7 u3 hbc hs7 e0 e1
                    go_wp2
                    go_region
                    go_wp2_with fail
                    refine (zz_any wo.heap.size p p (wo.heap.size + 1) (p + 1) K _ w8 hlen hs8 u2 (exact_last hj (fun i hi hne => by rw [upd, if_neg hne, hmF_in K _ hi]) (by rw [upd, if_pos rfl]))).mono ?_
                    rintro e w9 ⟨rfl, hb9⟩
                    go_wp2
                    go_ret
                    exact ⟨ret_bool (by simp), bW8.trans (hb9.mono bW8.size)⟩
end Go.Proofs.Qxb6626044a
