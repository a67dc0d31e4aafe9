import Derived.Test.Qxb6626044aExact
namespace Go.Proofs.Qxb6626044a
open Go.RowKit Go.Maps

/-- The held counts that came in: what each look-up answers, in every world that is as w was below its size. -/
structure Held (w : World) (hv : Value) (M : Key → Int) (hs : Key → Bool) : Prop where
  look : ∀ w', Below w.heap.size w w' → ∀ k, GK k → (Instr.lookup 23 hv (.agg #[.int .i64 k.1, .string k.2]) false).run Try.prog w' = .ok (.int .i64 (M k)) w'
  lookok : ∀ w', Below w.heap.size w w' → ∀ k, GK k → (Instr.lookup 23 hv (.agg #[.int .i64 k.1, .string k.2]) true).run Try.prog w' = .ok (.tuple #[.int .i64 (M k), .bool (hs k)]) w'
  none : ∀ k, GK k → hs k = false → M k = 0
  wf : ∀ k, GK k → (Lit.int .i64 (M k)).wf = true
  len : ∃ n : Nat, ∀ w', Below w.heap.size w w' → ∀ ty, (Builtin.len_ #[23] ty #[hv]).run Try.prog w' = .ok (.int .i64 n) w'

theorem Held.below {w w' : World} {hv : Value} {M : Key → Int} {hs : Key → Bool} (h : Held w hv M hs) (hb : Below w.heap.size w w') : Held w' hv M hs :=
  ⟨fun w2 h2 => h.look w2 (hb.trans (h2.mono hb.size)), fun w2 h2 => h.lookok w2 (hb.trans (h2.mono hb.size)), h.none, h.wf,
   let ⟨n, hn⟩ := h.len; ⟨n, fun w2 h2 => hn w2 (hb.trans (h2.mono hb.size))⟩⟩

theorem held_nil (w : World) : Held w (.map Option.none) (fun _ => 0) (fun _ => false) := by
  have K := Keyed.of_law law31
  refine ⟨fun w' _ k hk => ?_, fun w' _ k hk => ?_, fun _ _ _ => rfl, fun _ _ => by decide, 0, fun w' _ ty => Maps.len_nil Try.underlying23 ty⟩
  · exact Maps.look_nil false K Try.underlying23 (zero3 w') (keyOf31 hk)
  · exact Maps.look_nil true K Try.underlying23 (zero3 w') (keyOf31 hk)

/-- The number that a datum is (0 where it is none). -/
def numOf {H : Type} : DataW H → Int
  | .lit (.int _ c) => c
  | _ => 0

theorem held_some {H : Type} {w : World} {b n : Nat} {D : DataW H} (h : w.ownsMap Try.prog 31 (plainElem Try.prog 3) b n D) :
    Held w (.map (some b)) (fun k => numOf (D.atKey (klit k) (i64 0))) (fun k => Maps.has D (klit k)) := by
  have K := Keyed.of_law law31
  have hk' : ∀ w', Below w.heap.size w w' → w'.ownsMap Try.prog 31 (plainElem Try.prog 3) b n D := fun w' hb => by
    have hlt := h.lt
    obtain ⟨es, clock, h1, r⟩ := h
    exact ⟨es, clock, (hb.block b hlt).trans h1, r⟩
  refine ⟨fun w' hb k hk => ?_, fun w' hb k hk => ?_, fun k hk hh => ?_, fun k hk => ?_, Maps.size D, fun w' hb ty => (hk' w' hb).len Try.underlying23 ty⟩
  · obtain ⟨c, hrun, hat, _⟩ := (hk' w' hb).lookup_int K Try.underlying23 Try.underlying3 (zero3 w') (keyOf31 hk)
    rw [hat]
    exact hrun
  · obtain ⟨v, ps, hrun, hv⟩ := (hk' w' hb).look_ok K Try.underlying23 (zero3 w') (plainElem_int Try.underlying3 (by decide)) (keyOf31 hk)
    obtain ⟨c, rfl, hc, _⟩ := plainElem_int_inv Try.underlying3 hv
    simp only [Prod.mk.injEq] at hc
    rw [hc.1]
    exact hrun
  · have := Maps.atKey_of_not_has hh (i64 (H := H) 0)
    show numOf (D.atKey (klit k) (i64 0)) = 0
    rw [this]
    rfl
  · obtain ⟨c, hrun, hat, hw⟩ := h.lookup_int K Try.underlying23 Try.underlying3 (zero3 w) (keyOf31 hk)
    show (Lit.int .i64 (numOf (D.atKey (klit k) (i64 0)))).wf = true
    rw [hat]
    exact hw

set_option maxHeartbeats 400000 in
theorem count_any (b off len cap m : Nat) (K : Nat → Key) (x : Key) (w : World) (hm : m ≤ len) (hlen : len ≤ 4096) (hsh : Shapes w b off len K) :
    Calls Try.prog 11 #[.slice (some ⟨b, off, none⟩) len cap, .int .i64 m, .agg #[.int .i64 x.1, .string x.2]] w fun e w' => e = .returned (.int .i64 (cnt K m x : Int)) ∧ Below w.heap.size w w' := by
  go_enter Try.func11, Try.ntmps11
  go_wp2
  have heq := eq_run
  go_loopw [7, 8] (fun c i wx => ∃ p nd : Nat, p ≤ m ∧ i = .int .i64 p ∧ c = .int .i64 (cnt K p x : Int) ∧ wx = (w.alloc (.cells #[.int .i64 x.1, .string x.2] 31)).drewN nd) (fun _ i _ => m - (intOf i).toNat)
  case atStart => exact ⟨0, 0, Nat.zero_le _, rfl, rfl, rfl⟩
  case round =>
    obtain ⟨p, nd, hp, rfl, rfl, rfl⟩ := hrel
    by_cases hpl : p < m
    · have c0 := hsh.v p (by omega)
      have c1 := hsh.s p (by omega)
      have hbl := hsh.lt (by omega)
      have hcl := cnt_le K p x
      by_cases hkk : K p = x
      · have hkd : decide (K p = x) = true := by simp [hkk]
        have HK : Hid (cnt K (p + 1) x = cnt K p x + 1) := by simp [Hid, cnt, hkk]
        clear hkk
        go_wp2
        go_quiet (fail)
        go_wp2
        go_roundw
        case rel => exact ⟨p + 1, nd + nq, by omega, by go_num, by rw [HK.out]; go_num, rfl⟩
        case measure => simp [intOf]; omega
      · have hkd : decide (K p = x) = false := by simp [hkk]
        have HK : Hid (cnt K (p + 1) x = cnt K p x) := by simp [Hid, cnt, hkk]
        clear hkk
        go_wp2
        go_quiet (fail)
        go_wp2
        go_roundw
        case rel => exact ⟨p + 1, nd + nq, by omega, by go_num, by rw [HK.out], rfl⟩
        case measure => simp [intOf]; omega
    · obtain rfl : p = m := by omega
      go_wp2
      go_ret
      exact ⟨rfl, below_drewN ((Below.refl _ _).alloc (Nat.le_refl _) _) _⟩

set_option maxHeartbeats 400000 in
theorem has_zero (ao : Option Addr) (len cap : Nat) (hv : Value) (w : World) :
    Calls Try.prog 8 #[.slice ao len cap, hv, .int .i64 0] w fun e w' => e = .returned (.bool false) ∧ Below w.heap.size w w' := by
  go_enter Try.func8, Try.ntmps8
  go_wp2
  refine wp_loop_rounds 1 ?_
  rw [rounds_succ]
  go_wp2
  go_ret
  exact ⟨rfl, Below.refl _ _⟩

/-- The i-th of the first m stands among them more often than its count, which is not negative. -/
def Over (K : Nat → Key) (M : Key → Int) (m i : Nat) : Prop := 0 ≤ M (K i) ∧ M (K i) < cnt K m (K i)

set_option maxHeartbeats 1000000 in
theorem has_any (b off len cap m : Nat) (K : Nat → Key) (hv : Value) (M : Key → Int) (hs : Key → Bool) (w : World) (hm : m ≤ len) (hlen : len ≤ 4096) (hsh : Shapes w b off len K) (hh : Held w hv M hs) (r : Bool) (hr : r = true ↔ Surplus K M m) :
    Calls Try.prog 8 #[.slice (some ⟨b, off, none⟩) len cap, hv, .int .i64 m] w fun e w' => e = .returned (.bool r) ∧ Below w.heap.size w w' := by
  have HR : Hid (r = true ↔ Surplus K M m) := hr
  clear hr
  go_enter Try.func8, Try.ntmps8
  go_wp2
  go_loopw [7] (fun i wr => ∃ p : Nat, p ≤ m ∧ i = .int .i64 p ∧ (∀ i, i < p → ¬ Over K M m i) ∧ Below w.heap.size w wr) (fun i _ => m - (intOf i).toNat)
  case atStart => exact ⟨0, Nat.zero_le _, rfl, fun i hi => absurd hi (by omega), Below.refl _ _⟩
  case round =>
    obtain ⟨p, hp, rfl, hall, hbel⟩ := hrel
    have HA : Hid (∀ i, i < p → ¬ Over K M m i) := hall
    clear hall
    by_cases hpl : p < m
    · have hshr := hsh.below hbel hsh.lt
      have c0 := hshr.v p (by omega)
      have c1 := hshr.s p (by omega)
      have hg := hsh.good p (by omega)
      have l1 := hh.look wr hbel (K p) hg
      have hcl := cnt_le K m (K p)
      by_cases h0 : 0 ≤ M (K p)
      · by_cases h1 : M (K p) < cnt K m (K p)
        · have HO : Hid (Over K M m p) := ⟨h0, h1⟩
          go_wp2_with (go_at_call 11; refine (count_any b off len cap m K (K p) _ hm hlen hshr).mono ?_; rintro e w' ⟨rfl, hb1⟩)
          go_ret
          have hb0 := hbel.size
          refine ⟨ret_bool ?_, hbel.trans (hb1.mono hb0)⟩
          exact (HR.out.2 ⟨p, hpl, HO.out⟩).symm
        · have HO : Hid (¬ Over K M m p) := fun h => h1 h.2
          go_wp2_with (go_at_call 11; refine (count_any b off len cap m K (K p) _ hm hlen hshr).mono ?_; rintro e w' ⟨rfl, hb1⟩)
          go_roundw
          case rel =>
            have hb0 := hbel.size
            refine ⟨p + 1, by omega, by go_num, fun i hi => ?_, hbel.trans (hb1.mono hb0)⟩
            by_cases e : i = p
            · subst e; exact HO.out
            · exact HA.out i (by omega)
          case measure => simp [intOf]; omega
      · have HO : Hid (¬ Over K M m p) := fun h => h0 h.1
        go_wp2
        go_roundw
        case rel =>
          refine ⟨p + 1, by omega, by go_num, fun i hi => ?_, hbel⟩
          by_cases e : i = p
          · subst e; exact HO.out
          · exact HA.out i (by omega)
        case measure => simp [intOf]; omega
    · obtain rfl : p = m := by omega
      go_wp2
      go_ret
      refine ⟨ret_bool ?_, hbel⟩
      cases r with
      | false => rfl
      | true =>
        obtain ⟨i, hi, h1, h2⟩ := HR.out.1 rfl
        exact absurd ⟨h1, h2⟩ (HA.out i hi)
end Go.Proofs.Qxb6626044a
