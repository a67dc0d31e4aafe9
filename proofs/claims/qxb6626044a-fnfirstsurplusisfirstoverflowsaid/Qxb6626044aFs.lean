import Derived.Test.Qxb6626044aMap
import Derived.Test.Qxb6626044aPlain
import Derived.Deep.QuietTactic
import Derived.BigQuiet
namespace Go.Proofs.Qxb6626044a
open Go.RowKit

theorem ret_int {k : IntKind} {a b : Int} (h : a = b) : Ending.returned (.int k a) = .returned (.int k b) := by rw [h]
theorem ret_bool {a b : Bool} (h : a = b) : Ending.returned (.bool a) = .returned (.bool b) := by rw [h]

/-- Shapes in memory, from an offset of a block on. -/
structure Shapes (w : World) (b off len : Nat) (K : Nat → Key) : Prop where
  lt : 0 < len → b < w.heap.size
  good : ∀ i, i < len → GK (K i)
  v : ∀ i, i < len → w.cell? ⟨b, off + i * 2, none⟩ = some (.int .i64 (K i).1)
  s : ∀ i, i < len → w.cell? ⟨b, off + i * 2 + 1, none⟩ = some (.string (K i).2)

theorem Shapes.below {w w' : World} {b off len B : Nat} {K : Nat → Key} (h : Shapes w b off len K) (hb : Below B w w') (hB : 0 < len → b < B) : Shapes w' b off len K :=
  ⟨fun hp => Nat.lt_of_lt_of_le (h.lt hp) hb.size, h.good, fun i hi => (hb.cell (p := ⟨b, off + i * 2, none⟩) (hB (by omega))).trans (h.v i hi), fun i hi => (hb.cell (p := ⟨b, off + i * 2 + 1, none⟩) (hB (by omega))).trans (h.s i hi)⟩

set_option maxHeartbeats 400000 in
theorem fs_any (b len cap hb n : Nat) (K : Nat → Key) (M : Key → Int) (w : World) (hlen : len ≤ 4096) (hsh : Shapes w b 0 len K) (hm : MapOwn 28 w hb n M) :
    Calls Try.prog 10 #[.slice (some ⟨b, 0, none⟩) len cap, .map (some hb)] w fun e w' => e = .returned (.int .i64 (fsF K M 0 len)) ∧ Below w.heap.size w w' := by
  have hmm := @run_makeMap Try.prog
  have hlt := hm.lt
  go_enter Try.func10, Try.ntmps10
  go_wp2
  clear hmm
  go_loopw [11] (fun i wr => ∃ k : Nat, k ≤ len ∧ i = .int .i64 k ∧ MapOwn 28 wr w.heap.size k (fun x => (cnt K k x : Int)) ∧ Below w.heap.size w wr ∧ fsF K M k (len - k) = fsF K M 0 len) (fun i _ => len - (intOf i).toNat)
  case atStart => exact ⟨0, Nat.zero_le _, rfl, MapOwn.made 28 w, (Below.refl _ _).alloc (Nat.le_refl _) _, rfl⟩
  case round =>
    obtain ⟨k, hk, rfl, hown, hbel, hfs⟩ := hrel
    have HF : Hid (fsF K M k (len - k) = fsF K M 0 len) := hfs
    clear hfs
    by_cases hkl : k < len
    · have hshr := hsh.below hbel (fun hp => hsh.lt hp)
      have c0 : wr.cell? ⟨b, k * 2, none⟩ = some (.int .i64 (K k).1) := by have := hshr.v k hkl; rwa [Nat.zero_add] at this
      have c1 : wr.cell? ⟨b, k * 2 + 1, none⟩ = some (.string (K k).2) := by have := hshr.s k hkl; rwa [Nat.zero_add] at this
      have hg := hsh.good k hkl
      have hmr := hm.below hbel hlt
      have hcl := cnt_le K k (K k)
      have l1 : ∀ nq, (Instr.lookup 26 (.map (some w.heap.size)) (.agg #[.int .i64 (K k).1, .string (K k).2]) false).run Try.prog ((wr.alloc (.cells #[.int .i64 (K k).1, .string (K k).2] 28)).drewN nq) = .ok (.int .i64 (cnt K k (K k) : Int)) ((wr.alloc (.cells #[.int .i64 (K k).1, .string (K k).2] 28)).drewN nq) :=
        fun nq => ((hown.alloc _).block (w' := (wr.alloc _).drewN nq) rfl).look ty26 hg
      have l2 : ∀ nq, (Instr.lookup 26 (.map (some hb)) (.agg #[.int .i64 (K k).1, .string (K k).2]) false).run Try.prog ((wr.alloc (.cells #[.int .i64 (K k).1, .string (K k).2] 28)).drewN nq) = .ok (.int .i64 (M (K k))) ((wr.alloc (.cells #[.int .i64 (K k).1, .string (K k).2] 28)).drewN nq) :=
        fun nq => ((hmr.alloc _).block (w' := (wr.alloc _).drewN nq) rfl).look ty26 hg
      by_cases he : (cnt K k (K k) : Int) = M (K k)
      · have hq : ((cnt K k (K k) : Int) == M (K k)) = true := by simp [he]
        have HE : Hid ((cnt K k (K k) : Int) = M (K k)) := he
        clear he
        go_wp2
        go_quiet (fail)
        go_wp2
        go_ret
        refine ⟨?_, below_drewN (hbel.alloc hbel.size _) _⟩
        have h2 := HF.out
        rw [show len - k = (len - k - 1) + 1 by omega, fsF_hit HE.out] at h2
        exact ret_int h2
      · have hq : ((cnt K k (K k) : Int) == M (K k)) = false := by simp [he]
        have HE : Hid (¬ (cnt K k (K k) : Int) = M (K k)) := he
        clear he
        go_wp2
        go_quiet (fail)
        go_wp2
        have ho : MapOwn 28 ((wr.alloc (.cells #[.int .i64 (K k).1, .string (K k).2] 28)).drewN (nq + 1)) w.heap.size k (fun x => (cnt K k x : Int)) := (hown.alloc _).block rfl
        obtain ⟨v0, st, w1, w2, e1, e2, e3, e4, e5, e6⟩ := ho.entry ty26 (by unfold maxLen; omega) hg (v := (cnt K k (K k) : Int) + 1) (WalkArith.wf_i64 (by omega))
        simp only [kv] at e1 e2
        have b2 : Below w.heap.size w w2 := (below_drewN (hbel.alloc hbel.size _) (nq + 1)).grown e6 (by simp; have := hbel.size; omega) (fun j hj => by cases hj; exact Nat.le_refl _)
        have e4' : MapOwn 28 w2 w.heap.size (k + 1) (fun x => (cnt K (k + 1) x : Int)) := e4.congr fun x _ => by
          unfold upd
          simp only [cnt_succ]
          by_cases hx : x = K k
          · subst hx; simp
          · rw [if_neg hx, if_neg (fun e => hx e.symm)]; simp
        clear ho e4 e5 e6 hq l2 hmr
        go_region
        go_wp2
        go_roundw
        case rel =>
          refine ⟨k + 1, by omega, by go_num, e4', b2, ?_⟩
          have h2 := HF.out
          rw [show len - k = (len - (k + 1)) + 1 by omega, fsF_miss HE.out] at h2
          exact h2
        case measure => simp [intOf]; omega
    · go_wp2
      go_ret
      refine ⟨?_, hbel⟩
      have h2 := HF.out
      rw [show len - k = 0 by omega] at h2
      exact ret_int h2

theorem zz_any (b len cap hb n : Nat) (K : Nat → Key) (M : Key → Int) (w : World) (hlen : len ≤ 4096) (hsh : Shapes w b 0 len K) (hm : MapOwn 28 w hb n M) {r : Int} (hr : fsF K M 0 len = r) :
    Calls Try.prog 7 #[.slice (some ⟨b, 0, none⟩) len cap, .map (some hb)] w fun e w' => e = .returned (.int .i64 r) ∧ Below w.heap.size w w' := by
  subst hr
  go_enter Try.func7, Try.ntmps7
  go_wp2_with fail
  refine (fs_any b len cap hb n K M w hlen hsh hm).mono ?_
  rintro e w1 ⟨rfl, hb1⟩
  go_wp2
  go_ret
  exact ⟨rfl, hb1⟩

/-! ### the small functions -/
set_option maxHeartbeats 400000 in
theorem lines_any (ao : Option Addr) (b off len cap : Nat) (K : Nat → Key) (w : World) (hao : 0 < len → ao = some ⟨b, off, none⟩) (hlen : len ≤ 4096) (hsh : Shapes w b off len K) :
    Calls Try.prog 5 #[.slice ao len cap] w fun e w' => (∃ t : Int, e = .returned (.int .i64 t)) ∧ w = w' := by
  by_cases hp : 0 < len
  · rw [hao hp]
    go_enter Try.func5, Try.ntmps5
    go_wp2
    go_loop [3, 4] (fun t i => ∃ (k : Nat) (q : Int), k ≤ len ∧ i = .int .i64 k ∧ t = .int .i64 q) (fun _ i => len - (intOf i).toNat)
    case atStart => exact ⟨0, 0, Nat.zero_le _, rfl, rfl⟩
    case round =>
      obtain ⟨k, q, hk, rfl, rfl⟩ := hrel
      by_cases hkl : k < len
      · have c1 := hsh.s k hkl
        go_wp2
        · go_ret
          exact ⟨⟨_, rfl⟩, rfl⟩
        · go_round
          case rel => exact ⟨k + 1, _, by omega, by go_num, rfl⟩
          case measure => simp [intOf]; omega
      · go_wp2
        go_ret
        exact ⟨⟨_, rfl⟩, rfl⟩
  · obtain rfl : len = 0 := by omega
    go_enter Try.func5, Try.ntmps5
    go_wp2
    refine wp_loop_rounds 1 ?_
    rw [rounds_succ]
    go_wp2
    go_ret
    exact ⟨⟨_, rfl⟩, rfl⟩

set_option maxHeartbeats 400000 in
theorem mk_any (v : Int) (s : ByteArray) (w : World) :
    Calls Try.prog 6 #[.int .i64 v, .string s] w fun e w' => e = .returned (.agg #[.int .i64 v, .string s]) ∧ w' = w.alloc (.cells #[.int .i64 v, .string s] 28) := by
  go_enter Try.func6, Try.ntmps6
  go_wp2
  exact bodyPost_ret (v := .agg #[.int .i64 v, .string s]) (by simp [results, Try.results6, go_sem]) rfl ⟨rfl, rfl⟩
end Go.Proofs.Qxb6626044a
