import Derived.Test.Qxb6630643aSame
import Derived.Deep.QuietTactic
import Derived.BigQuiet
namespace Go.Proofs.Qxb6630643a
open Go.RowKit

theorem ret_str {a b : ByteArray} (h : a = b) : Ending.returned (.string a) = .returned (.string b) := by rw [h]

/-- The byte at place j (0 past the end). -/
def bt (s : ByteArray) (j : Nat) : UInt8 := s.data.getD j 0
theorem bt_get (s : ByteArray) (j : Nat) (h : j < s.size) : bt s j = s[j] := by
  show s.data.getD j 0 = s.data[j]'h
  have h' : j < s.data.size := h
  simp only [Array.getD, h', dif_pos]
  rfl
def mixS (s : ByteArray) (k j : Nat) : UInt8 := if j < k then fb (bt s j) else bt s j

/-- Block B holds n bytes, none frozen. -/
structure BRow (w : World) (B n : Nat) (F : Nat → UInt8) : Prop where
  lt : B < w.heap.size
  cell : ∀ j, j < n → w.cell? ⟨B, j, none⟩ = some (.int .u8 ((F j).toNat : Int))
  free : ∀ j, j < n → w.frozen? ⟨B, j, none⟩ = false

theorem BRow.step {w : World} {B n : Nat} {s : ByteArray} {k : Nat} (h : BRow w B n (mixS s k)) (hk : k < n) :
    BRow (w.setCell ⟨B, k, none⟩ (.int .u8 ((fb (bt s k)).toNat : Int))) B n (mixS s (k + 1)) := by
  refine ⟨by simpa [World.setCell] using h.lt, fun j hj => ?_, fun j hj => by rw [World.frozen?_setCell]; exact h.free j hj⟩
  by_cases e : j = k
  · subst e
    rw [World.cell?_setCell_same _ _ _ (h.cell j hj)]
    simp [mixS]
  · rw [World.cell?_setCell_other _ _ _ _ (by simp), h.cell j hj]
    have : j < k + 1 ↔ j < k := by omega
    simp [mixS, this]

theorem BRow.start (w : World) (s : ByteArray) (c k : Nat) (hk : ∀ (j : Nat) (hj : j < s.size), j < k → fb s[j] = s[j]) :
    BRow (w.alloc (.cells (bytesRow s c) 5 ((bytesRow s c).size, (bytesRow s c).size + 1))) w.heap.size s.size (mixS s k) := by
  refine ⟨by simp, fun j hj => ?_, fun j hj => ?_⟩
  · rw [World.cell?_alloc_mark, bytesRow_at s c j hj]
    have e : mixS s k j = s[j] := by
      unfold mixS
      split
      · rw [bt_get s j hj]; exact hk j hj ‹_›
      · exact bt_get s j hj
    rw [e]
    rfl
  · rw [World.frozen?_alloc_mark]
    have : ¬ (bytesRow s c).size ≤ j := by
      have h1 : j < s.data.size := hj
      simp [bytesRow]
      omega
    simp [this]

theorem BRow.back {w : World} {B : Nat} {s : ByteArray} {q : Nat} (h : BRow w B s.size (mixS s q)) (hq : s.size ≤ q) (c : Nat) :
    (convert 26 9 (.slice (some ⟨B, 0, none⟩) s.size c)).run Try.prog w = .ok (.string (foldS s)) w := by
  have hl : (s.data.toList.map fb).length = s.size := by simp
  have := run_convert_bytes_back (P := Try.prog) w 26 9 5 ⟨B, 0, none⟩ c (s.data.toList.map fb) Try.underlying26 Try.underlying5 Try.underlying9 (fun j hj => by
    have hj' : j < s.size := by rw [hl] at hj; exact hj
    rw [Addr.add_lit, Nat.zero_add, h.cell j hj', mixS, if_pos (by omega), bt_get s j hj']
    simp
    rfl)
  rw [hl] at this
  exact this

theorem fb_call (c : UInt8) (w : World) : Calls Try.prog 10 #[.int .u8 (c.toNat : Int)] w fun e w' => e = .returned (.int .u8 ((fb c).toNat : Int)) ∧ w = w' := by
  refine (fb_any c w).mono ?_
  rintro e w' ⟨rfl, rfl⟩
  exact ⟨rfl, rfl⟩

set_option maxHeartbeats 400000 in
theorem fold_any (s : ByteArray) (w : World) (hs : s.size ≤ maxLen) :
    Calls Try.prog 6 #[.string s] w fun e w' => e = .returned (.string (foldS s)) ∧ Below w.heap.size w w' := by
  unfold maxLen at hs
  go_enter Try.func6, Try.ntmps6
  go_wp2
  go_loopw [3] (fun i wr => ∃ k : Nat, k ≤ s.size ∧ i = .int .i64 k ∧ (∀ (j : Nat) (hj : j < s.size), j < k → fb s[j] = s[j]) ∧ Below w.heap.size w wr) (fun i _ => s.size - (intOf i).toNat)
  case atStart => exact ⟨0, Nat.zero_le _, rfl, fun j _ h => absurd h (by omega), Below.refl _ _⟩
  case round =>
    obtain ⟨k, hk, rfl, hall, hbel⟩ := hrel
    have HA : Hid (∀ (j : Nat) (hj : j < s.size), j < k → fb s[j] = s[j]) := hall
    clear hall
    by_cases hlt : k < s.size
    · by_cases hf : fb s[k] = s[k]
      · have HF : Hid (fb s[k] = s[k]) := hf
        have hq : (((fb s[k]).toNat : Int) != (s[k].toNat : Int)) = false := by rw [hf]; simp
        clear hf
        go_wp2
        go_quiet ((go_at_call 10; exact Calls.quiet_of_same (fb_any _ _)))
        go_wp2
        go_roundw
        case rel =>
          refine ⟨k + 1, by omega, by go_num, fun j hj hjk => ?_, below_drewN hbel _⟩
          by_cases e : j = k
          · subst e; exact HF.out
          · exact HA.out j hj (by omega)
        case measure => simp [intOf]; omega
      · have hq : (((fb s[k]).toNat : Int) != (s[k].toNat : Int)) = true := by
          have : (fb s[k]).toNat ≠ s[k].toNat := fun e => hf (UInt8.toNat_inj.1 e)
          have e2 : ((fb s[k]).toNat : Int) ≠ (s[k].toNat : Int) := fun e => this (by omega)
          simpa using e2
        clear hf
        have hconv := fun w => run_bytes_of_string (P := Try.prog) w 9 26 5 s Try.underlying9 Try.underlying26 Try.underlying5
        go_wp2
        go_quiet ((go_at_call 10; exact Calls.quiet_of_same (fb_any _ _)))
        go_wp2
        have R := BRow.start (wr.drewN (nq + 1)) s (grownCap (wr.drewN nq) s.size 0 5) k HA.out
        have hb1 : Below w.heap.size w ((wr.drewN (nq + 1)).alloc (Obj.cells (bytesRow s (grownCap (wr.drewN nq) s.size 0 5)) 5
          ((bytesRow s (grownCap (wr.drewN nq) s.size 0 5)).size, (bytesRow s (grownCap (wr.drewN nq) s.size 0 5)).size + 1))) := (below_drewN hbel _).alloc hbel.size _
        have hle := hbel.size
        clear hconv hbel HA hq
        obtain ⟨wo, rfl⟩ : ∃ wo : World, wo = wr := ⟨_, rfl⟩
        go_loopw [5] (fun i wx => ∃ q : Nat, k ≤ q ∧ q ≤ s.size ∧ i = .int .i64 q ∧ BRow wx wo.heap.size s.size (mixS s q) ∧ Below w.heap.size w wx) (fun i _ => s.size - (intOf i).toNat)
        case atStart => exact ⟨k, Nat.le_refl _, hk, rfl, R, hb1⟩
        case round =>
          obtain ⟨q, hkq, hq, rfl, R2, hb2⟩ := hrel
          clear R hb1
          by_cases hl2 : q < s.size
          · have c0 : wr.cell? ⟨wo.heap.size, q, none⟩ = some (.int .u8 ((bt s q).toNat : Int)) := by
              have h := R2.cell q hl2
              rwa [mixS, if_neg (by omega)] at h
            have f0 := R2.free q hl2
            have R3 := R2.step hl2
            have hb3 := hb2.setCell (p := ⟨wo.heap.size, q, none⟩) hle (.int .u8 ((fb (bt s q)).toNat : Int))
            go_wp2_with (go_at_call 10; refine (fb_call _ _).mono ?_; rintro e w' ⟨rfl, rfl⟩)
            go_roundw
            case rel => exact ⟨q + 1, by omega, by omega, by go_num, R3, hb3⟩
            case measure => simp [intOf]; omega
          · have hback := R2.back (q := q) (by omega) (grownCap (wo.drewN nq) s.size 0 5)
            go_wp2
            go_ret
            exact ⟨rfl, hb2⟩
    · go_wp2
      go_ret
      refine ⟨ret_str ?_, hbel⟩
      exact (foldS_id fun j hj => HA.out j hj (by omega)).symm
end Go.Proofs.Qxb6630643a
