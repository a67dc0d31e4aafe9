/-
  THE PLAIN FUNCTIONS of the laws on room.Fold: bytes and lists of bytes. No Go in sight.
-/
namespace Go.Proofs.Qxb6630643a

/-- A number made small where it is a capital's. -/
def fbN (n : Nat) : Nat := if 65 ≤ n ∧ n ≤ 90 then n + 32 else n
/-- A byte made small where it is a capital. -/
def fb (c : UInt8) : UInt8 := UInt8.ofNat (fbN c.toNat)

theorem fbN_lt {n : Nat} (h : n < 256) : fbN n < 256 := by unfold fbN; split <;> omega
theorem fb_toNat (c : UInt8) : (fb c).toNat = fbN c.toNat := by
  have := fbN_lt c.toNat_lt
  simp [fb, Nat.mod_eq_of_lt this]
theorem fb_hit {c : UInt8} (h : 65 ≤ c.toNat ∧ c.toNat ≤ 90) : (fb c).toNat = c.toNat + 32 := by rw [fb_toNat, fbN, if_pos h]
theorem fb_miss {c : UInt8} (h : ¬ (65 ≤ c.toNat ∧ c.toNat ≤ 90)) : fb c = c := by
  apply UInt8.toNat_inj.1
  rw [fb_toNat, fbN, if_neg h]
theorem fb_fb (c : UInt8) : fb (fb c) = fb c := by
  apply UInt8.toNat_inj.1
  rw [fb_toNat, fb_toNat]
  unfold fbN
  repeat (first | split | omega)

/-- Two bytes are one up to the case of an ASCII letter: as the law reckons it. -/
def ceqN (c d : Nat) : Bool := c == d || ((c ^^^ d == 32) && (decide (97 ≤ c ||| 32) && decide (c ||| 32 ≤ 122)))

theorem ceqN_all : (List.range 256).all (fun c => (List.range 256).all fun d => ceqN c d == (fbN c == fbN d)) = true := by decide +kernel

theorem ceqN_iff {c d : Nat} (hc : c < 256) (hd : d < 256) : ceqN c d = true ↔ fbN c = fbN d := by
  have h := ceqN_all
  rw [List.all_eq_true] at h
  have h1 := h c (by simpa using hc)
  rw [List.all_eq_true] at h1
  have h2 := h1 d (by simpa using hd)
  simp only [beq_iff_eq] at h2
  rw [h2]
  simp

theorem ceq_iff (c d : UInt8) : ceqN c.toNat d.toNat = true ↔ fb c = fb d := by
  rw [ceqN_iff c.toNat_lt d.toNat_lt, ← UInt8.toNat_inj, fb_toNat, fb_toNat]

/-- The folded string. -/
def foldS (s : ByteArray) : ByteArray := ⟨(s.data.toList.map fb).toArray⟩

theorem foldS_size (s : ByteArray) : (foldS s).size = s.size := by
  show (s.data.toList.map fb).toArray.size = s.data.size
  simp
theorem foldS_toList (s : ByteArray) : (foldS s).data.toList = s.data.toList.map fb := rfl
theorem foldS_get (s : ByteArray) (j : Nat) (h : j < s.size) (h' : j < (foldS s).size) : (foldS s)[j] = fb s[j] := by
  have h1 : j < (s.data.toList.map fb).toArray.size := h'
  show ((s.data.toList.map fb).toArray[j]'h1) = fb (s.data[j]'h)
  simp

/-- One length, and at each place one byte up to the case of an ASCII letter. -/
def Same (x y : ByteArray) : Prop := x.size = y.size ∧ ∀ (j : Nat) (h : j < x.size) (h' : j < y.size), ceqN x[j].toNat y[j].toNat = true

theorem ext_bytes {x y : ByteArray} (hs : x.size = y.size) (h : ∀ (j : Nat) (h : j < x.size) (h' : j < y.size), x[j] = y[j]) : x = y := by
  cases x with | mk x => cases y with | mk y =>
  congr 1
  apply Array.ext
  · exact hs
  · intro i h1 h2
    exact h i h1 h2

theorem same_iff (x y : ByteArray) : Same x y ↔ foldS x = foldS y := by
  constructor
  · intro ⟨hs, h⟩
    refine ext_bytes (by rw [foldS_size, foldS_size, hs]) fun j h1 h2 => ?_
    rw [foldS_get x j (by rw [foldS_size] at h1; exact h1) h1, foldS_get y j (by rw [foldS_size] at h2; exact h2) h2]
    exact (ceq_iff _ _).1 (h j _ _)
  · intro e
    have hs : x.size = y.size := by rw [← foldS_size x, ← foldS_size y, e]
    refine ⟨hs, fun j h1 h2 => (ceq_iff _ _).2 ?_⟩
    rw [← foldS_get x j h1 (by rw [foldS_size]; exact h1), ← foldS_get y j h2 (by rw [foldS_size]; exact h2)]
    simp only [e]

theorem foldS_foldS (s : ByteArray) : foldS (foldS s) = foldS s := by
  refine ext_bytes (foldS_size _) fun j h1 h2 => ?_
  have h0 : j < s.size := by rw [foldS_size] at h2; exact h2
  rw [foldS_get (foldS s) j h2 h1, foldS_get s j h0 h2, fb_fb]

theorem same_fold (s : ByteArray) : Same (foldS s) s := (same_iff _ _).2 (foldS_foldS s)

/-- No capital. -/
def noCap (s : ByteArray) : Prop := ∀ (j : Nat) (h : j < s.size), ¬ (65 ≤ s[j].toNat ∧ s[j].toNat ≤ 90)

theorem noCap_fold (s : ByteArray) : noCap (foldS s) := by
  intro j h
  rw [foldS_get s j (by rw [foldS_size] at h; exact h) h, fb_toNat]
  unfold fbN
  split <;> omega

theorem foldS_append (a b : ByteArray) : foldS (a ++ b) = foldS a ++ foldS b := by
  apply ByteArray.ext
  simp [foldS, ByteArray.data_append]

/-- Where no byte turns the string is its own fold. -/
theorem foldS_id {s : ByteArray} (h : ∀ (j : Nat) (hj : j < s.size), fb s[j] = s[j]) : foldS s = s :=
  ext_bytes (foldS_size s) fun j h1 h2 => by rw [foldS_get s j h2 h1, h j h2]
end Go.Proofs.Qxb6630643a
