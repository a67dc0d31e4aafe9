/-
  MAPS KEYED BY A SHAPE (a struct of an int and a string), elements int: what a block is good for, said by a plain function from keys to numbers (0 where there is no entry).
-/
import Derived.Test.Qxb6626044aRows
import Derived.WalkKit
import Derived.WalkSpells
import Derived.WalkLawsBesides
import Derived.Maps.OwnSet
import Derived.WideKeyEntry
import Derived.DeepKeys4
namespace Go.Proofs.Qxb6626044a
open Go.RowKit Go.Maps
open Go.WideMaps (KeyLaw)

theorem laidOut : laidOutB Try.prog = true := by kernel_rfl

/-- A shape: its number and its line. -/
abbrev Key := Int × ByteArray
def kv (k : Key) : Value := .agg #[.int .i64 k.1, .string k.2]
/-- A shape that Go can hold. -/
def GK (k : Key) : Prop := (Lit.int .i64 k.1).wf = true ∧ k.2.size ≤ maxLen
def klit (k : Key) : Lit := .string (keyBytes [.int .i64 k.1, .string k.2.data.toList])

theorem row28 : (28 : TypeId) < Try.prog.types.size := of_decide_eq_true (by kernel_rfl)
theorem row31 : (31 : TypeId) < Try.prog.types.size := of_decide_eq_true (by kernel_rfl)
theorem wide28 : (match Try.prog.underlying 28 with | some (.array _ _) | some (.struct _) => true | _ => false) = true := by kernel_rfl
theorem wide31 : (match Try.prog.underlying 31 with | some (.array _ _) | some (.struct _) => true | _ => false) = true := by kernel_rfl
theorem law28 : KeyLaw Try.prog 28 := deep_law_laid laidOut (m := 2) (by omega) row28 (by kernel_rfl) wide28
theorem law31 : KeyLaw Try.prog 31 := deep_law_laid laidOut (m := 2) (by omega) row31 (by kernel_rfl) wide31
theorem cells28 : Try.prog.cellsOf 28 = 2 := by kernel_rfl
theorem cells31 : Try.prog.cellsOf 31 = 2 := by kernel_rfl
theorem cells3 : Try.prog.cellsOf 3 = 1 := by kernel_rfl
theorem cells9 : Try.prog.cellsOf 9 = 1 := by kernel_rfl
theorem keyType28 : Try.prog.keyType 28 = true := by kernel_rfl
theorem keyType31 : Try.prog.keyType 31 = true := by kernel_rfl
theorem zero3 (w : World) : (zeroValue 3).run Try.prog w = .ok (.int .i64 0) w := by kernel_rfl

theorem types_ge : 2 ≤ Try.prog.types.size := of_decide_eq_true (by kernel_rfl)
theorem lits31 (d : Nat) {k : Key} (h1 : (Lit.int .i64 k.1).wf = true) (h2 : k.2.size ≤ maxLen) : Try.prog.keyLits (d + 2) 31 [.int .i64 k.1, .string k.2] = some [.int .i64 k.1, .string k.2.data.toList] := by
  unfold Program.keyLits
  rw [Try.underlying31]
  simp only [cells31]
  rw [if_pos ⟨rfl, by kernel_rfl⟩]
  simp [Program.keyLits, Try.underlying3, Try.underlying9, cells3, cells9, h1, h2]
theorem lits28 (d : Nat) {k : Key} (h1 : (Lit.int .i64 k.1).wf = true) (h2 : k.2.size ≤ maxLen) : Try.prog.keyLits (d + 2) 28 [.int .i64 k.1, .string k.2] = some [.int .i64 k.1, .string k.2.data.toList] := by
  unfold Program.keyLits
  rw [Try.underlying28]
  simp only [cells28]
  rw [if_pos ⟨rfl, by kernel_rfl⟩]
  simp [Program.keyLits, Try.underlying3, Try.underlying9, cells3, cells9, h1, h2]
theorem keyOf31 {k : Key} (h : GK k) : keyOf Try.prog 31 (kv k) = some (klit k) := by
  obtain ⟨h1, h2⟩ := h
  obtain ⟨d, hd⟩ : ∃ d, Try.prog.types.size + 1 = d + 2 := ⟨Try.prog.types.size - 1, by have := types_ge; omega⟩
  have hf : (kv k).formed Try.prog 31 = true := by simp [Value.formed, kv, Try.underlying31, cells31]
  unfold keyOf
  rw [Try.underlying31]
  simp only [keyType31, hf, Bool.and_self, if_true]
  rw [hd, show (kv k).cells.toList = [.int .i64 k.1, .string k.2] from rfl, lits31 d h1 h2]
  rfl
theorem keyOf28 {k : Key} (h : GK k) : keyOf Try.prog 28 (kv k) = some (klit k) := by
  obtain ⟨h1, h2⟩ := h
  obtain ⟨d, hd⟩ : ∃ d, Try.prog.types.size + 1 = d + 2 := ⟨Try.prog.types.size - 1, by have := types_ge; omega⟩
  have hf : (kv k).formed Try.prog 28 = true := by simp [Value.formed, kv, Try.underlying28, cells28]
  unfold keyOf
  rw [Try.underlying28]
  simp only [keyType28, hf, Bool.and_self, if_true]
  rw [hd, show (kv k).cells.toList = [.int .i64 k.1, .string k.2] from rfl, lits28 d h1 h2]
  rfl

theorem kv_inj {a b : Key} (h : kv a = kv b) : a = b := by
  obtain ⟨a1, a2⟩ := a
  obtain ⟨b1, b2⟩ := b
  simp [kv] at h
  obtain ⟨rfl, rfl⟩ := h
  rfl
theorem klit_inj {a b : Key} (ha : GK a) (hb : GK b) (h : klit a = klit b) : a = b :=
  kv_inj (law31.inj (keyOf31 ha) (h ▸ keyOf31 hb))

/-- THE TWO MAP TYPES OF THIS PROGRAM: 23 (keyed by the law's Shape, 31), 26 (keyed by manuscript's shape, 28). -/
structure MapTy (mt kt : TypeId) : Prop where
  under : Try.prog.underlying mt = some (.map kt 3)
  law : KeyLaw Try.prog kt
  key : ∀ {k : Key}, GK k → keyOf Try.prog kt (kv k) = some (klit k)
theorem ty23 : MapTy 23 31 := ⟨Try.underlying23, law31, keyOf31⟩
theorem ty26 : MapTy 26 28 := ⟨Try.underlying26, law28, keyOf28⟩

abbrev i64 {H : Type} (n : Int) : DataW H := .lit (.int .i64 n)

/-- Block b of w is a map of at most n entries; at each shape it holds what M says (0 where there is no entry). -/
def MapOwn (kt : TypeId) (w : World) (b n : Nat) (M : Key → Int) : Prop :=
  ∃ (H : Type) (D : DataW H), w.ownsMap Try.prog kt (plainElem Try.prog 3) b n D ∧ ∀ k, GK k → D.atKey (klit k) (i64 0) = i64 (M k)

/-- M turned at one shape. -/
def upd (M : Key → Int) (k : Key) (v : Int) (k' : Key) : Int := if k' = k then v else M k'

namespace MapOwn
variable {mt kt : TypeId} {w w' : World} {b n : Nat} {M : Key → Int}

theorem made (kt : TypeId) (w : World) : MapOwn kt (w.alloc (.map #[] 0)) w.heap.size 0 (fun _ => 0) :=
  ⟨Unit, .map [], World.ownsMap_made w Try.prog kt (plainElem Try.prog 3), fun _ _ => rfl⟩

theorem lt (h : MapOwn kt w b n M) : b < w.heap.size := by obtain ⟨H, D, h, _⟩ := h; exact h.lt

theorem block (h : MapOwn kt w b n M) (e : w'.heap[b]? = w.heap[b]?) : MapOwn kt w' b n M := by
  obtain ⟨H, D, ⟨es, clock, hb, r⟩, hM⟩ := h
  exact ⟨H, D, ⟨es, clock, e.trans hb, r⟩, hM⟩

theorem below {B : Nat} (h : MapOwn kt w b n M) (hb : Below B w w') (hB : b < B) : MapOwn kt w' b n M := h.block (hb.block b hB)

theorem alloc (h : MapOwn kt w b n M) (o : Obj) : MapOwn kt (w.alloc o) b n M := by obtain ⟨H, D, h, r⟩ := h; exact ⟨H, D, h.alloc o, r⟩

theorem kept {row : Option Nat} (h : MapOwn kt w b n M) (hg : w.grownBy w' row) (hne : some b ≠ row) : MapOwn kt w' b n M := by obtain ⟨H, D, h, r⟩ := h; exact ⟨H, D, h.kept hg hne, r⟩

theorem congr {M' : Key → Int} (h : MapOwn kt w b n M) (e : ∀ k, GK k → M k = M' k) : MapOwn kt w b n M' := by
  obtain ⟨H, D, h, r⟩ := h
  exact ⟨H, D, h, fun k hk => by rw [r k hk, e k hk]⟩

theorem look (h : MapOwn kt w b n M) (T : MapTy mt kt) {k : Key} (hk : GK k) : (Instr.lookup mt (.map (some b)) (kv k) false).run Try.prog w = .ok (.int .i64 (M k)) w := by
  obtain ⟨H, D, h, r⟩ := h
  obtain ⟨c, hrun, hat, _⟩ := h.lookup_int (Keyed.of_law T.law) T.under Try.underlying3 (zero3 w) (T.key hk)
  rw [r k hk] at hat
  simp at hat
  rw [hrun, hat]

theorem wf (h : MapOwn kt w b n M) (T : MapTy mt kt) {k : Key} (hk : GK k) : (Lit.int .i64 (M k)).wf = true := by
  obtain ⟨H, D, h, r⟩ := h
  obtain ⟨c, hrun, hat, hwc⟩ := h.lookup_int (Keyed.of_law T.law) T.under Try.underlying3 (zero3 w) (T.key hk)
  rw [r k hk] at hat
  simp at hat
  rw [hat]
  exact hwc

theorem put (h : MapOwn kt w b n M) (T : MapTy mt kt) (hn : n < maxLen) {k : Key} (hk : GK k) {v : Int} (hv : (Lit.int .i64 v).wf = true) :
    ∃ w', (Instr.mapUpdate mt (.map (some b)) (kv k) (.int .i64 v)).run Try.prog w = .ok () w' ∧ MapOwn kt w' b (n + 1) (upd M k v) ∧ w.grownBy w' (some b) := by
  obtain ⟨H, D, h, r⟩ := h
  obtain ⟨w', hrun, hown, hg⟩ := h.update (Keyed.of_law T.law) T.under hn (T.key hk) (plainElem_int Try.underlying3 hv)
  refine ⟨w', hrun, ⟨H, _, hown, fun k' hk' => ?_⟩, hg⟩
  by_cases e : k' = k
  · subst e
    rw [Maps.atKey_put_same h.isMap ((Keyed.of_law T.law).key (T.key hk))]
    simp [upd]
  · rw [Maps.atKey_put_other (fun e' => e (klit_inj hk' hk e')), r k' hk']
    simp [upd, e]

/-- Behind the laying of an entry the map holds what it held. -/
theorem laid (h : MapOwn kt w b n M) (T : MapTy mt kt) (hn : n < maxLen) {k : Key} (hk : GK k) {r : Value} {w1 : World} (hE : (Instr.mapEntry mt (.map (some b)) (kv k)).run Try.prog w = .ok r w1) :
    MapOwn kt w1 b (n + 1) M := by
  have h0 := h
  obtain ⟨H, D, ⟨es, clock, hb, F, hs, rfl⟩, hM⟩ := h
  have K := Keyed.of_law T.law
  rcases K.find w (T.key hk) es.toList F.keys with ⟨h1, h2⟩ | ⟨j, e0, h1, h2, h3⟩
  · have hz : M k = 0 := by
      have hl := h0.look T hk
      simp [Instr.lookup, run_underlying T.under, MapKept.run_getObj_map hb, K.check w _ (T.key hk), h1, Result.andThen] at hl
      exact hl.symm
    obtain ⟨wu, hrun, hown, _⟩ := h0.put T hn hk (v := 0) (by decide)
    simp [Instr.mapUpdate, run_underlying T.under, MapKept.run_getObj_map hb, K.check w false (T.key hk), h1, MapKept.run_setObj_map _ hb, Result.andThen] at hrun
    simp [Instr.mapEntry, run_underlying T.under, MapKept.run_getObj_map hb, K.check w false (T.key hk), h1, MapKept.run_setObj_map _ hb, Result.andThen] at hE
    rw [← hE.2, hrun]
    refine hown.congr fun k' _ => ?_
    unfold upd
    split
    · rename_i e; rw [e, hz]
    · rfl
  · have hj : es[j]? = some e0 := by simpa using h2
    have hsame : es.modify j (fun e => { e with key := kv k }) = es := by
      apply Array.ext'
      rw [Array.toList_modify, ChangeMaps.modify_eq_set _ _ _ _ h2]
      have e1 : ({ e0 with key := kv k } : MapEntry) = e0 := by rw [← h3]
      rw [e1]
      exact WideElems.set_self _ _ _ h2
    simp [Instr.mapEntry, run_underlying T.under, MapKept.run_getObj_map hb, K.check w false (T.key hk), h1, hj, h3, K.stays w (T.key hk), hsame, MapKept.run_setObj_map _ hb, Result.andThen] at hE
    rw [← hE.2]
    obtain ⟨H', D', hD, hM'⟩ := h0
    exact ⟨H', D', (show World.ownsMap _ _ _ _ _ _ _ from by
      obtain ⟨es', clock', hb', r⟩ := hD
      rw [hb] at hb'
      cases hb'
      exact ⟨es, clock, (MapKept.heap_set hb).1, r⟩ : World.ownsMap _ Try.prog kt (plainElem Try.prog 3) b n D').mono (Nat.le_succ _), hM'⟩

/-- 'm[k]++' IN ITS TWO STEPS: the entry is laid (or found), then the new number stored into it. In between the map holds what it held. -/
theorem entry (h : MapOwn kt w b n M) (T : MapTy mt kt) (hn : n < maxLen) {k : Key} (hk : GK k) {v : Int} (hv : (Lit.int .i64 v).wf = true) :
    ∃ (v0 : Value) (st : Int) (w1 w2 : World), (Instr.mapEntry mt (.map (some b)) (kv k)).run Try.prog w = .ok (.tuple #[v0, .int .i64 st]) w1 ∧
      (Instr.lookup mt (.map (some b)) (kv k) false).run Try.prog w1 = .ok (.int .i64 (M k)) w1 ∧
      (Instr.entryStore mt (.map (some b)) (.int .i64 st) (.int .i64 v)).run Try.prog w1 = .ok () w2 ∧
      MapOwn kt w2 b (n + 1) (upd M k v) ∧ w.grownBy w1 (some b) ∧ w.grownBy w2 (some b) := by
  have h0 := h
  obtain ⟨H, D, ⟨es, clock, hb, F, hs, rfl⟩, hM⟩ := h
  obtain ⟨v0, st, es1, clock1, hE, _, hS⟩ := WideElems.entry_then_store T.law T.under zero3 hb F (T.key hk)
  have hw1 := ChangeMaps.heap_setBlock_same hb (.map es1 clock1)
  obtain ⟨es', clock', hst, hup⟩ := hS _ (.int .i64 v) hw1
  obtain ⟨wu, hrun, hown, hg⟩ := h0.put T hn hk hv
  rw [hup] at hrun
  obtain rfl : ChangeMaps.setBlock w b (.map es' clock') = wu := by simpa using hrun
  have g1 : w.grownBy (ChangeMaps.setBlock w b (.map es1 clock1)) (some b) := ⟨rfl, rfl, rfl, by simp [ChangeMaps.setBlock], fun i _ hi => ChangeMaps.heap_setBlock_other hb _ (fun e => hi (by rw [e]))⟩
  refine ⟨v0, st, _, _, hE, (h0.laid T hn hk hE).look T hk, hst, hown.block ?_, g1, ?_⟩
  · rw [ChangeMaps.heap_setBlock_same hw1, ChangeMaps.heap_setBlock_same hb]
  · refine ⟨rfl, rfl, rfl, by simp [ChangeMaps.setBlock], fun i hi hne => ?_⟩
    have hib : i ≠ b := fun e => hne (by rw [e])
    rw [ChangeMaps.heap_setBlock_other hw1 _ hib, ChangeMaps.heap_setBlock_other hb _ hib]
end MapOwn
end Go.Proofs.Qxb6626044a
