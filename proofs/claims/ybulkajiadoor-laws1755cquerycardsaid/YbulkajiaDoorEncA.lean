/-
  encodeHandover's first statement: 'url.Values{"from": {..}, "to": {..}}': what holds of the world, whatever the order.
-/
import Derived.Test.YbulkajiaDoorVals
import Derived.Test.YbulkajiaDoorRegion
namespace Go.Proofs.YbulkajiaDoor
open Go.RowKit Go.Maps Go.Lib

def kFrom : ByteArray := ⟨#[102, 114, 111, 109]⟩
def kTo : ByteArray := ⟨#[116, 111]⟩

theorem On_ne {l : Array Bool} {i j : Nat} (h : i ≠ j) : On (l.setIfInBounds i true) j ↔ On l j := by
  unfold On
  rw [Array.getD_eq_getD_getElem?, Array.getElem?_setIfInBounds_ne h, Array.getD_eq_getD_getElem?]

theorem On_eq {l : Array Bool} {i : Nat} (h : i < l.size) : On (l.setIfInBounds i true) i := by
  unfold On
  rw [Array.getD_eq_getD_getElem?, Array.getElem?_setIfInBounds_self_of_lt h]
  rfl

/-- A slice of one string in a block of its own. -/
def RowOne (base : Nat) (w : World) (u : Value) (s : ByteArray) : Prop := ∃ g, u = .slice (some ⟨g, 0, none⟩) 1 1 ∧ base ≤ g ∧ w.heap[g]? = some (.cells #[.string s] 9)

theorem RowOne.lt {base : Nat} {w : World} {u : Value} {s : ByteArray} (h : RowOne base w u s) : ∃ g, u.ownBlock = some g ∧ g < w.heap.size := by
  obtain ⟨g, rfl, _, hg⟩ := h
  exact ⟨g, rfl, (Array.getElem?_eq_some_iff.1 hg).1⟩

theorem RowOne.later {base : Nat} {w w' : World} {u : Value} {s : ByteArray} (h : RowOne base w u s) (hb : Below w.heap.size w w') : RowOne base w' u s := by
  obtain ⟨g, rfl, hg, hh⟩ := h
  exact ⟨g, rfl, hg, by rw [hb.block g (Array.getElem?_eq_some_iff.1 hh).1]; exact hh⟩

theorem RowOne.grown {base b : Nat} {w w' : World} {u : Value} {s : ByteArray} (h : RowOne base w u s) (hg : w.grownBy w' (some b)) (hne : u.ownBlock ≠ some b) : RowOne base w' u s := by
  obtain ⟨g, rfl, hb, hh⟩ := h
  refine ⟨g, rfl, hb, ?_⟩
  rw [hg.block g (Array.getElem?_eq_some_iff.1 hh).1 (by intro e; exact hne (by simpa [Value.ownBlock] using e))]
  exact hh

theorem RowOne.owns {base : Nat} {w : World} {u : Value} {s : ByteArray} (h : RowOne base w u s) : w.ownsRow base 9 1 u [s].length ([s].map Value.string) := by
  obtain ⟨g, rfl, hb, hh⟩ := h
  exact ⟨rfl, .inr ⟨g, 1, #[.string s], rfl, hb, hh, Nat.le_refl _, by decide, rfl, rfl⟩⟩

/-- What the map holds so far. -/
def fvOf (i1 i2 : Bool) (u v : Value) : List UInt8 → Option Value := fun k => if k = kFrom.data.toList ∧ i1 = true then some u else if k = kTo.data.toList ∧ i2 = true then some v else none

def bit (b : Bool) : Nat := if b then 1 else 0

/-- WHAT HOLDS OF THE WORLD when the operations 'l' have come up (0: make; 6, 12: the two slices; 7, 13: the two stores). -/
def Enc1 (base : Nat) (W0 : World) (sF sT : ByteArray) (l : Array Bool) (u8 u14 u19 : Value) (w : World) : Prop :=
  l.size = 16 ∧ base ≤ w.heap.size ∧ Below base W0 w ∧ (On l 6 → RowOne base w u14 sF) ∧ (On l 12 → RowOne base w u19 sT) ∧ (On l 6 → On l 12 → u14.ownBlock ≠ u19.ownBlock) ∧
  (On l 0 → ∃ b, u8 = .map (some b) ∧ base ≤ b ∧ Vm w b (bit (l.getD 7 false) + bit (l.getD 13 false)) (fvOf (l.getD 7 false) (l.getD 13 false) u14 u19) (bit (l.getD 7 false) + bit (l.getD 13 false))) ∧
  (On l 7 → On l 0 ∧ On l 6) ∧ (On l 13 → On l 0 ∧ On l 12)

section
variable {base : Nat} {W0 : World} {sF sT : ByteArray} {l : Array Bool} {u8 u14 u19 : Value} {w w' : World}

theorem getD_ne {l : Array Bool} {i j : Nat} (h : i ≠ j) : (l.setIfInBounds i true).getD j false = l.getD j false := by
  rw [Array.getD_eq_getD_getElem?, Array.getElem?_setIfInBounds_ne h, Array.getD_eq_getD_getElem?]
theorem getD_eq {l : Array Bool} {i : Nat} (h : i < l.size) : (l.setIfInBounds i true).getD i false = true := On_eq h
theorem getD_not {l : Array Bool} {j : Nat} (h : ¬ On l j) : l.getD j false = false := by
  unfold On at h
  simpa using h

theorem Enc1.start (W0 : World) (hb : base ≤ W0.heap.size) : Enc1 base W0 sF sT (Array.replicate 16 false) u8 u14 u19 W0.drew := by
  refine ⟨by simp, hb, (Below.refl _ _).drew, fun h => h.not_replicate.elim, fun h => h.not_replicate.elim, fun h => h.not_replicate.elim, fun h => h.not_replicate.elim, fun h => h.not_replicate.elim, fun h => h.not_replicate.elim⟩

/-- An operation that is none of the five. -/
theorem Enc1.other {i : Nat} (h : Enc1 base W0 sF sT l u8 u14 u19 w) (h0 : i ≠ 0) (h6 : i ≠ 6) (h7 : i ≠ 7) (h12 : i ≠ 12) (h13 : i ≠ 13) : Enc1 base W0 sF sT (l.setIfInBounds i true) u8 u14 u19 w := by
  unfold Enc1 at *
  rw [On_ne h0, On_ne h6, On_ne h7, On_ne h12, On_ne h13, getD_ne h7, getD_ne h13]
  simpa using h

theorem Enc1.later (h : Enc1 base W0 sF sT l u8 u14 u19 w) (hb : Below w.heap.size w w') : Enc1 base W0 sF sT l u8 u14 u19 w' := by
  obtain ⟨a0, a1, a2, a3, a4, a5, a6, a7, a8⟩ := h
  refine ⟨a0, Nat.le_trans a1 hb.size, a2.trans (hb.mono a1), fun h => (a3 h).later hb, fun h => (a4 h).later hb, a5, fun h => ?_, a7, a8⟩
  obtain ⟨b, e, hb', hv⟩ := a6 h
  exact ⟨b, e, hb', hv.same (hb.block b hv.lt)⟩

theorem Enc1.made (h : Enc1 base W0 sF sT l u8 u14 u19 w) (hn : ¬ On l 0) : Enc1 base W0 sF sT (l.setIfInBounds 0 true) (.map (some w.heap.size)) u14 u19 (w.alloc (.map #[] 0)) := by
  have h' := h.later ((Below.refl _ w).alloc (Nat.le_refl _) (.map #[] 0))
  obtain ⟨a0, a1, a2, a3, a4, a5, a6, a7, a8⟩ := h'
  have n7 : ¬ On l 7 := fun h => hn (a7 h).1
  have n13 : ¬ On l 13 := fun h => hn (a8 h).1
  unfold Enc1
  rw [On_ne (i := 0) (j := 6) (by omega), On_ne (i := 0) (j := 12) (by omega), On_ne (i := 0) (j := 7) (by omega), On_ne (i := 0) (j := 13) (by omega), getD_ne (i := 0) (j := 7) (by omega), getD_ne (i := 0) (j := 13) (by omega)]
  refine ⟨by simpa using a0, a1, a2, a3, a4, a5, fun _ => ⟨_, rfl, h.2.1, ?_⟩, fun h => (n7 h).elim, fun h => (n13 h).elim⟩
  rw [getD_not n7, getD_not n13]
  have := MapIs.made (P := Ybad.prog) (k := 9) (z := .slice none 0 0) w
  have e : fvOf false false u14 u19 = fun _ => none := by funext k; simp [fvOf]
  rw [e]
  exact this

theorem Enc1.row1 (h : Enc1 base W0 sF sT l u8 u14 u19 w) (hn : ¬ On l 6) : Enc1 base W0 sF sT (l.setIfInBounds 6 true) u8 (.slice (some ⟨w.heap.size, 0, none⟩) 1 1) u19 (w.alloc (.cells #[.string sF] 9)) := by
  have h' := h.later ((Below.refl _ w).alloc (Nat.le_refl _) (.cells #[.string sF] 9))
  obtain ⟨a0, a1, a2, a3, a4, a5, a6, a7, a8⟩ := h'
  have n7 : ¬ On l 7 := fun h => hn (a7 h).2
  unfold Enc1
  rw [On_ne (i := 6) (j := 0) (by omega), On_ne (i := 6) (j := 12) (by omega), On_ne (i := 6) (j := 7) (by omega), On_ne (i := 6) (j := 13) (by omega), getD_ne (i := 6) (j := 7) (by omega), getD_ne (i := 6) (j := 13) (by omega)]
  refine ⟨by simpa using a0, a1, a2, fun _ => ⟨_, rfl, h.2.1, heap_alloc_new w _⟩, a4, fun _ h12 => ?_, fun h => ?_, fun h => (n7 h).elim, a8⟩
  · obtain ⟨g, hg, hlt⟩ := (h.2.2.2.2.1 h12).lt
    rw [hg]; simp [Value.ownBlock]; omega
  · obtain ⟨b, e, hb, hv⟩ := a6 h
    refine ⟨b, e, hb, ?_⟩
    rw [getD_not n7] at hv ⊢
    have e2 : fvOf false (l.getD 13 false) (.slice (some ⟨w.heap.size, 0, none⟩) 1 1) u19 = fvOf false (l.getD 13 false) u14 u19 := by funext k; simp [fvOf]
    rw [e2]; exact hv

theorem Enc1.row2 (h : Enc1 base W0 sF sT l u8 u14 u19 w) (hn : ¬ On l 12) : Enc1 base W0 sF sT (l.setIfInBounds 12 true) u8 u14 (.slice (some ⟨w.heap.size, 0, none⟩) 1 1) (w.alloc (.cells #[.string sT] 9)) := by
  have h' := h.later ((Below.refl _ w).alloc (Nat.le_refl _) (.cells #[.string sT] 9))
  obtain ⟨a0, a1, a2, a3, a4, a5, a6, a7, a8⟩ := h'
  have n13 : ¬ On l 13 := fun h => hn (a8 h).2
  unfold Enc1
  rw [On_ne (i := 12) (j := 0) (by omega), On_ne (i := 12) (j := 6) (by omega), On_ne (i := 12) (j := 7) (by omega), On_ne (i := 12) (j := 13) (by omega), getD_ne (i := 12) (j := 7) (by omega), getD_ne (i := 12) (j := 13) (by omega)]
  refine ⟨by simpa using a0, a1, a2, a3, fun _ => ⟨_, rfl, h.2.1, heap_alloc_new w _⟩, fun h6 _ => ?_, fun h => ?_, a7, fun h => (n13 h).elim⟩
  · obtain ⟨g, hg, hlt⟩ := (h.2.2.2.1 h6).lt
    rw [hg]; simp [Value.ownBlock]; omega
  · obtain ⟨b, e, hb, hv⟩ := a6 h
    refine ⟨b, e, hb, ?_⟩
    rw [getD_not n13] at hv ⊢
    have e2 : fvOf (l.getD 7 false) false u14 (.slice (some ⟨w.heap.size, 0, none⟩) 1 1) = fvOf (l.getD 7 false) false u14 u19 := by funext k; simp [fvOf]
    rw [e2]; exact hv

theorem ne_keys : kFrom.data.toList ≠ kTo.data.toList := by decide

theorem row_not_map {w : World} {b n sz : Nat} {f : List UInt8 → Option Value} {s : ByteArray} {u : Value} (hv : Vm w b n f sz) (hr : RowOne base w u s) : u.ownBlock ≠ some b := by
  intro e
  exact row_ne_map hv hr.owns e rfl

theorem Enc1.ins1 (h : Enc1 base W0 sF sT l u8 u14 u19 w) (hn : ¬ On l 7) (h0 : On l 0) (h6 : On l 6) :
    ∃ w', (Instr.mapUpdate 39 u8 (.string kFrom) u14).run Ybad.prog w = .ok () w' ∧ Enc1 base W0 sF sT (l.setIfInBounds 7 true) u8 u14 u19 w' := by
  obtain ⟨a0, a1, a2, a3, a4, a5, a6, a7, a8⟩ := h
  obtain ⟨b, rfl, hb, hv⟩ := a6 h0
  obtain ⟨w', hr, hv', hg⟩ := hv.upd (t := 39) Ybad.underlying9 Ybad.underlying39 (by rw [getD_not hn]; cases l.getD 13 false <;> decide) (s := kFrom) (by decide) u14
  refine ⟨w', hr, ?_⟩
  unfold Enc1
  rw [On_ne (i := 7) (j := 0) (by omega), On_ne (i := 7) (j := 6) (by omega), On_ne (i := 7) (j := 12) (by omega), On_ne (i := 7) (j := 13) (by omega), getD_eq (i := 7) (by omega), getD_ne (i := 7) (j := 13) (by omega)]
  refine ⟨by simpa using a0, Nat.le_trans a1 hg.size, a2.grown hg a1 (fun k hk => by cases hk; exact hb), fun h => (a3 h).grown hg (row_not_map hv (a3 h)), fun h => (a4 h).grown hg (row_not_map hv (a4 h)), a5, fun _ => ⟨b, rfl, hb, ?_⟩, fun _ => ⟨h0, h6⟩, a8⟩
  rw [getD_not hn] at hv'
  have e1 : fvOf false (l.getD 13 false) u14 u19 kFrom.data.toList = none := by unfold fvOf; rw [if_neg (by simp), if_neg (fun h => ne_keys h.1)]
  have e2 : put (fvOf false (l.getD 13 false) u14 u19) kFrom.data.toList u14 = fvOf true (l.getD 13 false) u14 u19 := by
    funext k
    by_cases e : k = kFrom.data.toList
    · subst e; simp [put, fvOf]
    · simp [put, fvOf, e]
  rw [e1, e2] at hv'
  simp only [Option.isSome_none, Bool.false_eq_true, if_false] at hv'
  have e3 : bit false + bit (l.getD 13 false) + 1 = bit true + bit (l.getD 13 false) := by simp [bit]; omega
  rw [e3] at hv'
  exact hv'

theorem Enc1.ins2 (h : Enc1 base W0 sF sT l u8 u14 u19 w) (hn : ¬ On l 13) (h0 : On l 0) (h12 : On l 12) :
    ∃ w', (Instr.mapUpdate 39 u8 (.string kTo) u19).run Ybad.prog w = .ok () w' ∧ Enc1 base W0 sF sT (l.setIfInBounds 13 true) u8 u14 u19 w' := by
  obtain ⟨a0, a1, a2, a3, a4, a5, a6, a7, a8⟩ := h
  obtain ⟨b, rfl, hb, hv⟩ := a6 h0
  obtain ⟨w', hr, hv', hg⟩ := hv.upd (t := 39) Ybad.underlying9 Ybad.underlying39 (by rw [getD_not hn]; cases l.getD 7 false <;> decide) (s := kTo) (by decide) u19
  refine ⟨w', hr, ?_⟩
  unfold Enc1
  rw [On_ne (i := 13) (j := 0) (by omega), On_ne (i := 13) (j := 6) (by omega), On_ne (i := 13) (j := 12) (by omega), On_ne (i := 13) (j := 7) (by omega), getD_eq (i := 13) (by omega), getD_ne (i := 13) (j := 7) (by omega)]
  refine ⟨by simpa using a0, Nat.le_trans a1 hg.size, a2.grown hg a1 (fun k hk => by cases hk; exact hb), fun h => (a3 h).grown hg (row_not_map hv (a3 h)), fun h => (a4 h).grown hg (row_not_map hv (a4 h)), a5, fun _ => ⟨b, rfl, hb, ?_⟩, a7, fun _ => ⟨h0, h12⟩⟩
  rw [getD_not hn] at hv'
  have e1 : fvOf (l.getD 7 false) false u14 u19 kTo.data.toList = none := by simp [fvOf, ne_keys.symm]
  have e2 : put (fvOf (l.getD 7 false) false u14 u19) kTo.data.toList u19 = fvOf (l.getD 7 false) true u14 u19 := by
    funext k
    by_cases e : k = kTo.data.toList
    · subst e; simp [put, fvOf, ne_keys.symm]
    · simp [put, fvOf, e]
  rw [e1, e2] at hv'
  simp only [Option.isSome_none, Bool.false_eq_true, if_false] at hv'
  have e3 : bit (l.getD 7 false) + bit false + 1 = bit (l.getD 7 false) + bit true := by simp [bit]
  rw [e3] at hv'
  exact hv'

theorem Enc1.done (h : Enc1 base W0 sF sT l u8 u14 u19 w) (h0 : On l 0) (h6 : On l 6) (h7 : On l 7) (h12 : On l 12) (h13 : On l 13) :
    ∃ b, u8 = .map (some b) ∧ Vals w base b 2 (putL (putL (fun _ => none) kFrom.data.toList [sF]) kTo.data.toList [sT]) 2 ∧ Below base W0 w := by
  obtain ⟨a0, a1, a2, a3, a4, a5, a6, a7, a8⟩ := h
  obtain ⟨b, rfl, hb, hv⟩ := a6 h0
  unfold On at h7 h13
  rw [h7, h13] at hv
  refine ⟨b, rfl, ⟨_, hv, hb, fun key hk => ?_, fun key ss hk => ?_, fun k1 k2 v1 v2 g e1 e2 hne e3 => ?_⟩, a2⟩
  · unfold putL at hk
    unfold fvOf
    split at hk
    · cases hk
    · rename_i c1
      split at hk
      · cases hk
      · rename_i c2
        simp [c1, c2]
  · unfold putL at hk
    unfold fvOf
    split at hk
    · rename_i c1
      cases hk
      subst c1
      exact ⟨u19, by simp [ne_keys.symm], (a4 h12).owns⟩
    · split at hk
      · rename_i c1 c2
        cases hk
        subst c2
        exact ⟨u14, by simp, (a3 h6).owns⟩
      · cases hk
  · have hd := a5 h6 h12
    unfold fvOf at e1 e2
    simp only [and_true] at e1 e2
    split at e1
    · rename_i c1
      cases e1
      rw [if_neg (by rw [← c1]; exact hne.symm)] at e2
      split at e2
      · cases e2
        rw [← e3]; exact hd.symm
      · cases e2
    · split at e1
      · rename_i c0 c1
        cases e1
        split at e2
        · cases e2
          rw [← e3]; exact hd
        · split at e2
          · rename_i c2
            exact absurd (c1.trans c2.symm) hne
          · cases e2
      · cases e1
end
end Go.Proofs.YbulkajiaDoor
