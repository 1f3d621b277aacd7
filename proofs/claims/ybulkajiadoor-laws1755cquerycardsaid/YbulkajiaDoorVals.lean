/-
  url.Values: Set, Add; zzs1755cone.
-/
import Derived.Test.YbulkajiaDoorHex
namespace Go.Proofs.YbulkajiaDoor
open Go.RowKit Go.Maps Go.Lib

theorem zero43 (w : World) : (zeroValue 43).run Ybad.prog w = .ok (.slice none 0 0) w := by kernel_rfl

/-- The map of a url.Values. -/
abbrev Vm (w : World) (b n : Nat) (f : List UInt8 → Option Value) (sz : Nat) : Prop := MapIs Ybad.prog 9 (.slice none 0 0) w b n f sz

set_option maxHeartbeats 400000 in
theorem cone_yes (b n sz : Nat) (f : List UInt8 → Option Value) (key val : ByteArray) (w : World) (h : Vm w b n f sz) (hs : key.size ≤ maxLen) (g c : Nat)
    (hf : f key.data.toList = some (.slice (some ⟨g, 0, none⟩) 1 c)) (hc : w.cell? ⟨g, 0, none⟩ = some (.string val)) :
    Calls Ybad.prog 6 #[.map (some b), .string key, .bool true, .string val] w fun e w' => e = .returned (.bool true) ∧ w' = w := by
  have hl := h.look_ok (t := 38) Ybad.underlying9 Ybad.underlying38 (zero43 w) hs
  rw [hf] at hl
  simp only [Option.getD_some, Option.isSome_some] at hl
  clear h hf hs
  go_enter Ybad.func6, Ybad.ntmps6
  go_wp2
  go_ret
  exact ⟨by simp, rfl⟩

set_option maxHeartbeats 400000 in
theorem cone_no (b n sz : Nat) (f : List UInt8 → Option Value) (key val : ByteArray) (w : World) (h : Vm w b n f sz) (hs : key.size ≤ maxLen)
    (hf : f key.data.toList = none) :
    Calls Ybad.prog 6 #[.map (some b), .string key, .bool false, .string val] w fun e w' => e = .returned (.bool true) ∧ w' = w := by
  have hl := h.look_ok (t := 38) Ybad.underlying9 Ybad.underlying38 (zero43 w) hs
  rw [hf] at hl
  simp only [Option.getD_none, Option.isSome_none] at hl
  clear h hf hs
  go_enter Ybad.func6, Ybad.ntmps6
  go_wp2
  go_ret
  exact ⟨by simp, rfl⟩

/-- WHAT A url.Values HOLDS: at each key a list of strings; each list in a row of its own, from block 'base' on. -/
def Vals (w : World) (base b n : Nat) (f : List UInt8 → Option (List ByteArray)) (sz : Nat) : Prop :=
  ∃ fv, Vm w b n fv sz ∧ base ≤ b ∧ (∀ key, f key = none → fv key = none) ∧
    (∀ key ss, f key = some ss → ∃ v, fv key = some v ∧ w.ownsRow base 9 1 v ss.length (ss.map Value.string)) ∧
    (∀ k1 k2 v1 v2 g, fv k1 = some v1 → fv k2 = some v2 → k1 ≠ k2 → v1.ownBlock = some g → v2.ownBlock ≠ some g)

def putL (f : List UInt8 → Option (List ByteArray)) (s : List UInt8) (v : List ByteArray) : List UInt8 → Option (List ByteArray) := fun t => if t = s then some v else f t

theorem putL_same (f : List UInt8 → Option (List ByteArray)) (s : List UInt8) (v : List ByteArray) : putL f s v s = some v := by simp [putL]
theorem putL_other (f : List UInt8 → Option (List ByteArray)) (s t : List UInt8) (v : List ByteArray) (h : t ≠ s) : putL f s v t = f t := by simp [putL, h]

/-- How many entries there are behind a store at a key. -/
def grew (f : List UInt8 → Option (List ByteArray)) (s : List UInt8) (sz : Nat) : Nat := if (f s).isSome then sz else sz + 1

/-- A row's block is no map's. -/
theorem row_ne_map {P : Program} {k : TypeId} {z : Value} {w : World} {b n sz base g m : Nat} {f : List UInt8 → Option Value} {e : TypeId} {v : Value} {xs : List Value} (h : MapIs P k z w b n f sz) (hr : w.ownsRow base e 1 v m xs) (hg : v.ownBlock = some g) : g ≠ b := by
  rintro rfl
  obtain ⟨es, clock, hh⟩ := h.heap
  rcases hr.2 with ⟨rfl, _⟩ | ⟨g', cap, cur, rfl, _, hgg, _⟩
  · simp [Value.ownBlock] at hg
  · simp [Value.ownBlock] at hg
    subst hg
    rw [hh] at hgg
    cases hgg

theorem Vals.made (w : World) (base : Nat) (hb : base ≤ w.heap.size) : Vals (w.alloc (.map #[] 0)) base w.heap.size 0 (fun _ => none) 0 := by
  refine ⟨fun _ => none, MapIs.made w, hb, fun _ _ => rfl, ?_, ?_⟩
  · intro key ss h; cases h
  · intro k1 k2 v1 v2 g h; cases h

theorem Vals.lt {w : World} {base b n sz : Nat} {f : List UInt8 → Option (List ByteArray)} (h : Vals w base b n f sz) : b < w.heap.size := by
  obtain ⟨fv, h1, _⟩ := h
  exact h1.lt

theorem Vals.later {w w' : World} {base b n sz : Nat} {f : List UInt8 → Option (List ByteArray)} (h : Vals w base b n f sz) (hb : Below w.heap.size w w') : Vals w' base b n f sz := by
  obtain ⟨fv, h1, h2, h3, h4, h5⟩ := h
  have hg : w.grownBy w' none := ⟨hb.os, hb.tape, hb.output, hb.size, fun k hk _ => hb.block k hk⟩
  refine ⟨fv, h1.kept hg (by simp), h2, h3, fun key ss hk => ?_, h5⟩
  obtain ⟨v, hv, hr⟩ := h4 key ss hk
  exact ⟨v, hv, hr.kept hg (by cases v.ownBlock <;> simp)⟩

theorem Vals.drew {w : World} {base b n sz : Nat} {f : List UInt8 → Option (List ByteArray)} (h : Vals w base b n f sz) : Vals w.drew base b n f sz := h

/-- A STORE AT A KEY: what has been done since the look is done to the key's own row, or to new blocks alone. -/
theorem Vals.store {w w1 w2 : World} {base b n sz : Nat} {f : List UInt8 → Option (List ByteArray)} {fv : List UInt8 → Option Value} {key : ByteArray} {v' : Value} {ss' : List ByteArray} {row : Option Nat}
    (h2 : base ≤ b) (h3 : ∀ key, f key = none → fv key = none)
    (h4 : ∀ key ss, f key = some ss → ∃ v, fv key = some v ∧ w.ownsRow base 9 1 v ss.length (ss.map Value.string))
    (h5 : ∀ k1 k2 v1 v2 g, fv k1 = some v1 → fv k2 = some v2 → k1 ≠ k2 → v1.ownBlock = some g → v2.ownBlock ≠ some g)
    (hg : w.grownBy w1 row) (hrow : ∀ g, row = some g → ∃ v, fv key.data.toList = some v ∧ v.ownBlock = some g)
    (hv' : w1.ownsRow base 9 1 v' ss'.length (ss'.map Value.string)) (hloc : ∀ g, v'.ownBlock = some g → row = some g ∨ w.heap.size ≤ g)
    (h6 : Vm w2 b (n + 1) (put fv key.data.toList v') (if (fv key.data.toList).isSome then sz else sz + 1)) (hg2 : w1.grownBy w2 (some b)) (hb1 : Vm w1 b n fv sz) :
    Vals w2 base b (n + 1) (putL f key.data.toList ss') (grew f key.data.toList sz) := by
  have hsome : (fv key.data.toList).isSome = (f key.data.toList).isSome := by
    cases hf : f key.data.toList with
    | none => rw [h3 _ hf]; rfl
    | some ss => obtain ⟨v, hv, _⟩ := h4 _ _ hf; rw [hv]; rfl
  rw [hsome] at h6
  unfold grew
  have hsf : ∀ k v, fv k = some v → ∃ ss, f k = some ss := by
    intro k v hk
    cases hf : f k with
    | none => rw [h3 _ hf] at hk; cases hk
    | some ss => exact ⟨ss, rfl⟩
  refine ⟨_, h6, h2, fun k hk => ?_, fun k ss hk => ?_, fun k1 k2 v1 v2 g e1 e2 hne e3 => ?_⟩
  · unfold putL at hk
    unfold put
    split at hk
    · cases hk
    · rename_i hne
      rw [if_neg hne]; exact h3 k hk
  · unfold putL at hk
    unfold put
    by_cases e : k = key.data.toList
    · rw [if_pos e] at hk ⊢
      cases hk
      exact ⟨v', rfl, hv'.kept hg2 (by
        cases ho : v'.ownBlock with
        | none => exact .inl rfl
        | some g => exact .inr (by simpa using row_ne_map hb1 hv' ho))⟩
    · rw [if_neg e] at hk ⊢
      obtain ⟨v, hv, hr⟩ := h4 k ss hk
      refine ⟨v, hv, ?_⟩
      have hr1 : w1.ownsRow base 9 1 v ss.length (ss.map Value.string) := hr.kept hg (by
        cases ho : v.ownBlock with
        | none => exact .inl rfl
        | some g =>
          refine .inr (fun e2 => ?_)
          obtain ⟨v0, hv0, ho0⟩ := hrow g e2.symm
          exact h5 _ _ _ _ g hv hv0 e ho ho0)
      exact hr1.kept hg2 (by
        cases ho : v.ownBlock with
        | none => exact .inl rfl
        | some g => exact .inr (by simpa using row_ne_map hb1 hr1 ho))
  · unfold put at e1 e2
    by_cases c1 : k1 = key.data.toList
    · have c2 : ¬ k2 = key.data.toList := fun e => hne (c1.trans e.symm)
      rw [if_pos c1] at e1
      rw [if_neg c2] at e2
      cases e1
      intro e4
      rcases hloc g e3 with hr | hr
      · obtain ⟨v0, hv0, ho0⟩ := hrow g hr
        exact h5 _ _ _ _ g e2 hv0 c2 e4 ho0
      · obtain ⟨ss, hs⟩ := hsf _ _ e2
        obtain ⟨v, hv, hrr⟩ := h4 _ _ hs
        rw [hv] at e2; cases e2
        have := (hrr.lt g e4).2
        omega
    · rw [if_neg c1] at e1
      by_cases c2 : k2 = key.data.toList
      · rw [if_pos c2] at e2
        cases e2
        intro e4
        rcases hloc g e4 with hr | hr
        · obtain ⟨v0, hv0, ho0⟩ := hrow g hr
          exact h5 _ _ _ _ g e1 hv0 c1 e3 ho0
        · obtain ⟨ss, hs⟩ := hsf _ _ e1
          obtain ⟨v, hv, hrr⟩ := h4 _ _ hs
          rw [hv] at e1; cases e1
          have := (hrr.lt g e3).2
          omega
      · rw [if_neg c2] at e2
        exact h5 _ _ _ _ g e1 e2 hne e3

set_option maxHeartbeats 400000 in
/-- url.Values.Set. -/
theorem set_any (base b n sz : Nat) (f : List UInt8 → Option (List ByteArray)) (key val : ByteArray) (w : World) (h : Vals w base b n f sz) (hs : key.size ≤ maxLen) (hn : n < maxLen) (hbase : base ≤ w.heap.size) :
    Calls Ybad.prog 13 #[.map (some b), .string key, .string val] w fun e w' => e = .returned (.tuple #[]) ∧
      Vals w' base b (n + 1) (putL f key.data.toList [val]) (grew f key.data.toList sz) ∧ w.grownBy w' (some b) := by
  obtain ⟨fv, h1, h2, h3, h4, h5⟩ := h
  have hal := World.grownBy_alloc w (.cells #[.string val] 9) none
  have h1' : Vm (w.alloc (.cells #[.string val] 9)) b n fv sz := h1.kept hal (by simp)
  obtain ⟨w2, hr, h6, hg2⟩ := h1'.upd (t := 39) Ybad.underlying9 Ybad.underlying39 hn hs (.slice (some ⟨w.heap.size, 0, none⟩) 1 1)
  have fin : Vals w2 base b (n + 1) (putL f key.data.toList [val]) (grew f key.data.toList sz) ∧ w.grownBy w2 (some b) := by
    refine ⟨Vals.store (key := key) (ss' := [val]) (row := none) h2 h3 h4 h5 hal (fun g hg => by cases hg) (World.ownsRow_lit w #[.string val] 1 hbase (by decide) rfl) (fun g hg => ?_) h6 hg2 h1', ?_⟩
    · simp [Value.ownBlock] at hg; exact .inr (by omega)
    · exact ⟨hg2.os.trans hal.os, hg2.tape.trans hal.tape, hg2.output.trans hal.output, Nat.le_trans hal.size hg2.size, fun k hk hne => (hg2.block k (by simp; omega) hne).trans (hal.block k hk (by simp))⟩
  have F : Hid (Vals w2 base b (n + 1) (putL f key.data.toList [val]) (grew f key.data.toList sz) ∧ w.grownBy w2 (some b)) := fin
  clear fin h1 h2 h3 h4 h5 h6 hg2 h1' hal hs hn hbase
  go_enter Ybad.func13, Ybad.ntmps13
  go_wp2
  go_end0
  exact ⟨rfl, F.out⟩

theorem info9 : (Ybad.prog.info? 9).map (fun i => (i.zero, i.size, i.bytes)) = some (some (.string ByteArray.empty), 1, 16) := by kernel_rfl

set_option maxHeartbeats 400000 in
/-- url.Values.Add. -/
theorem add_any (base b n sz : Nat) (f : List UInt8 → Option (List ByteArray)) (key val : ByteArray) (w : World) (h : Vals w base b n f sz) (hs : key.size ≤ maxLen) (hn : n < maxLen) (hbase : base ≤ w.heap.size)
    (ss : List ByteArray) (hss : (f key.data.toList).getD [] = ss) (hl : ss.length ≤ 1000000) :
    Calls Ybad.prog 14 #[.map (some b), .string key, .string val] w fun e w' => e = .returned (.tuple #[]) ∧
      Vals w' base b (n + 1) (putL f key.data.toList (ss ++ [val])) (grew f key.data.toList sz) ∧ Below base w w' := by
  obtain ⟨fv, h1, h2, h3, h4, h5⟩ := h
  obtain ⟨i0, hi, hz0, hz1, hz2⟩ := info_parts info9
  obtain ⟨v, hv, hv0, hrow⟩ : ∃ v, (fv key.data.toList).getD (.slice none 0 0) = v ∧ w.ownsRow base 9 1 v ss.length (ss.map Value.string) ∧ (∀ g, v.ownBlock = some g → ∃ v0, fv key.data.toList = some v0 ∧ v0.ownBlock = some g) := by
    cases hf : f key.data.toList with
    | none =>
      rw [hf] at hss
      simp only [Option.getD_none] at hss
      subst hss
      rw [h3 _ hf]
      exact ⟨_, rfl, World.ownsRow_nil w base 9 1, fun g hg => by simp [Value.ownBlock] at hg⟩
    | some ss' =>
      rw [hf] at hss
      simp only [Option.getD_some] at hss
      subst hss
      obtain ⟨v, hv, hr⟩ := h4 _ _ hf
      rw [hv]
      exact ⟨v, rfl, hr, fun g hg => ⟨v, rfl, hg⟩⟩
  have hlk := h1.look (t := 39) Ybad.underlying9 Ybad.underlying39 (zero43 w) hs
  rw [hv] at hlk
  have hal := World.grownBy_alloc w (.cells #[.string val] 9) none
  have h1' : Vm (w.alloc (.cells #[.string val] 9)) b n fv sz := h1.kept hal (by simp)
  obtain ⟨v', w1, hr1, hown1, hg1, hnil, hloc⟩ := run_append_own_at (P := Ybad.prog) (w.alloc (.cells #[.string val] 9)) base 43 43 9 i0 (.string ByteArray.empty) 1 16 Ybad.underlying43 hi hz0 hz1 hz2 rfl (by decide) v ss.length (ss.map Value.string) (hv0.alloc _)
    ⟨w.heap.size, 0, none⟩ 1 1 [.string val] rfl (cell_one_new _ _ _) (by simp [Value.oneCell']) (by unfold maxLen; omega) (by omega) (by simp; omega)
  have hgrow : w.grownBy w1 v.ownBlock := (World.grownBy_alloc w _ _).trans hg1
  have h1'' : Vm w1 b n fv sz := h1.kept hgrow (fun e => by
    obtain hb := e.symm
    exact row_ne_map h1 hv0 hb rfl)
  obtain ⟨w2, hr2, h6, hg2⟩ := h1''.upd (t := 39) Ybad.underlying9 Ybad.underlying39 hn hs v'
  have fin : Vals w2 base b (n + 1) (putL f key.data.toList (ss ++ [val])) (grew f key.data.toList sz) ∧ Below base w w2 := by
    refine ⟨Vals.store (key := key) (ss' := ss ++ [val]) (row := v.ownBlock) h2 h3 h4 h5 hgrow hrow (by simpa using hown1) (fun g hg => ?_) h6 hg2 h1'', ?_⟩
    · rcases hloc with e | e
      · exact .inl (by rw [← e]; exact hg)
      · rw [e] at hg; simp at hg; exact .inr (by omega)
    · refine ((Below.refl _ _).grown hgrow hbase (fun k hk => (hv0.lt k hk).1)).grown hg2 (Nat.le_trans hbase hgrow.size) (fun k hk => by cases hk; exact h2)
  have F : Hid (Vals w2 base b (n + 1) (putL f key.data.toList (ss ++ [val])) (grew f key.data.toList sz) ∧ Below base w w2) := fin
  clear fin h1 h2 h3 h4 h5 h6 hg2 h1' h1'' hal hs hn hbase hgrow hloc hnil hg1 hown1 hv0 hrow hv hz0 hz1 hz2 hi hss
  go_enter Ybad.func14, Ybad.ntmps14
  go_wp2_with (first | (at_builtin; refine wpList_app rfl _ _ _ _ rfl _ _ rfl rfl hr1 ?_) | go_in)
  go_end0
  exact ⟨rfl, F.out⟩
end Go.Proofs.YbulkajiaDoor
