/-
  THE CLASS: its pool, its count, its map; entry, utf8.
-/
import Derived.Test.YbulkajjcBig
import Derived.Deep.DeepCutAuto
namespace Go.Proofs.Ybulkajjc
open Go.RowKit Go.Maps Go.Lib

/-- The map's key of a name. -/
def ukey (s : ByteArray) : ByteArray := (⟨#[85, 116, 102, 56, 32]⟩ : ByteArray) ++ s

theorem ukey_list (s : ByteArray) : (ukey s).data.toList = [85, 116, 102, 56, 32] ++ s.data.toList := by simp [ukey]

theorem ba_ext {a b : ByteArray} (h : a.data.toList = b.data.toList) : a = b := by
  obtain ⟨⟨x⟩⟩ := a
  obtain ⟨⟨y⟩⟩ := b
  simp only at h
  rw [h]

theorem ukey_inj {s t : ByteArray} (h : (ukey s).data.toList = (ukey t).data.toList) : s = t := by
  rw [ukey_list, ukey_list] at h
  exact ba_ext (List.append_cancel_left h)

theorem ukey_size (s : ByteArray) : (ukey s).size = 5 + s.size := by
  unfold ukey; rw [ByteArray.size_append]; rfl

/-- Where a name stands among the names, or would stand. -/
def pos (ns : List ByteArray) (s : ByteArray) : Nat := ns.findIdx (fun t => decide (t = s))
def add (ns : List ByteArray) (s : ByteArray) : List ByteArray := if pos ns s < ns.length then ns else ns ++ [s]

theorem pos_le (ns : List ByteArray) (s : ByteArray) : pos ns s ≤ ns.length := List.findIdx_le_length

theorem pos_old {ns : List ByteArray} {s t : ByteArray} (h : pos ns t < ns.length) : pos (ns ++ [s]) t = pos ns t := by
  unfold pos at *
  rw [List.findIdx_append, if_pos h]

theorem pos_snoc {ns : List ByteArray} {s t : ByteArray} (h : ¬ pos ns t < ns.length) : pos (ns ++ [s]) t = if s = t then ns.length else ns.length + 1 := by
  unfold pos at *
  rw [List.findIdx_append, if_neg h]
  by_cases e : s = t
  · subst e; simp [List.findIdx_cons]
  · simp [List.findIdx_cons, e, Nat.add_comm]

/-- An entry of the pool. -/
def ent (s : ByteArray) : List UInt8 := 1 :: (e16 s.size ++ s.data.toList)
def poolOf (ns : List ByteArray) : List UInt8 := ns.flatMap ent

/-- The class at block cb, its map made: what its cells hold. -/
structure ClM (w : World) (base cb : Nat) (pv : Value) (mb : Nat) (f : List UInt8 → Option Value) (ns : List ByteArray) (No : Nat → Prop) : Prop where
  h8 : w.cell? ⟨cb, 8, none⟩ = some pv
  h9 : w.cell? ⟨cb, 9, none⟩ = some (.int .u16 ((ns.length : Int) + 1))
  h10 : w.cell? ⟨cb, 10, none⟩ = some (.map (some mb))
  fr : ∀ k, w.frozen? ⟨cb, k, none⟩ = false
  own : Bs w base pv (poolOf ns)
  away : ∀ g, pv.ownBlock = some g → ¬ No g ∧ g ≠ cb
  mlo : base ≤ mb
  mne : mb ≠ cb
  mno : ¬ No mb
  mi : MapIs Yba.prog 9 (.int .u16 0) w mb ns.length f ns.length
  fs : ∀ s, f (ukey s).data.toList = if pos ns s < ns.length then some (.int .u16 ((pos ns s : Int) + 1)) else none

/-- THE CLASS AT BLOCK cb HOLDS THE NAMES ns; none of its blocks is among 'No'. -/
structure Cl (w : World) (base cb : Nat) (ns : List ByteArray) (No : Nat → Prop) : Prop where
  lo : base ≤ cb
  no : ¬ No cb
  ex : (ns = [] ∧ w.cell? ⟨cb, 8, none⟩ = some (.slice none 0 0) ∧ w.cell? ⟨cb, 9, none⟩ = some (.int .u16 0) ∧ w.cell? ⟨cb, 10, none⟩ = some (.map none) ∧ (∀ k, w.frozen? ⟨cb, k, none⟩ = false)) ∨
    (ns ≠ [] ∧ ∃ pv mb f, ClM w base cb pv mb f ns No)

theorem add_ne (ns : List ByteArray) (s : ByteArray) : add ns s ≠ [] := by
  unfold add
  split
  · rintro rfl; simp at *
  · simp

theorem zero22 (w : World) : (zeroValue 22).run Yba.prog w = .ok (.int .u16 0) w := by kernel_rfl
theorem map_nil (w : World) : (binOp .eql 36 (.map none) (.map none)).run Yba.prog w = .ok (.bool true) w := by kernel_rfl
theorem map_some (b : Nat) (w : World) : (binOp .eql 36 (.map (some b)) (.map none)).run Yba.prog w = .ok (.bool false) w := by kernel_rfl
theorem make36 (w : World) : (Instr.makeMap 36 none).run Yba.prog w = .ok (.map (some w.heap.size)) (w.alloc (.map #[] 0)) := by kernel_rfl

theorem sc_other {w : World} {a b : Addr} {v : Value} (h : a ≠ b) : (w.setCell a v).cell? b = w.cell? b := World.cell?_setCell_other w a b v h
theorem sc_same {w : World} {a : Addr} {v u : Value} (h : w.cell? a = some u) : (w.setCell a v).cell? a = some v := World.cell?_setCell_same w a v h
theorem sc_frozen {w : World} {a b : Addr} {v : Value} : (w.setCell a v).frozen? b = w.frozen? b := World.frozen?_setCell w a b v
theorem sc_heap {w : World} {a : Addr} {v : Value} {k : Nat} (h : k ≠ a.block) : (w.setCell a v).heap[k]? = w.heap[k]? := Below.heap_setCell w a v k h

theorem Rd.shape {w : World} {v : Value} {l : List UInt8} (h : Rd w v l) : ∃ a n c, v = .slice a n c := by
  obtain ⟨a, c, rfl⟩ := h.len
  exact ⟨a, _, c, rfl⟩

theorem setCell_size (w : World) (a : Addr) (v : Value) : (w.setCell a v).heap.size = w.heap.size := by simp [World.setCell]

/-- A row's block is no map's. -/
theorem row_ne_map {P : Program} {k : TypeId} {z : Value} {w : World} {b n sz base g m : Nat} {f : List UInt8 → Option Value} {e : TypeId} {v : Value} {xs : List Value} (h : MapIs P k z w b n f sz) (hr : w.ownsRow base e 1 v m xs) (hg : v.ownBlock = some g) : g ≠ b := by
  rintro rfl
  obtain ⟨es, clock, hh⟩ := h.heap
  rcases hr.2 with ⟨rfl, _⟩ | ⟨g', cap, cur, rfl, _, hgg, _⟩
  · simp [Value.ownBlock] at hg
  · simp [Value.ownBlock] at hg
    subst hg
    rw [hh] at hgg
    cases hgg

/-- The class behind the map's making. -/
theorem ClM.made {w : World} {base cb : Nat} {No : Nat → Prop} (hb : base ≤ w.heap.size) (hlt : cb < w.heap.size) (hNo : ∀ k, No k → k < w.heap.size)
    (h8 : w.cell? ⟨cb, 8, none⟩ = some (.slice none 0 0)) (h9 : w.cell? ⟨cb, 9, none⟩ = some (.int .u16 0)) (h10 : w.cell? ⟨cb, 10, none⟩ = some (.map none)) (hf : ∀ k, w.frozen? ⟨cb, k, none⟩ = false) :
    ClM (((w.setCell ⟨cb, 10, none⟩ (.map (some w.heap.size))).setCell ⟨cb, 9, none⟩ (.int .u16 1)).alloc (.map #[] 0)) base cb (.slice none 0 0) w.heap.size (fun _ => none) [] No := by
  have hsz : ((w.setCell ⟨cb, 10, none⟩ (.map (some w.heap.size))).setCell ⟨cb, 9, none⟩ (.int .u16 1)).heap.size = w.heap.size := by rw [setCell_size, setCell_size]
  have hB := alloc_below ((w.setCell ⟨cb, 10, none⟩ (.map (some w.heap.size))).setCell ⟨cb, 9, none⟩ (.int .u16 1)) (.map #[] 0)
  rw [hsz] at hB
  refine ⟨?_, ?_, ?_, ?_, Bs.nil _ _, fun g hg => by simp [Value.ownBlock] at hg, hb, by omega, fun h => by have := hNo _ h; omega, ?_, fun s => by simp⟩
  · rw [hB.cell (p := ⟨cb, 8, none⟩) hlt, sc_other (by simp), sc_other (by simp)]; exact h8
  · rw [hB.cell (p := ⟨cb, 9, none⟩) hlt]
    exact sc_same (u := .int .u16 0) (by rw [sc_other (by simp)]; exact h9)
  · rw [hB.cell (p := ⟨cb, 10, none⟩) hlt, sc_other (by simp)]
    exact sc_same h10
  · intro k
    rw [hB.frozen (p := ⟨cb, k, none⟩) hlt, sc_frozen, sc_frozen]; exact hf k
  · have := MapIs.made (P := Yba.prog) (k := 9) (z := .int .u16 0) ((w.setCell ⟨cb, 10, none⟩ (.map (some w.heap.size))).setCell ⟨cb, 9, none⟩ (.int .u16 1))
    rw [hsz] at this
    exact this

/-- The class, a name stored. -/
theorem ClM.stored {w w2 w4 : World} {base cb : Nat} {pv v' : Value} {mb : Nat} {f : List UInt8 → Option Value} {ns : List ByteArray} {No : Nat → Prop} {s : ByteArray} (h : ClM w base cb pv mb f ns No) (hcl : cb < w.heap.size) (hNo : ∀ k, No k → k < w.heap.size) (hs : ¬ pos ns s < ns.length)
    (ha : App base w w2 pv v' (poolOf ns ++ ent s)) (hm : MapIs Yba.prog 9 (.int .u16 0) w4 mb (ns.length + 1) (put f (ukey s).data.toList (.int .u16 ((ns.length : Int) + 1))) (ns.length + 1)) (hg : (w2.setCell ⟨cb, 8, none⟩ v').grownBy w4 (some mb)) :
    ClM (w4.setCell ⟨cb, 9, none⟩ (.int .u16 ((ns.length : Int) + 2))) base cb v' mb (put f (ukey s).data.toList (.int .u16 ((ns.length : Int) + 1))) (ns ++ [s]) No := by
  have hpb : ∀ k, pv.ownBlock = some k → k ≠ cb ∧ k < w.heap.size := fun k hk => ⟨(h.away k hk).2, (h.own.lt k hk).2⟩
  have hcb2 := ha.other hcl (fun e => (hpb _ e).1 rfl)
  have hcl2 : cb < w2.heap.size := Nat.lt_of_lt_of_le hcl ha.size
  have hml : mb < w.heap.size := h.mi.lt
  have hpm : ∀ g, pv.ownBlock = some g → g ≠ mb := fun g hg e => by
    subst e
    obtain ⟨es, ck, hh⟩ := h.mi.heap
    rcases h.own.2 with ⟨rfl, _⟩ | ⟨g', cap, cur, rfl, _, hgg, _⟩
    · simp [Value.ownBlock] at hg
    · simp [Value.ownBlock] at hg
      subst hg
      rw [hh] at hgg
      cases hgg
  have hmb2 := ha.other hml (fun e => hpm _ e rfl)
  have hv' : ∀ g, v'.ownBlock = some g → ¬ No g ∧ g ≠ cb ∧ g ≠ mb := by
    intro g hg
    refine ⟨?_, fun e => hcb2.2 (by rw [hg, e]), fun e => hmb2.2 (by rw [hg, e])⟩
    intro hn
    exact (ha.other (hNo g hn) (fun e => (h.away g e).1 hn)).2 hg
  -- block cb, from w to w4
  have c4 : ∀ k : Nat, k ≠ 8 → w4.cell? ⟨cb, k, none⟩ = w.cell? ⟨cb, k, none⟩ := by
    intro k hk
    rw [World.cell?_of_block (hg.block cb (by rw [setCell_size]; exact hcl2) (by simp; exact fun e => h.mne e.symm)), sc_other (by rintro ⟨⟩; exact hk rfl)]
    exact World.cell?_of_block hcb2.1
  have c8 : w4.cell? ⟨cb, 8, none⟩ = some v' := by
    rw [World.cell?_of_block (hg.block cb (by rw [setCell_size]; exact hcl2) (by simp; exact fun e => h.mne e.symm))]
    exact sc_same (u := pv) ((World.cell?_of_block hcb2.1).trans h.h8)
  refine ⟨?_, ?_, ?_, ?_, ?_, fun g hg => ⟨(hv' g hg).1, (hv' g hg).2.1⟩, h.mlo, h.mne, h.mno, ?_, ?_⟩
  · rw [sc_other (by simp)]; exact c8
  · rw [sc_same (u := .int .u16 ((ns.length : Int) + 1)) ((c4 9 (by decide)).trans h.h9)]
    simp
    omega
  · rw [sc_other (by simp), c4 10 (by decide)]; exact h.h10
  · intro k
    rw [sc_frozen, World.frozen?_of_block (hg.block cb (by rw [setCell_size]; exact hcl2) (by simp; exact fun e => h.mne e.symm)), sc_frozen, World.frozen?_of_block hcb2.1]
    exact h.fr k
  · have e : poolOf (ns ++ [s]) = poolOf ns ++ ent s := by simp [poolOf]
    rw [e]
    refine ha.own.same (fun k hk => ?_)
    obtain ⟨_, h2, h3⟩ := hv' k hk
    rw [sc_heap h2, hg.block k (by rw [setCell_size]; exact (ha.own.lt k hk).2) (by simpa using h3), sc_heap h2]
  · have := hm.same (w' := w4.setCell ⟨cb, 9, none⟩ (.int .u16 ((ns.length : Int) + 2))) (sc_heap h.mne)
    simpa using this
  · intro t
    unfold put
    by_cases e : t = s
    · subst e
      rw [if_pos rfl, pos_snoc hs, if_pos rfl, if_pos (by simp)]
    · rw [if_neg (fun h => e (ukey_inj h)), h.fs t]
      by_cases ht : pos ns t < ns.length
      · rw [if_pos ht, pos_old ht, if_pos (by simp; omega)]
      · rw [if_neg ht, pos_snoc ht, if_neg (show ¬ s = t from fun h => e h.symm), if_neg (show ¬ ns.length + 1 < (ns ++ [s]).length by simp)]

/-- What a call on the class keeps. -/
structure Kept (base : Nat) (No : Nat → Prop) (w w' : World) : Prop where
  below : Below base w w'
  no : ∀ k, No k → w'.heap[k]? = w.heap[k]?

theorem Kept.refl (base : Nat) (No : Nat → Prop) (w : World) : Kept base No w w := ⟨Below.refl _ _, fun _ _ => rfl⟩
theorem Kept.trans {base : Nat} {No : Nat → Prop} {a b c : World} (h : Kept base No a b) (k : Kept base No b c) : Kept base No a c := ⟨h.below.trans k.below, fun i hi => (k.no i hi).trans (h.no i hi)⟩

theorem ent_length (s : ByteArray) : (ent s).length = s.size + 3 := by
  have : s.data.toList.length = s.size := by rw [Array.length_toList]; rfl
  simp only [ent, List.length_cons, List.length_append, e16_length, this]; omega

set_option maxHeartbeats 1000000 in
theorem entry_any (base cb : Nat) (ns : List ByteArray) (No : Nat → Prop) (s : ByteArray) (xb xo n c : Nat) (hn : n = (ent s).length) (w : World) (h : Cl w base cb ns No) (hNo : ∀ k, No k → k < w.heap.size) (hb : base ≤ w.heap.size)
    (hx : w.rangeAt xb xo (bv (ent s))) (hxn : No xb) (hs : s.size ≤ 1024) (hl : ns.length ≤ 2000) (hp : (poolOf ns).length ≤ 10000000) :
    Calls Yba.prog 16 #[.pointer (some ⟨cb, 0, none⟩), .string (ukey s), .slice (some ⟨xb, xo, none⟩) n c] w fun e w' => e = .returned (.int .u16 ((pos ns s : Int) + 1)) ∧ Cl w' base cb (add ns s) No ∧ Kept base No w w' := by
  have hcl : cb < w.heap.size := by
    rcases h.ex with ⟨_, h8, _⟩ | ⟨_, pv, mb, f, hm⟩
    · exact World.block_lt_of_cell? w _ h8
    · exact World.block_lt_of_cell? w _ hm.h8
  have H := Lib.hid h
  have HX := Lib.hid hx
  have HP := Lib.hid (And.intro hNo (And.intro hxn (And.intro hp hn)))
  obtain ⟨mo, bb, h10, hq, HC⟩ : ∃ mo bb, w.cell? ⟨cb, 10, none⟩ = some (.map mo) ∧ (∀ w, (binOp .eql 36 (.map mo) (.map none)).run Yba.prog w = .ok (.bool bb) w) ∧
      Hid ((bb = true ∧ mo = none ∧ ns = [] ∧ w.cell? ⟨cb, 8, none⟩ = some (.slice none 0 0) ∧ w.cell? ⟨cb, 9, none⟩ = some (.int .u16 0) ∧ (∀ k, w.frozen? ⟨cb, k, none⟩ = false)) ∨
        (bb = false ∧ ∃ pv mb f, ClM w base cb pv mb f ns No)) := by
    rcases h.ex with ⟨rfl, h8, h9, h10, hf⟩ | ⟨_, pv, mb, f, hm⟩
    · exact ⟨_, true, h10, map_nil, .inl ⟨rfl, rfl, rfl, h8, h9, hf⟩⟩
    · exact ⟨_, false, hm.h10, map_some mb, .inr ⟨rfl, pv, mb, f, hm⟩⟩
  clear h hx hNo hxn hp hn
  go_enter Yba.func16, Yba.ntmps16
  go_upto_if 15 with fail
  go_cut [] (fun w' => Hid ((∃ pv mb f, ClM w' base cb pv mb f ns No) ∧ Kept base No w w'))
  case first =>
    rcases HC.out with ⟨rfl, rfl, rfl, h8, h9, hf⟩ | ⟨rfl, hm⟩
    · have F : Hid ((∃ pv mb f, ClM (((w.setCell ⟨cb, 10, none⟩ (.map (some w.heap.size))).setCell ⟨cb, 9, none⟩ (.int .u16 1)).alloc (.map #[] 0)) base cb pv mb f [] No) ∧ Kept base No w (((w.setCell ⟨cb, 10, none⟩ (.map (some w.heap.size))).setCell ⟨cb, 9, none⟩ (.int .u16 1)).alloc (.map #[] 0))) := And.intro ⟨.slice none 0 0, w.heap.size, fun _ => none, ClM.made hb hcl HP.out.1 h8 h9 h10 hf⟩
        (show Kept base No w (((w.setCell ⟨cb, 10, none⟩ (.map (some w.heap.size))).setCell ⟨cb, 9, none⟩ (.int .u16 1)).alloc (.map #[] 0)) from
          ⟨(((Below.refl _ _).setCell H.out.lo _).setCell H.out.lo _).alloc (by rw [setCell_size, setCell_size]; exact hb) _, fun k hk => by
            have h1 := HP.out.1 k hk
            have h2 : k ≠ cb := fun e => H.out.no (e ▸ hk)
            rw [(alloc_below _ _).block k (by rw [setCell_size, setCell_size]; exact h1), sc_heap h2, sc_heap h2]⟩)
      have hf9 := hf 9
      have hf10 := hf 10
      have hmk := make36
      have ha9 : ∀ o, (w.alloc o).cell? ⟨cb, 9, none⟩ = some (.int .u16 0) := fun o => (World.grownBy_alloc w o none).cell h9 (by simp)
      have ha10 : ∀ o, (w.alloc o).cell? ⟨cb, 10, none⟩ = some (.map none) := fun o => (World.grownBy_alloc w o none).cell h10 (by simp)
      have hb9 : ∀ o, (w.alloc o).frozen? ⟨cb, 9, none⟩ = false := fun o => ((alloc_below w o).frozen (p := ⟨cb, 9, none⟩) hcl).trans hf9
      have hb10 : ∀ o, (w.alloc o).frozen? ⟨cb, 10, none⟩ = false := fun o => ((alloc_below w o).frozen (p := ⟨cb, 10, none⟩) hcl).trans hf10
      clear hf h8
      go_wp2_with fail
      go_meet
      case rel => exact F
    · have F := Lib.hid (And.intro hm (Kept.refl base No w))
      clear hm
      go_wp2_with fail
      go_meet
      case rel => exact F
  case rest =>
    obtain ⟨⟨pv, mb, f, hm⟩, hk⟩ := hcut.out
    have hcl2 : cb < wc.heap.size := Nat.lt_of_lt_of_le hcl hk.below.size
    have hNo2 : ∀ k, No k → k < wc.heap.size := fun k h => Nat.lt_of_lt_of_le (HP.out.1 k h) hk.below.size
    have hlk := hm.mi.look_ok (t := 36) Yba.underlying9 Yba.underlying36 (zero22 wc) (s := ukey s) (by rw [ukey_size]; unfold maxLen; omega)
    rw [hm.fs s] at hlk
    have h10c := hm.h10
    clear hq hcut h10 HC
    by_cases hpos : pos ns s < ns.length
    · rw [if_pos hpos] at hlk
      simp only [Option.getD_some, Option.isSome_some] at hlk
      have F : Hid (Cl wc base cb (add ns s) No ∧ Kept base No w wc) := ⟨⟨H.out.lo, H.out.no, .inr ⟨add_ne ns s, pv, mb, f, by unfold add; rw [if_pos hpos]; exact hm⟩⟩, hk⟩
      clear hm hk hpos
      go_wp2_with fail
      go_ret
      exact ⟨rfl, F.out⟩
    · rw [if_neg hpos] at hlk
      simp only [Option.getD_none, Option.isSome_none] at hlk
      have hxb := HX.out
      have hxw : Rd wc (.slice (some ⟨xb, xo, none⟩) n c) (ent s) := .inr ⟨⟨xb, xo, none⟩, c, by rw [HP.out.2.2.2], fun j u hu => by
        rw [Addr.add_lit]
        exact (World.cell?_of_block (hk.no xb HP.out.2.1)).trans (HX.out j u hu)⟩
      obtain ⟨v', w2, hr2, ha2, _⟩ := app_rd 23 hm.own hxw (by rw [ent_length]; have := HP.out.2.2.1; omega) (Nat.le_trans hb hk.below.size)
      obtain ⟨qa, qn, qc, rfl⟩ := ha2.own.rd.shape
      have hpb : ∀ k, pv.ownBlock = some k → k ≠ cb := fun k hk => (hm.away k hk).2
      have hcb2 := ha2.other hcl2 (fun e => hpb _ e rfl)
      have hmi3 : MapIs Yba.prog 9 (.int .u16 0) (w2.setCell ⟨cb, 8, none⟩ (.slice qa qn qc)) mb ns.length f ns.length := hm.mi.same (by
        rw [sc_heap hm.mne]
        refine (ha2.other hm.mi.lt (fun e => ?_)).1
        exact row_ne_map hm.mi hm.own e rfl)
      obtain ⟨w4, hr4, hm4, hg4⟩ := hmi3.upd (t := 36) Yba.underlying9 Yba.underlying36 (by unfold maxLen; omega) (s := ukey s) (by rw [ukey_size]; unfold maxLen; omega) (.int .u16 ((ns.length : Int) + 1))
      rw [hm.fs s, if_neg hpos] at hm4
      simp only [Option.isSome_none, Bool.false_eq_true, if_false] at hm4
      have M5 := hm.stored hcl2 hNo2 hpos ha2 hm4 hg4
      have c8 := hm.h8
      have c9 := hm.h9
      have f8 := hm.fr 8
      have c8b : w2.cell? ⟨cb, 8, none⟩ = some pv := (World.cell?_of_block hcb2.1).trans hm.h8
      have f8b : w2.frozen? ⟨cb, 8, none⟩ = false := (World.frozen?_of_block hcb2.1).trans (hm.fr 8)
      have c10b : w2.cell? ⟨cb, 10, none⟩ = some (.map (some mb)) := (World.cell?_of_block hcb2.1).trans hm.h10
      have hblk := hg4.block cb (by rw [setCell_size]; exact Nat.lt_of_lt_of_le hcl2 ha2.size) (by simp; exact fun e => hm.mne e.symm)
      have c9d : w4.cell? ⟨cb, 9, none⟩ = some (.int .u16 ((ns.length : Int) + 1)) := by
        rw [World.cell?_of_block hblk, sc_other (by simp)]
        exact (World.cell?_of_block hcb2.1).trans hm.h9
      have f9d : w4.frozen? ⟨cb, 9, none⟩ = false := by
        rw [World.frozen?_of_block hblk, sc_frozen]
        exact (World.frozen?_of_block hcb2.1).trans (hm.fr 9)
      have hno4 : ∀ k, No k → w4.heap[k]? = wc.heap[k]? := by
        intro k hkn
        have h1 : k ≠ cb := fun e => H.out.no (e ▸ hkn)
        have h2 : k ≠ mb := fun e => hm.mno (e ▸ hkn)
        rw [hg4.block k (by rw [setCell_size]; exact Nat.lt_of_lt_of_le (hNo2 k hkn) ha2.size) (by simpa using h2), sc_heap h1]
        exact (ha2.other (hNo2 k hkn) (fun e => (hm.away k e).1 hkn)).1
      have x0 : w4.cell? ⟨xb, xo, none⟩ = some (.int .u8 1) := by
        rw [World.cell?_of_block (hno4 xb HP.out.2.1), World.cell?_of_block (hk.no xb HP.out.2.1)]
        exact HX.out 0 _ rfl
      have hxc : xb ≠ cb := fun e => H.out.no (e ▸ HP.out.2.1)
      have hn0 : 0 < n := by rw [HP.out.2.2.2, ent_length]; omega
      have ep : (pos ns s : Int) + 1 = (ns.length : Int) + 1 := by have := pos_le ns s; omega
      have F : Hid (Cl (w4.setCell ⟨cb, 9, none⟩ (.int .u16 ((ns.length : Int) + 2))) base cb (add ns s) No ∧ Kept base No w (w4.setCell ⟨cb, 9, none⟩ (.int .u16 ((ns.length : Int) + 2)))) := by
        refine ⟨⟨H.out.lo, H.out.no, .inr ⟨add_ne ns s, _, mb, _, by unfold add; rw [if_neg hpos]; exact M5⟩⟩, hk.trans ⟨?_, fun k hkn => ?_⟩⟩
        · exact (((ha2.below hm.own (Nat.le_trans hb hk.below.size)).setCell H.out.lo _).grown hg4 (by rw [setCell_size]; exact Nat.le_trans hb (Nat.le_trans hk.below.size ha2.size)) (fun k e => by cases e; exact hm.mlo)).setCell H.out.lo _
        · rw [sc_heap (show k ≠ cb from fun e => H.out.no (e ▸ hkn))]; exact hno4 k hkn
      have EP := Lib.hid ep
      clear hm hk hpos M5 hmi3 hm4 hg4 hblk hno4 hxw ha2 hcb2 hpb ep hNo2 hxb
      go_wp2_with (first | (at_builtin; refine wpList_app rfl _ _ _ _ rfl _ _ rfl rfl hr2 ?_))
      go_ret
      refine ⟨by rw [EP.out]; rfl, ?_⟩
      rw [show ((ns.length : Int) + 1 + 1) = (ns.length : Int) + 2 from by omega]
      exact F.out
end Go.Proofs.Ybulkajjc
