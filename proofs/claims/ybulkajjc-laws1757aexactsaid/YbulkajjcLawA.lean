/-
  LawS1757AExact: the rows that her last loop builds.
-/
import Derived.Test.YbulkajjcBuild
namespace Go.Proofs.Ybulkajjc
open Go.RowKit Go.Maps Go.Lib

theorem CIn.below {ha : Option Addr} {hs : List Hm} {w w' : World} (h : CIn ha hs w) (hb : Below w.heap.size w w') : CIn ha hs w' := fun j x hx => by
  obtain ⟨b, o, cv, e, h⟩ := h j x hx
  exact ⟨b, o, cv, e, range_below h.range hb, fun hh => ⟨(h.yes hh).1.below hb, (h.yes hh).2⟩, h.no, h.hs, h.he, h.hh⟩

/-- A row that grows, above what is kept. -/
structure WS (base : Nat) (w0 : World) (v : Value) (l : List UInt8) (W : World) : Prop where
  own : Bs W base v l
  low : Below base w0 W
  bs : base ≤ W.heap.size

theorem WS.app {base : Nat} {w0 : World} {v v' : Value} {l l' : List UInt8} {W W' : World} (h : WS base w0 v l W) (ha : App base W W' v v' l') : WS base w0 v' l' W' :=
  ⟨ha.own, h.low.trans (ha.below h.own h.bs), Nat.le_trans h.bs ha.size⟩

theorem WS.later {base : Nat} {w0 : World} {v : Value} {l : List UInt8} {W W' : World} (h : WS base w0 v l W) (hb : Below W.heap.size W W') : WS base w0 v l W' :=
  ⟨h.own.later hb, h.low.trans (hb.mono h.bs), Nat.le_trans h.bs hb.size⟩

/-- What the class holds, to be read. -/
theorem Cl.reads {w : World} {base cb : Nat} {ns : List ByteArray} {No : Nat → Prop} (h : Cl w base cb ns No) :
    ∃ pv, w.cell? ⟨cb, 8, none⟩ = some pv ∧ Rd w pv (poolOf ns) ∧ w.cell? ⟨cb, 9, none⟩ = some (.int .u16 (if ns.length = 0 then 0 else (ns.length : Int) + 1)) := by
  rcases h.ex with ⟨rfl, h8, h9, _⟩ | ⟨hne, pv, mb, f, hm⟩
  · exact ⟨_, h8, .inl ⟨rfl, rfl⟩, h9⟩
  · refine ⟨pv, hm.h8, hm.own.rd, ?_⟩
    rw [if_neg (fun e => hne (List.eq_nil_of_length_eq_zero e))]
    exact hm.h9

/-- A new class. -/
def ccells : Array Value := #[.int .u16 0, .int .u16 0, .string ⟨#[]⟩, .string ⟨#[]⟩, nil, nil, nil, nil, nil, .int .u16 0, .map none]

theorem cl_new (w : World) : Cl (w.alloc (.cells ccells 38)) w.heap.size w.heap.size [] (fun _ => False) := by
  have hh := heap_alloc_new w (.cells ccells 38)
  refine ⟨Nat.le_refl _, fun h => h, .inl ⟨rfl, ?_, ?_, ?_, fun k => by unfold World.frozen?; rw [hh]; simp⟩⟩
  · rw [cell_of_row _ w.heap.size 8 _ 38 (0, 0) hh]; rfl
  · rw [cell_of_row _ w.heap.size 9 _ 38 (0, 0) hh]; rfl
  · rw [cell_of_row _ w.heap.size 10 _ 38 (0, 0) hh]; rfl

/-- The names' row. -/
def Ns (W : World) (B : Nat) (v : Value) (ns : List ByteArray) : Prop := W.ownsRow B 9 1 v ns.length (ns.map Value.string)

/-- THE THREE ROWS: want, names, pool: no two in one block. -/
structure L2 (B : Nat) (W6 : World) (wv nv pv : Value) (ns : List ByteArray) (pb l : List UInt8) (W : World) : Prop where
  wn : WS B W6 wv l W
  nm : Ns W B nv ns
  pl : Bs W B pv pb
  d1 : ∀ k, wv.ownBlock = some k → nv.ownBlock ≠ some k
  d2 : ∀ k, wv.ownBlock = some k → pv.ownBlock ≠ some k
  d3 : ∀ k, nv.ownBlock = some k → pv.ownBlock ≠ some k

section
variable {B : Nat} {W6 W W' : World} {wv nv pv v' : Value} {ns : List ByteArray} {pb l l' : List UInt8}

theorem L2.later (h : L2 B W6 wv nv pv ns pb l W) (hb : Below W.heap.size W W') : L2 B W6 wv nv pv ns pb l W' :=
  ⟨h.wn.later hb, own_same h.nm (fun k hk => hb.block k (World.ownsRow.lt h.nm k hk).2), h.pl.later hb, h.d1, h.d2, h.d3⟩

theorem L2.want (h : L2 B W6 wv nv pv ns pb l W) (ha : App B W W' wv v' l') : L2 B W6 v' nv pv ns pb l' W' := by
  have hn : ∀ k, nv.ownBlock = some k → W'.heap[k]? = W.heap[k]? ∧ v'.ownBlock ≠ some k := fun k hk => ha.other (World.ownsRow.lt h.nm k hk).2 (fun e => h.d1 k e hk)
  have hp : ∀ k, pv.ownBlock = some k → W'.heap[k]? = W.heap[k]? ∧ v'.ownBlock ≠ some k := fun k hk => ha.other (h.pl.lt k hk).2 (fun e => h.d2 k e hk)
  exact ⟨h.wn.app ha, own_same h.nm (fun k hk => (hn k hk).1), h.pl.same (fun k hk => (hp k hk).1), fun k hk e => (hn k e).2 hk, fun k hk e => (hp k e).2 hk, h.d3⟩

theorem L2.pool (h : L2 B W6 wv nv pv ns pb l W) (ha : App B W W' pv v' l') : L2 B W6 wv nv v' ns l' l W' := by
  have hn : ∀ k, nv.ownBlock = some k → W'.heap[k]? = W.heap[k]? ∧ v'.ownBlock ≠ some k := fun k hk => ha.other (World.ownsRow.lt h.nm k hk).2 (fun e => h.d3 k hk e)
  have hw : ∀ k, wv.ownBlock = some k → W'.heap[k]? = W.heap[k]? ∧ v'.ownBlock ≠ some k := fun k hk => ha.other (h.wn.own.lt k hk).2 (fun e => h.d2 k hk e)
  exact ⟨⟨h.wn.own.same (fun k hk => (hw k hk).1), h.wn.low.trans (ha.below h.pl h.wn.bs), Nat.le_trans h.wn.bs ha.size⟩, own_same h.nm (fun k hk => (hn k hk).1), ha.own, h.d1, fun k hk => (hw k hk).2, fun k hk => (hn k hk).2⟩

theorem L2.names (h : L2 B W6 wv nv pv ns pb l W) {g c : Nat} {s : ByteArray} (hg : W.grownBy W' nv.ownBlock) (ho : W'.ownsRow B 9 1 (.slice (some ⟨g, 0, none⟩) (ns.length + 1) c) (ns.length + 1) (ns.map Value.string ++ [.string s])) (hloc : nv.ownBlock = some g ∨ W.heap.size ≤ g) :
    L2 B W6 wv (.slice (some ⟨g, 0, none⟩) (ns.length + 1) c) pv (ns ++ [s]) pb l W' := by
  have oth : ∀ k, k < W.heap.size → nv.ownBlock ≠ some k → W'.heap[k]? = W.heap[k]? ∧ g ≠ k := fun k hk hne => ⟨hg.block k hk (fun e => hne e.symm), by
    rintro rfl
    rcases hloc with e | e
    · exact hne e
    · omega⟩
  have hp : ∀ k, pv.ownBlock = some k → W'.heap[k]? = W.heap[k]? ∧ g ≠ k := fun k hk => oth k (h.pl.lt k hk).2 (fun e => h.d3 k e hk)
  have hw : ∀ k, wv.ownBlock = some k → W'.heap[k]? = W.heap[k]? ∧ g ≠ k := fun k hk => oth k (h.wn.own.lt k hk).2 (fun e => h.d1 k hk e)
  refine ⟨⟨h.wn.own.same (fun k hk => (hw k hk).1), h.wn.low.trans ((Below.refl _ _).grown hg h.wn.bs (fun k hk => (World.ownsRow.lt h.nm k hk).1)), Nat.le_trans h.wn.bs hg.size⟩, ?_, h.pl.same (fun k hk => (hp k hk).1), fun k hk e => ?_, h.d2, fun k hk e => ?_⟩
  · unfold Ns
    rw [List.length_append, List.map_append]
    exact ho
  · simp only [Value.ownBlock, Option.some.injEq] at e
    exact (hw k hk).2 e
  · simp only [Value.ownBlock, Option.some.injEq] at hk
    exact (hp k e).2 hk
end

theorem Ns.shape {W : World} {B : Nat} {v : Value} {ns : List ByteArray} (h : Ns W B v ns) : ∃ a c, v = .slice a ns.length c ∧ ∀ j s, ns[j]? = some s → ∃ g, a = some ⟨g, 0, none⟩ ∧ W.cell? ⟨g, j, none⟩ = some (.string s) := by
  rcases h.2 with ⟨rfl, h0⟩ | ⟨g, cap, cur, rfl, _⟩
  · have : ns = [] := List.eq_nil_of_length_eq_zero h0
    subst this
    exact ⟨none, 0, rfl, fun j s hs => by simp at hs⟩
  · refine ⟨_, cap, rfl, fun j s hs => ⟨g, rfl, ?_⟩⟩
    have := World.ownsRow.cells h (g := g) rfl j (.string s) (by simp [hs])
    rw [Addr.add_lit, Nat.zero_add] at this
    exact this

theorem info9b : (Yba.prog.info? 9).map (fun i => (i.zero, i.size, i.bytes)) = some (some (.string ByteArray.empty), 1, 16) := by kernel_rfl

/-! ### the search -/
theorem pos_found {ns : List ByteArray} {s : ByteArray} {t : Nat} (h1 : t ≤ pos ns s) (h2 : ns[t]? = some s) : pos ns s = t := by
  have hlt : t < ns.length := (List.getElem?_eq_some_iff.1 h2).1
  have he : ns[t] = s := (List.getElem?_eq_some_iff.1 h2).2
  rcases Nat.lt_or_ge t (pos ns s) with h | h
  · have := List.not_of_lt_findIdx (p := fun x => decide (x = s)) (xs := ns) (i := t) h
    simp [he] at this
  · omega

theorem pos_next {ns : List ByteArray} {s r : ByteArray} {t : Nat} (h1 : t ≤ pos ns s) (h2 : ns[t]? = some r) (h3 : r ≠ s) : t + 1 ≤ pos ns s := by
  have hlt : t < ns.length := (List.getElem?_eq_some_iff.1 h2).1
  rcases Nat.lt_or_ge t (pos ns s) with h | h
  · exact h
  · exfalso
    have e : pos ns s = t := by omega
    have hp : pos ns s < ns.length := by omega
    have := List.findIdx_getElem (p := fun x => decide (x = s)) (xs := ns) (w := hp)
    simp only [decide_eq_true_eq] at this
    rw [List.getElem?_eq_getElem hlt] at h2
    have h4 : ns[t] = r := Option.some.inj h2
    apply h3
    rw [← h4, ← this]
    congr 1
    exact e.symm
end Go.Proofs.Ybulkajjc
