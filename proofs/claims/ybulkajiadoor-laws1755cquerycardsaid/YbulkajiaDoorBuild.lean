/-
  zzs1755cbuild.
-/
import Derived.Test.YbulkajiaDoorBuildA
namespace Go.Proofs.YbulkajiaDoor
open Go.RowKit Go.Maps Go.Lib Go.Sort

/-- The input. -/
structure Inp where
  bits : Int
  lf : List UInt8
  lt : List UInt8
  op : Bool
  kin : Value
  orph : Bool
  hasK : Bool
  lk : List UInt8
  ka : ByteArray
  hasB : Bool
  lb : List UInt8
  ba : ByteArray
  u : Nat

structure Inp.Ok (x : Inp) : Prop where
  hf : x.lf.length = 20
  ht : x.lt.length = 20
  hk : x.lk.length = 20
  hb : x.lb.length = 20
  hu : x.u < 18446744073709551616

def Inp.cells (x : Inp) : Array Value :=
  ([Value.int .u8 x.bits] ++ bv x.lf ++ bv x.lt ++ [Value.bool x.op, x.kin, Value.bool x.orph, Value.bool x.hasK] ++ bv x.lk ++ [Value.string x.ka, Value.bool x.hasB] ++ bv x.lb ++ [Value.string x.ba, Value.int .u64 x.u]).toArray

/-- The input lies in block b. -/
structure Inp.At (x : Inp) (b : Nat) (w : World) : Prop where
  bits : w.cell? ⟨b, 0, none⟩ = some (.int .u8 x.bits)
  lf : w.rangeAt b 1 (bv x.lf)
  lt : w.rangeAt b 21 (bv x.lt)
  op : w.cell? ⟨b, 41, none⟩ = some (.bool x.op)
  kin : w.cell? ⟨b, 42, none⟩ = some x.kin
  orph : w.cell? ⟨b, 43, none⟩ = some (.bool x.orph)
  hasK : w.cell? ⟨b, 44, none⟩ = some (.bool x.hasK)
  lk : w.rangeAt b 45 (bv x.lk)
  ka : w.cell? ⟨b, 65, none⟩ = some (.string x.ka)
  hasB : w.cell? ⟨b, 66, none⟩ = some (.bool x.hasB)
  lb : w.rangeAt b 67 (bv x.lb)
  ba : w.cell? ⟨b, 87, none⟩ = some (.string x.ba)
  u : w.cell? ⟨b, 88, none⟩ = some (.int .u64 x.u)

theorem Inp.At.below {x : Inp} {b B : Nat} {w w' : World} (h : x.At b w) (hb : Below B w w') (hB : b < B) : x.At b w' :=
  ⟨(hb.cell (p := ⟨b, 0, none⟩) hB).trans h.bits, fun j v hv => (hb.cell (p := ⟨b, 1 + j, none⟩) hB).trans (h.lf j v hv), fun j v hv => (hb.cell (p := ⟨b, 21 + j, none⟩) hB).trans (h.lt j v hv),
   (hb.cell (p := ⟨b, 41, none⟩) hB).trans h.op, (hb.cell (p := ⟨b, 42, none⟩) hB).trans h.kin, (hb.cell (p := ⟨b, 43, none⟩) hB).trans h.orph, (hb.cell (p := ⟨b, 44, none⟩) hB).trans h.hasK,
   fun j v hv => (hb.cell (p := ⟨b, 45 + j, none⟩) hB).trans (h.lk j v hv), (hb.cell (p := ⟨b, 65, none⟩) hB).trans h.ka, (hb.cell (p := ⟨b, 66, none⟩) hB).trans h.hasB,
   fun j v hv => (hb.cell (p := ⟨b, 67 + j, none⟩) hB).trans (h.lb j v hv), (hb.cell (p := ⟨b, 87, none⟩) hB).trans h.ba, (hb.cell (p := ⟨b, 88, none⟩) hB).trans h.u⟩

theorem range_part (w : World) (cs : Array Value) (t : TypeId) (pre l post : List Value) (n : Nat) (hn : pre.length = n) (e : cs = (pre ++ l ++ post).toArray) : (w.alloc (.cells cs t)).rangeAt w.heap.size n l := by
  subst hn; subst e; exact range_new w pre l post t
theorem cell_part (w : World) (cs : Array Value) (t : TypeId) (pre : List Value) (v : Value) (post : List Value) (n : Nat) (hn : pre.length = n) (e : cs = (pre ++ [v] ++ post).toArray) : (w.alloc (.cells cs t)).cell? ⟨w.heap.size, n, none⟩ = some v := by
  subst hn; subst e
  have := range_new w pre [v] post t 0 v rfl
  rw [Nat.add_zero] at this
  exact this

theorem Inp.At.new (x : Inp) (ok : x.Ok) (w : World) (t : TypeId) : x.At w.heap.size (w.alloc (.cells x.cells t)) := by
  have l1 : (bv x.lf).length = 20 := by rw [bv_length, ok.hf]
  have l2 : (bv x.lt).length = 20 := by rw [bv_length, ok.ht]
  have l3 : (bv x.lk).length = 20 := by rw [bv_length, ok.hk]
  have l4 : (bv x.lb).length = 20 := by rw [bv_length, ok.hb]
  constructor
  · exact cell_part w _ t [] _ (bv x.lf ++ bv x.lt ++ [Value.bool x.op, x.kin, Value.bool x.orph, Value.bool x.hasK] ++ bv x.lk ++ [Value.string x.ka, Value.bool x.hasB] ++ bv x.lb ++ [Value.string x.ba, Value.int .u64 x.u]) 0 rfl (by simp [Inp.cells])
  · exact range_part w _ t [Value.int .u8 x.bits] _ (bv x.lt ++ [Value.bool x.op, x.kin, Value.bool x.orph, Value.bool x.hasK] ++ bv x.lk ++ [Value.string x.ka, Value.bool x.hasB] ++ bv x.lb ++ [Value.string x.ba, Value.int .u64 x.u]) 1 rfl (by simp [Inp.cells])
  · exact range_part w _ t ([Value.int .u8 x.bits] ++ bv x.lf) _ ([Value.bool x.op, x.kin, Value.bool x.orph, Value.bool x.hasK] ++ bv x.lk ++ [Value.string x.ka, Value.bool x.hasB] ++ bv x.lb ++ [Value.string x.ba, Value.int .u64 x.u]) 21 (by simp [l1]) (by simp [Inp.cells])
  · exact cell_part w _ t ([Value.int .u8 x.bits] ++ bv x.lf ++ bv x.lt) _ ([x.kin, Value.bool x.orph, Value.bool x.hasK] ++ bv x.lk ++ [Value.string x.ka, Value.bool x.hasB] ++ bv x.lb ++ [Value.string x.ba, Value.int .u64 x.u]) 41 (by simp [l1, l2]) (by simp [Inp.cells])
  · exact cell_part w _ t ([Value.int .u8 x.bits] ++ bv x.lf ++ bv x.lt ++ [Value.bool x.op]) _ ([Value.bool x.orph, Value.bool x.hasK] ++ bv x.lk ++ [Value.string x.ka, Value.bool x.hasB] ++ bv x.lb ++ [Value.string x.ba, Value.int .u64 x.u]) 42 (by simp [l1, l2]) (by simp [Inp.cells])
  · exact cell_part w _ t ([Value.int .u8 x.bits] ++ bv x.lf ++ bv x.lt ++ [Value.bool x.op, x.kin]) _ ([Value.bool x.hasK] ++ bv x.lk ++ [Value.string x.ka, Value.bool x.hasB] ++ bv x.lb ++ [Value.string x.ba, Value.int .u64 x.u]) 43 (by simp [l1, l2]) (by simp [Inp.cells])
  · exact cell_part w _ t ([Value.int .u8 x.bits] ++ bv x.lf ++ bv x.lt ++ [Value.bool x.op, x.kin, Value.bool x.orph]) _ (bv x.lk ++ [Value.string x.ka, Value.bool x.hasB] ++ bv x.lb ++ [Value.string x.ba, Value.int .u64 x.u]) 44 (by simp [l1, l2]) (by simp [Inp.cells])
  · exact range_part w _ t ([Value.int .u8 x.bits] ++ bv x.lf ++ bv x.lt ++ [Value.bool x.op, x.kin, Value.bool x.orph, Value.bool x.hasK]) _ ([Value.string x.ka, Value.bool x.hasB] ++ bv x.lb ++ [Value.string x.ba, Value.int .u64 x.u]) 45 (by simp [l1, l2]) (by simp [Inp.cells])
  · exact cell_part w _ t ([Value.int .u8 x.bits] ++ bv x.lf ++ bv x.lt ++ [Value.bool x.op, x.kin, Value.bool x.orph, Value.bool x.hasK] ++ bv x.lk) _ ([Value.bool x.hasB] ++ bv x.lb ++ [Value.string x.ba, Value.int .u64 x.u]) 65 (by simp [l1, l2, l3]) (by simp [Inp.cells])
  · exact cell_part w _ t ([Value.int .u8 x.bits] ++ bv x.lf ++ bv x.lt ++ [Value.bool x.op, x.kin, Value.bool x.orph, Value.bool x.hasK] ++ bv x.lk ++ [Value.string x.ka]) _ (bv x.lb ++ [Value.string x.ba, Value.int .u64 x.u]) 66 (by simp [l1, l2, l3]) (by simp [Inp.cells])
  · exact range_part w _ t ([Value.int .u8 x.bits] ++ bv x.lf ++ bv x.lt ++ [Value.bool x.op, x.kin, Value.bool x.orph, Value.bool x.hasK] ++ bv x.lk ++ [Value.string x.ka, Value.bool x.hasB]) _ [Value.string x.ba, Value.int .u64 x.u] 67 (by simp [l1, l2, l3]) (by simp [Inp.cells])
  · exact cell_part w _ t ([Value.int .u8 x.bits] ++ bv x.lf ++ bv x.lt ++ [Value.bool x.op, x.kin, Value.bool x.orph, Value.bool x.hasK] ++ bv x.lk ++ [Value.string x.ka, Value.bool x.hasB] ++ bv x.lb) _ [Value.int .u64 x.u] 87 (by simp [l1, l2, l3, l4]) (by simp [Inp.cells])
  · exact cell_part w _ t ([Value.int .u8 x.bits] ++ bv x.lf ++ bv x.lt ++ [Value.bool x.op, x.kin, Value.bool x.orph, Value.bool x.hasK] ++ bv x.lk ++ [Value.string x.ka, Value.bool x.hasB] ++ bv x.lb ++ [Value.string x.ba]) _ [] 88 (by simp [l1, l2, l3, l4]) (by simp [Inp.cells])

theorem heap_new_at (w : World) (o : Obj) (n : Nat) (h : n = w.heap.size) : (w.alloc o).heap[n]? = some o := by subst h; exact heap_alloc_new w o

/-- The identifiers' cells, one behind the other. -/
def flat (ks : List (List UInt8)) : List Value := ks.flatMap bv

theorem flat_snoc (ks : List (List UInt8)) (j : Nat) (l : List UInt8) (h : ks[j]? = some l) : flat (ks.take (j + 1)) = flat (ks.take j) ++ bv l := by
  have hj : j < ks.length := (List.getElem?_eq_some_iff.1 h).1
  have e : ks[j] = l := by rw [List.getElem?_eq_getElem hj] at h; exact Option.some.inj h
  unfold flat
  rw [List.take_succ_eq_append_getElem hj, List.flatMap_append, e]
  simp

theorem flat_at (ks : List (List UInt8)) (h : ∀ l ∈ ks, l.length = 20) : ∀ (j : Nat) (l : List UInt8), ks[j]? = some l → ∀ (i : Nat) (v : Value), (bv l)[i]? = some v → (flat ks)[j * 20 + i]? = some v := by
  induction ks with
  | nil => intro j l hj; simp at hj
  | cons a r ih =>
    intro j l hj i v hv
    have h1 : (bv a).length = 20 := by rw [bv_length]; exact h a (by simp)
    have hi : i < (bv l).length := (List.getElem?_eq_some_iff.1 hv).1
    unfold flat
    rw [List.flatMap_cons]
    cases j with
    | zero =>
      have e : a = l := by simpa using hj
      subst e
      rw [Nat.zero_mul, Nat.zero_add, List.getElem?_append_left hi]
      exact hv
    | succ j =>
      rw [List.getElem?_append_right (by omega)]
      rw [show (j + 1) * 20 + i - (bv a).length = j * 20 + i from by omega]
      exact ih (fun l hl => h l (by simp [hl])) j l (by simpa using hj) i v hv

/-- The slice that came in: its elements lie in memory. -/
def KIn (ka : Option Addr) (ks : List (List UInt8)) (w : World) : Prop := ∀ j l, ks[j]? = some l → l.length = 20 ∧ ∃ kb ko, ka = some ⟨kb, ko, none⟩ ∧ w.rangeAt kb (ko + j * 20) (bv l) ∧ kb < w.heap.size

theorem kept_of_row {w : World} {base g cap : Nat} {ks : List (List UInt8)} (hk : ∀ l ∈ ks, l.length = 20) (h : w.ownsRow base 30 20 (.slice (some ⟨g, 0, none⟩) ks.length cap) ks.length (flat ks)) : KeptAt g ks w := by
  refine ⟨(h.lt g rfl).2, fun j l hj => ⟨hk l (List.mem_of_getElem? hj), fun i v hv => ?_⟩⟩
  have hcell := h.cells (g := g) rfl (j * 20 + i) v (flat_at ks hk j l hj i v hv)
  rw [Addr.add_mid, Nat.zero_add] at hcell
  exact hcell

def z20 : Array Value := #[.int .u8 0, .int .u8 0, .int .u8 0, .int .u8 0, .int .u8 0, .int .u8 0, .int .u8 0, .int .u8 0, .int .u8 0, .int .u8 0, .int .u8 0, .int .u8 0, .int .u8 0, .int .u8 0, .int .u8 0, .int .u8 0, .int .u8 0, .int .u8 0, .int .u8 0, .int .u8 0]

theorem info30z : (Ybad.prog.info? 30).map (fun i => (i.zero, i.size, i.bytes)) = some (some (.agg z20), 20, 20) := by kernel_rfl

theorem info_three {P : Program} {e : TypeId} {z : Value} {s b : Nat} (h : (P.info? e).map (fun i => (i.zero, i.size, i.bytes)) = some (some z, s, b)) : ∃ i, P.info? e = some i ∧ i.zero = some z ∧ i.size = s ∧ i.bytes = b := by
  cases hq : P.info? e with
  | none => simp [hq] at h
  | some i => simp [hq] at h; exact ⟨i, rfl, h⟩

theorem make34 (n : Nat) (hn : n ≤ 1024) (w : World) : (Instr.makeSlice 34 (.int .i64 0) (.int .i64 (n : Int))).run Ybad.prog w = .ok (.slice (some ⟨w.heap.size, 0, none⟩) 0 n) (w.alloc (.cells (madeCells z20 (n * 20)) 30)) := by
  obtain ⟨i0, hi, hz0, hz1, hz2⟩ := info_three info30z
  have := run_make (P := Ybad.prog) w 34 30 i0 _ Ybad.underlying34 hi hz0 .i64 .i64 0 (n : Int) (by omega) (by omega) (by rw [hz2]; omega) (by omega)
  rw [Int.toNat_natCast, hz1] at this
  exact this

theorem peer_size (l : List UInt8) (hl : l.length = 20) (a : ByteArray) : (peerCells l a).size = 21 := by
  unfold peerCells; simp [bv_length, hl]
theorem peer_one (l : List UInt8) (a : ByteArray) : (peerCells l a).all (·.oneCell') = true := by
  unfold peerCells
  apply all_oneCell_toArray
  intro v hv
  rcases List.mem_append.1 hv with hv | hv
  · obtain ⟨b, _, rfl⟩ := List.mem_map.1 hv; rfl
  · simp at hv; subst hv; rfl

/-- A node that may be named, laid by the call. -/
def NodeIs (has : Bool) (l : List UInt8) (a : ByteArray) (p : Node) (w : World) : Prop := (has = false ∧ p = none) ∨ (has = true ∧ ∃ pb, p = some (pb, l, a) ∧ w.heap[pb]? = some (.cells (peerCells l a) 51))

theorem NodeIs.lies {has : Bool} {l : List UInt8} {a : ByteArray} {p : Node} {w : World} (h : NodeIs has l a p w) (hl : l.length = 20) : NodeAt p w := by
  rcases h with ⟨_, rfl⟩ | ⟨_, pb, rfl, hh⟩
  · trivial
  · refine ⟨hl, fun i v hv => ?_, (Array.getElem?_eq_some_iff.1 hh).1⟩
    rw [Nat.zero_add, cell_of_row w pb i _ 51 (0, 0) hh]
    unfold peerCells
    rw [List.getElem?_toArray]; exact hv

theorem NodeIs.grown {has : Bool} {l : List UInt8} {a : ByteArray} {p : Node} {w w' : World} {b : Nat} {c : Array Value} (h : NodeIs has l a p w) (hg : w.grownBy w' (some b)) (hb : w.heap[b]? = some (.cells c 36)) : NodeIs has l a p w' := by
  rcases h with h | ⟨h1, pb, e, hh⟩
  · exact .inl h
  · refine .inr ⟨h1, pb, e, ?_⟩
    rw [hg.block pb (Array.getElem?_eq_some_iff.1 hh).1 ?_]
    · exact hh
    · intro e2
      cases e2
      rw [hb] at hh
      cases hh

theorem NodeIs.later {has : Bool} {l : List UInt8} {a : ByteArray} {p : Node} {w w' : World} (h : NodeIs has l a p w) (hb : Below w.heap.size w w') : NodeIs has l a p w' := by
  rcases h with h | ⟨h1, pb, e, hh⟩
  · exact .inl h
  · exact .inr ⟨h1, pb, e, by rw [hb.block pb (Array.getElem?_eq_some_iff.1 hh).1]; exact hh⟩

theorem KeptAt.grown {g b : Nat} {ks : List (List UInt8)} {w w' : World} (h : KeptAt g ks w) (hg : w.grownBy w' (some b)) (hne : g ≠ b) : KeptAt g ks w' :=
  ⟨Nat.lt_of_lt_of_le h.1 hg.size, fun j l hj => ⟨(h.2 j l hj).1, fun i v hv => (World.cell?_of_block (w := w) (a := ⟨g, j * 20 + i, none⟩) (hg.block g h.1 (by simpa using hne))).trans ((h.2 j l hj).2 i v hv)⟩⟩

theorem KeptAt.later {g : Nat} {ks : List (List UInt8)} {w w' : World} (h : KeptAt g ks w) (hb : Below w.heap.size w w') : KeptAt g ks w' :=
  ⟨Nat.lt_of_lt_of_le h.1 hb.size, fun j l hj => ⟨(h.2 j l hj).1, fun i v hv => (hb.cell (p := ⟨g, j * 20 + i, none⟩) h.1).trans ((h.2 j l hj).2 i v hv)⟩⟩

/-- A cell of a block that is known whole, stored anew. -/
theorem set_in_block (w : World) (b i : Nat) (c : Array Value) (t : TypeId) (v : Value) (h : w.heap[b]? = some (.cells c t)) : (w.setCell ⟨b, i, none⟩ v).heap[b]? = some (.cells (c.setIfInBounds i v) t) ∧ w.grownBy (w.setCell ⟨b, i, none⟩ v) (some b) :=
  ⟨heap_setCell_same w b i c t v h, ⟨rfl, rfl, rfl, by simp, fun k _ hk => heap_setCell_other w ⟨b, i, none⟩ k v (fun e => hk (by simp [e]))⟩⟩


theorem app34 (ks : List (List UInt8)) (hn : ks.length ≤ 1024) (j : Nat) (l : List UInt8) (hl : ks[j]? = some l) (hl20 : l.length = 20) (base : Nat) (v : Value) (w : World) (hb : base ≤ w.heap.size)
    (h : w.ownsRow base 30 20 v j (flat (ks.take j))) (hv : v ≠ .slice none 0 0) :
    ∃ v' w', (Builtin.append_ #[34, 34] 34 #[v, .slice (some ⟨w.heap.size, 0, none⟩) 1 1]).run Ybad.prog (w.alloc (.cells (bv l).toArray 30)) = .ok v' w' ∧
      w'.ownsRow base 30 20 v' (j + 1) (flat (ks.take (j + 1))) ∧ v' ≠ .slice none 0 0 ∧ Below base w w' := by
  obtain ⟨i0, hi, hz0, hz1, hz2⟩ := info_three info30z
  have hj : j < ks.length := (List.getElem?_eq_some_iff.1 hl).1
  have hr : (w.alloc (.cells (bv l).toArray 30)).rangeAt w.heap.size 0 (bv l) := by have := range_new w [] (bv l) [] 30; rw [List.nil_append, List.append_nil] at this; exact this
  obtain ⟨v', w', h1, h2, h3, h4⟩ := run_append_own (P := Ybad.prog) (w.alloc (.cells (bv l).toArray 30)) base 34 34 30 i0 _ 20 20 Ybad.underlying34 hi hz0 hz1 hz2 rfl (by decide) v j _ (h.alloc _)
    ⟨w.heap.size, 0, none⟩ 1 1 (bv l) (by rw [bv_length, hl20]) (fun i u hu => by rw [Addr.add_mid]; exact hr i u hu) (fun u hu => by obtain ⟨b, _, rfl⟩ := List.mem_map.1 hu; rfl) (by unfold maxLen; omega) (by omega) (by simp; omega)
  rw [← flat_snoc ks j l hl] at h2
  refine ⟨v', w', h1, h2, fun e => hv (h4.1 e).1, ((Below.refl _ _).alloc hb _).grown h3 (by simp; omega) (fun k hk => (h.lt k hk).1)⟩

theorem row_form {w : World} {base n : Nat} {v : Value} {xs : List Value} (h : w.ownsRow base 30 20 v n xs) (hv : v ≠ .slice none 0 0) : ∃ g cap, v = .slice (some ⟨g, 0, none⟩) n cap ∧ base ≤ g := by
  obtain ⟨_, h | ⟨g, cap, cur, e, hg, _⟩⟩ := h
  · exact (hv h.1).elim
  · exact ⟨g, cap, e, hg⟩

/-- The Handover's variable and what it names. -/
def HovIs (x : Inp) (hb g cap : Nat) (ks : List (List UInt8)) (ko bo : Node) (w : World) : Prop :=
  w.heap[hb]? = some (.cells (hovCells x.lf x.op x.lt ko.value bo.value x.orph (.slice (some ⟨g, 0, none⟩) ks.length cap) x.u) 36) ∧ KeptAt g ks w

theorem HovIs.later {x : Inp} {hb g cap : Nat} {ks : List (List UInt8)} {ko bo : Node} {w w' : World} (h : HovIs x hb g cap ks ko bo w) (hw : Below w.heap.size w w') : HovIs x hb g cap ks ko bo w' :=
  ⟨by rw [hw.block hb (Array.getElem?_eq_some_iff.1 h.1).1]; exact h.1, h.2.later hw⟩

theorem HovIs.keeper {x : Inp} (ok : x.Ok) {hb g cap : Nat} {ks : List (List UInt8)} {ko bo : Node} {w : World} (h : HovIs x hb g cap ks ko bo w) (hne : g ≠ hb) (k : Node) :
    HovIs x hb g cap ks k bo (w.setCell ⟨hb, 41, none⟩ k.value) ∧ w.grownBy (w.setCell ⟨hb, 41, none⟩ k.value) (some hb) := by
  obtain ⟨h1, h2⟩ := set_in_block w hb 41 _ 36 k.value h.1
  rw [hov_keeper x.lf x.lt ok.hf ok.ht] at h1
  exact ⟨⟨h1, h.2.grown h2 hne⟩, h2⟩

theorem HovIs.before {x : Inp} (ok : x.Ok) {hb g cap : Nat} {ks : List (List UInt8)} {ko bo : Node} {w : World} (h : HovIs x hb g cap ks ko bo w) (hne : g ≠ hb) (k : Node) :
    HovIs x hb g cap ks ko k (w.setCell ⟨hb, 42, none⟩ k.value) ∧ w.grownBy (w.setCell ⟨hb, 42, none⟩ k.value) (some hb) := by
  obtain ⟨h1, h2⟩ := set_in_block w hb 42 _ 36 k.value h.1
  rw [hov_before x.lf x.lt ok.hf ok.ht] at h1
  exact ⟨⟨h1, h.2.grown h2 hne⟩, h2⟩

theorem wpList_bslice {P : Program} {w : World} {ops : Array Oper} {rest : List Oper} {o : Oper} {a : Act} {Q : Exit → Act → World → Prop} (hgd : o.guard = none) (t : TypeId) (n : Nat) (y : Operand)
    (ho : o.op = .buildSlice t n #[(0, y)]) (v : Value) (hy : a.eval y = v) {v' : Value} {w' : World} (hr : (Instr.buildSlice t n #[(0, v)]).run P w = .ok v' w') (h : wpList P ops Q rest (a.put o.dst v') w') : wpList P ops Q (o :: rest) a w := by
  refine wpList_plain hgd fun K hK => ?_
  unfold Oper.wp execOp
  simp only [ho, Sem.run_bind, Sem.run_pure, List.map_toArray, List.map_cons, List.map_nil, hy, hr, Result.andThen_ok]
  exact hK _ _ h

theorem keeper_stored {x : Inp} (ok : x.Ok) {hb g cap B pg : Nat} {ks : List (List UInt8)} {W0 W1 w' : World} (HV : HovIs x hb g cap ks none none W1) (hne : g ≠ hb) (hpb : Below W1.heap.size W1 w') (hpg : W1.heap.size ≤ pg)
    (hph : w'.heap[pg]? = some (.cells (peerCells x.lk x.ka) 51)) (hB : Below B W0 W1) (hB1 : B ≤ hb) (hB2 : B ≤ W1.heap.size) :
    w'.cell? ⟨hb, 41, none⟩ = some (.pointer none) ∧ w'.frozen? ⟨hb, 41, none⟩ = false ∧
      HovIs x hb g cap ks (some (pg, x.lk, x.ka)) none (w'.setCell ⟨hb, 41, none⟩ (.pointer (some ⟨pg, 0, none⟩))) ∧ NodeIs true x.lk x.ka (some (pg, x.lk, x.ka)) (w'.setCell ⟨hb, 41, none⟩ (.pointer (some ⟨pg, 0, none⟩))) ∧
      Below B W0 (w'.setCell ⟨hb, 41, none⟩ (.pointer (some ⟨pg, 0, none⟩))) := by
  have hlt : hb < W1.heap.size := (Array.getElem?_eq_some_iff.1 HV.1).1
  have H2 := HV.later hpb
  have hc := cell_of_row w' hb 41 _ 36 (0, 0) H2.1
  rw [hov_at41 x.lf x.lt ok.hf ok.ht] at hc
  obtain ⟨h1, h2⟩ := H2.keeper ok hne (some (pg, x.lk, x.ka))
  refine ⟨hc, frozen_of_row w' hb 41 _ 36 H2.1, h1, .inr ⟨rfl, pg, rfl, ?_⟩, (hB.trans (hpb.mono hB2)).grown h2 (Nat.le_trans hB2 hpb.size) (fun k hk => by cases hk; exact hB1)⟩
  exact (h2.block pg (Array.getElem?_eq_some_iff.1 hph).1 (by simp; omega)).trans hph

theorem before_stored {x : Inp} (ok : x.Ok) {hb g cap B pg : Nat} {ks : List (List UInt8)} {ko : Node} {W0 W1 w' : World} (HV : HovIs x hb g cap ks ko none W1) (hK : NodeIs x.hasK x.lk x.ka ko W1) (hne : g ≠ hb) (hpb : Below W1.heap.size W1 w') (hpg : W1.heap.size ≤ pg)
    (hph : w'.heap[pg]? = some (.cells (peerCells x.lb x.ba) 51)) (hB : Below B W0 W1) (hB1 : B ≤ hb) (hB2 : B ≤ W1.heap.size) :
    w'.cell? ⟨hb, 42, none⟩ = some (.pointer none) ∧ w'.frozen? ⟨hb, 42, none⟩ = false ∧
      HovIs x hb g cap ks ko (some (pg, x.lb, x.ba)) (w'.setCell ⟨hb, 42, none⟩ (.pointer (some ⟨pg, 0, none⟩))) ∧ NodeIs x.hasK x.lk x.ka ko (w'.setCell ⟨hb, 42, none⟩ (.pointer (some ⟨pg, 0, none⟩))) ∧
      NodeIs true x.lb x.ba (some (pg, x.lb, x.ba)) (w'.setCell ⟨hb, 42, none⟩ (.pointer (some ⟨pg, 0, none⟩))) ∧
      Below B W0 (w'.setCell ⟨hb, 42, none⟩ (.pointer (some ⟨pg, 0, none⟩))) := by
  have hlt : hb < W1.heap.size := (Array.getElem?_eq_some_iff.1 HV.1).1
  have H2 := HV.later hpb
  have hc := cell_of_row w' hb 42 _ 36 (0, 0) H2.1
  rw [hov_at42 x.lf x.lt ok.hf ok.ht] at hc
  obtain ⟨h1, h2⟩ := H2.before ok hne (some (pg, x.lb, x.ba))
  refine ⟨hc, frozen_of_row w' hb 42 _ 36 H2.1, h1, (hK.later hpb).grown h2 H2.1, .inr ⟨rfl, pg, rfl, ?_⟩, (hB.trans (hpb.mono hB2)).grown h2 (Nat.le_trans hB2 hpb.size) (fun k hk => by cases hk; exact hB1)⟩
  exact (h2.block pg (Array.getElem?_eq_some_iff.1 hph).1 (by simp; omega)).trans hph

/-- The result's variable is filled. -/
theorem hov_returned {x : Inp} {hb g cap B rb : Nat} {ks : List (List UInt8)} {ko bo : Node} {W0 w : World} {cs : List Value} (HV : HovIs x hb g cap ks ko bo w) (hK : NodeIs x.hasK x.lk x.ka ko w) (hB : NodeIs x.hasB x.lb x.ba bo w)
    (hne : g ≠ rb) (z : Array Value) (hr : w.heap[rb]? = some (.cells z 36)) (hb0 : Below B W0 w) (hrb : B ≤ rb) (hbs : B ≤ w.heap.size) :
    (w.setRow rb cs.toArray).rangeAt rb 0 cs ∧ KeptAt g ks (w.setRow rb cs.toArray) ∧ NodeIs x.hasK x.lk x.ka ko (w.setRow rb cs.toArray) ∧ NodeIs x.hasB x.lb x.ba bo (w.setRow rb cs.toArray) ∧ Below B W0 (w.setRow rb cs.toArray) := by
  have hgr : w.grownBy (w.setRow rb cs.toArray) (some rb) := ⟨rfl, rfl, rfl, by simp, fun k _ hk => setRow_other w rb k _ (fun e => hk (by simp [e]))⟩
  have hh := setRow_heap w rb z cs.toArray 36 _ hr
  refine ⟨fun i v hv => ?_, HV.2.grown hgr hne, hK.grown hgr hr, hB.grown hgr hr, hb0.grown hgr hbs (fun k hk => by cases hk; exact hrb)⟩
  rw [Nat.zero_add, cell_of_row _ rb i _ 36 (0, 0) hh, List.getElem?_toArray]
  exact hv

theorem wp_build2 {P : Program} {op : Oper} {a : Act} {w : World} {K : Act → World → Prop} {Q : Exit → Act → World → Prop} (t : TypeId) (y z : Operand) (ho : op.op = .build t #[(0, y), (1, z)]) (u v : Value)
    (hy : a.eval y = u) (hz : a.eval z = v) (r : Value) (hr : (Instr.build t #[(0, u), (1, v)]).run P w = .ok r w) (h : K (a.put op.dst r) w) : op.wp P a w K Q := by
  unfold Oper.wp execOp
  simp only [ho, Sem.run_bind, Sem.run_pure, List.map_toArray, List.map_cons, List.map_nil, hy, hz, hr, Result.andThen_ok]
  exact h

theorem wp_build4 {P : Program} {op : Oper} {a : Act} {w : World} {K : Act → World → Prop} {Q : Exit → Act → World → Prop} (t : TypeId) (i0 i1 i2 i3 : Nat) (y0 y1 y2 y3 : Operand) (ho : op.op = .build t #[(i0, y0), (i1, y1), (i2, y2), (i3, y3)]) (u0 u1 u2 u3 : Value)
    (h0 : a.eval y0 = u0) (h1 : a.eval y1 = u1) (h2 : a.eval y2 = u2) (h3 : a.eval y3 = u3) (r : Value) (hr : (Instr.build t #[(i0, u0), (i1, u1), (i2, u2), (i3, u3)]).run P w = .ok r w) (h : K (a.put op.dst r) w) : op.wp P a w K Q := by
  unfold Oper.wp execOp
  simp only [ho, Sem.run_bind, Sem.run_pure, List.map_toArray, List.map_cons, List.map_nil, h0, h1, h2, h3, hr, Result.andThen_ok]
  exact h
set_option maxHeartbeats 4000000 in
set_option maxRecDepth 100000 in
theorem build_any (x : Inp) (ok : x.Ok) (m : Int) (ka : Option Addr) (kc : Nat) (ks : List (List UInt8)) (hkin : x.kin = .slice ka ks.length kc) (hn : ks.length ≤ 1024) (w : World) (hks : KIn ka ks w) :
    Calls Ybad.prog 4 #[.agg x.cells, .int .i64 m, .bool false, .bool true] w fun e w' => ∃ (g cap : Nat) (ko bo : Node), e = .returned (.agg (hovCells x.lf x.op x.lt ko.value bo.value x.orph (.slice (some ⟨g, 0, none⟩) ks.length cap) x.u)) ∧
      KeptAt g ks w' ∧ NodeIs x.hasK x.lk x.ka ko w' ∧ NodeIs x.hasB x.lb x.ba bo w' ∧ Below w.heap.size w w' := by
  have HKIN : Hid (x.kin = .slice ka ks.length kc) := hkin
  have HKS : Hid (KIn ka ks w) := hks
  have H20 : Hid (∀ l ∈ ks, l.length = 20) := fun l hl => by
    obtain ⟨j, hj⟩ := List.getElem?_of_mem hl
    exact (hks j l hj).1
  clear hkin hks
  go_enter Ybad.func4, Ybad.ntmps4
  go_wp2
  generalize hW0 : (((w.alloc (.cells x.cells 26)).alloc (.cells #[.int .i64 m] 3)).alloc (.cells #[.bool false] 4)).alloc _ = W0
  have hX : x.At w.heap.size W0 := by
    rw [← hW0]
    exact (((Inp.At.new x ok w 26).below ((Below.refl _ _).alloc (Nat.le_refl _) _) (by simp)).below ((Below.refl _ _).alloc (Nat.le_refl _) _) (by simp; omega)).below ((Below.refl _ _).alloc (Nat.le_refl _) _) (by simp; omega)
  have hM : W0.cell? ⟨w.heap.size + 1 + 1, 0, none⟩ = some (.bool false) := by rw [← hW0]; simp [go_sem]
  have hR : ∃ z : Array Value, W0.heap[w.heap.size + 1 + 1 + 1]? = some (.cells z 36) ∧ z.size = 46 := by
    rw [← hW0]
    exact ⟨_, heap_new_at _ _ _ (by simp), rfl⟩
  have hS : W0.heap.size = w.heap.size + 1 + 1 + 1 + 1 := by rw [← hW0]; simp
  have hBl : Below w.heap.size w W0 := by
    rw [← hW0]; exact ((((Below.refl _ _).alloc (Nat.le_refl _) _).alloc (by simp) _).alloc (by simp; omega) _).alloc (by simp; omega) _
  clear hW0
  have HBL : Hid (Below w.heap.size w W0) := hBl
  clear hBl
  have hrb0 : w.heap.size ≤ w.heap.size + 1 + 1 + 1 := by omega
  generalize hrb : w.heap.size + 1 + 1 + 1 = rb at hR hS hrb0 ⊢
  generalize hmb : w.heap.size + 1 + 1 = mb at hM hrb ⊢
  generalize hmp : Value.pointer (some ⟨w.heap.size + 1, 0, none⟩) = mp
  obtain ⟨ib, hib⟩ : ∃ ib, ib = w.heap.size := ⟨_, rfl⟩
  rw [← hib] at hX ⊢
  have hlt : ib < W0.heap.size ∧ mb < W0.heap.size ∧ rb < W0.heap.size := by omega
  have HX : Hid (x.At ib W0) := hX
  have HM : Hid (W0.cell? ⟨mb, 0, none⟩ = some (.bool false)) := hM
  have HR : Hid (∃ z : Array Value, W0.heap[rb]? = some (.cells z 36) ∧ z.size = 46) := hR
  obtain ⟨l1, l2, l3⟩ := hlt
  have HWS : Hid (w.heap.size ≤ rb ∧ w.heap.size ≤ W0.heap.size) := ⟨hrb0, by omega⟩
  clear hX hM hR hib hmb hrb hmp hS hrb0
  go_cut [10] (fun q w' => ∃ hb, q = .pointer (some ⟨hb, 0, none⟩) ∧ W0.heap.size ≤ hb ∧ w'.heap[hb]? = some (.cells (hovCells x.lf x.op x.lt (.pointer none) (.pointer none) x.orph (.slice none 0 0) x.u) 36) ∧ Below W0.heap.size W0 w')
  case first =>
    refine wp_region_inv (by kernel_rfl) (by kernel_rfl) (fun a0 ls a w' => ls.size = 18 ∧ ∃ v10 v17 v18 v19 v20 v21 v22 v23 v24 v25 v26 v27 v28 v29 v30 v31 v32, a = (((((((((((((((((a0.put (some 10) v10).put (some 17) v17).put (some 18) v18).put (some 19) v19).put (some 20) v20).put (some 21) v21).put (some 22) v22).put (some 23) v23).put (some 24) v24).put (some 25) v25).put (some 26) v26).put (some 27) v27).put (some 28) v28).put (some 29) v29).put (some 30) v30).put (some 31) v31).put (some 32) v32) ∧ ((On ls 0 → v17 = .func (.func 10) #[] #[.pointer (some ⟨mb, 0, none⟩), mp]) ∧ (On ls 1 → v18 = .pointer (some ⟨ib, 1, none⟩)) ∧ (On ls 2 → v19 = .agg (bv x.lf).toArray) ∧ (On ls 3 → v20 = .agg (bv x.lf).toArray) ∧ (On ls 4 → v21 = .pointer (some ⟨ib, 41, none⟩)) ∧ (On ls 5 → v22 = .bool x.op) ∧ (On ls 6 → v23 = .agg (arcCells x.lf x.op)) ∧ (On ls 7 → v24 = .func (.func 10) #[] #[.pointer (some ⟨mb, 0, none⟩), mp]) ∧ (On ls 8 → v25 = .pointer (some ⟨ib, 21, none⟩)) ∧ (On ls 9 → v26 = .agg (bv x.lt).toArray) ∧ (On ls 10 → v27 = .agg (bv x.lt).toArray) ∧ (On ls 11 → v28 = .pointer (some ⟨ib, 43, none⟩)) ∧ (On ls 12 → v29 = .bool x.orph) ∧ (On ls 13 → v30 = .pointer (some ⟨ib, 88, none⟩)) ∧ (On ls 14 → v31 = .int .u64 x.u) ∧ (On ls 15 → v32 = .agg (hovCells x.lf x.op x.lt (.pointer none) (.pointer none) x.orph (.slice none 0 0) x.u))) ∧ Laid 36 16 17 (hovCells x.lf x.op x.lt (.pointer none) (.pointer none) x.orph (.slice none 0 0) x.u) W0.heap.size W0 ls v10 w') ?_ ?_ ?_
    · refine ⟨by simp, undef, undef, undef, undef, undef, undef, undef, undef, undef, undef, undef, undef, undef, undef, undef, undef, undef, by simp only [Act.put, List.setIfInBounds_toArray, List.set_cons_zero, List.set_cons_succ], ⟨fun h => h.not_replicate.elim, fun h => h.not_replicate.elim, fun h => h.not_replicate.elim, fun h => h.not_replicate.elim, fun h => h.not_replicate.elim, fun h => h.not_replicate.elim, fun h => h.not_replicate.elim, fun h => h.not_replicate.elim, fun h => h.not_replicate.elim, fun h => h.not_replicate.elim, fun h => h.not_replicate.elim, fun h => h.not_replicate.elim, fun h => h.not_replicate.elim, fun h => h.not_replicate.elim, fun h => h.not_replicate.elim, fun h => h.not_replicate.elim⟩, Laid.start (Nat.le_refl _)⟩
    · intro i o ls a' w' ho hl hd hI
      obtain ⟨hsz, v10, v17, v18, v19, v20, v21, v22, v23, v24, v25, v26, v27, v28, v29, v30, v31, v32, rfl, ⟨p0, p1, p2, p3, p4, p5, p6, p7, p8, p9, p10, p11, p12, p13, p14, p15⟩, he⟩ := hI
      have hi : i < 18 := (Array.getElem?_eq_some_iff.1 ho).1
      have hnot := On.not hl
      rcases (by omega : i = 0 ∨ i = 1 ∨ i = 2 ∨ i = 3 ∨ i = 4 ∨ i = 5 ∨ i = 6 ∨ i = 7 ∨ i = 8 ∨ i = 9 ∨ i = 10 ∨ i = 11 ∨ i = 12 ∨ i = 13 ∨ i = 14 ∨ i = 15 ∨ i = 16 ∨ i = 17) with rfl | rfl | rfl | rfl | rfl | rfl | rfl | rfl | rfl | rfl | rfl | rfl | rfl | rfl | rfl | rfl | rfl | rfl
      · cases ho
        refine wpOp_stepS rfl (fun K hK => ?_)
        simp only [Act.put, List.setIfInBounds_toArray, List.set_cons_zero, List.set_cons_succ]
        go_simp
        exact hK.out _ _ ⟨by simpa using hsz, v10, .func (.func 10) #[] #[.pointer (some ⟨mb, 0, none⟩), mp], v18, v19, v20, v21, v22, v23, v24, v25, v26, v27, v28, v29, v30, v31, v32, by simp only [Act.put, List.setIfInBounds_toArray, List.set_cons_zero, List.set_cons_succ], ⟨fun _ => rfl, fun h => p1 ((On_ne (by omega)).1 h), fun h => p2 ((On_ne (by omega)).1 h), fun h => p3 ((On_ne (by omega)).1 h), fun h => p4 ((On_ne (by omega)).1 h), fun h => p5 ((On_ne (by omega)).1 h), fun h => p6 ((On_ne (by omega)).1 h), fun h => p7 ((On_ne (by omega)).1 h), fun h => p8 ((On_ne (by omega)).1 h), fun h => p9 ((On_ne (by omega)).1 h), fun h => p10 ((On_ne (by omega)).1 h), fun h => p11 ((On_ne (by omega)).1 h), fun h => p12 ((On_ne (by omega)).1 h), fun h => p13 ((On_ne (by omega)).1 h), fun h => p14 ((On_ne (by omega)).1 h), fun h => p15 ((On_ne (by omega)).1 h)⟩, he.other (by omega) (by omega)⟩
      · cases ho
        refine wpOp_stepS rfl (fun K hK => ?_)
        simp only [Act.put, List.setIfInBounds_toArray, List.set_cons_zero, List.set_cons_succ]
        go_simp
        exact hK.out _ _ ⟨by simpa using hsz, v10, v17, .pointer (some ⟨ib, 1, none⟩), v19, v20, v21, v22, v23, v24, v25, v26, v27, v28, v29, v30, v31, v32, by simp only [Act.put, List.setIfInBounds_toArray, List.set_cons_zero, List.set_cons_succ], ⟨fun h => p0 ((On_ne (by omega)).1 h), fun _ => rfl, fun h => p2 ((On_ne (by omega)).1 h), fun h => p3 ((On_ne (by omega)).1 h), fun h => p4 ((On_ne (by omega)).1 h), fun h => p5 ((On_ne (by omega)).1 h), fun h => p6 ((On_ne (by omega)).1 h), fun h => p7 ((On_ne (by omega)).1 h), fun h => p8 ((On_ne (by omega)).1 h), fun h => p9 ((On_ne (by omega)).1 h), fun h => p10 ((On_ne (by omega)).1 h), fun h => p11 ((On_ne (by omega)).1 h), fun h => p12 ((On_ne (by omega)).1 h), fun h => p13 ((On_ne (by omega)).1 h), fun h => p14 ((On_ne (by omega)).1 h), fun h => p15 ((On_ne (by omega)).1 h)⟩, he.other (by omega) (by omega)⟩
      · cases ho
        have d1 : On ls 1 := hd ⟨1, .data⟩ (by simp) rfl
        have e := p1 d1
        subst e
        refine wpOp_stepS rfl (fun K hK => ?_)
        simp only [Act.put, List.setIfInBounds_toArray, List.set_cons_zero, List.set_cons_succ]
        have hr := (HX.out.below he.2.1 (by omega)).lf
        rw [if_pos (by rfl)]
        refine wp_load_mid 22 _ rfl ib 1 rfl (bv x.lf) _ hr Ybad.underlying22 rfl (info22 _ ok.hf) ?_
        simp only [List.getElem_toArray, List.getElem_cons_succ, List.getElem_cons_zero, Act.put, List.setIfInBounds_toArray, List.set_cons_zero, List.set_cons_succ]
        exact hK.out _ _ ⟨by simpa using hsz, v10, v17, .pointer (some ⟨ib, 1, none⟩), .agg (bv x.lf).toArray, v20, v21, v22, v23, v24, v25, v26, v27, v28, v29, v30, v31, v32, by simp only [Act.put, List.setIfInBounds_toArray, List.set_cons_zero, List.set_cons_succ], ⟨fun h => p0 ((On_ne (by omega)).1 h), fun h => p1 ((On_ne (by omega)).1 h), fun _ => rfl, fun h => p3 ((On_ne (by omega)).1 h), fun h => p4 ((On_ne (by omega)).1 h), fun h => p5 ((On_ne (by omega)).1 h), fun h => p6 ((On_ne (by omega)).1 h), fun h => p7 ((On_ne (by omega)).1 h), fun h => p8 ((On_ne (by omega)).1 h), fun h => p9 ((On_ne (by omega)).1 h), fun h => p10 ((On_ne (by omega)).1 h), fun h => p11 ((On_ne (by omega)).1 h), fun h => p12 ((On_ne (by omega)).1 h), fun h => p13 ((On_ne (by omega)).1 h), fun h => p14 ((On_ne (by omega)).1 h), fun h => p15 ((On_ne (by omega)).1 h)⟩, he.other (by omega) (by omega)⟩
      · cases ho
        have d0 : On ls 0 := hd ⟨0, .data⟩ (by simp) rfl
        have e := p0 d0
        subst e
        have d2 : On ls 2 := hd ⟨2, .data⟩ (by simp) rfl
        have e := p2 d2
        subst e
        refine wpOp_stepS rfl (fun K hK => ?_)
        simp only [Act.put, List.setIfInBounds_toArray, List.set_cons_zero, List.set_cons_succ]
        go_simp
        refine (conv_any x.lf ok.hf mb mp _ ((he.2.1.cell (p := ⟨mb, 0, none⟩) (by show mb < _; omega)).trans HM.out)).mono ?_
        rintro e w2 ⟨rfl, hb2⟩
        have he2 := he.later hb2
        exact hK.out _ _ ⟨by simpa using hsz, v10, .func (.func 10) #[] #[.pointer (some ⟨mb, 0, none⟩), mp], v18, .agg (bv x.lf).toArray, .agg (bv x.lf).toArray, v21, v22, v23, v24, v25, v26, v27, v28, v29, v30, v31, v32, by simp only [Act.put, List.setIfInBounds_toArray, List.set_cons_zero, List.set_cons_succ], ⟨fun h => p0 ((On_ne (by omega)).1 h), fun h => p1 ((On_ne (by omega)).1 h), fun h => p2 ((On_ne (by omega)).1 h), fun _ => rfl, fun h => p4 ((On_ne (by omega)).1 h), fun h => p5 ((On_ne (by omega)).1 h), fun h => p6 ((On_ne (by omega)).1 h), fun h => p7 ((On_ne (by omega)).1 h), fun h => p8 ((On_ne (by omega)).1 h), fun h => p9 ((On_ne (by omega)).1 h), fun h => p10 ((On_ne (by omega)).1 h), fun h => p11 ((On_ne (by omega)).1 h), fun h => p12 ((On_ne (by omega)).1 h), fun h => p13 ((On_ne (by omega)).1 h), fun h => p14 ((On_ne (by omega)).1 h), fun h => p15 ((On_ne (by omega)).1 h)⟩, he2.other (by omega) (by omega)⟩
      · cases ho
        refine wpOp_stepS rfl (fun K hK => ?_)
        simp only [Act.put, List.setIfInBounds_toArray, List.set_cons_zero, List.set_cons_succ]
        go_simp
        exact hK.out _ _ ⟨by simpa using hsz, v10, v17, v18, v19, v20, .pointer (some ⟨ib, 41, none⟩), v22, v23, v24, v25, v26, v27, v28, v29, v30, v31, v32, by simp only [Act.put, List.setIfInBounds_toArray, List.set_cons_zero, List.set_cons_succ], ⟨fun h => p0 ((On_ne (by omega)).1 h), fun h => p1 ((On_ne (by omega)).1 h), fun h => p2 ((On_ne (by omega)).1 h), fun h => p3 ((On_ne (by omega)).1 h), fun _ => rfl, fun h => p5 ((On_ne (by omega)).1 h), fun h => p6 ((On_ne (by omega)).1 h), fun h => p7 ((On_ne (by omega)).1 h), fun h => p8 ((On_ne (by omega)).1 h), fun h => p9 ((On_ne (by omega)).1 h), fun h => p10 ((On_ne (by omega)).1 h), fun h => p11 ((On_ne (by omega)).1 h), fun h => p12 ((On_ne (by omega)).1 h), fun h => p13 ((On_ne (by omega)).1 h), fun h => p14 ((On_ne (by omega)).1 h), fun h => p15 ((On_ne (by omega)).1 h)⟩, he.other (by omega) (by omega)⟩
      · cases ho
        have d4 : On ls 4 := hd ⟨4, .data⟩ (by simp) rfl
        have e := p4 d4
        subst e
        refine wpOp_stepS rfl (fun K hK => ?_)
        simp only [Act.put, List.setIfInBounds_toArray, List.set_cons_zero, List.set_cons_succ]
        have hr := (HX.out.below he.2.1 (by omega)).op
        go_simp
        exact hK.out _ _ ⟨by simpa using hsz, v10, v17, v18, v19, v20, .pointer (some ⟨ib, 41, none⟩), .bool x.op, v23, v24, v25, v26, v27, v28, v29, v30, v31, v32, by simp only [Act.put, List.setIfInBounds_toArray, List.set_cons_zero, List.set_cons_succ], ⟨fun h => p0 ((On_ne (by omega)).1 h), fun h => p1 ((On_ne (by omega)).1 h), fun h => p2 ((On_ne (by omega)).1 h), fun h => p3 ((On_ne (by omega)).1 h), fun h => p4 ((On_ne (by omega)).1 h), fun _ => rfl, fun h => p6 ((On_ne (by omega)).1 h), fun h => p7 ((On_ne (by omega)).1 h), fun h => p8 ((On_ne (by omega)).1 h), fun h => p9 ((On_ne (by omega)).1 h), fun h => p10 ((On_ne (by omega)).1 h), fun h => p11 ((On_ne (by omega)).1 h), fun h => p12 ((On_ne (by omega)).1 h), fun h => p13 ((On_ne (by omega)).1 h), fun h => p14 ((On_ne (by omega)).1 h), fun h => p15 ((On_ne (by omega)).1 h)⟩, he.other (by omega) (by omega)⟩
      · cases ho
        have d3 : On ls 3 := hd ⟨3, .data⟩ (by simp) rfl
        have e := p3 d3
        subst e
        have d5 : On ls 5 := hd ⟨5, .data⟩ (by simp) rfl
        have e := p5 d5
        subst e
        refine wpOp_stepS rfl (fun K hK => ?_)
        simp only [Act.put, List.setIfInBounds_toArray, List.set_cons_zero, List.set_cons_succ]
        rw [if_pos (by rfl)]
        refine wp_build2 32 _ _ rfl _ _ rfl rfl _ (build32 x.lf ok.hf x.op _) ?_
        simp only [List.getElem_toArray, List.getElem_cons_succ, List.getElem_cons_zero, Act.put, List.setIfInBounds_toArray, List.set_cons_zero, List.set_cons_succ]
        exact hK.out _ _ ⟨by simpa using hsz, v10, v17, v18, v19, .agg (bv x.lf).toArray, v21, .bool x.op, .agg (arcCells x.lf x.op), v24, v25, v26, v27, v28, v29, v30, v31, v32, by simp only [Act.put, List.setIfInBounds_toArray, List.set_cons_zero, List.set_cons_succ], ⟨fun h => p0 ((On_ne (by omega)).1 h), fun h => p1 ((On_ne (by omega)).1 h), fun h => p2 ((On_ne (by omega)).1 h), fun h => p3 ((On_ne (by omega)).1 h), fun h => p4 ((On_ne (by omega)).1 h), fun h => p5 ((On_ne (by omega)).1 h), fun _ => rfl, fun h => p7 ((On_ne (by omega)).1 h), fun h => p8 ((On_ne (by omega)).1 h), fun h => p9 ((On_ne (by omega)).1 h), fun h => p10 ((On_ne (by omega)).1 h), fun h => p11 ((On_ne (by omega)).1 h), fun h => p12 ((On_ne (by omega)).1 h), fun h => p13 ((On_ne (by omega)).1 h), fun h => p14 ((On_ne (by omega)).1 h), fun h => p15 ((On_ne (by omega)).1 h)⟩, he.other (by omega) (by omega)⟩
      · cases ho
        refine wpOp_stepS rfl (fun K hK => ?_)
        simp only [Act.put, List.setIfInBounds_toArray, List.set_cons_zero, List.set_cons_succ]
        go_simp
        exact hK.out _ _ ⟨by simpa using hsz, v10, v17, v18, v19, v20, v21, v22, v23, .func (.func 10) #[] #[.pointer (some ⟨mb, 0, none⟩), mp], v25, v26, v27, v28, v29, v30, v31, v32, by simp only [Act.put, List.setIfInBounds_toArray, List.set_cons_zero, List.set_cons_succ], ⟨fun h => p0 ((On_ne (by omega)).1 h), fun h => p1 ((On_ne (by omega)).1 h), fun h => p2 ((On_ne (by omega)).1 h), fun h => p3 ((On_ne (by omega)).1 h), fun h => p4 ((On_ne (by omega)).1 h), fun h => p5 ((On_ne (by omega)).1 h), fun h => p6 ((On_ne (by omega)).1 h), fun _ => rfl, fun h => p8 ((On_ne (by omega)).1 h), fun h => p9 ((On_ne (by omega)).1 h), fun h => p10 ((On_ne (by omega)).1 h), fun h => p11 ((On_ne (by omega)).1 h), fun h => p12 ((On_ne (by omega)).1 h), fun h => p13 ((On_ne (by omega)).1 h), fun h => p14 ((On_ne (by omega)).1 h), fun h => p15 ((On_ne (by omega)).1 h)⟩, he.other (by omega) (by omega)⟩
      · cases ho
        refine wpOp_stepS rfl (fun K hK => ?_)
        simp only [Act.put, List.setIfInBounds_toArray, List.set_cons_zero, List.set_cons_succ]
        go_simp
        exact hK.out _ _ ⟨by simpa using hsz, v10, v17, v18, v19, v20, v21, v22, v23, v24, .pointer (some ⟨ib, 21, none⟩), v26, v27, v28, v29, v30, v31, v32, by simp only [Act.put, List.setIfInBounds_toArray, List.set_cons_zero, List.set_cons_succ], ⟨fun h => p0 ((On_ne (by omega)).1 h), fun h => p1 ((On_ne (by omega)).1 h), fun h => p2 ((On_ne (by omega)).1 h), fun h => p3 ((On_ne (by omega)).1 h), fun h => p4 ((On_ne (by omega)).1 h), fun h => p5 ((On_ne (by omega)).1 h), fun h => p6 ((On_ne (by omega)).1 h), fun h => p7 ((On_ne (by omega)).1 h), fun _ => rfl, fun h => p9 ((On_ne (by omega)).1 h), fun h => p10 ((On_ne (by omega)).1 h), fun h => p11 ((On_ne (by omega)).1 h), fun h => p12 ((On_ne (by omega)).1 h), fun h => p13 ((On_ne (by omega)).1 h), fun h => p14 ((On_ne (by omega)).1 h), fun h => p15 ((On_ne (by omega)).1 h)⟩, he.other (by omega) (by omega)⟩
      · cases ho
        have d8 : On ls 8 := hd ⟨8, .data⟩ (by simp) rfl
        have e := p8 d8
        subst e
        refine wpOp_stepS rfl (fun K hK => ?_)
        simp only [Act.put, List.setIfInBounds_toArray, List.set_cons_zero, List.set_cons_succ]
        have hr := (HX.out.below he.2.1 (by omega)).lt
        rw [if_pos (by rfl)]
        refine wp_load_mid 22 _ rfl ib 21 rfl (bv x.lt) _ hr Ybad.underlying22 rfl (info22 _ ok.ht) ?_
        simp only [List.getElem_toArray, List.getElem_cons_succ, List.getElem_cons_zero, Act.put, List.setIfInBounds_toArray, List.set_cons_zero, List.set_cons_succ]
        exact hK.out _ _ ⟨by simpa using hsz, v10, v17, v18, v19, v20, v21, v22, v23, v24, .pointer (some ⟨ib, 21, none⟩), .agg (bv x.lt).toArray, v27, v28, v29, v30, v31, v32, by simp only [Act.put, List.setIfInBounds_toArray, List.set_cons_zero, List.set_cons_succ], ⟨fun h => p0 ((On_ne (by omega)).1 h), fun h => p1 ((On_ne (by omega)).1 h), fun h => p2 ((On_ne (by omega)).1 h), fun h => p3 ((On_ne (by omega)).1 h), fun h => p4 ((On_ne (by omega)).1 h), fun h => p5 ((On_ne (by omega)).1 h), fun h => p6 ((On_ne (by omega)).1 h), fun h => p7 ((On_ne (by omega)).1 h), fun h => p8 ((On_ne (by omega)).1 h), fun _ => rfl, fun h => p10 ((On_ne (by omega)).1 h), fun h => p11 ((On_ne (by omega)).1 h), fun h => p12 ((On_ne (by omega)).1 h), fun h => p13 ((On_ne (by omega)).1 h), fun h => p14 ((On_ne (by omega)).1 h), fun h => p15 ((On_ne (by omega)).1 h)⟩, he.other (by omega) (by omega)⟩
      · cases ho
        have d7 : On ls 7 := hd ⟨7, .data⟩ (by simp) rfl
        have e := p7 d7
        subst e
        have d9 : On ls 9 := hd ⟨9, .data⟩ (by simp) rfl
        have e := p9 d9
        subst e
        refine wpOp_stepS rfl (fun K hK => ?_)
        simp only [Act.put, List.setIfInBounds_toArray, List.set_cons_zero, List.set_cons_succ]
        go_simp
        refine (conv_any x.lt ok.ht mb mp _ ((he.2.1.cell (p := ⟨mb, 0, none⟩) (by show mb < _; omega)).trans HM.out)).mono ?_
        rintro e w2 ⟨rfl, hb2⟩
        have he2 := he.later hb2
        exact hK.out _ _ ⟨by simpa using hsz, v10, v17, v18, v19, v20, v21, v22, v23, .func (.func 10) #[] #[.pointer (some ⟨mb, 0, none⟩), mp], v25, .agg (bv x.lt).toArray, .agg (bv x.lt).toArray, v28, v29, v30, v31, v32, by simp only [Act.put, List.setIfInBounds_toArray, List.set_cons_zero, List.set_cons_succ], ⟨fun h => p0 ((On_ne (by omega)).1 h), fun h => p1 ((On_ne (by omega)).1 h), fun h => p2 ((On_ne (by omega)).1 h), fun h => p3 ((On_ne (by omega)).1 h), fun h => p4 ((On_ne (by omega)).1 h), fun h => p5 ((On_ne (by omega)).1 h), fun h => p6 ((On_ne (by omega)).1 h), fun h => p7 ((On_ne (by omega)).1 h), fun h => p8 ((On_ne (by omega)).1 h), fun h => p9 ((On_ne (by omega)).1 h), fun _ => rfl, fun h => p11 ((On_ne (by omega)).1 h), fun h => p12 ((On_ne (by omega)).1 h), fun h => p13 ((On_ne (by omega)).1 h), fun h => p14 ((On_ne (by omega)).1 h), fun h => p15 ((On_ne (by omega)).1 h)⟩, he2.other (by omega) (by omega)⟩
      · cases ho
        refine wpOp_stepS rfl (fun K hK => ?_)
        simp only [Act.put, List.setIfInBounds_toArray, List.set_cons_zero, List.set_cons_succ]
        go_simp
        exact hK.out _ _ ⟨by simpa using hsz, v10, v17, v18, v19, v20, v21, v22, v23, v24, v25, v26, v27, .pointer (some ⟨ib, 43, none⟩), v29, v30, v31, v32, by simp only [Act.put, List.setIfInBounds_toArray, List.set_cons_zero, List.set_cons_succ], ⟨fun h => p0 ((On_ne (by omega)).1 h), fun h => p1 ((On_ne (by omega)).1 h), fun h => p2 ((On_ne (by omega)).1 h), fun h => p3 ((On_ne (by omega)).1 h), fun h => p4 ((On_ne (by omega)).1 h), fun h => p5 ((On_ne (by omega)).1 h), fun h => p6 ((On_ne (by omega)).1 h), fun h => p7 ((On_ne (by omega)).1 h), fun h => p8 ((On_ne (by omega)).1 h), fun h => p9 ((On_ne (by omega)).1 h), fun h => p10 ((On_ne (by omega)).1 h), fun _ => rfl, fun h => p12 ((On_ne (by omega)).1 h), fun h => p13 ((On_ne (by omega)).1 h), fun h => p14 ((On_ne (by omega)).1 h), fun h => p15 ((On_ne (by omega)).1 h)⟩, he.other (by omega) (by omega)⟩
      · cases ho
        have d11 : On ls 11 := hd ⟨11, .data⟩ (by simp) rfl
        have e := p11 d11
        subst e
        refine wpOp_stepS rfl (fun K hK => ?_)
        simp only [Act.put, List.setIfInBounds_toArray, List.set_cons_zero, List.set_cons_succ]
        have hr := (HX.out.below he.2.1 (by omega)).orph
        go_simp
        exact hK.out _ _ ⟨by simpa using hsz, v10, v17, v18, v19, v20, v21, v22, v23, v24, v25, v26, v27, .pointer (some ⟨ib, 43, none⟩), .bool x.orph, v30, v31, v32, by simp only [Act.put, List.setIfInBounds_toArray, List.set_cons_zero, List.set_cons_succ], ⟨fun h => p0 ((On_ne (by omega)).1 h), fun h => p1 ((On_ne (by omega)).1 h), fun h => p2 ((On_ne (by omega)).1 h), fun h => p3 ((On_ne (by omega)).1 h), fun h => p4 ((On_ne (by omega)).1 h), fun h => p5 ((On_ne (by omega)).1 h), fun h => p6 ((On_ne (by omega)).1 h), fun h => p7 ((On_ne (by omega)).1 h), fun h => p8 ((On_ne (by omega)).1 h), fun h => p9 ((On_ne (by omega)).1 h), fun h => p10 ((On_ne (by omega)).1 h), fun h => p11 ((On_ne (by omega)).1 h), fun _ => rfl, fun h => p13 ((On_ne (by omega)).1 h), fun h => p14 ((On_ne (by omega)).1 h), fun h => p15 ((On_ne (by omega)).1 h)⟩, he.other (by omega) (by omega)⟩
      · cases ho
        refine wpOp_stepS rfl (fun K hK => ?_)
        simp only [Act.put, List.setIfInBounds_toArray, List.set_cons_zero, List.set_cons_succ]
        go_simp
        exact hK.out _ _ ⟨by simpa using hsz, v10, v17, v18, v19, v20, v21, v22, v23, v24, v25, v26, v27, v28, v29, .pointer (some ⟨ib, 88, none⟩), v31, v32, by simp only [Act.put, List.setIfInBounds_toArray, List.set_cons_zero, List.set_cons_succ], ⟨fun h => p0 ((On_ne (by omega)).1 h), fun h => p1 ((On_ne (by omega)).1 h), fun h => p2 ((On_ne (by omega)).1 h), fun h => p3 ((On_ne (by omega)).1 h), fun h => p4 ((On_ne (by omega)).1 h), fun h => p5 ((On_ne (by omega)).1 h), fun h => p6 ((On_ne (by omega)).1 h), fun h => p7 ((On_ne (by omega)).1 h), fun h => p8 ((On_ne (by omega)).1 h), fun h => p9 ((On_ne (by omega)).1 h), fun h => p10 ((On_ne (by omega)).1 h), fun h => p11 ((On_ne (by omega)).1 h), fun h => p12 ((On_ne (by omega)).1 h), fun _ => rfl, fun h => p14 ((On_ne (by omega)).1 h), fun h => p15 ((On_ne (by omega)).1 h)⟩, he.other (by omega) (by omega)⟩
      · cases ho
        have d13 : On ls 13 := hd ⟨13, .data⟩ (by simp) rfl
        have e := p13 d13
        subst e
        refine wpOp_stepS rfl (fun K hK => ?_)
        simp only [Act.put, List.setIfInBounds_toArray, List.set_cons_zero, List.set_cons_succ]
        have hr := (HX.out.below he.2.1 (by omega)).u
        go_simp
        exact hK.out _ _ ⟨by simpa using hsz, v10, v17, v18, v19, v20, v21, v22, v23, v24, v25, v26, v27, v28, v29, .pointer (some ⟨ib, 88, none⟩), .int .u64 x.u, v32, by simp only [Act.put, List.setIfInBounds_toArray, List.set_cons_zero, List.set_cons_succ], ⟨fun h => p0 ((On_ne (by omega)).1 h), fun h => p1 ((On_ne (by omega)).1 h), fun h => p2 ((On_ne (by omega)).1 h), fun h => p3 ((On_ne (by omega)).1 h), fun h => p4 ((On_ne (by omega)).1 h), fun h => p5 ((On_ne (by omega)).1 h), fun h => p6 ((On_ne (by omega)).1 h), fun h => p7 ((On_ne (by omega)).1 h), fun h => p8 ((On_ne (by omega)).1 h), fun h => p9 ((On_ne (by omega)).1 h), fun h => p10 ((On_ne (by omega)).1 h), fun h => p11 ((On_ne (by omega)).1 h), fun h => p12 ((On_ne (by omega)).1 h), fun h => p13 ((On_ne (by omega)).1 h), fun _ => rfl, fun h => p15 ((On_ne (by omega)).1 h)⟩, he.other (by omega) (by omega)⟩
      · cases ho
        have d6 : On ls 6 := hd ⟨6, .data⟩ (by simp) rfl
        have e := p6 d6
        subst e
        have d10 : On ls 10 := hd ⟨10, .data⟩ (by simp) rfl
        have e := p10 d10
        subst e
        have d12 : On ls 12 := hd ⟨12, .data⟩ (by simp) rfl
        have e := p12 d12
        subst e
        have d14 : On ls 14 := hd ⟨14, .data⟩ (by simp) rfl
        have e := p14 d14
        subst e
        refine wpOp_stepS rfl (fun K hK => ?_)
        simp only [Act.put, List.setIfInBounds_toArray, List.set_cons_zero, List.set_cons_succ]
        rw [if_pos (by rfl)]
        refine wp_build4 36 0 1 4 6 _ _ _ _ rfl _ _ _ _ rfl rfl rfl rfl _ (build36 x.lf x.lt ok.hf ok.ht x.op x.orph x.u _) ?_
        simp only [List.getElem_toArray, List.getElem_cons_succ, List.getElem_cons_zero, Act.put, List.setIfInBounds_toArray, List.set_cons_zero, List.set_cons_succ]
        exact hK.out _ _ ⟨by simpa using hsz, v10, v17, v18, v19, v20, v21, v22, .agg (arcCells x.lf x.op), v24, v25, v26, .agg (bv x.lt).toArray, v28, .bool x.orph, v30, .int .u64 x.u, .agg (hovCells x.lf x.op x.lt (.pointer none) (.pointer none) x.orph (.slice none 0 0) x.u), by simp only [Act.put, List.setIfInBounds_toArray, List.set_cons_zero, List.set_cons_succ], ⟨fun h => p0 ((On_ne (by omega)).1 h), fun h => p1 ((On_ne (by omega)).1 h), fun h => p2 ((On_ne (by omega)).1 h), fun h => p3 ((On_ne (by omega)).1 h), fun h => p4 ((On_ne (by omega)).1 h), fun h => p5 ((On_ne (by omega)).1 h), fun h => p6 ((On_ne (by omega)).1 h), fun h => p7 ((On_ne (by omega)).1 h), fun h => p8 ((On_ne (by omega)).1 h), fun h => p9 ((On_ne (by omega)).1 h), fun h => p10 ((On_ne (by omega)).1 h), fun h => p11 ((On_ne (by omega)).1 h), fun h => p12 ((On_ne (by omega)).1 h), fun h => p13 ((On_ne (by omega)).1 h), fun h => p14 ((On_ne (by omega)).1 h), fun _ => rfl⟩, he.other (by omega) (by omega)⟩
      · cases ho
        refine wpOp_stepS rfl (fun K hK => ?_)
        simp only [Act.put, List.setIfInBounds_toArray, List.set_cons_zero, List.set_cons_succ]
        go_simp
        exact hK.out _ _ ⟨by simpa using hsz, .pointer (some ⟨w'.heap.size, 0, none⟩), v17, v18, v19, v20, v21, v22, v23, v24, v25, v26, v27, v28, v29, v30, v31, v32, by simp only [Act.put, List.setIfInBounds_toArray, List.set_cons_zero, List.set_cons_succ], ⟨fun h => p0 ((On_ne (by omega)).1 h), fun h => p1 ((On_ne (by omega)).1 h), fun h => p2 ((On_ne (by omega)).1 h), fun h => p3 ((On_ne (by omega)).1 h), fun h => p4 ((On_ne (by omega)).1 h), fun h => p5 ((On_ne (by omega)).1 h), fun h => p6 ((On_ne (by omega)).1 h), fun h => p7 ((On_ne (by omega)).1 h), fun h => p8 ((On_ne (by omega)).1 h), fun h => p9 ((On_ne (by omega)).1 h), fun h => p10 ((On_ne (by omega)).1 h), fun h => p11 ((On_ne (by omega)).1 h), fun h => p12 ((On_ne (by omega)).1 h), fun h => p13 ((On_ne (by omega)).1 h), fun h => p14 ((On_ne (by omega)).1 h), fun h => p15 ((On_ne (by omega)).1 h)⟩, he.made (by omega) hnot _ ((hov_size x.lf x.lt ok.hf ok.ht _ _ _ _ _ _).symm)⟩
      · cases ho
        have d16 : On ls 16 := hd ⟨16, .data⟩ (by simp) rfl
        have d15 : On ls 15 := hd ⟨15, .data⟩ (by simp) rfl
        have e := p15 d15
        subst e
        obtain ⟨g, old, e, hg, hs, he2⟩ := he.stored (by omega) d16
        subst e
        refine wpOp_stepS rfl (fun K hK => ?_)
        simp only [Act.put, List.setIfInBounds_toArray, List.set_cons_zero, List.set_cons_succ]
        rw [if_pos (by rfl)]
        refine wp_store_row 36 _ _ rfl g 36 old (hovCells x.lf x.op x.lt (.pointer none) (.pointer none) x.orph (.slice none 0 0) x.u) rfl rfl hg (by rw [hov_size x.lf x.lt ok.hf ok.ht]; kernel_rfl) hs (hov_one _ _ _ _ _ _ _ _ rfl rfl rfl) ?_
        simp only [List.getElem_toArray, List.getElem_cons_succ, List.getElem_cons_zero, Act.put]
        exact hK.out _ _ ⟨by simpa using hsz, .pointer (some ⟨g, 0, none⟩), v17, v18, v19, v20, v21, v22, v23, v24, v25, v26, v27, v28, v29, v30, v31, .agg (hovCells x.lf x.op x.lt (.pointer none) (.pointer none) x.orph (.slice none 0 0) x.u), by simp only [Act.put, List.setIfInBounds_toArray, List.set_cons_zero, List.set_cons_succ], ⟨fun h => p0 ((On_ne (by omega)).1 h), fun h => p1 ((On_ne (by omega)).1 h), fun h => p2 ((On_ne (by omega)).1 h), fun h => p3 ((On_ne (by omega)).1 h), fun h => p4 ((On_ne (by omega)).1 h), fun h => p5 ((On_ne (by omega)).1 h), fun h => p6 ((On_ne (by omega)).1 h), fun h => p7 ((On_ne (by omega)).1 h), fun h => p8 ((On_ne (by omega)).1 h), fun h => p9 ((On_ne (by omega)).1 h), fun h => p10 ((On_ne (by omega)).1 h), fun h => p11 ((On_ne (by omega)).1 h), fun h => p12 ((On_ne (by omega)).1 h), fun h => p13 ((On_ne (by omega)).1 h), fun h => p14 ((On_ne (by omega)).1 h), fun h => p15 ((On_ne (by omega)).1 h)⟩, he2⟩
    · intro ls a' w' hall hI
      obtain ⟨hsz, v10, v17, v18, v19, v20, v21, v22, v23, v24, v25, v26, v27, v28, v29, v30, v31, v32, rfl, hp, he⟩ := hI
      obtain ⟨pg, e, hpg, hph, hpb⟩ := he.done (On.of_listed (by omega) (hall 16 (by simp))) (On.of_listed (by omega) (hall 17 (by simp)))
      subst e
      simp only [Act.put, List.setIfInBounds_toArray, List.set_cons_zero, List.set_cons_succ]
      go_wp2
      go_meet
      case rel => exact ⟨pg, rfl, hpg, hph, hpb⟩
  case rest =>
    obtain ⟨hb, rfl, hhb, hh, hbl⟩ := hcut
    have hbs : hb < wc.heap.size := (Array.getElem?_eq_some_iff.1 hh).1
    have l4 : W0.heap.size ≤ wc.heap.size := hbl.size
    have HH : Hid (wc.heap[hb]? = some (.cells (hovCells x.lf x.op x.lt (.pointer none) (.pointer none) x.orph (.slice none 0 0) x.u) 36)) := hh
    have HB : Hid (Below W0.heap.size W0 wc) := hbl
    have hc : wc.cell? ⟨ib, 42, none⟩ = some (.slice ka ks.length kc) := by rw [← HKIN.out]; exact (HX.out.below hbl l1).kin
    have hmk := fun w => make34 ks.length hn w
    have hc2 : ∀ o, (wc.alloc o).cell? ⟨ib, 42, none⟩ = some (.slice ka ks.length kc) := fun o => cell_later hc ((Below.refl _ _).alloc (Nat.le_refl _) _)
    clear hh hbl
    go_wp2
    clear hc hc2 hmk
    go_loopw [11, 40] (fun v i wr => ∃ j : Nat, j ≤ ks.length ∧ i = .int .i64 j ∧ Hid (wr.ownsRow wc.heap.size 30 20 v j (flat (ks.take j))) ∧ Hid (v ≠ .slice none 0 0) ∧ Hid (Below wc.heap.size wc wr)) (fun _ i _ => ks.length - (RowKit.intOf i).toNat)
    case atStart => exact ⟨0, Nat.zero_le _, rfl, World.ownsRow_made wc _ _ (Nat.le_refl _) (by unfold maxLen; omega) (by rw [size_madeCells]), (by simp : Value.slice (some ⟨wc.heap.size, 0, none⟩) 0 ks.length ≠ .slice none 0 0), (Below.refl _ _).alloc (Nat.le_refl _) _⟩
    case round =>
      obtain ⟨j, hj, rfl, HO, HN, HBr⟩ := hrel
      by_cases hlt : j < ks.length
      · obtain ⟨l, hl⟩ : ∃ l, ks[j]? = some l := ⟨_, List.getElem?_eq_getElem hlt⟩
        obtain ⟨hl20, kb, ko, rfl, hrg, hkb⟩ := HKS.out j l hl
        have hb0 : Below w.heap.size w wr := (HBL.out.trans (HB.out.mono HWS.out.2)).trans (HBr.out.mono (Nat.le_trans HWS.out.2 l4))
        have R : Hid (wr.rangeAt kb (ko + j * 20) (bv l)) := fun i v hv => (hb0.cell (p := ⟨kb, ko + j * 20 + i, none⟩) hkb).trans (hrg i v hv)
        have HL : Hid (ks[j]? = some l) := hl
        have HI : Hid ((Ybad.prog.info? 22).map (·.size) = some (bv l).length) := info22 l hl20
        have HI2 : Hid ((Ybad.prog.info? 22).map (·.size) = some (bv l).toArray.size) := by show _ = _; rw [List.size_toArray]; exact info22 l hl20
        have R2 : Hid ((wr.alloc (.cells (bv l).toArray 22)).rangeAt wr.heap.size 0 (bv l)) := by have := range_new wr [] (bv l) [] 22; rw [List.nil_append, List.append_nil] at this; exact this
        have HMr : Hid (∀ o, (wr.alloc o).cell? ⟨mb, 0, none⟩ = some (.bool false)) := fun o => cell_later ((HBr.out.cell (p := ⟨mb, 0, none⟩) (by show mb < _; omega)).trans ((HB.out.cell (p := ⟨mb, 0, none⟩) l2).trans HM.out)) ((Below.refl _ _).alloc (Nat.le_refl _) _)
        clear hl hb0 hrg
        go_wp2_with (first | refine wpList_load_mid rfl 22 _ rfl kb (ko + j * 20) rfl (bv l) _ R.out Ybad.underlying22 rfl HI.out ?_ | refine wpList_store_new rfl 22 _ _ rfl _ (bv l).toArray rfl rfl HI2.out (zeros20 l hl20 _) (bv_one l) ?_ | refine wpList_load_mid rfl 22 _ rfl wr.heap.size 0 rfl (bv l) _ R2.out Ybad.underlying22 rfl HI.out ?_)
        refine (conv_any l hl20 mb mp _ (HMr.out _)).mono ?_
        rintro e w2 ⟨rfl, hb2⟩
        have hb3 : Below wr.heap.size wr w2 := ((Below.refl _ _).alloc (Nat.le_refl _) _).trans (hb2.mono (by simp))
        have hown : w2.ownsRow wc.heap.size 30 20 u11 j (flat (ks.take j)) := HO.out.kept (row := none) ⟨hb3.os, hb3.tape, hb3.output, hb3.size, fun k hk _ => hb3.block k hk⟩ (by cases u11.ownBlock <;> simp)
        obtain ⟨v', w3, hr3, ho3, hn3, hb4⟩ := app34 ks hn j l HL.out hl20 wc.heap.size u11 w2 (by have := HBr.out.size; have := hb3.size; omega) hown HN.out
        have F : Hid (w3.ownsRow wc.heap.size 30 20 v' (j + 1) (flat (ks.take (j + 1))) ∧ v' ≠ .slice none 0 0 ∧ Below wc.heap.size wc w3) := ⟨ho3, hn3, (HBr.out.trans (hb3.mono HBr.out.size)).trans hb4⟩
        have hsl := Lib.hid (slice34 l hl20 w2)
        clear ho3 hn3 hb4 hown hb2 hb3 R R2 HI HI2 HMr
        go_wp2_with (first | (refine wpList_bslice rfl 34 1 _ rfl _ rfl (v' := .slice (some ⟨w2.heap.size, 0, none⟩) 1 1) (w' := w2.alloc (.cells (bv l).toArray 30)) ?hbs ?_; case hbs => exact hsl.out) | (at_builtin; refine wpList_app rfl _ _ _ _ rfl _ _ rfl rfl hr3 ?_) | go_in)
        go_roundw
        case rel => exact ⟨j + 1, by omega, by go_num, F.out.1, F.out.2.1, F.out.2.2⟩
        case measure => simp [RowKit.intOf]; omega
      · have ej : j = ks.length := by omega
        subst ej
        have ho := HO.out
        rw [List.take_length] at ho
        obtain ⟨g, cap, rfl, hg⟩ := row_form ho HN.out
        have hk := kept_of_row H20.out ho
        have hblk := HBr.out.block hb hbs
        rw [HH.out] at hblk
        have hc := cell_of_row wr hb 44 _ 36 (0, 0) hblk
        rw [hov_at44 x.lf x.lt ok.hf ok.ht] at hc
        have hf := frozen_of_row wr hb 44 _ 36 hblk
        obtain ⟨hs1, hs2⟩ := set_in_block wr hb 44 _ 36 (.slice (some ⟨g, 0, none⟩) ks.length cap) hblk
        rw [hov_kept x.lf x.lt ok.hf ok.ht] at hs1
        have hne : g ≠ hb := by omega
        have HNE : Hid (g ≠ hb) := hne
        have HV : Hid (HovIs x hb g cap ks none none (wr.setCell ⟨hb, 44, none⟩ (.slice (some ⟨g, 0, none⟩) ks.length cap))) := ⟨hs1, hk.grown hs2 HNE.out⟩
        have hbW : Below W0.heap.size W0 (wr.setCell ⟨hb, 44, none⟩ (.slice (some ⟨g, 0, none⟩) ks.length cap)) := (HB.out.trans (HBr.out.mono l4)).grown hs2 (Nat.le_trans l4 HBr.out.size) (fun k hk => by cases hk; exact hhb)
        have hc57 : (wr.setCell ⟨hb, 44, none⟩ (.slice (some ⟨g, 0, none⟩) ks.length cap)).cell? ⟨ib, 44, none⟩ = some (.bool x.hasK) := (HX.out.below hbW l1).hasK
        have HBW : Hid (Below W0.heap.size W0 (wr.setCell ⟨hb, 44, none⟩ (.slice (some ⟨g, 0, none⟩) ks.length cap))) := hbW
        clear hs1 hs2 hk hblk ho hbW HO HN hne hlt hj
        have HGR : Hid (g ≠ rb) := Nat.ne_of_gt (Nat.lt_of_lt_of_le l3 (Nat.le_trans l4 hg))
        clear hg
        go_upto_if 57 with fail
        clear hc hf hc57
        generalize wr.setCell ⟨hb, 44, none⟩ (.slice (some ⟨g, 0, none⟩) ks.length cap) = W1 at HV HBW ⊢
        have lW : W0.heap.size ≤ W1.heap.size := HBW.out.size
        clear HH HB HBr hbs l4
        go_cut [] (fun w' => ∃ ko : Node, HovIs x hb g cap ks ko none w' ∧ NodeIs x.hasK x.lk x.ka ko w' ∧ Below W0.heap.size W0 w')
        case first =>
          have HXc : Hid (x.At ib W1) := HX.out.below HBW.out l1
          have HMc : Hid (W1.cell? ⟨mb, 0, none⟩ = some (.bool false)) := (HBW.out.cell (p := ⟨mb, 0, none⟩) l2).trans HM.out
          cases hK : x.hasK
          · go_wp2
            go_meet
            case rel => exact ⟨none, HV.out, .inl ⟨hK, rfl⟩, HBW.out⟩
          · go_wp2
            refine wp_region_inv (by kernel_rfl) (by kernel_rfl) (fun a0 ls a w' => ls.size = 9 ∧ ∃ v14 v58 v59 v60 v61 v62 v63 v64, a = ((((((((a0.put (some 14) v14).put (some 58) v58).put (some 59) v59).put (some 60) v60).put (some 61) v61).put (some 62) v62).put (some 63) v63).put (some 64) v64) ∧ ((On ls 0 → v58 = .func (.func 10) #[] #[.pointer (some ⟨mb, 0, none⟩), mp]) ∧ (On ls 1 → v59 = .pointer (some ⟨ib, 45, none⟩)) ∧ (On ls 2 → v60 = .agg (bv x.lk).toArray) ∧ (On ls 3 → v61 = .agg (bv x.lk).toArray) ∧ (On ls 4 → v62 = .pointer (some ⟨ib, 65, none⟩)) ∧ (On ls 5 → v63 = .string x.ka) ∧ (On ls 6 → v64 = .agg (peerCells x.lk x.ka))) ∧ Laid 51 7 8 (peerCells x.lk x.ka) W1.heap.size W1 ls v14 w') ?_ ?_ ?_
            · refine ⟨by simp, undef, u58, u59, u60, u61, u62, u63, u64, by simp only [Act.put, List.setIfInBounds_toArray, List.set_cons_zero, List.set_cons_succ], ⟨fun h => h.not_replicate.elim, fun h => h.not_replicate.elim, fun h => h.not_replicate.elim, fun h => h.not_replicate.elim, fun h => h.not_replicate.elim, fun h => h.not_replicate.elim, fun h => h.not_replicate.elim⟩, Laid.start (Nat.le_refl _)⟩
            · intro i o ls a' w' ho hl hd hI
              obtain ⟨hsz, v14, v58, v59, v60, v61, v62, v63, v64, rfl, ⟨p0, p1, p2, p3, p4, p5, p6⟩, he⟩ := hI
              have hi : i < 9 := (Array.getElem?_eq_some_iff.1 ho).1
              have hnot := On.not hl
              rcases (by omega : i = 0 ∨ i = 1 ∨ i = 2 ∨ i = 3 ∨ i = 4 ∨ i = 5 ∨ i = 6 ∨ i = 7 ∨ i = 8) with rfl | rfl | rfl | rfl | rfl | rfl | rfl | rfl | rfl
              · cases ho
                refine wpOp_stepS rfl (fun K hK => ?_)
                simp only [Act.put, List.setIfInBounds_toArray, List.set_cons_zero, List.set_cons_succ]
                go_simp
                exact hK.out _ _ ⟨by simpa using hsz, v14, .func (.func 10) #[] #[.pointer (some ⟨mb, 0, none⟩), mp], v59, v60, v61, v62, v63, v64, by simp only [Act.put, List.setIfInBounds_toArray, List.set_cons_zero, List.set_cons_succ], ⟨fun _ => rfl, fun h => p1 ((On_ne (by omega)).1 h), fun h => p2 ((On_ne (by omega)).1 h), fun h => p3 ((On_ne (by omega)).1 h), fun h => p4 ((On_ne (by omega)).1 h), fun h => p5 ((On_ne (by omega)).1 h), fun h => p6 ((On_ne (by omega)).1 h)⟩, he.other (by omega) (by omega)⟩
              · cases ho
                refine wpOp_stepS rfl (fun K hK => ?_)
                simp only [Act.put, List.setIfInBounds_toArray, List.set_cons_zero, List.set_cons_succ]
                go_simp
                exact hK.out _ _ ⟨by simpa using hsz, v14, v58, .pointer (some ⟨ib, 45, none⟩), v60, v61, v62, v63, v64, by simp only [Act.put, List.setIfInBounds_toArray, List.set_cons_zero, List.set_cons_succ], ⟨fun h => p0 ((On_ne (by omega)).1 h), fun _ => rfl, fun h => p2 ((On_ne (by omega)).1 h), fun h => p3 ((On_ne (by omega)).1 h), fun h => p4 ((On_ne (by omega)).1 h), fun h => p5 ((On_ne (by omega)).1 h), fun h => p6 ((On_ne (by omega)).1 h)⟩, he.other (by omega) (by omega)⟩
              · cases ho
                have d1 : On ls 1 := hd ⟨1, .data⟩ (by simp) rfl
                have e := p1 d1
                subst e
                refine wpOp_stepS rfl (fun K hK => ?_)
                simp only [Act.put, List.setIfInBounds_toArray, List.set_cons_zero, List.set_cons_succ]
                have hr := (HXc.out.below he.2.1 (by omega)).lk
                rw [if_pos (by rfl)]
                refine wp_load_mid 22 _ rfl ib 45 rfl (bv x.lk) _ hr Ybad.underlying22 rfl (info22 _ ok.hk) ?_
                simp only [List.getElem_toArray, List.getElem_cons_succ, List.getElem_cons_zero, Act.put, List.setIfInBounds_toArray, List.set_cons_zero, List.set_cons_succ]
                exact hK.out _ _ ⟨by simpa using hsz, v14, v58, .pointer (some ⟨ib, 45, none⟩), .agg (bv x.lk).toArray, v61, v62, v63, v64, by simp only [Act.put, List.setIfInBounds_toArray, List.set_cons_zero, List.set_cons_succ], ⟨fun h => p0 ((On_ne (by omega)).1 h), fun h => p1 ((On_ne (by omega)).1 h), fun _ => rfl, fun h => p3 ((On_ne (by omega)).1 h), fun h => p4 ((On_ne (by omega)).1 h), fun h => p5 ((On_ne (by omega)).1 h), fun h => p6 ((On_ne (by omega)).1 h)⟩, he.other (by omega) (by omega)⟩
              · cases ho
                have d0 : On ls 0 := hd ⟨0, .data⟩ (by simp) rfl
                have e := p0 d0
                subst e
                have d2 : On ls 2 := hd ⟨2, .data⟩ (by simp) rfl
                have e := p2 d2
                subst e
                refine wpOp_stepS rfl (fun K hK => ?_)
                simp only [Act.put, List.setIfInBounds_toArray, List.set_cons_zero, List.set_cons_succ]
                go_simp
                refine (conv_any x.lk ok.hk mb mp _ ((he.2.1.cell (p := ⟨mb, 0, none⟩) (by show mb < _; omega)).trans HMc.out)).mono ?_
                rintro e w2 ⟨rfl, hb2⟩
                have he2 := he.later hb2
                exact hK.out _ _ ⟨by simpa using hsz, v14, .func (.func 10) #[] #[.pointer (some ⟨mb, 0, none⟩), mp], v59, .agg (bv x.lk).toArray, .agg (bv x.lk).toArray, v62, v63, v64, by simp only [Act.put, List.setIfInBounds_toArray, List.set_cons_zero, List.set_cons_succ], ⟨fun h => p0 ((On_ne (by omega)).1 h), fun h => p1 ((On_ne (by omega)).1 h), fun h => p2 ((On_ne (by omega)).1 h), fun _ => rfl, fun h => p4 ((On_ne (by omega)).1 h), fun h => p5 ((On_ne (by omega)).1 h), fun h => p6 ((On_ne (by omega)).1 h)⟩, he2.other (by omega) (by omega)⟩
              · cases ho
                refine wpOp_stepS rfl (fun K hK => ?_)
                simp only [Act.put, List.setIfInBounds_toArray, List.set_cons_zero, List.set_cons_succ]
                go_simp
                exact hK.out _ _ ⟨by simpa using hsz, v14, v58, v59, v60, v61, .pointer (some ⟨ib, 65, none⟩), v63, v64, by simp only [Act.put, List.setIfInBounds_toArray, List.set_cons_zero, List.set_cons_succ], ⟨fun h => p0 ((On_ne (by omega)).1 h), fun h => p1 ((On_ne (by omega)).1 h), fun h => p2 ((On_ne (by omega)).1 h), fun h => p3 ((On_ne (by omega)).1 h), fun _ => rfl, fun h => p5 ((On_ne (by omega)).1 h), fun h => p6 ((On_ne (by omega)).1 h)⟩, he.other (by omega) (by omega)⟩
              · cases ho
                have d4 : On ls 4 := hd ⟨4, .data⟩ (by simp) rfl
                have e := p4 d4
                subst e
                refine wpOp_stepS rfl (fun K hK => ?_)
                simp only [Act.put, List.setIfInBounds_toArray, List.set_cons_zero, List.set_cons_succ]
                have hr := (HXc.out.below he.2.1 (by omega)).ka
                go_simp
                exact hK.out _ _ ⟨by simpa using hsz, v14, v58, v59, v60, v61, .pointer (some ⟨ib, 65, none⟩), .string x.ka, v64, by simp only [Act.put, List.setIfInBounds_toArray, List.set_cons_zero, List.set_cons_succ], ⟨fun h => p0 ((On_ne (by omega)).1 h), fun h => p1 ((On_ne (by omega)).1 h), fun h => p2 ((On_ne (by omega)).1 h), fun h => p3 ((On_ne (by omega)).1 h), fun h => p4 ((On_ne (by omega)).1 h), fun _ => rfl, fun h => p6 ((On_ne (by omega)).1 h)⟩, he.other (by omega) (by omega)⟩
              · cases ho
                have d3 : On ls 3 := hd ⟨3, .data⟩ (by simp) rfl
                have e := p3 d3
                subst e
                have d5 : On ls 5 := hd ⟨5, .data⟩ (by simp) rfl
                have e := p5 d5
                subst e
                refine wpOp_stepS rfl (fun K hK => ?_)
                simp only [Act.put, List.setIfInBounds_toArray, List.set_cons_zero, List.set_cons_succ]
                rw [if_pos (by rfl)]
                refine wp_build2 51 _ _ rfl _ _ rfl rfl _ (build51 x.lk ok.hk x.ka _) ?_
                simp only [List.getElem_toArray, List.getElem_cons_succ, List.getElem_cons_zero, Act.put, List.setIfInBounds_toArray, List.set_cons_zero, List.set_cons_succ]
                exact hK.out _ _ ⟨by simpa using hsz, v14, v58, v59, v60, .agg (bv x.lk).toArray, v62, .string x.ka, .agg (peerCells x.lk x.ka), by simp only [Act.put, List.setIfInBounds_toArray, List.set_cons_zero, List.set_cons_succ], ⟨fun h => p0 ((On_ne (by omega)).1 h), fun h => p1 ((On_ne (by omega)).1 h), fun h => p2 ((On_ne (by omega)).1 h), fun h => p3 ((On_ne (by omega)).1 h), fun h => p4 ((On_ne (by omega)).1 h), fun h => p5 ((On_ne (by omega)).1 h), fun _ => rfl⟩, he.other (by omega) (by omega)⟩
              · cases ho
                refine wpOp_stepS rfl (fun K hK => ?_)
                simp only [Act.put, List.setIfInBounds_toArray, List.set_cons_zero, List.set_cons_succ]
                go_simp
                exact hK.out _ _ ⟨by simpa using hsz, .pointer (some ⟨w'.heap.size, 0, none⟩), v58, v59, v60, v61, v62, v63, v64, by simp only [Act.put, List.setIfInBounds_toArray, List.set_cons_zero, List.set_cons_succ], ⟨fun h => p0 ((On_ne (by omega)).1 h), fun h => p1 ((On_ne (by omega)).1 h), fun h => p2 ((On_ne (by omega)).1 h), fun h => p3 ((On_ne (by omega)).1 h), fun h => p4 ((On_ne (by omega)).1 h), fun h => p5 ((On_ne (by omega)).1 h), fun h => p6 ((On_ne (by omega)).1 h)⟩, he.made (by omega) hnot _ ((peer_size x.lk ok.hk _).symm)⟩
              · cases ho
                have d7 : On ls 7 := hd ⟨7, .data⟩ (by simp) rfl
                have d6 : On ls 6 := hd ⟨6, .data⟩ (by simp) rfl
                have e := p6 d6
                subst e
                obtain ⟨g, old, e, hg, hs, he2⟩ := he.stored (by omega) d7
                subst e
                refine wpOp_stepS rfl (fun K hK => ?_)
                simp only [Act.put, List.setIfInBounds_toArray, List.set_cons_zero, List.set_cons_succ]
                rw [if_pos (by rfl)]
                refine wp_store_row 51 _ _ rfl g 51 old (peerCells x.lk x.ka) rfl rfl hg (by rw [peer_size x.lk ok.hk]; kernel_rfl) hs (peer_one _ _) ?_
                simp only [List.getElem_toArray, List.getElem_cons_succ, List.getElem_cons_zero, Act.put]
                exact hK.out _ _ ⟨by simpa using hsz, .pointer (some ⟨g, 0, none⟩), v58, v59, v60, v61, v62, v63, .agg (peerCells x.lk x.ka), by simp only [Act.put, List.setIfInBounds_toArray, List.set_cons_zero, List.set_cons_succ], ⟨fun h => p0 ((On_ne (by omega)).1 h), fun h => p1 ((On_ne (by omega)).1 h), fun h => p2 ((On_ne (by omega)).1 h), fun h => p3 ((On_ne (by omega)).1 h), fun h => p4 ((On_ne (by omega)).1 h), fun h => p5 ((On_ne (by omega)).1 h), fun h => p6 ((On_ne (by omega)).1 h)⟩, he2⟩
            · intro ls a' w' hall hI
              obtain ⟨hsz, v14, v58, v59, v60, v61, v62, v63, v64, rfl, hp, he⟩ := hI
              obtain ⟨pg, e, hpg, hph, hpb⟩ := he.done (On.of_listed (by omega) (hall 7 (by simp))) (On.of_listed (by omega) (hall 8 (by simp)))
              subst e
              simp only [Act.put, List.setIfInBounds_toArray, List.set_cons_zero, List.set_cons_succ]
              obtain ⟨hc, hf, F1, F2, F3⟩ := keeper_stored ok HV.out HNE.out hpb hpg hph HBW.out hhb lW
              have F : Hid (∃ ko : Node, HovIs x hb g cap ks ko none (w'.setCell ⟨hb, 41, none⟩ (.pointer (some ⟨pg, 0, none⟩))) ∧ NodeIs x.hasK x.lk x.ka ko (w'.setCell ⟨hb, 41, none⟩ (.pointer (some ⟨pg, 0, none⟩))) ∧ Below W0.heap.size W0 (w'.setCell ⟨hb, 41, none⟩ (.pointer (some ⟨pg, 0, none⟩)))) := ⟨_, F1, by rw [hK]; exact F2, F3⟩
              clear F1 F2 F3 hp hpb hph hall
              go_wp2
              go_meet
              case rel => exact F.out
        case rest =>
          clear HV HBW lW
          obtain ⟨ko, hv, hnk, hbW⟩ := hcut
          have hc := (HX.out.below hbW l1).hasB
          have HV : Hid (HovIs x hb g cap ks ko none wc) := hv
          have HNK : Hid (NodeIs x.hasK x.lk x.ka ko wc) := hnk
          have HBW : Hid (Below W0.heap.size W0 wc) := hbW
          have lW : W0.heap.size ≤ wc.heap.size := hbW.size
          clear hv hnk hbW
          go_upto_if 70 with fail
          clear hc
          go_cut [] (fun w' => ∃ bo : Node, HovIs x hb g cap ks ko bo w' ∧ NodeIs x.hasK x.lk x.ka ko w' ∧ NodeIs x.hasB x.lb x.ba bo w' ∧ Below W0.heap.size W0 w')
          case first =>
            have HXc : Hid (x.At ib wc) := HX.out.below HBW.out l1
            have HMc : Hid (wc.cell? ⟨mb, 0, none⟩ = some (.bool false)) := (HBW.out.cell (p := ⟨mb, 0, none⟩) l2).trans HM.out
            cases hK : x.hasB
            · go_wp2
              go_meet
              case rel => exact ⟨none, HV.out, HNK.out, .inl ⟨hK, rfl⟩, HBW.out⟩
            · go_wp2
              refine wp_region_inv (by kernel_rfl) (by kernel_rfl) (fun a0 ls a w' => ls.size = 9 ∧ ∃ v15 v71 v72 v73 v74 v75 v76 v77, a = ((((((((a0.put (some 15) v15).put (some 71) v71).put (some 72) v72).put (some 73) v73).put (some 74) v74).put (some 75) v75).put (some 76) v76).put (some 77) v77) ∧ ((On ls 0 → v71 = .func (.func 10) #[] #[.pointer (some ⟨mb, 0, none⟩), mp]) ∧ (On ls 1 → v72 = .pointer (some ⟨ib, 67, none⟩)) ∧ (On ls 2 → v73 = .agg (bv x.lb).toArray) ∧ (On ls 3 → v74 = .agg (bv x.lb).toArray) ∧ (On ls 4 → v75 = .pointer (some ⟨ib, 87, none⟩)) ∧ (On ls 5 → v76 = .string x.ba) ∧ (On ls 6 → v77 = .agg (peerCells x.lb x.ba))) ∧ Laid 51 7 8 (peerCells x.lb x.ba) wc.heap.size wc ls v15 w') ?_ ?_ ?_
              · refine ⟨by simp, undef, u71, u72, u73, u74, u75, u76, u77, by simp only [Act.put, List.setIfInBounds_toArray, List.set_cons_zero, List.set_cons_succ], ⟨fun h => h.not_replicate.elim, fun h => h.not_replicate.elim, fun h => h.not_replicate.elim, fun h => h.not_replicate.elim, fun h => h.not_replicate.elim, fun h => h.not_replicate.elim, fun h => h.not_replicate.elim⟩, Laid.start (Nat.le_refl _)⟩
              · intro i o ls a' w' ho hl hd hI
                obtain ⟨hsz, v15, v71, v72, v73, v74, v75, v76, v77, rfl, ⟨p0, p1, p2, p3, p4, p5, p6⟩, he⟩ := hI
                have hi : i < 9 := (Array.getElem?_eq_some_iff.1 ho).1
                have hnot := On.not hl
                rcases (by omega : i = 0 ∨ i = 1 ∨ i = 2 ∨ i = 3 ∨ i = 4 ∨ i = 5 ∨ i = 6 ∨ i = 7 ∨ i = 8) with rfl | rfl | rfl | rfl | rfl | rfl | rfl | rfl | rfl
                · cases ho
                  refine wpOp_stepS rfl (fun K hK => ?_)
                  simp only [Act.put, List.setIfInBounds_toArray, List.set_cons_zero, List.set_cons_succ]
                  go_simp
                  exact hK.out _ _ ⟨by simpa using hsz, v15, .func (.func 10) #[] #[.pointer (some ⟨mb, 0, none⟩), mp], v72, v73, v74, v75, v76, v77, by simp only [Act.put, List.setIfInBounds_toArray, List.set_cons_zero, List.set_cons_succ], ⟨fun _ => rfl, fun h => p1 ((On_ne (by omega)).1 h), fun h => p2 ((On_ne (by omega)).1 h), fun h => p3 ((On_ne (by omega)).1 h), fun h => p4 ((On_ne (by omega)).1 h), fun h => p5 ((On_ne (by omega)).1 h), fun h => p6 ((On_ne (by omega)).1 h)⟩, he.other (by omega) (by omega)⟩
                · cases ho
                  refine wpOp_stepS rfl (fun K hK => ?_)
                  simp only [Act.put, List.setIfInBounds_toArray, List.set_cons_zero, List.set_cons_succ]
                  go_simp
                  exact hK.out _ _ ⟨by simpa using hsz, v15, v71, .pointer (some ⟨ib, 67, none⟩), v73, v74, v75, v76, v77, by simp only [Act.put, List.setIfInBounds_toArray, List.set_cons_zero, List.set_cons_succ], ⟨fun h => p0 ((On_ne (by omega)).1 h), fun _ => rfl, fun h => p2 ((On_ne (by omega)).1 h), fun h => p3 ((On_ne (by omega)).1 h), fun h => p4 ((On_ne (by omega)).1 h), fun h => p5 ((On_ne (by omega)).1 h), fun h => p6 ((On_ne (by omega)).1 h)⟩, he.other (by omega) (by omega)⟩
                · cases ho
                  have d1 : On ls 1 := hd ⟨1, .data⟩ (by simp) rfl
                  have e := p1 d1
                  subst e
                  refine wpOp_stepS rfl (fun K hK => ?_)
                  simp only [Act.put, List.setIfInBounds_toArray, List.set_cons_zero, List.set_cons_succ]
                  have hr := (HXc.out.below he.2.1 (by omega)).lb
                  rw [if_pos (by rfl)]
                  refine wp_load_mid 22 _ rfl ib 67 rfl (bv x.lb) _ hr Ybad.underlying22 rfl (info22 _ ok.hb) ?_
                  simp only [List.getElem_toArray, List.getElem_cons_succ, List.getElem_cons_zero, Act.put, List.setIfInBounds_toArray, List.set_cons_zero, List.set_cons_succ]
                  exact hK.out _ _ ⟨by simpa using hsz, v15, v71, .pointer (some ⟨ib, 67, none⟩), .agg (bv x.lb).toArray, v74, v75, v76, v77, by simp only [Act.put, List.setIfInBounds_toArray, List.set_cons_zero, List.set_cons_succ], ⟨fun h => p0 ((On_ne (by omega)).1 h), fun h => p1 ((On_ne (by omega)).1 h), fun _ => rfl, fun h => p3 ((On_ne (by omega)).1 h), fun h => p4 ((On_ne (by omega)).1 h), fun h => p5 ((On_ne (by omega)).1 h), fun h => p6 ((On_ne (by omega)).1 h)⟩, he.other (by omega) (by omega)⟩
                · cases ho
                  have d0 : On ls 0 := hd ⟨0, .data⟩ (by simp) rfl
                  have e := p0 d0
                  subst e
                  have d2 : On ls 2 := hd ⟨2, .data⟩ (by simp) rfl
                  have e := p2 d2
                  subst e
                  refine wpOp_stepS rfl (fun K hK => ?_)
                  simp only [Act.put, List.setIfInBounds_toArray, List.set_cons_zero, List.set_cons_succ]
                  go_simp
                  refine (conv_any x.lb ok.hb mb mp _ ((he.2.1.cell (p := ⟨mb, 0, none⟩) (by show mb < _; omega)).trans HMc.out)).mono ?_
                  rintro e w2 ⟨rfl, hb2⟩
                  have he2 := he.later hb2
                  exact hK.out _ _ ⟨by simpa using hsz, v15, .func (.func 10) #[] #[.pointer (some ⟨mb, 0, none⟩), mp], v72, .agg (bv x.lb).toArray, .agg (bv x.lb).toArray, v75, v76, v77, by simp only [Act.put, List.setIfInBounds_toArray, List.set_cons_zero, List.set_cons_succ], ⟨fun h => p0 ((On_ne (by omega)).1 h), fun h => p1 ((On_ne (by omega)).1 h), fun h => p2 ((On_ne (by omega)).1 h), fun _ => rfl, fun h => p4 ((On_ne (by omega)).1 h), fun h => p5 ((On_ne (by omega)).1 h), fun h => p6 ((On_ne (by omega)).1 h)⟩, he2.other (by omega) (by omega)⟩
                · cases ho
                  refine wpOp_stepS rfl (fun K hK => ?_)
                  simp only [Act.put, List.setIfInBounds_toArray, List.set_cons_zero, List.set_cons_succ]
                  go_simp
                  exact hK.out _ _ ⟨by simpa using hsz, v15, v71, v72, v73, v74, .pointer (some ⟨ib, 87, none⟩), v76, v77, by simp only [Act.put, List.setIfInBounds_toArray, List.set_cons_zero, List.set_cons_succ], ⟨fun h => p0 ((On_ne (by omega)).1 h), fun h => p1 ((On_ne (by omega)).1 h), fun h => p2 ((On_ne (by omega)).1 h), fun h => p3 ((On_ne (by omega)).1 h), fun _ => rfl, fun h => p5 ((On_ne (by omega)).1 h), fun h => p6 ((On_ne (by omega)).1 h)⟩, he.other (by omega) (by omega)⟩
                · cases ho
                  have d4 : On ls 4 := hd ⟨4, .data⟩ (by simp) rfl
                  have e := p4 d4
                  subst e
                  refine wpOp_stepS rfl (fun K hK => ?_)
                  simp only [Act.put, List.setIfInBounds_toArray, List.set_cons_zero, List.set_cons_succ]
                  have hr := (HXc.out.below he.2.1 (by omega)).ba
                  go_simp
                  exact hK.out _ _ ⟨by simpa using hsz, v15, v71, v72, v73, v74, .pointer (some ⟨ib, 87, none⟩), .string x.ba, v77, by simp only [Act.put, List.setIfInBounds_toArray, List.set_cons_zero, List.set_cons_succ], ⟨fun h => p0 ((On_ne (by omega)).1 h), fun h => p1 ((On_ne (by omega)).1 h), fun h => p2 ((On_ne (by omega)).1 h), fun h => p3 ((On_ne (by omega)).1 h), fun h => p4 ((On_ne (by omega)).1 h), fun _ => rfl, fun h => p6 ((On_ne (by omega)).1 h)⟩, he.other (by omega) (by omega)⟩
                · cases ho
                  have d3 : On ls 3 := hd ⟨3, .data⟩ (by simp) rfl
                  have e := p3 d3
                  subst e
                  have d5 : On ls 5 := hd ⟨5, .data⟩ (by simp) rfl
                  have e := p5 d5
                  subst e
                  refine wpOp_stepS rfl (fun K hK => ?_)
                  simp only [Act.put, List.setIfInBounds_toArray, List.set_cons_zero, List.set_cons_succ]
                  rw [if_pos (by rfl)]
                  refine wp_build2 51 _ _ rfl _ _ rfl rfl _ (build51 x.lb ok.hb x.ba _) ?_
                  simp only [List.getElem_toArray, List.getElem_cons_succ, List.getElem_cons_zero, Act.put, List.setIfInBounds_toArray, List.set_cons_zero, List.set_cons_succ]
                  exact hK.out _ _ ⟨by simpa using hsz, v15, v71, v72, v73, .agg (bv x.lb).toArray, v75, .string x.ba, .agg (peerCells x.lb x.ba), by simp only [Act.put, List.setIfInBounds_toArray, List.set_cons_zero, List.set_cons_succ], ⟨fun h => p0 ((On_ne (by omega)).1 h), fun h => p1 ((On_ne (by omega)).1 h), fun h => p2 ((On_ne (by omega)).1 h), fun h => p3 ((On_ne (by omega)).1 h), fun h => p4 ((On_ne (by omega)).1 h), fun h => p5 ((On_ne (by omega)).1 h), fun _ => rfl⟩, he.other (by omega) (by omega)⟩
                · cases ho
                  refine wpOp_stepS rfl (fun K hK => ?_)
                  simp only [Act.put, List.setIfInBounds_toArray, List.set_cons_zero, List.set_cons_succ]
                  go_simp
                  exact hK.out _ _ ⟨by simpa using hsz, .pointer (some ⟨w'.heap.size, 0, none⟩), v71, v72, v73, v74, v75, v76, v77, by simp only [Act.put, List.setIfInBounds_toArray, List.set_cons_zero, List.set_cons_succ], ⟨fun h => p0 ((On_ne (by omega)).1 h), fun h => p1 ((On_ne (by omega)).1 h), fun h => p2 ((On_ne (by omega)).1 h), fun h => p3 ((On_ne (by omega)).1 h), fun h => p4 ((On_ne (by omega)).1 h), fun h => p5 ((On_ne (by omega)).1 h), fun h => p6 ((On_ne (by omega)).1 h)⟩, he.made (by omega) hnot _ ((peer_size x.lb ok.hb _).symm)⟩
                · cases ho
                  have d7 : On ls 7 := hd ⟨7, .data⟩ (by simp) rfl
                  have d6 : On ls 6 := hd ⟨6, .data⟩ (by simp) rfl
                  have e := p6 d6
                  subst e
                  obtain ⟨g, old, e, hg, hs, he2⟩ := he.stored (by omega) d7
                  subst e
                  refine wpOp_stepS rfl (fun K hK => ?_)
                  simp only [Act.put, List.setIfInBounds_toArray, List.set_cons_zero, List.set_cons_succ]
                  rw [if_pos (by rfl)]
                  refine wp_store_row 51 _ _ rfl g 51 old (peerCells x.lb x.ba) rfl rfl hg (by rw [peer_size x.lb ok.hb]; kernel_rfl) hs (peer_one _ _) ?_
                  simp only [List.getElem_toArray, List.getElem_cons_succ, List.getElem_cons_zero, Act.put]
                  exact hK.out _ _ ⟨by simpa using hsz, .pointer (some ⟨g, 0, none⟩), v71, v72, v73, v74, v75, v76, .agg (peerCells x.lb x.ba), by simp only [Act.put, List.setIfInBounds_toArray, List.set_cons_zero, List.set_cons_succ], ⟨fun h => p0 ((On_ne (by omega)).1 h), fun h => p1 ((On_ne (by omega)).1 h), fun h => p2 ((On_ne (by omega)).1 h), fun h => p3 ((On_ne (by omega)).1 h), fun h => p4 ((On_ne (by omega)).1 h), fun h => p5 ((On_ne (by omega)).1 h), fun h => p6 ((On_ne (by omega)).1 h)⟩, he2⟩
              · intro ls a' w' hall hI
                obtain ⟨hsz, v15, v71, v72, v73, v74, v75, v76, v77, rfl, hp, he⟩ := hI
                obtain ⟨pg, e, hpg, hph, hpb⟩ := he.done (On.of_listed (by omega) (hall 7 (by simp))) (On.of_listed (by omega) (hall 8 (by simp)))
                subst e
                simp only [Act.put, List.setIfInBounds_toArray, List.set_cons_zero, List.set_cons_succ]
                obtain ⟨hc, hf, F1, F2, F3, F4⟩ := before_stored ok HV.out HNK.out HNE.out hpb hpg hph HBW.out hhb lW
                have F : Hid (∃ bo : Node, HovIs x hb g cap ks ko bo (w'.setCell ⟨hb, 42, none⟩ (.pointer (some ⟨pg, 0, none⟩))) ∧ NodeIs x.hasK x.lk x.ka ko (w'.setCell ⟨hb, 42, none⟩ (.pointer (some ⟨pg, 0, none⟩))) ∧ NodeIs x.hasB x.lb x.ba bo (w'.setCell ⟨hb, 42, none⟩ (.pointer (some ⟨pg, 0, none⟩))) ∧ Below W0.heap.size W0 (w'.setCell ⟨hb, 42, none⟩ (.pointer (some ⟨pg, 0, none⟩)))) := ⟨_, F1, F2, by rw [hK]; exact F3, F4⟩
                clear F1 F2 F3 F4 hp hpb hph hall
                go_wp2
                go_meet
                case rel => exact F.out
          case rest =>
            clear HV HNK HBW lW
            obtain ⟨bo, hv, hnk, hnb, hbW⟩ := hcut
            obtain ⟨cs, hcs⟩ : ∃ cs : List Value, hovCells x.lf x.op x.lt ko.value bo.value x.orph (.slice (some ⟨g, 0, none⟩) ks.length cap) x.u = cs.toArray := ⟨_, rfl⟩
            have hsz : cs.length = 46 := by
              have := hov_size x.lf x.lt ok.hf ok.ht x.op x.orph ko.value bo.value (.slice (some ⟨g, 0, none⟩) ks.length cap) x.u
              rw [hcs, List.size_toArray] at this; exact this
            have hone : cs.toArray.all (·.oneCell') = true := by
              rw [← hcs]
              exact hov_one _ _ _ _ _ _ _ _ (by cases ko <;> rfl) (by cases bo <;> rfl) rfl
            obtain ⟨z, hz, hz46⟩ := HR.out
            have hzr : wc.heap[rb]? = some (.cells z 36) := (hbW.block rb l3).trans hz
            have hb0 : Below w.heap.size w wc := HBL.out.trans (hbW.mono HWS.out.2)
            have hrow : wc.rangeAt hb 0 cs := fun i v hv2 => by
              rw [Nat.zero_add, cell_of_row wc hb i _ 36 (0, 0) hv.1, hcs, List.getElem?_toArray]; exact hv2
            have R : Hid (wc.rangeAt hb 0 cs) := hrow
            have HI : Hid ((Ybad.prog.info? 36).map (·.size) = some cs.length) := by show (Ybad.prog.info? 36).map (·.size) = _; rw [hsz]; kernel_rfl
            have HZ : Hid (wc.heap[rb]? = some (.cells z 36)) := hzr
            have hz2 : z.size = cs.toArray.size := hz46.trans hsz.symm
            have HZ2 : Hid (z.size = cs.toArray.size) := hz2
            have HI2 : Hid ((Ybad.prog.info? 36).map (·.size) = some cs.toArray.size) := by show (Ybad.prog.info? 36).map (·.size) = _; rw [List.size_toArray]; exact HI.out
            have HON : Hid (cs.toArray.all (·.oneCell') = true) := hone
            have F : Hid _ := Lib.hid (hov_returned (cs := cs) hv hnk hnb HGR.out z hzr hb0 HWS.out.1 (Nat.le_trans HWS.out.2 hbW.size))
            have HCS := Lib.hid hcs
            clear hv hnk hnb hbW hcs hsz hone hz hz46 hz2 hzr hb0 hrow
            go_wp2_with (first | refine wpList_load_mid rfl 36 _ rfl hb 0 rfl cs _ R.out Ybad.underlying36 rfl HI.out ?_ | refine wpList_store_row rfl 36 _ _ rfl rb 36 z cs.toArray rfl rfl HZ.out HI2.out HZ2.out HON.out ?_)
            obtain ⟨f1, f2, f3, f4, f5⟩ := F.out
            refine bodyPost_ret (v := .agg cs.toArray) (results_row Ybad.results4 _ _ rb rfl cs _ f1 Ybad.underlying36 rfl HI.out) rfl ⟨g, cap, ko, bo, ?_, f2, f3, f4, f5⟩
            rw [HCS.out]
end Go.Proofs.YbulkajiaDoor
