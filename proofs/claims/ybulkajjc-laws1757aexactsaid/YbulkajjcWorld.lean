/-
  PLAIN WORDS ON WORLDS: a map keyed by strings; rows of bytes that a call owns ('Bs'), that it may read ('Rd'), and what an append does to them ('App').
-/
import Derived.Test.YbulkajjcRows
import Derived.Maps.OwnSet
import Derived.Maps.AppendAt
import Derived.WalkKit
import Derived.WalkLawsBesides
import Derived.Lib.AppendStr
import Derived.Lib.Hide
import Derived.Laws.OwnMore
namespace Go.Proofs.Ybulkajjc
open Go.RowKit Go.Maps Go.ChangeMaps Go.WideMaps Go.Lib

/-- Each element's value stands for itself. -/
def tokR (v : Value) : Option (DataW Value × List MemPlace) := some (.held v, [])

/-- BLOCK b IS A MAP OF AT MOST n ENTRIES: f: what stands at a key; sz: how many entries; z: the elements' zero. -/
def MapIs (P : Program) (k : TypeId) (z : Value) (w : World) (b n : Nat) (f : List UInt8 → Option Value) (sz : Nat) : Prop :=
  ∃ D : DataW Value, w.ownsMap P k tokR b n D ∧ Maps.size D = sz ∧ ∀ s, Maps.has D (.string s) = (f s).isSome ∧ D.atKey (.string s) (.held z) = .held ((f s).getD z)

def put (f : List UInt8 → Option Value) (s : List UInt8) (v : Value) : List UInt8 → Option Value := fun t => if t = s then some v else f t

section
variable {P : Program} {k : TypeId} {z : Value} {w : World} {b n : Nat} {f : List UInt8 → Option Value} {sz : Nat}

theorem MapIs.made (w : World) : MapIs P k z (w.alloc (.map #[] 0)) w.heap.size 0 (fun _ => none) 0 :=
  ⟨.map [], World.ownsMap_made w P k tokR, rfl, fun _ => ⟨rfl, rfl⟩⟩

theorem MapIs.kept {w' : World} {row : Option Nat} (h : MapIs P k z w b n f sz) (hg : w.grownBy w' row) (hne : some b ≠ row) : MapIs P k z w' b n f sz := by
  obtain ⟨D, h1, h2⟩ := h
  exact ⟨D, h1.kept hg hne, h2⟩

theorem MapIs.lt (h : MapIs P k z w b n f sz) : b < w.heap.size := by
  obtain ⟨D, h1, h2⟩ := h
  exact h1.lt

theorem MapIs.same {w' : World} (h : MapIs P k z w b n f sz) (hb : w'.heap[b]? = w.heap[b]?) : MapIs P k z w' b n f sz := by
  obtain ⟨D, ⟨es, clock, h1, h3⟩, h2⟩ := h
  exact ⟨D, ⟨es, clock, hb.trans h1, h3⟩, h2⟩

theorem MapIs.size_le (h : MapIs P k z w b n f sz) : sz ≤ n := by
  obtain ⟨D, h1, rfl, _⟩ := h
  exact h1.size_le

theorem MapIs.heap (h : MapIs P k z w b n f sz) : ∃ es clock, w.heap[b]? = some (.map es clock) := by
  obtain ⟨D, ⟨es, clock, h1, _⟩, _⟩ := h
  exact ⟨es, clock, h1⟩

theorem MapIs.look {t e : TypeId} (h : MapIs P k z w b n f sz) (hk : P.underlying k = some .string) (ht : P.underlying t = some (.map k e)) (hz : (zeroValue e).run P w = .ok z w) {s : ByteArray} (hs : s.size ≤ maxLen) :
    (Instr.lookup t (.map (some b)) (.string s) false).run P w = .ok ((f s.data.toList).getD z) w := by
  obtain ⟨D, h1, _, h2⟩ := h
  obtain ⟨v, ps, hr, hv⟩ := h1.lookup (string_keyed hk) ht hz (zd := .held z) (zp := []) rfl (keyOf_string_mk hk hs)
  rw [(h2 _).2] at hv
  simp only [tokR, Option.some.injEq, Prod.mk.injEq, DataW.held.injEq] at hv
  rw [hr, hv.1]

theorem MapIs.look_ok {t e : TypeId} (h : MapIs P k z w b n f sz) (hk : P.underlying k = some .string) (ht : P.underlying t = some (.map k e)) (hz : (zeroValue e).run P w = .ok z w) {s : ByteArray} (hs : s.size ≤ maxLen) :
    (Instr.lookup t (.map (some b)) (.string s) true).run P w = .ok (.tuple #[(f s.data.toList).getD z, .bool (f s.data.toList).isSome]) w := by
  obtain ⟨D, h1, _, h2⟩ := h
  obtain ⟨v, ps, hr, hv⟩ := h1.look_ok (string_keyed hk) ht hz (zd := .held z) (zp := []) rfl (keyOf_string_mk hk hs)
  rw [(h2 _).2] at hv
  simp only [tokR, Option.some.injEq, Prod.mk.injEq, DataW.held.injEq] at hv
  rw [hr, hv.1, (h2 _).1]

theorem MapIs.len {t e : TypeId} (h : MapIs P k z w b n f sz) (ht : P.underlying t = some (.map k e)) (ty : TypeId) : (Builtin.len_ #[t] ty #[.map (some b)]).run P w = .ok (.int .i64 sz) w := by
  obtain ⟨D, h1, rfl, _⟩ := h
  exact h1.len ht ty

theorem MapIs.upd {t e : TypeId} (h : MapIs P k z w b n f sz) (hk : P.underlying k = some .string) (ht : P.underlying t = some (.map k e)) (hn : n < maxLen) {s : ByteArray} (hs : s.size ≤ maxLen) (v : Value) :
    ∃ w', (Instr.mapUpdate t (.map (some b)) (.string s) v).run P w = .ok () w' ∧ MapIs P k z w' b (n + 1) (put f s.data.toList v) (if (f s.data.toList).isSome then sz else sz + 1) ∧ w.grownBy w' (some b) := by
  obtain ⟨D, h1, h3, h2⟩ := h
  obtain ⟨w', hr, ho, hg⟩ := h1.update (string_keyed hk) ht hn (keyOf_string_mk hk hs) (val := v) (d := .held v) (ps := []) rfl
  refine ⟨w', hr, ⟨_, ho, ?_, fun s' => ?_⟩, hg⟩
  · rw [size_put (h1.tidy (string_keyed hk)), (h2 _).1, h3]
  · by_cases e : s' = s.data.toList
    · subst e
      rw [has_put_same (k := .string s.data.toList) h1.isMap trivial, atKey_put_same (k := .string s.data.toList) h1.isMap trivial]
      simp [put]
    · have hne : (Lit.string s') ≠ Lit.string s.data.toList := by simpa using e
      rw [has_put_other hne, atKey_put_other hne, (h2 _).1, (h2 _).2]
      simp [put, e]
end

/-- AN append WHOSE RUN IS KNOWN. -/
theorem wpList_app {P : Program} {w : World} {ops : Array Oper} {rest : List Oper} {o : Oper} {a : Act} {Q : Exit → Act → World → Prop} (hgd : o.guard = none) (s x : Operand) (t tx : TypeId)
    (ho : o.op = .call { callee := .builtin .append, args := #[s, x], argTypes := #[t, tx] }) (v xv : Value) (hs : a.eval s = v) (hx : a.eval x = xv) {v' : Value} {w' : World}
    (hr : (Builtin.append_ #[t, tx] o.type #[v, xv]).run P w = .ok v' w') (h : wpList P ops Q rest (a.put o.dst v') w') : wpList P ops Q (o :: rest) a w := by
  refine wpList_plain hgd fun K hK => ?_
  unfold Oper.wp execOp
  simp only [ho, resolve, invoke, builtin, Sem.run_bind, Sem.run_pure, Result.andThen_ok, List.map_toArray, List.map_cons, List.map_nil, hs, hx, hr]
  exact hK _ _ h

/-! ### rows of bytes -/
/-- Bytes as cells. -/
def bv (l : List UInt8) : List Value := l.map fun b => .int .u8 (b.toNat : Int)

theorem bv_length (l : List UInt8) : (bv l).length = l.length := by simp [bv]
theorem bv_append (l m : List UInt8) : bv (l ++ m) = bv l ++ bv m := by simp [bv]
theorem bv_one (l : List UInt8) : ∀ u ∈ bv l, u.oneCell' = true := by
  intro u hu
  simp only [bv, List.mem_map] at hu
  obtain ⟨b, _, rfl⟩ := hu
  rfl
theorem bv_str (s : ByteArray) : strCells s = bv s.data.toList := rfl

/-- v OWNS THE BYTES l, in a block from 'base' on. -/
def Bs (w : World) (base : Nat) (v : Value) (l : List UInt8) : Prop := w.ownsRow base 5 1 v l.length (bv l)

/-- v READS AS THE BYTES l. -/
def Rd (w : World) (v : Value) (l : List UInt8) : Prop :=
  (v = .slice none 0 0 ∧ l = []) ∨ ∃ a c, v = .slice (some a) l.length c ∧ ∀ j u, (bv l)[j]? = some u → w.cell? (a.add j) = some u

theorem Rd.below {w w' : World} {v : Value} {l : List UInt8} (h : Rd w v l) (hb : Below w.heap.size w w') : Rd w' v l := by
  rcases h with h | ⟨a, c, rfl, h⟩
  · exact .inl h
  · exact .inr ⟨a, c, rfl, fun j u hu => (hb.cell (World.block_lt_of_cell? w _ (h j u hu))).trans (h j u hu)⟩

theorem Rd.len {w : World} {v : Value} {l : List UInt8} (h : Rd w v l) : ∃ a c, v = .slice a l.length c := by
  rcases h with ⟨rfl, rfl⟩ | ⟨a, c, rfl, h⟩
  · exact ⟨none, 0, rfl⟩
  · exact ⟨some a, c, rfl⟩

theorem Bs.nil (w : World) (base : Nat) : Bs w base (.slice none 0 0) [] := World.ownsRow_nil w base 5 1

theorem Bs.rd {w : World} {base : Nat} {v : Value} {l : List UInt8} (h : Bs w base v l) : Rd w v l := by
  rcases h.2 with ⟨rfl, hn⟩ | ⟨g, cap, cur, rfl, _, hg, hc, _, _, _⟩
  · exact .inl ⟨rfl, List.eq_nil_of_length_eq_zero hn⟩
  · exact .inr ⟨⟨g, 0, none⟩, cap, rfl, h.cells rfl⟩

theorem Bs.lt {w : World} {base : Nat} {v : Value} {l : List UInt8} (h : Bs w base v l) : ∀ k, v.ownBlock = some k → base ≤ k ∧ k < w.heap.size := World.ownsRow.lt h

/-- AN append HAS BEEN DONE: from v, which owned l, to v', which owns l'; nothing but v's own row and new blocks has turned. -/
structure App (base : Nat) (w w' : World) (v v' : Value) (l' : List UInt8) : Prop where
  own : Bs w' base v' l'
  grown : w.grownBy w' v.ownBlock
  loc : v'.ownBlock = v.ownBlock ∨ ∃ g, v'.ownBlock = some g ∧ w.heap.size ≤ g

theorem App.refl {base : Nat} {w : World} {v : Value} {l : List UInt8} (h : Bs w base v l) : App base w w v v l :=
  ⟨h, ⟨rfl, rfl, rfl, Nat.le_refl _, fun _ _ _ => rfl⟩, .inl rfl⟩

theorem App.trans {base : Nat} {w w1 w2 : World} {v v1 v2 : Value} {l1 l2 : List UInt8} (h : App base w w1 v v1 l1) (k : App base w1 w2 v1 v2 l2) : App base w w2 v v2 l2 := by
  refine ⟨k.own, ⟨k.grown.os.trans h.grown.os, k.grown.tape.trans h.grown.tape, k.grown.output.trans h.grown.output, Nat.le_trans h.grown.size k.grown.size, fun i hi hne => ?_⟩, ?_⟩
  · refine (k.grown.block i (Nat.lt_of_lt_of_le hi h.grown.size) ?_).trans (h.grown.block i hi hne)
    rcases h.loc with e | ⟨g, e, hg⟩
    · rw [e]; exact hne
    · rw [e]; intro e2; cases e2; omega
  · rcases k.loc with e | ⟨g, e, hg⟩
    · rw [e]; exact h.loc
    · exact .inr ⟨g, e, Nat.le_trans h.grown.size hg⟩

/-- The blocks that the class, or another row, must not lie in. -/
theorem App.other {base : Nat} {w w' : World} {v v' : Value} {l' : List UInt8} (h : App base w w' v v' l') {k : Nat} (hk : k < w.heap.size) (hne : v.ownBlock ≠ some k) : w'.heap[k]? = w.heap[k]? ∧ v'.ownBlock ≠ some k := by
  refine ⟨h.grown.block k hk (fun e => hne e.symm), ?_⟩
  rcases h.loc with e | ⟨g, e, hg⟩
  · rw [e]; exact hne
  · rw [e]; intro e2; cases e2; omega

theorem App.size {base : Nat} {w w' : World} {v v' : Value} {l' : List UInt8} (h : App base w w' v v' l') : w.heap.size ≤ w'.heap.size := h.grown.size

theorem App.below {base : Nat} {w w' : World} {v v' : Value} {l l' : List UInt8} (h : App base w w' v v' l') (ho : Bs w base v l) (hb : base ≤ w.heap.size) : Below base w w' :=
  (Below.refl _ _).grown h.grown hb (fun k hk => (ho.lt k hk).1)

/-- A world that has only new blocks, ahead of an append. -/
theorem App.pre {base : Nat} {w w1 w' : World} {v v' : Value} {l' : List UInt8} (hb : Below w.heap.size w w1) (h : App base w1 w' v v' l') : App base w w' v v' l' := by
  refine ⟨h.own, ⟨h.grown.os.trans hb.os, h.grown.tape.trans hb.tape, h.grown.output.trans hb.output, Nat.le_trans hb.size h.grown.size, fun i hi hne => ?_⟩, ?_⟩
  · exact (h.grown.block i (Nat.lt_of_lt_of_le hi hb.size) hne).trans (hb.block i hi)
  · rcases h.loc with e | ⟨g, e, hg⟩
    · exact .inl e
    · exact .inr ⟨g, e, Nat.le_trans hb.size hg⟩

theorem Bs.later {w w' : World} {base : Nat} {v : Value} {l : List UInt8} (h : Bs w base v l) (hb : Below w.heap.size w w') : Bs w' base v l :=
  World.ownsRow.kept h (row := none) ⟨hb.os, hb.tape, hb.output, hb.size, fun k hk _ => hb.block k hk⟩ (by cases v.ownBlock <;> simp)

/-- A row stands where its block stands. -/
theorem Bs.same {w w' : World} {base : Nat} {v : Value} {l : List UInt8} (h : Bs w base v l) (hb : ∀ k, v.ownBlock = some k → w'.heap[k]? = w.heap[k]?) : Bs w' base v l := by
  refine ⟨h.1, ?_⟩
  rcases h.2 with h | ⟨g, cap, cur, rfl, h1, h2, h3⟩
  · exact .inl h
  · exact .inr ⟨g, cap, cur, rfl, h1, (hb g rfl).trans h2, h3⟩

theorem info5 : (Yba.prog.info? 5).map (fun i => (i.zero, i.size, i.bytes)) = some (some (.int .u8 0), 1, 1) := by kernel_rfl

theorem info_parts {P : Program} {t : TypeId} {z : Option Value} {s b : Nat} (h : (P.info? t).map (fun i => (i.zero, i.size, i.bytes)) = some (z, s, b)) : ∃ i, P.info? t = some i ∧ i.zero = z ∧ i.size = s ∧ i.bytes = b := by
  cases hi : P.info? t with
  | none => rw [hi] at h; cases h
  | some i =>
    rw [hi] at h
    simp only [Option.map_some, Option.some.injEq, Prod.mk.injEq] at h
    exact ⟨i, rfl, h⟩

/-- append OF BYTES THAT MAY BE READ. -/
theorem app_rd {w : World} {base : Nat} {v x : Value} {l m : List UInt8} (ty : TypeId) (hown : Bs w base v l) (hx : Rd w x m) (hl : l.length + m.length ≤ 1000000000) (hb : base ≤ w.heap.size) :
    ∃ v' w', (Builtin.append_ #[23, 23] ty #[v, x]).run Yba.prog w = .ok v' w' ∧ App base w w' v v' (l ++ m) ∧ (v ≠ .slice none 0 0 ∨ m ≠ [] → v' ≠ .slice none 0 0) := by
  obtain ⟨i0, hi, hz0, hz1, hz2⟩ := info_parts info5
  rcases hx with ⟨rfl, rfl⟩ | ⟨a, c, rfl, hc⟩
  · refine ⟨v, w, run_append_owned_none w base 23 ty 5 i0 1 Yba.underlying23 hi v _ _ hown, ?_, fun h => by simpa using h⟩
    rw [List.append_nil]
    exact App.refl hown
  · obtain ⟨v', w', hr, ho, hg, hn, hloc⟩ := run_append_own_at (P := Yba.prog) w base 23 ty 5 i0 (.int .u8 0) 1 1 Yba.underlying23 hi hz0 hz1 hz2 rfl (by decide) v l.length (bv l) hown a m.length c (bv m) (by rw [bv_length, Nat.mul_one]) hc (bv_one m) (by unfold maxLen; omega) (by omega) hb
    refine ⟨v', w', hr, ⟨?_, hg, ?_⟩, ?_⟩
    · unfold Bs
      rw [List.length_append, bv_append]
      exact ho
    · rcases hloc with e | e
      · exact .inl e
      · exact .inr ⟨_, e, Nat.le_refl _⟩
    · intro h e
      obtain ⟨e1, e2⟩ := hn.1 e
      rcases h with h | h
      · exact h e1
      · exact h (List.eq_nil_of_length_eq_zero e2)

/-- append OF A STRING's BYTES. -/
theorem app_str {w : World} {base : Nat} {v : Value} {l : List UInt8} (ty : TypeId) (s : ByteArray) (hown : Bs w base v l) (hl : l.length + s.size ≤ 1000000000) (hb : base ≤ w.heap.size) :
    ∃ v' w', (Builtin.append_ #[23, 9] ty #[v, .string s]).run Yba.prog w = .ok v' w' ∧ App base w w' v v' (l ++ s.data.toList) ∧ (v ≠ .slice none 0 0 → v' ≠ .slice none 0 0) := by
  obtain ⟨i0, hi, hz0, hz1, hz2⟩ := info_parts info5
  obtain ⟨v', w', hr, ho, hg, hn⟩ := run_append_own_string (P := Yba.prog) w base 23 9 ty 5 i0 Yba.underlying23 Yba.underlying9 hi hz0 hz1 hz2 v l.length (bv l) hown s (by unfold maxLen; omega) (by omega) hb
  have hsz : s.data.toList.length = s.size := by rw [Array.length_toList]; rfl
  refine ⟨v', w', hr, ⟨?_, hg, ?_⟩, fun h e => h (hn.1 e).1⟩
  · unfold Bs
    rw [List.length_append, bv_append, hsz]
    exact ho
  · rcases hown.2 with ⟨rfl, hn0⟩ | ⟨g, cap, cur, rfl, hbg, hgg, hnc, hcm, hcs, htake⟩
    · by_cases hm : s.size = 0
      · exact .inl (by rw [hn.2 ⟨rfl, hm⟩])
      · have hr2 := run_append_nil_string (P := Yba.prog) w 23 9 ty 5 i0 (.int .u8 0) Yba.underlying23 Yba.underlying9 hi hz0 s (by omega) (by omega) (by rw [hz2]; omega)
        rw [hr] at hr2
        simp only [Result.ok.injEq] at hr2
        exact .inr ⟨w.heap.size, by rw [hr2.1]; rfl, Nat.le_refl _⟩
    · by_cases hroom : l.length + s.size ≤ cap
      · have hr2 := run_append_room_string (P := Yba.prog) w 23 9 ty 5 i0 Yba.underlying23 Yba.underlying9 hi hz1 g l.length cap cur hgg s hroom (by omega)
        rw [hr] at hr2
        simp only [Result.ok.injEq] at hr2
        exact .inl (by rw [hr2.1]; rfl)
      · have holds : ∀ j u, (bv l)[j]? = some u → w.cell? ((⟨g, 0, none⟩ : Addr).add j) = some u := World.ownsRow.cells hown (g := g) rfl
        have hr2 := run_append_grow_string (P := Yba.prog) w 23 9 ty 5 i0 (.int .u8 0) Yba.underlying23 Yba.underlying9 hi hz0 ⟨g, 0, none⟩ l.length cap (bv l) (by rw [hz1, bv_length, Nat.mul_one]) holds s (by omega) (by omega) (by rw [hz2]; exact growslice_fits (by omega) (by omega))
        rw [hr] at hr2
        simp only [Result.ok.injEq] at hr2
        exact .inr ⟨w.heap.size, by rw [hr2.1]; rfl, Nat.le_refl _⟩

/-- A literal's bytes, in a block of their own. -/
theorem rd_new (w : World) (l : List UInt8) (n : Nat) (hn : n = l.length) : Rd (w.alloc (.cells (bv l).toArray 5)) (.slice (some ⟨w.heap.size, 0, none⟩) n n) l := by
  subst hn
  refine .inr ⟨_, _, rfl, fun j u hu => ?_⟩
  rw [Addr.add_lit, cell_of_row _ w.heap.size (0 + j) _ 5 (0, 0) (heap_alloc_new w _)]
  simpa using hu
end Go.Proofs.Ybulkajjc
