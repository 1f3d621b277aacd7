/-
  PLAIN WORDS ON WORLDS: a map keyed by strings that holds WHATEVER values, as a function from keys to values ('MapIs').
-/
import Derived.Maps.OwnSet
import Derived.Maps.AppendAt
import Derived.WalkKit
namespace Go.Proofs.YbulkajiaDoor
open Go.RowKit Go.Maps Go.ChangeMaps Go.WideMaps

/-- Each element's value stands for itself. -/
def tokR (v : Value) : Option (DataW Value × List MemPlace) := some (.held v, [])

/-- BLOCK b IS A MAP OF AT MOST n ENTRIES: f: what stands at a key; sz: how many entries; z: the elements' zero. -/
def MapIs (P : Program) (k : TypeId) (z : Value) (w : World) (b n : Nat) (f : List UInt8 → Option Value) (sz : Nat) : Prop :=
  ∃ D : DataW Value, w.ownsMap P k tokR b n D ∧ Maps.size D = sz ∧ ∀ s, Maps.has D (.string s) = (f s).isSome ∧ D.atKey (.string s) (.held z) = .held ((f s).getD z)

def put (f : List UInt8 → Option Value) (s : List UInt8) (v : Value) : List UInt8 → Option Value := fun t => if t = s then some v else f t

section
variable {P : Program} {k : TypeId} {z : Value} {w : World} {b n : Nat} {f : List UInt8 → Option Value} {sz : Nat}

theorem MapIs.made (w : World) : MapIs P k z (w.alloc (.map #[] 0)) w.heap.size 0 (fun _ => none) 0 :=
  ⟨.map [], World.ownsMap_made w P k tokR, rfl, fun _ => ⟨rfl, rfl⟩⟩

theorem MapIs.kept {w' : World} {row : Option Nat} (h : MapIs P k z w b n f sz) (hg : w.grownBy w' row) (hne : some b ≠ row) : MapIs P k z w' b n f sz := by
  obtain ⟨D, h1, h2⟩ := h
  exact ⟨D, h1.kept hg hne, h2⟩

theorem MapIs.lt (h : MapIs P k z w b n f sz) : b < w.heap.size := by
  obtain ⟨D, h1, h2⟩ := h
  exact h1.lt

theorem MapIs.same {w' : World} (h : MapIs P k z w b n f sz) (hb : w'.heap[b]? = w.heap[b]?) : MapIs P k z w' b n f sz := by
  obtain ⟨D, ⟨es, clock, h1, h3⟩, h2⟩ := h
  exact ⟨D, ⟨es, clock, hb.trans h1, h3⟩, h2⟩

theorem MapIs.size_le (h : MapIs P k z w b n f sz) : sz ≤ n := by
  obtain ⟨D, h1, rfl, _⟩ := h
  exact h1.size_le

theorem MapIs.heap (h : MapIs P k z w b n f sz) : ∃ es clock, w.heap[b]? = some (.map es clock) := by
  obtain ⟨D, ⟨es, clock, h1, _⟩, _⟩ := h
  exact ⟨es, clock, h1⟩

theorem MapIs.look {t e : TypeId} (h : MapIs P k z w b n f sz) (hk : P.underlying k = some .string) (ht : P.underlying t = some (.map k e)) (hz : (zeroValue e).run P w = .ok z w) {s : ByteArray} (hs : s.size ≤ maxLen) :
    (Instr.lookup t (.map (some b)) (.string s) false).run P w = .ok ((f s.data.toList).getD z) w := by
  obtain ⟨D, h1, _, h2⟩ := h
  obtain ⟨v, ps, hr, hv⟩ := h1.lookup (string_keyed hk) ht hz (zd := .held z) (zp := []) rfl (keyOf_string_mk hk hs)
  rw [(h2 _).2] at hv
  simp only [tokR, Option.some.injEq, Prod.mk.injEq, DataW.held.injEq] at hv
  rw [hr, hv.1]

theorem MapIs.look_ok {t e : TypeId} (h : MapIs P k z w b n f sz) (hk : P.underlying k = some .string) (ht : P.underlying t = some (.map k e)) (hz : (zeroValue e).run P w = .ok z w) {s : ByteArray} (hs : s.size ≤ maxLen) :
    (Instr.lookup t (.map (some b)) (.string s) true).run P w = .ok (.tuple #[(f s.data.toList).getD z, .bool (f s.data.toList).isSome]) w := by
  obtain ⟨D, h1, _, h2⟩ := h
  obtain ⟨v, ps, hr, hv⟩ := h1.look_ok (string_keyed hk) ht hz (zd := .held z) (zp := []) rfl (keyOf_string_mk hk hs)
  rw [(h2 _).2] at hv
  simp only [tokR, Option.some.injEq, Prod.mk.injEq, DataW.held.injEq] at hv
  rw [hr, hv.1, (h2 _).1]

theorem MapIs.len {t e : TypeId} (h : MapIs P k z w b n f sz) (ht : P.underlying t = some (.map k e)) (ty : TypeId) : (Builtin.len_ #[t] ty #[.map (some b)]).run P w = .ok (.int .i64 sz) w := by
  obtain ⟨D, h1, rfl, _⟩ := h
  exact h1.len ht ty

theorem MapIs.upd {t e : TypeId} (h : MapIs P k z w b n f sz) (hk : P.underlying k = some .string) (ht : P.underlying t = some (.map k e)) (hn : n < maxLen) {s : ByteArray} (hs : s.size ≤ maxLen) (v : Value) :
    ∃ w', (Instr.mapUpdate t (.map (some b)) (.string s) v).run P w = .ok () w' ∧ MapIs P k z w' b (n + 1) (put f s.data.toList v) (if (f s.data.toList).isSome then sz else sz + 1) ∧ w.grownBy w' (some b) := by
  obtain ⟨D, h1, h3, h2⟩ := h
  obtain ⟨w', hr, ho, hg⟩ := h1.update (string_keyed hk) ht hn (keyOf_string_mk hk hs) (val := v) (d := .held v) (ps := []) rfl
  refine ⟨w', hr, ⟨_, ho, ?_, fun s' => ?_⟩, hg⟩
  · rw [size_put (h1.tidy (string_keyed hk)), (h2 _).1, h3]
  · by_cases e : s' = s.data.toList
    · subst e
      rw [has_put_same (k := .string s.data.toList) h1.isMap trivial, atKey_put_same (k := .string s.data.toList) h1.isMap trivial]
      simp [put]
    · have hne : (Lit.string s') ≠ Lit.string s.data.toList := by simpa using e
      rw [has_put_other hne, atKey_put_other hne, (h2 _).1, (h2 _).2]
      simp [put, e]
end

/-- AN append WHOSE RUN IS KNOWN. -/
theorem wpList_app {P : Program} {w : World} {ops : Array Oper} {rest : List Oper} {o : Oper} {a : Act} {Q : Exit → Act → World → Prop} (hgd : o.guard = none) (s x : Operand) (t tx : TypeId)
    (ho : o.op = .call { callee := .builtin .append, args := #[s, x], argTypes := #[t, tx] }) (v xv : Value) (hs : a.eval s = v) (hx : a.eval x = xv) {v' : Value} {w' : World}
    (hr : (Builtin.append_ #[t, tx] o.type #[v, xv]).run P w = .ok v' w') (h : wpList P ops Q rest (a.put o.dst v') w') : wpList P ops Q (o :: rest) a w := by
  refine wpList_plain hgd fun K hK => ?_
  unfold Oper.wp execOp
  simp only [ho, resolve, invoke, builtin, Sem.run_bind, Sem.run_pure, Result.andThen_ok, List.map_toArray, List.map_cons, List.map_nil, hs, hx, hr]
  exact hK _ _ h
end Go.Proofs.YbulkajiaDoor
