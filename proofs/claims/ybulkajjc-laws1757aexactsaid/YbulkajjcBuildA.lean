/-
  zzs1757abuild: what its steps stand on.
-/
import Derived.Test.YbulkajjcCode
namespace Go.Proofs.Ybulkajjc
open Go.RowKit Go.Maps Go.Lib

/-- WHAT HOLDS WHATEVER IS DONE TO THE BLOCKS 'No' AND TO NEW ONES. -/
def Stab (w : World) (No : Nat → Prop) (P : World → Prop) : Prop := ∀ w' : World, w.heap.size ≤ w'.heap.size → (∀ k, k < w.heap.size → ¬ No k → w'.heap[k]? = w.heap[k]?) → P w'

section
variable {w w' : World} {No No' : Nat → Prop} {P Q : World → Prop}

theorem Stab.here (h : Stab w No P) : P w := h w (Nat.le_refl _) (fun _ _ _ => rfl)

theorem Stab.move (h : Stab w No P) (hs : w.heap.size ≤ w'.heap.size) (hk : ∀ k, k < w.heap.size → ¬ No k → w'.heap[k]? = w.heap[k]?) (hn : ∀ k, k < w.heap.size → No' k → No k) : Stab w' No' P :=
  fun w'' hs' hk' => h w'' (Nat.le_trans hs hs') (fun k hk1 hk2 => (hk' k (Nat.lt_of_lt_of_le hk1 hs) (fun e => hk2 (hn k hk1 e))).trans (hk k hk1 hk2))

theorem Stab.and (h : Stab w No P) (k : Stab w No Q) : Stab w No (fun W => P W ∧ Q W) := fun w' a b => ⟨h w' a b, k w' a b⟩

theorem Stab.weak (h : Stab w No P) (k : ∀ W, P W → Q W) : Stab w No Q := fun w' a b => k w' (h w' a b)
end

theorem Bs.stab {w : World} {No : Nat → Prop} {base : Nat} {v : Value} {l : List UInt8} (h : Bs w base v l) (hn : ∀ k, v.ownBlock = some k → ¬ No k) : Stab w No (fun W => Rd W v l) :=
  fun _ _ hk => (h.same (fun k e => hk k (h.lt k e).2 (hn k e))).rd

/-- A copy of bytes, into a block of its own. -/
theorem copy_row {W : World} {x : Value} {l : List UInt8} (hx : Rd W x l) (hl : l.length ≤ 1024) :
    ∃ g n c w', (Builtin.append_ #[23, 23] 23 #[.slice (some ⟨W.heap.size, 0, none⟩) 0 0, x]).run Yba.prog (W.alloc (.cells #[] 5)) = .ok (.slice (some ⟨g, 0, none⟩) n c) w' ∧ Bs w' W.heap.size (.slice (some ⟨g, 0, none⟩) n c) l ∧ Below W.heap.size W w' ∧ W.heap.size ≤ g := by
  have hB := alloc_below W (.cells #[] 5)
  have h0 : Bs (W.alloc (.cells #[] 5)) W.heap.size (.slice (some ⟨W.heap.size, 0, none⟩) 0 0) [] := World.ownsRow_lit W #[] 0 (Nat.le_refl _) (by decide) rfl
  obtain ⟨v', w', hr, ha, hn⟩ := app_rd 23 h0 (hx.below hB) (by simp; omega) hB.size
  have hne := hn (.inl (by simp))
  have ho := ha.own
  rw [List.nil_append] at ho
  rcases ho.2 with ⟨e, _⟩ | ⟨g, cap, cur, rfl, hg, _⟩
  · exact absurd e hne
  · exact ⟨g, l.length, cap, w', hr, ho, hB.trans (ha.below h0 hB.size), hg⟩

/-- The elements of a row of structs. -/
theorem flat_get {α β : Type} (f : α → List β) (m : Nat) (hf : ∀ x, (f x).length = m) : ∀ (ps : List α) (j i : Nat) (x : α), ps[j]? = some x → i < m → (ps.flatMap f)[j * m + i]? = (f x)[i]? := by
  intro ps
  induction ps with
  | nil => intro j i x h; simp at h
  | cons y r ih =>
    intro j i x h hi
    rw [List.flatMap_cons]
    rcases j with _ | j
    · simp only [List.getElem?_cons_zero, Option.some.injEq] at h
      subst h
      rw [Nat.zero_mul, Nat.zero_add, List.getElem?_append_left (by rw [hf]; exact hi)]
    · rw [List.getElem?_cons_succ] at h
      rw [List.getElem?_append_right (by rw [hf, Nat.succ_mul]; omega), hf]
      have e : (j + 1) * m + i - m = j * m + i := by rw [Nat.succ_mul]; omega
      rw [e]
      exact ih j i x h hi

theorem flat_length {α β : Type} (f : α → List β) (m : Nat) (hf : ∀ x, (f x).length = m) (ps : List α) : (ps.flatMap f).length = ps.length * m := by
  induction ps with
  | nil => simp
  | cons y r ih => rw [List.flatMap_cons, List.length_append, ih, hf, List.length_cons, Nat.succ_mul]; omega

/-- A handler that is built, and its bytes' slice. -/
def cell4 (p : Hm × Value) : List Value := [.int .u16 (p.1.s : Int), .int .u16 (p.1.e : Int), .int .u16 (p.1.h : Int), p.2]

theorem cell4_length (p : Hm × Value) : (cell4 p).length = 4 := rfl
theorem am_length (x : Am) : x.cells.length = 2 := rfl

/-- An append of one struct, onto a row that the call owns. -/
theorem app_struct {e t : TypeId} {size bytes : Nat} {z : Value} (ht : Yba.prog.underlying t = some (.slice e)) (hi : (Yba.prog.info? e).map (fun i => (i.zero, i.size, i.bytes)) = some (some z, size, bytes)) (hz : z.cells.size = size) (hs : 0 < size) (hs2 : bytes ≤ 100)
    {w : World} {base : Nat} {v : Value} {n : Nat} {xs : List Value} (cs : List Value) (hc : cs.length = size) (h1 : ∀ u ∈ cs, u.oneCell' = true) (hown : w.ownsRow base e size v n xs) (hn : n ≤ 2000) (hb : base ≤ w.heap.size) :
    ∃ g c w', (Builtin.append_ #[t, t] t #[v, .slice (some ⟨w.heap.size, 0, none⟩) 1 1]).run Yba.prog (w.alloc (.cells cs.toArray e)) = .ok (.slice (some ⟨g, 0, none⟩) (n + 1) c) w' ∧
      w'.ownsRow base e size (.slice (some ⟨g, 0, none⟩) (n + 1) c) (n + 1) (xs ++ cs) ∧ w.grownBy w' v.ownBlock ∧ (v.ownBlock = some g ∨ w.heap.size ≤ g) := by
  obtain ⟨i0, hi0, hz0, hz1, hz2⟩ := info_parts hi
  obtain ⟨v', w', hr, ho, hg, hnil, hloc⟩ := run_append_own_at (P := Yba.prog) (w.alloc (.cells cs.toArray e)) base t t e i0 z size bytes ht hi0 hz0 hz1 hz2 hz hs v n xs (hown.alloc _) ⟨w.heap.size, 0, none⟩ 1 1 cs (by rw [hc, Nat.one_mul])
    (fun j u hu => by rw [Addr.add_lit, cell_of_row _ w.heap.size (0 + j) _ e (0, 0) (heap_alloc_new w _)]; simpa using hu) h1 (by unfold maxLen; omega) (by have : (n + 1) * bytes ≤ 2001 * 100 := Nat.mul_le_mul (by omega) hs2; omega) (by simp; omega)
  rcases ho.2 with ⟨e1, _⟩ | ⟨g, cap, cur, rfl, hg1, _⟩
  · have := (hnil.1 e1).2; omega
  · refine ⟨g, cap, w', hr, ho, (World.grownBy_alloc w _ _).trans hg, ?_⟩
    rcases hloc with e1 | e1
    · exact .inl e1.symm
    · refine .inr ?_
      simp only [Value.ownBlock, Option.some.injEq] at e1
      simp at e1
      omega

theorem info51b : (Yba.prog.info? 51).map (fun i => (i.zero, i.size, i.bytes)) = some (some (.agg #[.int .u16 0, .int .u16 0, .int .u16 0, .slice none 0 0]), 4, 32) := by kernel_rfl
theorem info40b : (Yba.prog.info? 40).map (fun i => (i.zero, i.size, i.bytes)) = some (some (.agg #[.string ByteArray.empty, .slice none 0 0]), 2, 40) := by kernel_rfl
theorem neq_nil (w : World) : (binOp .neq 23 (.slice none 0 0) (.slice none 0 0)).run Yba.prog w = .ok (.bool false) w := by kernel_rfl
theorem neq_some (a : Addr) (n c : Nat) (w : World) : (binOp .neq 23 (.slice (some a) n c) (.slice none 0 0)).run Yba.prog w = .ok (.bool true) w := by kernel_rfl
end Go.Proofs.Ybulkajjc
