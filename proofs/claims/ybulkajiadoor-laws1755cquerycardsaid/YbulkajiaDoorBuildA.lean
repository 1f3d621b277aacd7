/-
  zzs1755cbuild: its closure, its composite literals, its slice of identifiers.
-/
import Derived.Test.YbulkajiaDoorEnc
namespace Go.Proofs.YbulkajiaDoor
open Go.RowKit Go.Maps Go.Lib Go.Sort

theorem len20 {α : Type} (l : List α) (h : l.length = 20) : ∃ b0 b1 b2 b3 b4 b5 b6 b7 b8 b9 b10 b11 b12 b13 b14 b15 b16 b17 b18 b19 : α, l = [b0, b1, b2, b3, b4, b5, b6, b7, b8, b9, b10, b11, b12, b13, b14, b15, b16, b17, b18, b19] := by
  match l, h with
  | [b0, b1, b2, b3, b4, b5, b6, b7, b8, b9, b10, b11, b12, b13, b14, b15, b16, b17, b18, b19], _ => exact ⟨b0, b1, b2, b3, b4, b5, b6, b7, b8, b9, b10, b11, b12, b13, b14, b15, b16, b17, b18, b19, rfl⟩

/-- Arc{From, Open}. -/
def arcCells (lf : List UInt8) (op : Bool) : Array Value := (bv lf ++ [Value.bool op]).toArray

theorem build32 (lf : List UInt8) (hf : lf.length = 20) (op : Bool) (w : World) : (Instr.build 32 #[(0, .agg (bv lf).toArray), (1, .bool op)]).run Ybad.prog w = .ok (.agg (arcCells lf op)) w := by
  obtain ⟨b0, b1, b2, b3, b4, b5, b6, b7, b8, b9, b10, b11, b12, b13, b14, b15, b16, b17, b18, b19, rfl⟩ := len20 lf hf
  exact run_build w 32 _ _ (by kernel_rfl)

theorem build36 (lf lt : List UInt8) (hf : lf.length = 20) (ht : lt.length = 20) (op orph : Bool) (u : Int) (w : World) :
    (Instr.build 36 #[(0, .agg (arcCells lf op)), (1, .agg (bv lt).toArray), (4, .bool orph), (6, .int .u64 u)]).run Ybad.prog w = .ok (.agg (hovCells lf op lt (.pointer none) (.pointer none) orph (.slice none 0 0) u)) w := by
  obtain ⟨b0, b1, b2, b3, b4, b5, b6, b7, b8, b9, b10, b11, b12, b13, b14, b15, b16, b17, b18, b19, rfl⟩ := len20 lf hf
  obtain ⟨c0, c1, c2, c3, c4, c5, c6, c7, c8, c9, c10, c11, c12, c13, c14, c15, c16, c17, c18, c19, rfl⟩ := len20 lt ht
  exact run_build w 36 _ _ (by kernel_rfl)

theorem build51 (l : List UInt8) (hl : l.length = 20) (ad : ByteArray) (w : World) :
    (Instr.build 51 #[(0, .agg (bv l).toArray), (1, .string ad)]).run Ybad.prog w = .ok (.agg (peerCells l ad)) w := by
  obtain ⟨b0, b1, b2, b3, b4, b5, b6, b7, b8, b9, b10, b11, b12, b13, b14, b15, b16, b17, b18, b19, rfl⟩ := len20 l hl
  exact run_build w 51 _ _ (by kernel_rfl)

theorem slice34 (l : List UInt8) (hl : l.length = 20) (w : World) :
    (Instr.buildSlice 34 1 #[(0, .agg (bv l).toArray)]).run Ybad.prog w = .ok (.slice (some ⟨w.heap.size, 0, none⟩) 1 1) (w.alloc (.cells (bv l).toArray 30)) := by
  obtain ⟨b0, b1, b2, b3, b4, b5, b6, b7, b8, b9, b10, b11, b12, b13, b14, b15, b16, b17, b18, b19, rfl⟩ := len20 l hl
  kernel_rfl

/-- 'wpList_store_new', the block's number written otherwise. -/
theorem wpList_store_at {P : Program} {w : World} {ops : Array Oper} {rest : List Oper} {o : Oper} {a : Act} {Q : Exit → Act → World → Prop} (hgd : o.guard = none) (ty : TypeId) (x y : Operand) (ho : o.op = .store ty x y) (g : Nat) (hg : g = w.heap.size) (c c' : Array Value)
    (hx : a.eval x = .pointer (some ⟨g, 0, none⟩)) (hy : a.eval y = .agg c') (hi : (P.info? ty).map (·.size) = some c'.size) (hc : c.size = c'.size) (h1 : c'.all (·.oneCell') = true)
    (h : wpList P ops Q rest (a.put o.dst undef) (w.alloc (.cells c' ty))) : wpList P ops Q (o :: rest) a (w.alloc (.cells c ty)) := by
  subst hg
  exact wpList_store_new hgd ty x y ho c c' hx hy hi hc h1 h

/-- A result that lies in a variable of its own. -/
theorem results_row {P : Program} {fn : Func} {p : Tmp} {ty : TypeId} (h : fn.results = #[.cell p ty]) (tmps : Array Value) (w : World) (g : Nat) (hp : tmps.getD p undef = .pointer (some ⟨g, 0, none⟩)) (cs : List Value) (d : TypeDesc)
    (hc : w.rangeAt g 0 cs) (hu : P.underlying ty = some d) (hd : d.isRow = true) (hi : (P.info? ty).map (·.size) = some cs.length) :
    (results fn tmps).run P w = .ok (.agg cs.toArray) w := by
  rw [Array.getD_eq_getD_getElem?] at hp
  simp only [results, h]
  simp [hp, run_loadVar_mid w g 0 ty cs d hc hu hd hi, asAddr]

set_option maxHeartbeats 400000 in
/-- The closure: nothing is masked. -/
theorem conv_any (l : List UInt8) (hl : l.length = 20) (mb : Nat) (mp : Value) (w : World) (hc : w.cell? ⟨mb, 0, none⟩ = some (.bool false)) :
    Calls Ybad.prog 10 #[.agg (bv l).toArray, .pointer (some ⟨mb, 0, none⟩), mp] w fun e w' => e = .returned (.agg (bv l).toArray) ∧ Below w.heap.size w w' := by
  have hc1 : ∀ o1 o2, ((w.alloc o1).alloc o2).cell? ⟨mb, 0, none⟩ = some (.bool false) := fun o1 o2 => cell_later (cell_later hc ((Below.refl _ _).alloc (Nat.le_refl _) _)) ((Below.refl _ _).alloc (Nat.le_refl _) _)
  have HI : Hid ((Ybad.prog.info? 22).map (·.size) = some (bv l).length) := info22 l hl
  have HI2 : Hid ((Ybad.prog.info? 30).map (·.size) = some (bv l).toArray.size) := by show _ = _; rw [List.size_toArray]; exact info30 l hl
  have R : Hid (∀ o, ((w.alloc (.cells (bv l).toArray 22)).alloc o).rangeAt w.heap.size 0 (bv l)) := fun o => by have := range_new w [] (bv l) [] 22; rw [List.nil_append, List.append_nil] at this; exact rangeAt_later this ((Below.refl _ _).alloc (Nat.le_refl _) _)
  go_enter Ybad.func10, Ybad.ntmps10
  go_wp2_with (first | refine wpList_load_mid rfl 22 _ rfl w.heap.size 0 rfl (bv l) _ (R.out _) Ybad.underlying22 rfl HI.out ?_ | refine wpList_store_at rfl 30 _ _ rfl (w.heap.size + 1) (by simp) _ (bv l).toArray rfl rfl HI2.out (zeros20 l hl _) (bv_one l) ?_)
  refine bodyPost_ret (v := .agg (bv l).toArray) (results_row Ybad.results10 _ _ (w.heap.size + 1) rfl (bv l) _ ?_ Ybad.underlying30 rfl (info30 l hl)) rfl ⟨rfl, ((Below.refl _ _).alloc (Nat.le_refl _) _).alloc (by simp) _⟩
  have := range_new (w.alloc (.cells (bv l).toArray 22)) [] (bv l) [] 30
  rw [List.nil_append, List.append_nil, show (w.alloc (.cells (bv l).toArray 22)).heap.size = w.heap.size + 1 from by simp] at this
  exact this

/-! ### a struct that is laid in a variable, inside a statement whose order is open: 'iA': the variable is made; 'iS': the struct is stored -/
def Laid (T iA iS : Nat) (cs : Array Value) (base : Nat) (W0 : World) (l : Array Bool) (v : Value) (w : World) : Prop :=
  base ≤ w.heap.size ∧ Below base W0 w ∧ (On l iA → ∃ g c, v = .pointer (some ⟨g, 0, none⟩) ∧ base ≤ g ∧ w.heap[g]? = some (.cells c T) ∧ c.size = cs.size ∧ (On l iS → c = cs)) ∧ (On l iS → On l iA)

section
variable {T iA iS : Nat} {cs : Array Value} {base : Nat} {W0 : World} {l : Array Bool} {v : Value} {w w' : World}

theorem Laid.start {n : Nat} (hb : base ≤ W0.heap.size) : Laid T iA iS cs base W0 (Array.replicate n false) v W0.drew :=
  ⟨hb, (Below.refl _ _).drew, fun h => h.not_replicate.elim, fun h => h.not_replicate.elim⟩

theorem Laid.other {i : Nat} (h : Laid T iA iS cs base W0 l v w) (h0 : i ≠ iA) (h1 : i ≠ iS) : Laid T iA iS cs base W0 (l.setIfInBounds i true) v w := by
  unfold Laid at *
  rw [On_ne h0, On_ne h1]
  exact h

theorem Laid.later (h : Laid T iA iS cs base W0 l v w) (hb : Below w.heap.size w w') : Laid T iA iS cs base W0 l v w' := by
  obtain ⟨a0, a1, a2, a3⟩ := h
  refine ⟨Nat.le_trans a0 hb.size, a1.trans (hb.mono a0), fun h => ?_, a3⟩
  obtain ⟨g, c, e, hg, hh, r⟩ := a2 h
  exact ⟨g, c, e, hg, by rw [hb.block g (Array.getElem?_eq_some_iff.1 hh).1]; exact hh, r⟩

theorem Laid.made (h : Laid T iA iS cs base W0 l v w) (hne : iA ≠ iS) (hn : ¬ On l iA) (c : Array Value) (hc : c.size = cs.size) : Laid T iA iS cs base W0 (l.setIfInBounds iA true) (.pointer (some ⟨w.heap.size, 0, none⟩)) (w.alloc (.cells c T)) := by
  obtain ⟨a0, a1, a2, a3⟩ := h
  refine ⟨by simp; omega, a1.alloc a0 _, fun _ => ⟨w.heap.size, c, rfl, a0, heap_alloc_new w _, hc, fun h => ?_⟩, fun h => ?_⟩
  · rw [On_ne hne] at h
    exact (hn (a3 h)).elim
  · rw [On_ne hne] at h
    exact (hn (a3 h)).elim

theorem Laid.stored (h : Laid T iA iS cs base W0 l v w) (hne : iS ≠ iA) (hA : On l iA) : ∃ g old, v = .pointer (some ⟨g, 0, none⟩) ∧ w.heap[g]? = some (.cells old T) ∧ old.size = cs.size ∧ Laid T iA iS cs base W0 (l.setIfInBounds iS true) v (w.setRow g cs) := by
  obtain ⟨a0, a1, a2, a3⟩ := h
  obtain ⟨g, c, e, hg, hh, hs, _⟩ := a2 hA
  have hgr : w.grownBy (w.setRow g cs) (some g) := ⟨rfl, rfl, rfl, by simp, fun k _ hk => setRow_other w g k _ (fun e => hk (by simp [e]))⟩
  refine ⟨g, c, e, hh, hs, ⟨Nat.le_trans a0 hgr.size, a1.grown hgr a0 (fun k hk => by cases hk; exact hg), fun _ => ⟨g, cs, e, hg, setRow_heap w g c cs T _ hh, rfl, fun _ => rfl⟩, fun _ => (On_ne hne).2 hA⟩⟩

theorem Laid.done (h : Laid T iA iS cs base W0 l v w) (hA : On l iA) (hS : On l iS) : ∃ g, v = .pointer (some ⟨g, 0, none⟩) ∧ base ≤ g ∧ w.heap[g]? = some (.cells cs T) ∧ Below base W0 w := by
  obtain ⟨a0, a1, a2, a3⟩ := h
  obtain ⟨g, c, e, hg, hh, _, hc⟩ := a2 hA
  rw [hc hS] at hh
  exact ⟨g, e, hg, hh, a1⟩
end

theorem wp_store_row {P : Program} {op : Oper} {a : Act} {w : World} {K : Act → World → Prop} {Q : Exit → Act → World → Prop} (ty : TypeId) (x y : Operand) (ho : op.op = .store ty x y)
    (g : Nat) (t : TypeId) (old cells : Array Value) (hx : a.eval x = .pointer (some ⟨g, 0, none⟩)) (hy : a.eval y = .agg cells) (hg : w.heap[g]? = some (.cells old t (0, 0)))
    (hi : (P.info? ty).map (·.size) = some cells.size) (hs : old.size = cells.size) (h1 : cells.all (·.oneCell') = true) (h : K (a.put op.dst undef) (w.setRow g cells)) : op.wp P a w K Q := by
  unfold Oper.wp execOp
  simp only [ho, hx, hy, Instr.storeAt, Instr.sureAddr, Sem.run_bind, Sem.run_pure, Result.andThen_ok, run_storeVar_row w g t ty old cells hg hi hs h1]
  exact h

theorem wpList_store_row {P : Program} {ops : Array Oper} {rest : List Oper} {op : Oper} {a : Act} {w : World} {Q : Exit → Act → World → Prop} (hgd : op.guard = none) (ty : TypeId) (x y : Operand) (ho : op.op = .store ty x y)
    (g : Nat) (t : TypeId) (old cells : Array Value) (hx : a.eval x = .pointer (some ⟨g, 0, none⟩)) (hy : a.eval y = .agg cells) (hg : w.heap[g]? = some (.cells old t (0, 0)))
    (hi : (P.info? ty).map (·.size) = some cells.size) (hs : old.size = cells.size) (h1 : cells.all (·.oneCell') = true) (h : wpList P ops Q rest (a.put op.dst undef) (w.setRow g cells)) : wpList P ops Q (op :: rest) a w :=
  wpList_plain hgd fun _ hK => wp_store_row ty x y ho g t old cells hx hy hg hi hs h1 (hK _ _ h)

/-! ### the cells of a Handover: their number; a field stored anew -/
theorem hov_size (lf lt : List UInt8) (hf : lf.length = 20) (ht : lt.length = 20) (op orph : Bool) (kp bp kept : Value) (u : Int) : (hovCells lf op lt kp bp orph kept u).size = 46 := by
  unfold hovCells
  simp [bv_length, hf, ht]
theorem hov_one (lf lt : List UInt8) (op orph : Bool) (kp bp kept : Value) (u : Int) (h1 : kp.oneCell' = true) (h2 : bp.oneCell' = true) (h3 : kept.oneCell' = true) : (hovCells lf op lt kp bp orph kept u).all (·.oneCell') = true := by
  unfold hovCells
  apply all_oneCell_toArray
  have hb : ∀ l : List UInt8, ∀ v ∈ bv l, v.oneCell' = true := fun l v hv => by obtain ⟨b, _, rfl⟩ := List.mem_map.1 hv; rfl
  intro v hv
  simp only [List.mem_append, List.mem_cons, List.not_mem_nil, or_false] at hv
  rcases hv with ((hv | rfl) | hv) | rfl | rfl | rfl | rfl | rfl
  · exact hb _ _ hv
  · rfl
  · exact hb _ _ hv
  · exact h1
  · exact h2
  · rfl
  · exact h3
  · rfl
theorem hov_kept (lf lt : List UInt8) (hf : lf.length = 20) (ht : lt.length = 20) (op orph : Bool) (kp bp k k' : Value) (u : Int) : (hovCells lf op lt kp bp orph k u).setIfInBounds 44 k' = hovCells lf op lt kp bp orph k' u := by
  obtain ⟨b0, b1, b2, b3, b4, b5, b6, b7, b8, b9, b10, b11, b12, b13, b14, b15, b16, b17, b18, b19, rfl⟩ := len20 lf hf
  obtain ⟨c0, c1, c2, c3, c4, c5, c6, c7, c8, c9, c10, c11, c12, c13, c14, c15, c16, c17, c18, c19, rfl⟩ := len20 lt ht
  rfl
theorem hov_keeper (lf lt : List UInt8) (hf : lf.length = 20) (ht : lt.length = 20) (op orph : Bool) (kp kp' bp k : Value) (u : Int) : (hovCells lf op lt kp bp orph k u).setIfInBounds 41 kp' = hovCells lf op lt kp' bp orph k u := by
  obtain ⟨b0, b1, b2, b3, b4, b5, b6, b7, b8, b9, b10, b11, b12, b13, b14, b15, b16, b17, b18, b19, rfl⟩ := len20 lf hf
  obtain ⟨c0, c1, c2, c3, c4, c5, c6, c7, c8, c9, c10, c11, c12, c13, c14, c15, c16, c17, c18, c19, rfl⟩ := len20 lt ht
  rfl
theorem hov_before (lf lt : List UInt8) (hf : lf.length = 20) (ht : lt.length = 20) (op orph : Bool) (kp bp bp' k : Value) (u : Int) : (hovCells lf op lt kp bp orph k u).setIfInBounds 42 bp' = hovCells lf op lt kp bp' orph k u := by
  obtain ⟨b0, b1, b2, b3, b4, b5, b6, b7, b8, b9, b10, b11, b12, b13, b14, b15, b16, b17, b18, b19, rfl⟩ := len20 lf hf
  obtain ⟨c0, c1, c2, c3, c4, c5, c6, c7, c8, c9, c10, c11, c12, c13, c14, c15, c16, c17, c18, c19, rfl⟩ := len20 lt ht
  rfl
theorem hov_at44 (lf lt : List UInt8) (hf : lf.length = 20) (ht : lt.length = 20) (op orph : Bool) (kp bp k : Value) (u : Int) : (hovCells lf op lt kp bp orph k u)[44]? = some k := by
  obtain ⟨b0, b1, b2, b3, b4, b5, b6, b7, b8, b9, b10, b11, b12, b13, b14, b15, b16, b17, b18, b19, rfl⟩ := len20 lf hf
  obtain ⟨c0, c1, c2, c3, c4, c5, c6, c7, c8, c9, c10, c11, c12, c13, c14, c15, c16, c17, c18, c19, rfl⟩ := len20 lt ht
  rfl
theorem hov_at41 (lf lt : List UInt8) (hf : lf.length = 20) (ht : lt.length = 20) (op orph : Bool) (kp bp k : Value) (u : Int) : (hovCells lf op lt kp bp orph k u)[41]? = some kp := by
  obtain ⟨b0, b1, b2, b3, b4, b5, b6, b7, b8, b9, b10, b11, b12, b13, b14, b15, b16, b17, b18, b19, rfl⟩ := len20 lf hf
  obtain ⟨c0, c1, c2, c3, c4, c5, c6, c7, c8, c9, c10, c11, c12, c13, c14, c15, c16, c17, c18, c19, rfl⟩ := len20 lt ht
  rfl
theorem hov_at42 (lf lt : List UInt8) (hf : lf.length = 20) (ht : lt.length = 20) (op orph : Bool) (kp bp k : Value) (u : Int) : (hovCells lf op lt kp bp orph k u)[42]? = some bp := by
  obtain ⟨b0, b1, b2, b3, b4, b5, b6, b7, b8, b9, b10, b11, b12, b13, b14, b15, b16, b17, b18, b19, rfl⟩ := len20 lf hf
  obtain ⟨c0, c1, c2, c3, c4, c5, c6, c7, c8, c9, c10, c11, c12, c13, c14, c15, c16, c17, c18, c19, rfl⟩ := len20 lt ht
  rfl
end Go.Proofs.YbulkajiaDoor
