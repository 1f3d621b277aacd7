/-
  encodeHandover.
-/
import Derived.Test.YbulkajiaDoorNum
import Derived.Test.YbulkajiaDoorEncA
import Derived.Deep.DeepCutAuto
import Derived.Deep.WholeRow
namespace Go.Proofs.YbulkajiaDoor
open Go.RowKit Go.Maps Go.Lib Go.Sort

/-- The cells of a Handover. -/
def hovCells (lf : List UInt8) (op : Bool) (lt : List UInt8) (kp bp : Value) (orph : Bool) (kept : Value) (clock : Int) : Array Value :=
  (bv lf ++ [Value.bool op] ++ bv lt ++ [kp, bp, Value.bool orph, kept, Value.int .u64 clock]).toArray

/-- They lie in block b. -/
def HovAt (lf : List UInt8) (op : Bool) (lt : List UInt8) (kp bp : Value) (orph : Bool) (kept : Value) (clock : Int) (b : Nat) (w : World) : Prop :=
  w.rangeAt b 0 (bv lf) ∧ w.cell? ⟨b, 20, none⟩ = some (.bool op) ∧ w.rangeAt b 21 (bv lt) ∧ w.cell? ⟨b, 41, none⟩ = some kp ∧ w.cell? ⟨b, 42, none⟩ = some bp ∧
    w.cell? ⟨b, 43, none⟩ = some (.bool orph) ∧ w.cell? ⟨b, 44, none⟩ = some kept ∧ w.cell? ⟨b, 45, none⟩ = some (.int .u64 clock)

section
variable {lf : List UInt8} {op : Bool} {lt : List UInt8} {kp bp : Value} {orph : Bool} {kept : Value} {clock : Int} {b : Nat} {w w' : World}

theorem HovAt.new (hf : lf.length = 20) (ht : lt.length = 20) (w : World) (t : TypeId) : HovAt lf op lt kp bp orph kept clock w.heap.size (w.alloc (.cells (hovCells lf op lt kp bp orph kept clock) t)) := by
  have l1 : (bv lf).length = 20 := by rw [bv_length, hf]
  have l2 : (bv lt).length = 20 := by rw [bv_length, ht]
  have cell : ∀ (pre post : List Value) (v : Value), hovCells lf op lt kp bp orph kept clock = (pre ++ [v] ++ post).toArray → (w.alloc (.cells (hovCells lf op lt kp bp orph kept clock) t)).cell? ⟨w.heap.size, pre.length, none⟩ = some v := by
    intro pre post v e
    rw [e]
    have := range_new w pre [v] post t 0 v rfl
    rw [Nat.add_zero] at this
    exact this
  refine ⟨?_, ?_, ?_, ?_, ?_, ?_, ?_, ?_⟩
  · have := range_new w [] (bv lf) ([Value.bool op] ++ bv lt ++ [kp, bp, Value.bool orph, kept, Value.int .u64 clock]) t
    have e : hovCells lf op lt kp bp orph kept clock = ([] ++ bv lf ++ ([Value.bool op] ++ bv lt ++ [kp, bp, Value.bool orph, kept, Value.int .u64 clock])).toArray := by simp [hovCells]
    rw [e]
    exact this
  · have := cell (bv lf) (bv lt ++ [kp, bp, Value.bool orph, kept, Value.int .u64 clock]) (.bool op) (by simp [hovCells])
    rwa [l1] at this
  · have := range_new w (bv lf ++ [Value.bool op]) (bv lt) [kp, bp, Value.bool orph, kept, Value.int .u64 clock] t
    rw [List.length_append, l1] at this
    exact this
  · have := cell (bv lf ++ [Value.bool op] ++ bv lt) [bp, Value.bool orph, kept, Value.int .u64 clock] kp (by simp [hovCells])
    rwa [List.length_append, List.length_append, l1, l2] at this
  · have := cell (bv lf ++ [Value.bool op] ++ bv lt ++ [kp]) [Value.bool orph, kept, Value.int .u64 clock] bp (by simp [hovCells])
    rwa [List.length_append, List.length_append, List.length_append, l1, l2] at this
  · have := cell (bv lf ++ [Value.bool op] ++ bv lt ++ [kp, bp]) [kept, Value.int .u64 clock] (.bool orph) (by simp [hovCells])
    rwa [List.length_append, List.length_append, List.length_append, l1, l2] at this
  · have := cell (bv lf ++ [Value.bool op] ++ bv lt ++ [kp, bp, Value.bool orph]) [Value.int .u64 clock] kept (by simp [hovCells])
    rwa [List.length_append, List.length_append, List.length_append, l1, l2] at this
  · have := cell (bv lf ++ [Value.bool op] ++ bv lt ++ [kp, bp, Value.bool orph, kept]) [] (.int .u64 clock) (by simp [hovCells])
    rwa [List.length_append, List.length_append, List.length_append, l1, l2] at this

/-- What lies below B lies there while nothing below B turns. -/
theorem HovAt.below {B : Nat} (h : HovAt lf op lt kp bp orph kept clock b w) (hb : Below B w w') (hB : b < B) : HovAt lf op lt kp bp orph kept clock b w' :=
  ⟨fun j v hv => (hb.cell (p := ⟨b, 0 + j, none⟩) hB).trans (h.1 j v hv), (hb.cell (p := ⟨b, 20, none⟩) hB).trans h.2.1, fun j v hv => (hb.cell (p := ⟨b, 21 + j, none⟩) hB).trans (h.2.2.1 j v hv),
    (hb.cell (p := ⟨b, 41, none⟩) hB).trans h.2.2.2.1, (hb.cell (p := ⟨b, 42, none⟩) hB).trans h.2.2.2.2.1, (hb.cell (p := ⟨b, 43, none⟩) hB).trans h.2.2.2.2.2.1,
    (hb.cell (p := ⟨b, 44, none⟩) hB).trans h.2.2.2.2.2.2.1, (hb.cell (p := ⟨b, 45, none⟩) hB).trans h.2.2.2.2.2.2.2⟩
end

/-- The frame behind the first statement's operations. -/
def act1 (a0 : Act) (u5 u8 u9 u10 u11 u12 u13 u14 u15 u16 u17 u18 u19 u20 : Value) : Act := ((((((((((((((a0.put (some 5) u5).put (some 8) u8).put (some 9) u9).put (some 10) u10).put (some 11) u11).put (some 12) u12).put (some 13) u13).put (some 14) u14).put (some 15) u15).put (some 16) u16).put (some 17) u17).put (some 18) u18).put (some 19) u19).put (some 20) u20)

/-- What the slots hold when the operations 'l' have come up. -/
def Pure1 (sp aF aT : Value) (hb : Nat) (sF sT : ByteArray) (l : Array Bool) (u5 u8 u9 u10 u11 u12 u13 u15 u16 u17 u18 u20 : Value) : Prop :=
  (On l 1 → u9 = sp) ∧ (On l 2 → u10 = .pointer (some ⟨hb, 0, none⟩)) ∧ (On l 3 → u11 = .pointer (some ⟨hb, 0, none⟩)) ∧ (On l 4 → u12 = aF) ∧ (On l 5 → u13 = .string sF) ∧ (On l 8 → u15 = sp) ∧ (On l 9 → u16 = .pointer (some ⟨hb, 21, none⟩)) ∧ (On l 10 → u17 = aT) ∧ (On l 11 → u18 = .string sT) ∧ (On l 14 → On l 0 ∧ u20 = u8) ∧ (On l 15 → On l 0 ∧ u5 = u8)

/-- The nodes that are named lie in memory. -/
def NodeAt (p : Node) (w : World) : Prop := match p with | none => True | some (b, l, a) => l.length = 20 ∧ w.rangeAt b 0 (bv l ++ [Value.string a]) ∧ b < w.heap.size

/-- The kept identifiers lie in memory. -/
def KeptAt (kb : Nat) (ks : List (List UInt8)) (w : World) : Prop := kb < w.heap.size ∧ ∀ j l, ks[j]? = some l → l.length = 20 ∧ w.rangeAt kb (j * 20) (bv l)

theorem Vals.mono {w : World} {base b n n' sz : Nat} {f : Fn} (h : Vals w base b n f sz) (hn : n ≤ n') : Vals w base b n' f sz := by
  obtain ⟨fv, ⟨D, h1, h2⟩, h3⟩ := h
  exact ⟨fv, ⟨D, h1.mono hn, h2⟩, h3⟩

theorem Vals.lower {w : World} {base base' b n sz : Nat} {f : Fn} (h : Vals w base b n f sz) (hb : base' ≤ base) : Vals w base' b n f sz := by
  obtain ⟨fv, h1, h2, h3, h4, h5⟩ := h
  refine ⟨fv, h1, Nat.le_trans hb h2, h3, fun key ss hk => ?_, h5⟩
  obtain ⟨v, hv, hr1, hr2⟩ := h4 key ss hk
  refine ⟨v, hv, hr1, ?_⟩
  rcases hr2 with hr2 | ⟨g, cap, cur, e, hg, r⟩
  · exact .inl hr2
  · exact .inr ⟨g, cap, cur, e, Nat.le_trans hb hg, r⟩

theorem Vals.le {w : World} {base b n sz : Nat} {f : Fn} (h : Vals w base b n f sz) : base ≤ b := by
  obtain ⟨fv, _, h2, _⟩ := h
  exact h2

/-- A whole array into the block that was made last. -/
theorem wpList_store_new {P : Program} {w : World} {ops : Array Oper} {rest : List Oper} {o : Oper} {a : Act} {Q : Exit → Act → World → Prop} (hgd : o.guard = none) (ty : TypeId) (x y : Operand) (ho : o.op = .store ty x y) (c c' : Array Value)
    (hx : a.eval x = .pointer (some ⟨w.heap.size, 0, none⟩)) (hy : a.eval y = .agg c') (hi : (P.info? ty).map (·.size) = some c'.size) (hc : c.size = c'.size) (h1 : c'.all (·.oneCell') = true)
    (h : wpList P ops Q rest (a.put o.dst undef) (w.alloc (.cells c' ty))) : wpList P ops Q (o :: rest) a (w.alloc (.cells c ty)) := by
  refine wpList_plain hgd fun K hK => ?_
  unfold Oper.wp execOp
  simp only [ho, hx, hy, Sem.run_bind, run_storeAt_new w ty c c' hi hc h1, Sem.run_pure, Result.andThen_ok]
  exact hK _ _ h

theorem bv_one (l : List UInt8) : (bv l).toArray.all (·.oneCell') = true := by
  apply all_oneCell_toArray
  intro v hv
  obtain ⟨b, _, rfl⟩ := List.mem_map.1 hv
  rfl

theorem zeros20 (l : List UInt8) (hl : l.length = 20) (z : Value) : (#[z, z, z, z, z, z, z, z, z, z, z, z, z, z, z, z, z, z, z, z] : Array Value).size = (bv l).toArray.size := by
  rw [show (bv l).toArray.size = 20 from by rw [List.size_toArray, bv_length, hl]]; rfl

set_option maxHeartbeats 2000000 in
set_option maxRecDepth 100000 in
theorem enc_any (m : Int) (h1 : 1 ≤ m) (h2 : m ≤ 160) (lf lt : List UInt8) (hf : lf.length = 20) (ht : lt.length = 20) (op orph : Bool) (ko bo : Node) (kb cap : Nat) (ks : List (List UInt8)) (hks : ks.length ≤ 1024) (u : Nat) (hu : u < 18446744073709551616) (w : World)
    (hko : NodeAt ko w) (hbo : NodeAt bo w) (hkept : KeptAt kb ks w) (htab : Lib.TabIs Ybad.prog w tabName .u64 Lib.pow10Tab) :
    Calls Ybad.prog 5 #[.agg #[.int .u64 (160 - m)], .agg (hovCells lf op lt ko.value bo.value orph (.slice (some ⟨kb, 0, none⟩) ks.length cap) u)] w fun e w' => ∃ b n, e = .returned (.map (some b)) ∧
      Vals w' w.heap.size b n (f7 ((m + 3) / 4) lf lt op ks orph ko bo u) (2 + one op + one (decide (0 < ks.length)) + one orph + twoIf ko + twoIf bo + one (decide (0 < u))) ∧ Below w.heap.size w w' := by
  obtain ⟨kp, hkp⟩ : ∃ kp, kp = ko.value := ⟨_, rfl⟩
  obtain ⟨bp, hbp⟩ : ∃ bp, bp = bo.value := ⟨_, rfl⟩
  rw [← hkp, ← hbp]
  have HKP : Hid (kp = ko.value) := hkp
  have HBP : Hid (bp = bo.value) := hbp
  have HKO : Hid (NodeAt ko w) := hko
  have HBO : Hid (NodeAt bo w) := hbo
  have HKT : Hid (KeptAt kb ks w) := hkept
  have HTB : Hid (Lib.TabIs Ybad.prog w tabName .u64 Lib.pow10Tab) := htab
  clear hkp hbp hko hbo hkept htab
  have HH : Hid (HovAt lf op lt kp bp orph (.slice (some ⟨kb, 0, none⟩) ks.length cap) u (w.heap.size + 1) ((w.alloc (.cells #[.int .u64 (160 - m)] 29)).alloc (.cells (hovCells lf op lt kp bp orph (.slice (some ⟨kb, 0, none⟩) ks.length cap) u) 36))) := by
    have := HovAt.new (op := op) (kp := kp) (bp := bp) (orph := orph) (kept := .slice (some ⟨kb, 0, none⟩) ks.length cap) (clock := u) hf ht (w.alloc (.cells #[.int .u64 (160 - m)] 29)) 36
    rwa [show (w.alloc (.cells #[.int .u64 (160 - m)] 29)).heap.size = w.heap.size + 1 from by simp] at this
  have HS : Hid (((w.alloc (.cells #[.int .u64 (160 - m)] 29)).alloc (.cells (hovCells lf op lt kp bp orph (.slice (some ⟨kb, 0, none⟩) ks.length cap) u) 36)).cell? ⟨w.heap.size, 0, none⟩ = some (.int .u64 (160 - m))) := by
    show _ = _
    simp [go_sem]
  go_enter Ybad.func5, Ybad.ntmps5
  go_wp2
  generalize hW0 : (w.alloc (.cells #[.int .u64 (160 - m)] 29)).alloc (.cells (hovCells lf op lt kp bp orph (.slice (some ⟨kb, 0, none⟩) ks.length cap) u) 36) = W0 at HH HS ⊢
  have HZ : Hid (W0.heap.size = w.heap.size + 2) := by show _ = _; rw [← hW0]; simp
  have HW : Hid (Below w.heap.size w W0) := by
    show Below _ _ _
    rw [← hW0]; exact ((Below.refl _ _).alloc (Nat.le_refl _) _).alloc (by simp) _
  clear hW0
  go_cut [5] (fun q w' => ∃ b, q = .map (some b) ∧ Vals w' (w.heap.size + 2) b 2 (f1 ((m + 3) / 4) lf lt) 2 ∧ Below (w.heap.size + 2) W0 w')
  case first =>
    refine wp_region_inv (by kernel_rfl) (by kernel_rfl) (fun a0 l a w' => ∃ u5 u8 u9 u10 u11 u12 u13 u14 u15 u16 u17 u18 u19 u20, a = act1 a0 u5 u8 u9 u10 u11 u12 u13 u14 u15 u16 u17 u18 u19 u20 ∧ Pure1 (.agg #[.int .u64 (160 - m)]) (.agg (bv lf).toArray) (.agg (bv lt).toArray) (w.heap.size + 1) (tail lf ((m + 3) / 4)) (tail lt ((m + 3) / 4)) l u5 u8 u9 u10 u11 u12 u13 u15 u16 u17 u18 u20 ∧ Enc1 (w.heap.size + 2) W0 (tail lf ((m + 3) / 4)) (tail lt ((m + 3) / 4)) l u8 u14 u19 w') ?_ ?_ ?_
    · refine ⟨undef, undef, undef, undef, undef, undef, undef, undef, undef, undef, undef, undef, undef, undef, by simp only [act1, Act.put, List.setIfInBounds_toArray, List.set_cons_zero, List.set_cons_succ], ⟨fun h => h.not_replicate.elim, fun h => h.not_replicate.elim, fun h => h.not_replicate.elim, fun h => h.not_replicate.elim, fun h => h.not_replicate.elim, fun h => h.not_replicate.elim, fun h => h.not_replicate.elim, fun h => h.not_replicate.elim, fun h => h.not_replicate.elim, fun h => h.not_replicate.elim, fun h => h.not_replicate.elim⟩, Enc1.start W0 (by rw [HZ.out]; omega)⟩
    · intro i o l a' w' ho hl hd hI
      obtain ⟨u5, u8, u9, u10, u11, u12, u13, u14, u15, u16, u17, u18, u19, u20, rfl, hp, he⟩ := hI
      have hi : i < 16 := (Array.getElem?_eq_some_iff.1 ho).1
      have hnot := On.not hl
      rcases (by omega : i = 0 ∨ i = 1 ∨ i = 2 ∨ i = 3 ∨ i = 4 ∨ i = 5 ∨ i = 6 ∨ i = 7 ∨ i = 8 ∨ i = 9 ∨ i = 10 ∨ i = 11 ∨ i = 12 ∨ i = 13 ∨ i = 14 ∨ i = 15) with rfl | rfl | rfl | rfl | rfl | rfl | rfl | rfl | rfl | rfl | rfl | rfl | rfl | rfl | rfl | rfl
      · cases ho
        obtain ⟨p1, p2, p3, p4, p5, p8, p9, p10, p11, p14, p15⟩ := hp
        refine wpOp_stepS rfl (fun K hK => ?_)
        simp only [act1, Act.put, List.setIfInBounds_toArray, List.set_cons_zero, List.set_cons_succ]
        have hmm := @run_makeMap Ybad.prog
        go_simp
        exact hK.out _ _ ⟨u5, .map (some w'.heap.size), u9, u10, u11, u12, u13, u14, u15, u16, u17, u18, u19, u20, by simp only [act1, Act.put, List.setIfInBounds_toArray, List.set_cons_zero, List.set_cons_succ], ⟨fun h => p1 ((On_ne (by omega)).1 h), fun h => p2 ((On_ne (by omega)).1 h), fun h => p3 ((On_ne (by omega)).1 h), fun h => p4 ((On_ne (by omega)).1 h), fun h => p5 ((On_ne (by omega)).1 h), fun h => p8 ((On_ne (by omega)).1 h), fun h => p9 ((On_ne (by omega)).1 h), fun h => p10 ((On_ne (by omega)).1 h), fun h => p11 ((On_ne (by omega)).1 h), fun h => absurd (p14 ((On_ne (by omega)).1 h)).1 hnot, fun h => absurd (p15 ((On_ne (by omega)).1 h)).1 hnot⟩, he.made hnot⟩
      · cases ho
        obtain ⟨p1, p2, p3, p4, p5, p8, p9, p10, p11, p14, p15⟩ := hp
        refine wpOp_stepS rfl (fun K hK => ?_)
        simp only [act1, Act.put, List.setIfInBounds_toArray, List.set_cons_zero, List.set_cons_succ]
        have hc : w'.cell? ⟨w.heap.size, 0, none⟩ = some (.int .u64 (160 - m)) := (he.2.2.1.cell (p := ⟨w.heap.size, 0, none⟩) (by show w.heap.size < _; omega)).trans HS.out
        go_simp
        exact hK.out _ _ ⟨u5, u8, .agg #[.int .u64 (160 - m)], u10, u11, u12, u13, u14, u15, u16, u17, u18, u19, u20, by simp only [act1, Act.put, List.setIfInBounds_toArray, List.set_cons_zero, List.set_cons_succ], ⟨fun _ => rfl, fun h => p2 ((On_ne (by omega)).1 h), fun h => p3 ((On_ne (by omega)).1 h), fun h => p4 ((On_ne (by omega)).1 h), fun h => p5 ((On_ne (by omega)).1 h), fun h => p8 ((On_ne (by omega)).1 h), fun h => p9 ((On_ne (by omega)).1 h), fun h => p10 ((On_ne (by omega)).1 h), fun h => p11 ((On_ne (by omega)).1 h), fun h => ⟨(On_ne (by omega)).2 (p14 ((On_ne (by omega)).1 h)).1, (p14 ((On_ne (by omega)).1 h)).2⟩, fun h => ⟨(On_ne (by omega)).2 (p15 ((On_ne (by omega)).1 h)).1, (p15 ((On_ne (by omega)).1 h)).2⟩⟩, he.other (by omega) (by omega) (by omega) (by omega) (by omega)⟩
      · cases ho
        obtain ⟨p1, p2, p3, p4, p5, p8, p9, p10, p11, p14, p15⟩ := hp
        refine wpOp_stepS rfl (fun K hK => ?_)
        simp only [act1, Act.put, List.setIfInBounds_toArray, List.set_cons_zero, List.set_cons_succ]
        go_simp
        exact hK.out _ _ ⟨u5, u8, u9, .pointer (some ⟨w.heap.size + 1, 0, none⟩), u11, u12, u13, u14, u15, u16, u17, u18, u19, u20, by simp only [act1, Act.put, List.setIfInBounds_toArray, List.set_cons_zero, List.set_cons_succ], ⟨fun h => p1 ((On_ne (by omega)).1 h), fun _ => rfl, fun h => p3 ((On_ne (by omega)).1 h), fun h => p4 ((On_ne (by omega)).1 h), fun h => p5 ((On_ne (by omega)).1 h), fun h => p8 ((On_ne (by omega)).1 h), fun h => p9 ((On_ne (by omega)).1 h), fun h => p10 ((On_ne (by omega)).1 h), fun h => p11 ((On_ne (by omega)).1 h), fun h => ⟨(On_ne (by omega)).2 (p14 ((On_ne (by omega)).1 h)).1, (p14 ((On_ne (by omega)).1 h)).2⟩, fun h => ⟨(On_ne (by omega)).2 (p15 ((On_ne (by omega)).1 h)).1, (p15 ((On_ne (by omega)).1 h)).2⟩⟩, he.other (by omega) (by omega) (by omega) (by omega) (by omega)⟩
      · cases ho
        obtain ⟨p1, p2, p3, p4, p5, p8, p9, p10, p11, p14, p15⟩ := hp
        have d2 : On l 2 := hd ⟨2, .data⟩ (by simp) rfl
        have e := p2 d2
        subst e
        refine wpOp_stepS rfl (fun K hK => ?_)
        simp only [act1, Act.put, List.setIfInBounds_toArray, List.set_cons_zero, List.set_cons_succ]
        go_simp
        exact hK.out _ _ ⟨u5, u8, u9, .pointer (some ⟨w.heap.size + 1, 0, none⟩), .pointer (some ⟨w.heap.size + 1, 0, none⟩), u12, u13, u14, u15, u16, u17, u18, u19, u20, by simp only [act1, Act.put, List.setIfInBounds_toArray, List.set_cons_zero, List.set_cons_succ], ⟨fun h => p1 ((On_ne (by omega)).1 h), fun h => p2 ((On_ne (by omega)).1 h), fun _ => rfl, fun h => p4 ((On_ne (by omega)).1 h), fun h => p5 ((On_ne (by omega)).1 h), fun h => p8 ((On_ne (by omega)).1 h), fun h => p9 ((On_ne (by omega)).1 h), fun h => p10 ((On_ne (by omega)).1 h), fun h => p11 ((On_ne (by omega)).1 h), fun h => ⟨(On_ne (by omega)).2 (p14 ((On_ne (by omega)).1 h)).1, (p14 ((On_ne (by omega)).1 h)).2⟩, fun h => ⟨(On_ne (by omega)).2 (p15 ((On_ne (by omega)).1 h)).1, (p15 ((On_ne (by omega)).1 h)).2⟩⟩, he.other (by omega) (by omega) (by omega) (by omega) (by omega)⟩
      · cases ho
        obtain ⟨p1, p2, p3, p4, p5, p8, p9, p10, p11, p14, p15⟩ := hp
        have d3 : On l 3 := hd ⟨3, .data⟩ (by simp) rfl
        have e := p3 d3
        subst e
        refine wpOp_stepS rfl (fun K hK => ?_)
        simp only [act1, Act.put, List.setIfInBounds_toArray, List.set_cons_zero, List.set_cons_succ]
        have hr : w'.rangeAt (w.heap.size + 1) 0 (bv lf) := (HH.out.below he.2.2.1 (by omega)).1
        rw [if_pos (by rfl)]
        refine wp_load_mid 30 _ rfl (w.heap.size + 1) 0 rfl (bv lf) _ hr Ybad.underlying30 rfl (info30 lf hf) ?_
        simp only [List.getElem_toArray, List.getElem_cons_succ, List.getElem_cons_zero, Act.put, List.setIfInBounds_toArray, List.set_cons_zero, List.set_cons_succ]
        exact hK.out _ _ ⟨u5, u8, u9, u10, .pointer (some ⟨w.heap.size + 1, 0, none⟩), .agg (bv lf).toArray, u13, u14, u15, u16, u17, u18, u19, u20, by simp only [act1, Act.put, List.setIfInBounds_toArray, List.set_cons_zero, List.set_cons_succ], ⟨fun h => p1 ((On_ne (by omega)).1 h), fun h => p2 ((On_ne (by omega)).1 h), fun h => p3 ((On_ne (by omega)).1 h), fun _ => rfl, fun h => p5 ((On_ne (by omega)).1 h), fun h => p8 ((On_ne (by omega)).1 h), fun h => p9 ((On_ne (by omega)).1 h), fun h => p10 ((On_ne (by omega)).1 h), fun h => p11 ((On_ne (by omega)).1 h), fun h => ⟨(On_ne (by omega)).2 (p14 ((On_ne (by omega)).1 h)).1, (p14 ((On_ne (by omega)).1 h)).2⟩, fun h => ⟨(On_ne (by omega)).2 (p15 ((On_ne (by omega)).1 h)).1, (p15 ((On_ne (by omega)).1 h)).2⟩⟩, he.other (by omega) (by omega) (by omega) (by omega) (by omega)⟩
      · cases ho
        obtain ⟨p1, p2, p3, p4, p5, p8, p9, p10, p11, p14, p15⟩ := hp
        have d1 : On l 1 := hd ⟨1, .data⟩ (by simp) rfl
        have d4 : On l 4 := hd ⟨4, .data⟩ (by simp) rfl
        have e := p1 d1
        subst e
        have e := p4 d4
        subst e
        refine wpOp_stepS rfl (fun K hK => ?_)
        simp only [act1, Act.put, List.setIfInBounds_toArray, List.set_cons_zero, List.set_cons_succ]
        go_simp
        refine (format_any m h1 h2 lf hf _).mono ?_
        rintro e w2 ⟨rfl, hb2⟩
        have he2 := he.later hb2
        exact hK.out _ _ ⟨u5, u8, .agg #[.int .u64 (160 - m)], u10, u11, .agg (bv lf).toArray, .string (tail lf ((m + 3) / 4)), u14, u15, u16, u17, u18, u19, u20, by simp only [act1, Act.put, List.setIfInBounds_toArray, List.set_cons_zero, List.set_cons_succ], ⟨fun h => p1 ((On_ne (by omega)).1 h), fun h => p2 ((On_ne (by omega)).1 h), fun h => p3 ((On_ne (by omega)).1 h), fun h => p4 ((On_ne (by omega)).1 h), fun _ => rfl, fun h => p8 ((On_ne (by omega)).1 h), fun h => p9 ((On_ne (by omega)).1 h), fun h => p10 ((On_ne (by omega)).1 h), fun h => p11 ((On_ne (by omega)).1 h), fun h => ⟨(On_ne (by omega)).2 (p14 ((On_ne (by omega)).1 h)).1, (p14 ((On_ne (by omega)).1 h)).2⟩, fun h => ⟨(On_ne (by omega)).2 (p15 ((On_ne (by omega)).1 h)).1, (p15 ((On_ne (by omega)).1 h)).2⟩⟩, he2.other (by omega) (by omega) (by omega) (by omega) (by omega)⟩
      · cases ho
        obtain ⟨p1, p2, p3, p4, p5, p8, p9, p10, p11, p14, p15⟩ := hp
        have d5 : On l 5 := hd ⟨5, .data⟩ (by simp) rfl
        have e := p5 d5
        subst e
        refine wpOp_stepS rfl (fun K hK => ?_)
        simp only [act1, Act.put, List.setIfInBounds_toArray, List.set_cons_zero, List.set_cons_succ]
        go_simp
        exact hK.out _ _ ⟨u5, u8, u9, u10, u11, u12, .string (tail lf ((m + 3) / 4)), .slice (some ⟨w'.heap.size, 0, none⟩) 1 1, u15, u16, u17, u18, u19, u20, by simp only [act1, Act.put, List.setIfInBounds_toArray, List.set_cons_zero, List.set_cons_succ], ⟨fun h => p1 ((On_ne (by omega)).1 h), fun h => p2 ((On_ne (by omega)).1 h), fun h => p3 ((On_ne (by omega)).1 h), fun h => p4 ((On_ne (by omega)).1 h), fun h => p5 ((On_ne (by omega)).1 h), fun h => p8 ((On_ne (by omega)).1 h), fun h => p9 ((On_ne (by omega)).1 h), fun h => p10 ((On_ne (by omega)).1 h), fun h => p11 ((On_ne (by omega)).1 h), fun h => ⟨(On_ne (by omega)).2 (p14 ((On_ne (by omega)).1 h)).1, (p14 ((On_ne (by omega)).1 h)).2⟩, fun h => ⟨(On_ne (by omega)).2 (p15 ((On_ne (by omega)).1 h)).1, (p15 ((On_ne (by omega)).1 h)).2⟩⟩, he.row1 hnot⟩
      · cases ho
        obtain ⟨p1, p2, p3, p4, p5, p8, p9, p10, p11, p14, p15⟩ := hp
        have d0 : On l 0 := hd ⟨0, .data⟩ (by simp) rfl
        have d6 : On l 6 := hd ⟨6, .data⟩ (by simp) rfl
        obtain ⟨w2, hr, he2⟩ := he.ins1 hnot d0 d6
        unfold kFrom at hr
        have HE2 : Hid (Enc1 (w.heap.size + 2) W0 (tail lf ((m + 3) / 4)) (tail lt ((m + 3) / 4)) (l.setIfInBounds 7 true) u8 u14 u19 w2) := he2
        clear he2
        refine wpOp_stepS rfl (fun K hK => ?_)
        simp only [act1, Act.put, List.setIfInBounds_toArray, List.set_cons_zero, List.set_cons_succ]
        go_simp
        exact hK.out _ _ ⟨u5, u8, u9, u10, u11, u12, u13, u14, u15, u16, u17, u18, u19, u20, by simp only [act1, Act.put, List.setIfInBounds_toArray, List.set_cons_zero, List.set_cons_succ], ⟨fun h => p1 ((On_ne (by omega)).1 h), fun h => p2 ((On_ne (by omega)).1 h), fun h => p3 ((On_ne (by omega)).1 h), fun h => p4 ((On_ne (by omega)).1 h), fun h => p5 ((On_ne (by omega)).1 h), fun h => p8 ((On_ne (by omega)).1 h), fun h => p9 ((On_ne (by omega)).1 h), fun h => p10 ((On_ne (by omega)).1 h), fun h => p11 ((On_ne (by omega)).1 h), fun h => ⟨(On_ne (by omega)).2 (p14 ((On_ne (by omega)).1 h)).1, (p14 ((On_ne (by omega)).1 h)).2⟩, fun h => ⟨(On_ne (by omega)).2 (p15 ((On_ne (by omega)).1 h)).1, (p15 ((On_ne (by omega)).1 h)).2⟩⟩, HE2.out⟩
      · cases ho
        obtain ⟨p1, p2, p3, p4, p5, p8, p9, p10, p11, p14, p15⟩ := hp
        refine wpOp_stepS rfl (fun K hK => ?_)
        simp only [act1, Act.put, List.setIfInBounds_toArray, List.set_cons_zero, List.set_cons_succ]
        have hc : w'.cell? ⟨w.heap.size, 0, none⟩ = some (.int .u64 (160 - m)) := (he.2.2.1.cell (p := ⟨w.heap.size, 0, none⟩) (by show w.heap.size < _; omega)).trans HS.out
        go_simp
        exact hK.out _ _ ⟨u5, u8, u9, u10, u11, u12, u13, u14, .agg #[.int .u64 (160 - m)], u16, u17, u18, u19, u20, by simp only [act1, Act.put, List.setIfInBounds_toArray, List.set_cons_zero, List.set_cons_succ], ⟨fun h => p1 ((On_ne (by omega)).1 h), fun h => p2 ((On_ne (by omega)).1 h), fun h => p3 ((On_ne (by omega)).1 h), fun h => p4 ((On_ne (by omega)).1 h), fun h => p5 ((On_ne (by omega)).1 h), fun _ => rfl, fun h => p9 ((On_ne (by omega)).1 h), fun h => p10 ((On_ne (by omega)).1 h), fun h => p11 ((On_ne (by omega)).1 h), fun h => ⟨(On_ne (by omega)).2 (p14 ((On_ne (by omega)).1 h)).1, (p14 ((On_ne (by omega)).1 h)).2⟩, fun h => ⟨(On_ne (by omega)).2 (p15 ((On_ne (by omega)).1 h)).1, (p15 ((On_ne (by omega)).1 h)).2⟩⟩, he.other (by omega) (by omega) (by omega) (by omega) (by omega)⟩
      · cases ho
        obtain ⟨p1, p2, p3, p4, p5, p8, p9, p10, p11, p14, p15⟩ := hp
        refine wpOp_stepS rfl (fun K hK => ?_)
        simp only [act1, Act.put, List.setIfInBounds_toArray, List.set_cons_zero, List.set_cons_succ]
        go_simp
        exact hK.out _ _ ⟨u5, u8, u9, u10, u11, u12, u13, u14, u15, .pointer (some ⟨w.heap.size + 1, 21, none⟩), u17, u18, u19, u20, by simp only [act1, Act.put, List.setIfInBounds_toArray, List.set_cons_zero, List.set_cons_succ], ⟨fun h => p1 ((On_ne (by omega)).1 h), fun h => p2 ((On_ne (by omega)).1 h), fun h => p3 ((On_ne (by omega)).1 h), fun h => p4 ((On_ne (by omega)).1 h), fun h => p5 ((On_ne (by omega)).1 h), fun h => p8 ((On_ne (by omega)).1 h), fun _ => rfl, fun h => p10 ((On_ne (by omega)).1 h), fun h => p11 ((On_ne (by omega)).1 h), fun h => ⟨(On_ne (by omega)).2 (p14 ((On_ne (by omega)).1 h)).1, (p14 ((On_ne (by omega)).1 h)).2⟩, fun h => ⟨(On_ne (by omega)).2 (p15 ((On_ne (by omega)).1 h)).1, (p15 ((On_ne (by omega)).1 h)).2⟩⟩, he.other (by omega) (by omega) (by omega) (by omega) (by omega)⟩
      · cases ho
        obtain ⟨p1, p2, p3, p4, p5, p8, p9, p10, p11, p14, p15⟩ := hp
        have d9 : On l 9 := hd ⟨9, .data⟩ (by simp) rfl
        have e := p9 d9
        subst e
        refine wpOp_stepS rfl (fun K hK => ?_)
        simp only [act1, Act.put, List.setIfInBounds_toArray, List.set_cons_zero, List.set_cons_succ]
        have hr : w'.rangeAt (w.heap.size + 1) 21 (bv lt) := (HH.out.below he.2.2.1 (by omega)).2.2.1
        rw [if_pos (by rfl)]
        refine wp_load_mid 30 _ rfl (w.heap.size + 1) 21 rfl (bv lt) _ hr Ybad.underlying30 rfl (info30 lt ht) ?_
        simp only [List.getElem_toArray, List.getElem_cons_succ, List.getElem_cons_zero, Act.put, List.setIfInBounds_toArray, List.set_cons_zero, List.set_cons_succ]
        exact hK.out _ _ ⟨u5, u8, u9, u10, u11, u12, u13, u14, u15, .pointer (some ⟨w.heap.size + 1, 21, none⟩), .agg (bv lt).toArray, u18, u19, u20, by simp only [act1, Act.put, List.setIfInBounds_toArray, List.set_cons_zero, List.set_cons_succ], ⟨fun h => p1 ((On_ne (by omega)).1 h), fun h => p2 ((On_ne (by omega)).1 h), fun h => p3 ((On_ne (by omega)).1 h), fun h => p4 ((On_ne (by omega)).1 h), fun h => p5 ((On_ne (by omega)).1 h), fun h => p8 ((On_ne (by omega)).1 h), fun h => p9 ((On_ne (by omega)).1 h), fun _ => rfl, fun h => p11 ((On_ne (by omega)).1 h), fun h => ⟨(On_ne (by omega)).2 (p14 ((On_ne (by omega)).1 h)).1, (p14 ((On_ne (by omega)).1 h)).2⟩, fun h => ⟨(On_ne (by omega)).2 (p15 ((On_ne (by omega)).1 h)).1, (p15 ((On_ne (by omega)).1 h)).2⟩⟩, he.other (by omega) (by omega) (by omega) (by omega) (by omega)⟩
      · cases ho
        obtain ⟨p1, p2, p3, p4, p5, p8, p9, p10, p11, p14, p15⟩ := hp
        have d8 : On l 8 := hd ⟨8, .data⟩ (by simp) rfl
        have d10 : On l 10 := hd ⟨10, .data⟩ (by simp) rfl
        have e := p8 d8
        subst e
        have e := p10 d10
        subst e
        refine wpOp_stepS rfl (fun K hK => ?_)
        simp only [act1, Act.put, List.setIfInBounds_toArray, List.set_cons_zero, List.set_cons_succ]
        go_simp
        refine (format_any m h1 h2 lt ht _).mono ?_
        rintro e w2 ⟨rfl, hb2⟩
        have he2 := he.later hb2
        exact hK.out _ _ ⟨u5, u8, u9, u10, u11, u12, u13, u14, .agg #[.int .u64 (160 - m)], u16, .agg (bv lt).toArray, .string (tail lt ((m + 3) / 4)), u19, u20, by simp only [act1, Act.put, List.setIfInBounds_toArray, List.set_cons_zero, List.set_cons_succ], ⟨fun h => p1 ((On_ne (by omega)).1 h), fun h => p2 ((On_ne (by omega)).1 h), fun h => p3 ((On_ne (by omega)).1 h), fun h => p4 ((On_ne (by omega)).1 h), fun h => p5 ((On_ne (by omega)).1 h), fun h => p8 ((On_ne (by omega)).1 h), fun h => p9 ((On_ne (by omega)).1 h), fun h => p10 ((On_ne (by omega)).1 h), fun _ => rfl, fun h => ⟨(On_ne (by omega)).2 (p14 ((On_ne (by omega)).1 h)).1, (p14 ((On_ne (by omega)).1 h)).2⟩, fun h => ⟨(On_ne (by omega)).2 (p15 ((On_ne (by omega)).1 h)).1, (p15 ((On_ne (by omega)).1 h)).2⟩⟩, he2.other (by omega) (by omega) (by omega) (by omega) (by omega)⟩
      · cases ho
        obtain ⟨p1, p2, p3, p4, p5, p8, p9, p10, p11, p14, p15⟩ := hp
        have d11 : On l 11 := hd ⟨11, .data⟩ (by simp) rfl
        have e := p11 d11
        subst e
        refine wpOp_stepS rfl (fun K hK => ?_)
        simp only [act1, Act.put, List.setIfInBounds_toArray, List.set_cons_zero, List.set_cons_succ]
        go_simp
        exact hK.out _ _ ⟨u5, u8, u9, u10, u11, u12, u13, u14, u15, u16, u17, .string (tail lt ((m + 3) / 4)), .slice (some ⟨w'.heap.size, 0, none⟩) 1 1, u20, by simp only [act1, Act.put, List.setIfInBounds_toArray, List.set_cons_zero, List.set_cons_succ], ⟨fun h => p1 ((On_ne (by omega)).1 h), fun h => p2 ((On_ne (by omega)).1 h), fun h => p3 ((On_ne (by omega)).1 h), fun h => p4 ((On_ne (by omega)).1 h), fun h => p5 ((On_ne (by omega)).1 h), fun h => p8 ((On_ne (by omega)).1 h), fun h => p9 ((On_ne (by omega)).1 h), fun h => p10 ((On_ne (by omega)).1 h), fun h => p11 ((On_ne (by omega)).1 h), fun h => ⟨(On_ne (by omega)).2 (p14 ((On_ne (by omega)).1 h)).1, (p14 ((On_ne (by omega)).1 h)).2⟩, fun h => ⟨(On_ne (by omega)).2 (p15 ((On_ne (by omega)).1 h)).1, (p15 ((On_ne (by omega)).1 h)).2⟩⟩, he.row2 hnot⟩
      · cases ho
        obtain ⟨p1, p2, p3, p4, p5, p8, p9, p10, p11, p14, p15⟩ := hp
        have d0 : On l 0 := hd ⟨0, .data⟩ (by simp) rfl
        have d12 : On l 12 := hd ⟨12, .data⟩ (by simp) rfl
        obtain ⟨w2, hr, he2⟩ := he.ins2 hnot d0 d12
        unfold kTo at hr
        have HE2 : Hid (Enc1 (w.heap.size + 2) W0 (tail lf ((m + 3) / 4)) (tail lt ((m + 3) / 4)) (l.setIfInBounds 13 true) u8 u14 u19 w2) := he2
        clear he2
        refine wpOp_stepS rfl (fun K hK => ?_)
        simp only [act1, Act.put, List.setIfInBounds_toArray, List.set_cons_zero, List.set_cons_succ]
        go_simp
        exact hK.out _ _ ⟨u5, u8, u9, u10, u11, u12, u13, u14, u15, u16, u17, u18, u19, u20, by simp only [act1, Act.put, List.setIfInBounds_toArray, List.set_cons_zero, List.set_cons_succ], ⟨fun h => p1 ((On_ne (by omega)).1 h), fun h => p2 ((On_ne (by omega)).1 h), fun h => p3 ((On_ne (by omega)).1 h), fun h => p4 ((On_ne (by omega)).1 h), fun h => p5 ((On_ne (by omega)).1 h), fun h => p8 ((On_ne (by omega)).1 h), fun h => p9 ((On_ne (by omega)).1 h), fun h => p10 ((On_ne (by omega)).1 h), fun h => p11 ((On_ne (by omega)).1 h), fun h => ⟨(On_ne (by omega)).2 (p14 ((On_ne (by omega)).1 h)).1, (p14 ((On_ne (by omega)).1 h)).2⟩, fun h => ⟨(On_ne (by omega)).2 (p15 ((On_ne (by omega)).1 h)).1, (p15 ((On_ne (by omega)).1 h)).2⟩⟩, HE2.out⟩
      · cases ho
        obtain ⟨p1, p2, p3, p4, p5, p8, p9, p10, p11, p14, p15⟩ := hp
        have d0 : On l 0 := hd ⟨0, .data⟩ (by simp) rfl
        refine wpOp_stepS rfl (fun K hK => ?_)
        simp only [act1, Act.put, List.setIfInBounds_toArray, List.set_cons_zero, List.set_cons_succ]
        go_simp
        exact hK.out _ _ ⟨u5, u8, u9, u10, u11, u12, u13, u14, u15, u16, u17, u18, u19, u8, by simp only [act1, Act.put, List.setIfInBounds_toArray, List.set_cons_zero, List.set_cons_succ], ⟨fun h => p1 ((On_ne (by omega)).1 h), fun h => p2 ((On_ne (by omega)).1 h), fun h => p3 ((On_ne (by omega)).1 h), fun h => p4 ((On_ne (by omega)).1 h), fun h => p5 ((On_ne (by omega)).1 h), fun h => p8 ((On_ne (by omega)).1 h), fun h => p9 ((On_ne (by omega)).1 h), fun h => p10 ((On_ne (by omega)).1 h), fun h => p11 ((On_ne (by omega)).1 h), fun _ => ⟨(On_ne (by omega)).2 d0, rfl⟩, fun h => ⟨(On_ne (by omega)).2 (p15 ((On_ne (by omega)).1 h)).1, (p15 ((On_ne (by omega)).1 h)).2⟩⟩, he.other (by omega) (by omega) (by omega) (by omega) (by omega)⟩
      · cases ho
        obtain ⟨p1, p2, p3, p4, p5, p8, p9, p10, p11, p14, p15⟩ := hp
        have d14 : On l 14 := hd ⟨14, .data⟩ (by simp) rfl
        have d0 : On l 0 := (p14 d14).1
        have e := (p14 d14).2
        subst e
        refine wpOp_stepS rfl (fun K hK => ?_)
        simp only [act1, Act.put, List.setIfInBounds_toArray, List.set_cons_zero, List.set_cons_succ]
        go_simp
        exact hK.out _ _ ⟨u20, u20, u9, u10, u11, u12, u13, u14, u15, u16, u17, u18, u19, u20, by simp only [act1, Act.put, List.setIfInBounds_toArray, List.set_cons_zero, List.set_cons_succ], ⟨fun h => p1 ((On_ne (by omega)).1 h), fun h => p2 ((On_ne (by omega)).1 h), fun h => p3 ((On_ne (by omega)).1 h), fun h => p4 ((On_ne (by omega)).1 h), fun h => p5 ((On_ne (by omega)).1 h), fun h => p8 ((On_ne (by omega)).1 h), fun h => p9 ((On_ne (by omega)).1 h), fun h => p10 ((On_ne (by omega)).1 h), fun h => p11 ((On_ne (by omega)).1 h), fun h => ⟨(On_ne (by omega)).2 (p14 ((On_ne (by omega)).1 h)).1, (p14 ((On_ne (by omega)).1 h)).2⟩, fun _ => ⟨(On_ne (by omega)).2 d0, rfl⟩⟩, he.other (by omega) (by omega) (by omega) (by omega) (by omega)⟩
    · intro l a' w' hall hI
      obtain ⟨u5, u8, u9, u10, u11, u12, u13, u14, u15, u16, u17, u18, u19, u20, rfl, hp, he⟩ := hI
      have on : ∀ j, j < 16 → On l j := fun j hj => On.of_listed (by rw [he.1]; exact hj) (hall j hj)
      obtain ⟨b, e, hv, hb⟩ := he.done (on 0 (by omega)) (on 6 (by omega)) (on 7 (by omega)) (on 12 (by omega)) (on 13 (by omega))
      have e2 := (hp.2.2.2.2.2.2.2.2.2.2 (on 15 (by omega))).2
      subst e
      subst e2
      simp only [act1, Act.put, List.setIfInBounds_toArray, List.set_cons_zero, List.set_cons_succ]
      go_wp2
      go_meet
      case rel => exact ⟨b, rfl, hv, hb⟩
  case rest =>
    obtain ⟨b, rfl, hv, hb⟩ := hcut
    have HV : Hid (Vals wc (w.heap.size + 2) b 2 (f1 ((m + 3) / 4) lf lt) 2) := hv
    have HB : Hid (Below (w.heap.size + 2) W0 wc) := hb
    have hc := (HH.out.below hb (by omega)).2.1
    clear hv hb
    go_upto_if 23 with fail
    clear hc
    go_cut [] (fun w' => Vals w' (w.heap.size + 2) b 3 (f2 ((m + 3) / 4) lf lt op) (2 + one op) ∧ Below (w.heap.size + 2) W0 w')
    case first =>
      cases op with
      | false =>
        go_wp2
        go_meet
        case rel => exact ⟨HV.out.mono (by omega), HB.out⟩
      | true =>
        go_wp2_with fail
        refine (set_any _ b 2 2 _ _ vTrue _ HV.out (by decide) (by decide) ?_).mono ?_
        · have := HB.out.size; have := HZ.out; omega
        rintro e w2 ⟨rfl, V2, G2⟩
        go_wp2
        go_meet
        case rel =>
          refine ⟨?_, HB.out.grown G2 (by have := HB.out.size; have := HZ.out; omega) (fun k hk => by cases hk; exact HV.out.le)⟩
          have e : grew (f1 ((m + 3) / 4) lf lt) cOpen 2 = 2 + one true := by rw [grew_none _ _ _ f2_open]; rfl
          rw [← e]; exact V2
    case rest =>
      clear HV HB
      obtain ⟨hv, hb⟩ := hcut
      have HV : Hid (Vals wc (w.heap.size + 2) b 3 (f2 ((m + 3) / 4) lf lt op) (2 + one op)) := hv
      have HB : Hid (Below (w.heap.size + 2) W0 wc) := hb
      have hc := (HH.out.below hb (by omega)).2.2.2.2.2.2.1
      clear hv hb
      go_wp2
      clear hc
      go_loopw [29] (fun i wr => ∃ j : Nat, j ≤ ks.length ∧ i = .int .i64 j ∧ Hid (Vals wr (w.heap.size + 2) b (3 + j) (f3 ((m + 3) / 4) lf lt op ks j) (2 + one op + one (decide (0 < j)))) ∧ Hid (Below (w.heap.size + 2) W0 wr)) (fun i _ => ks.length - (RowKit.intOf i).toNat)
      case atStart => exact ⟨0, Nat.zero_le _, rfl, HV.out, HB.out⟩
      case round =>
        clear HV HB
        obtain ⟨j, hj, rfl, HV, HB⟩ := hrel
        by_cases hlt : j < ks.length
        · obtain ⟨l, hl⟩ : ∃ l, ks[j]? = some l := ⟨_, List.getElem?_eq_getElem hlt⟩
          have hl20 := (HKT.out.2 j l hl).1
          have hb0 : Below w.heap.size w wr := HW.out.trans (HB.out.mono (by omega))
          have R : Hid (wr.rangeAt kb (j * 20) (bv l)) := fun i v hv => (hb0.cell (p := ⟨kb, j * 20 + i, none⟩) HKT.out.1).trans ((HKT.out.2 j l hl).2 i v hv)
          have HL : Hid (ks[j]? = some l) := hl
          have hc : wr.cell? ⟨w.heap.size, 0, none⟩ = some (.int .u64 (160 - m)) := (HB.out.cell (p := ⟨w.heap.size, 0, none⟩) (by show w.heap.size < _; omega)).trans HS.out
          have hc' : ∀ o, (wr.alloc o).cell? ⟨w.heap.size, 0, none⟩ = some (.int .u64 (160 - m)) := fun o => cell_later hc ((Below.refl _ _).alloc (Nat.le_refl _) _)
          have HI : Hid ((Ybad.prog.info? 30).map (·.size) = some (bv l).length) := info30 l hl20
          have HI2 : Hid ((Ybad.prog.info? 30).map (·.size) = some (bv l).toArray.size) := by show _ = _; rw [List.size_toArray]; exact info30 l hl20
          have R2 : Hid ((wr.alloc (.cells (bv l).toArray 30)).rangeAt wr.heap.size 0 (bv l)) := by have := range_new wr [] (bv l) [] 30; rw [List.nil_append, List.append_nil] at this; exact this
          clear hl hb0
          go_wp2_with (first | refine wpList_load_mid rfl 30 _ rfl kb (j * 20) rfl (bv l) _ R.out Ybad.underlying30 rfl HI.out ?_ | refine wpList_store_new rfl 30 _ _ rfl _ (bv l).toArray rfl rfl HI2.out (zeros20 l hl20 _) (bv_one l) ?_ | refine wpList_load_mid rfl 30 _ rfl wr.heap.size 0 rfl (bv l) _ R2.out Ybad.underlying30 rfl HI.out ?_)
          refine (format_any m h1 h2 l hl20 _).mono ?_
          rintro e w2 ⟨rfl, hb2⟩
          have hb3 : Below wr.heap.size wr w2 := ((Below.refl _ _).alloc (Nat.le_refl _) _).trans (hb2.mono (by simp))
          have V2 := HV.out.later hb3
          go_wp2_with fail
          refine (add_any _ b _ _ _ _ (tail l ((m + 3) / 4)) _ V2 (by decide) (by unfold maxLen; omega) ?_ _ (f3_at j) ?_).mono ?_
          · have := hb3.size; have := HB.out.size; have := HZ.out; omega
          · simp; omega
          rintro e w4 ⟨rfl, V4, B4⟩
          have F : Hid (Vals w4 (w.heap.size + 2) b (3 + (j + 1)) (f3 ((m + 3) / 4) lf lt op ks (j + 1)) (2 + one op + one (decide (0 < j + 1))) ∧ Below (w.heap.size + 2) W0 w4) := by
            refine ⟨?_, (HB.out.trans (hb3.mono (by have := HB.out.size; have := HZ.out; omega))).trans B4⟩
            have e1 := f3_step (d := (m + 3) / 4) (lf := lf) (lt := lt) (op := op) j l HL.out
            have e2 : grew (f3 ((m + 3) / 4) lf lt op ks j) cKept (2 + one op + one (decide (0 < j))) = 2 + one op + one (decide (0 < j + 1)) := by
              unfold grew
              rw [f3_some]
              by_cases h0 : 0 < j
              · simp [h0, one]
              · simp [h0, one]
            rw [← e1, ← e2]
            exact V4
          clear V4 B4 V2 hb3 hb2
          go_wp2
          go_roundw
          case rel => exact ⟨j + 1, by omega, by go_num, F.out.1, F.out.2⟩
          case measure => simp [RowKit.intOf]; omega
        · obtain rfl : j = ks.length := by omega
          have hc := (HH.out.below HB.out (by omega)).2.2.2.2.2.1
          go_upto_if 40 with fail
          clear hc
          go_cut [] (fun w' => Vals w' (w.heap.size + 2) b (4 + ks.length) (f4 ((m + 3) / 4) lf lt op ks orph) (2 + one op + one (decide (0 < ks.length)) + one orph) ∧ Below (w.heap.size + 2) W0 w')
          case first =>
            cases orph with
            | false =>
              go_wp2
              go_meet
              case rel => exact ⟨HV.out.mono (by omega), HB.out⟩
            | true =>
              go_wp2_with fail
              refine (set_any _ b _ _ _ _ vTrue _ HV.out (by decide) (by unfold maxLen; omega) ?_).mono ?_
              · have := HB.out.size; have := HZ.out; omega
              rintro e w2 ⟨rfl, V2, G2⟩
              go_wp2
              go_meet
              case rel =>
                refine ⟨?_, HB.out.grown G2 (by have := HB.out.size; have := HZ.out; omega) (fun k hk => by cases hk; exact HV.out.le)⟩
                have e : grew (f3 ((m + 3) / 4) lf lt op ks ks.length) cOrphans (2 + one op + one (decide (0 < ks.length))) = 2 + one op + one (decide (0 < ks.length)) + one true := by rw [grew_none _ _ _ (f3_none _ _ (by decide) (by decide) (by decide) (by decide))]; rfl
                rw [← e]
                exact V2.mono (by omega)
          case rest =>
            clear HV HB
            obtain ⟨hv, hb⟩ := hcut
            have HV : Hid (Vals wc (w.heap.size + 2) b (4 + ks.length) (f4 ((m + 3) / 4) lf lt op ks orph) (2 + one op + one (decide (0 < ks.length)) + one orph)) := hv
            have HB : Hid (Below (w.heap.size + 2) W0 wc) := hb
            clear hv hb
            go_upto_region 11 with fail
            go_cut [45] (fun t w' => t = .bool ko.isSome ∧ Vals w' (w.heap.size + 2) b (4 + ks.length) (f4 ((m + 3) / 4) lf lt op ks orph) (2 + one op + one (decide (0 < ks.length)) + one orph) ∧ Below (w.heap.size + 2) W0 w')
            case first =>
              have hc := (HH.out.below HB.out (by omega)).2.2.2.1
              rcases ko with _ | ⟨pb, l, ad⟩
              · obtain rfl := HKP.out
                simp only [Node.value] at hc
                go_wp2
                go_meet
                case rel => exact ⟨rfl, HV.out, HB.out⟩
              · obtain rfl := HKP.out
                simp only [Node.value] at hc
                go_wp2
                go_meet
                case rel => exact ⟨rfl, HV.out, HB.out⟩
            case rest =>
              clear HV HB
              obtain ⟨rfl, hv, hb⟩ := hcut
              have HV : Hid (Vals wc (w.heap.size + 2) b (4 + ks.length) (f4 ((m + 3) / 4) lf lt op ks orph) (2 + one op + one (decide (0 < ks.length)) + one orph)) := hv
              have HB : Hid (Below (w.heap.size + 2) W0 wc) := hb
              clear hv hb
              go_upto_if 45 with fail
              go_cut [] (fun w' => Vals w' (w.heap.size + 2) b ((4 + ks.length) + 2) (f5 ((m + 3) / 4) lf lt op ks orph ko) ((2 + one op + one (decide (0 < ks.length)) + one orph) + twoIf ko) ∧ Below (w.heap.size + 2) W0 w')
              case first =>
                rcases ko with _ | ⟨pb, l, ad⟩
                · simp only [Option.isSome_none]
                  go_wp2
                  go_meet
                  case rel => exact ⟨HV.out.mono (by omega), HB.out⟩
                · simp only [Option.isSome_some]
                  obtain rfl := HKP.out
                  have hA := HH.out.below HB.out (by omega)
                  have hc := hA.2.2.2.1
                  have hc5 : wc.cell? ⟨w.heap.size, 0, none⟩ = some (.int .u64 (160 - m)) := (HB.out.cell (p := ⟨w.heap.size, 0, none⟩) (by show w.heap.size < _; omega)).trans HS.out
                  have hB0 : Below w.heap.size w wc := HW.out.trans (HB.out.mono (by omega))
                  obtain ⟨hl20, hpr, hpb⟩ := HKO.out
                  have R : Hid (wc.rangeAt pb 0 (bv l ++ [Value.string ad])) := fun i v hv => (hB0.cell (p := ⟨pb, 0 + i, none⟩) hpb).trans (hpr i v hv)
                  have HI : Hid ((Ybad.prog.info? 51).map (·.size) = some (bv l ++ [Value.string ad]).length) := by show _ = _; rw [List.length_append, bv_length, hl20]; kernel_rfl
                  simp only [Node.value] at hc
                  clear hA hpr hB0
                  go_wp2
                  refine wp_region_noPanic ?_
                  refine wp_region_held_drew (S := fun w' => w'.cell? ⟨w.heap.size, 0, none⟩ = some (.int .u64 (160 - m)) ∧ w'.cell? ⟨w.heap.size + 1, 41, none⟩ = some (.pointer (some ⟨pb, 0, none⟩)) ∧ w'.rangeAt pb 0 (bv l ++ [Value.string ad])) (by kernel_rfl) ⟨hc5, hc, R.out⟩ (fun hHeld => ?_)
                  refine wpAnyH_take (i := 0) (v := .agg #[.int .u64 (160 - m)]) rfl (by kernel_rfl) (by kernel_rfl) (by kernel_rfl) (fun _ _ _ h => h) (Or.inl ⟨by rfl, ?_⟩) hHeld ?_
                  · rintro wx ⟨s0, s1, s2⟩
                    clear s2 hHeld
                    go_simp
                  simp only [List.getElem_toArray, List.getElem_cons_zero, Act.put, List.setIfInBounds_toArray, List.set_cons_zero, List.set_cons_succ]
                  refine wpAnyH_take (i := 1) (v := .map (some b)) rfl (by kernel_rfl) (by kernel_rfl) (by kernel_rfl) (fun _ _ _ h => h) (Or.inl ⟨by rfl, ?_⟩) hHeld ?_
                  · rintro wx ⟨s0, s1, s2⟩
                    clear s2 hHeld
                    go_simp
                  simp only [List.getElem_toArray, List.getElem_cons_succ, List.getElem_cons_zero, Act.put, List.setIfInBounds_toArray, List.set_cons_zero, List.set_cons_succ]
                  refine wpAnyH_take (i := 2) (v := .pointer (some ⟨w.heap.size + 1, 41, none⟩)) rfl (by kernel_rfl) (by kernel_rfl) (by kernel_rfl) (fun _ _ _ h => h) (Or.inl ⟨by rfl, ?_⟩) hHeld ?_
                  · rintro wx ⟨s0, s1, s2⟩
                    clear s2 hHeld
                    go_simp
                  simp only [List.getElem_toArray, List.getElem_cons_succ, List.getElem_cons_zero, Act.put, List.setIfInBounds_toArray, List.set_cons_zero, List.set_cons_succ]
                  refine wpAnyH_take (i := 3) (v := .pointer (some ⟨pb, 0, none⟩)) rfl (by kernel_rfl) (by kernel_rfl) (by kernel_rfl) (fun _ _ _ h => h) (Or.inl ⟨by rfl, ?_⟩) hHeld ?_
                  · rintro wx ⟨s0, s1, s2⟩
                    clear s2 hHeld
                    go_simp
                  simp only [List.getElem_toArray, List.getElem_cons_succ, List.getElem_cons_zero, Act.put, List.setIfInBounds_toArray, List.set_cons_zero, List.set_cons_succ]
                  refine wpAnyH_take (i := 4) (v := .pointer (some ⟨pb, 0, none⟩)) rfl (by kernel_rfl) (by kernel_rfl) (by kernel_rfl) (fun _ _ _ h => h) (Or.inl ⟨by rfl, ?_⟩) hHeld ?_
                  · rintro wx ⟨s0, s1, s2⟩
                    clear s2 hHeld
                    go_simp
                  simp only [List.getElem_toArray, List.getElem_cons_succ, List.getElem_cons_zero, Act.put, List.setIfInBounds_toArray, List.set_cons_zero, List.set_cons_succ]
                  refine wpAnyH_take (i := 5) (v := .agg (bv l ++ [Value.string ad]).toArray) rfl (by kernel_rfl) (by kernel_rfl) (by kernel_rfl) (fun _ _ _ h => h) (yieldsIf_load_mid (by rfl) 51 _ rfl pb 0 rfl (bv l ++ [Value.string ad]) _ (fun w h => h.2.2) Ybad.underlying51 rfl HI.out) hHeld ?_
                  simp only [List.getElem_toArray, List.getElem_cons_succ, List.getElem_cons_zero, Act.put, List.setIfInBounds_toArray, List.set_cons_zero, List.set_cons_succ]
                  refine wpAnyH_ready (rs := [6]) (by kernel_rfl) (by simp) ?_
                  refine AllReadyH.cons rfl (fun K hK => ?_) AllReadyH.nil
                  go_simp
                  refine (setPeer_any m h1 h2 (w.heap.size + 2) b _ _ _ (⟨#[107, 101, 101, 112, 101, 114]⟩ : ByteArray) ad l hl20 _ HV.out.drew (by decide) (by omega) ?_).mono ?_
                  · have := HB.out.size; have := HZ.out; show _ ≤ wc.heap.size; omega
                  rintro e w2 ⟨rfl, V2, B2⟩
                  have eA : ((⟨#[107, 101, 101, 112, 101, 114]⟩ : ByteArray) ++ (⟨#[95, 97, 100, 100, 114]⟩ : ByteArray)).data.toList = cKeeperAddr := by decide +kernel
                  rw [eA] at V2
                  have e1 : grew (f4 ((m + 3) / 4) lf lt op ks orph) cKeeper (2 + one op + one (decide (0 < ks.length)) + one orph) = (2 + one op + one (decide (0 < ks.length)) + one orph) + 1 := grew_none _ _ _ (f4_none _ (by decide) (by decide) (by decide) (by decide) (by decide))
                  have e2 : ∀ v n, grew (putL (f4 ((m + 3) / 4) lf lt op ks orph) cKeeper v) cKeeperAddr n = n + 1 := fun v n => grew_none _ _ _ (by rw [putL_other _ _ _ _ (by decide)]; exact (f4_none _ (by decide) (by decide) (by decide) (by decide) (by decide)))
                  have V3 : Vals w2 (w.heap.size + 2) b ((4 + ks.length) + 2) (f5 ((m + 3) / 4) lf lt op ks orph (some (pb, l, ad))) ((2 + one op + one (decide (0 < ks.length)) + one orph) + twoIf (some (pb, l, ad))) := by
                    have e3 : grew (putL (f4 ((m + 3) / 4) lf lt op ks orph) cKeeper [tail l ((m + 3) / 4)]) cKeeperAddr (grew (f4 ((m + 3) / 4) lf lt op ks orph) cKeeper (2 + one op + one (decide (0 < ks.length)) + one orph)) = (2 + one op + one (decide (0 < ks.length)) + one orph) + twoIf (some (pb, l, ad)) := by rw [e1, e2]; rfl
                    rw [← e3]; exact V2
                  have B3 : Below (w.heap.size + 2) W0 w2 := HB.out.drew.trans B2
                  have F : Hid (Vals w2 (w.heap.size + 2) b ((4 + ks.length) + 2) (f5 ((m + 3) / 4) lf lt op ks orph (some (pb, l, ad))) ((2 + one op + one (decide (0 < ks.length)) + one orph) + twoIf (some (pb, l, ad))) ∧ Below (w.heap.size + 2) W0 w2) := ⟨V3, B3⟩
                  refine hK.out _ _ ⟨?_, ?_, ?_⟩ (fun _ => ?_)
                  · exact (B2.cell (p := ⟨w.heap.size, 0, none⟩) (by show w.heap.size < _; omega)).trans hc5
                  · exact (B2.cell (p := ⟨w.heap.size + 1, 41, none⟩) (by show w.heap.size + 1 < _; omega)).trans hc
                  · exact fun i v hv => (B2.cell (p := ⟨pb, 0 + i, none⟩) (by show pb < _; omega)).trans (R.out i v hv)
                  clear V2 B2 V3 B3 e1 e2 hK hHeld
                  refine wpAnyH_done (by kernel_rfl) ?_ _
                  refine NoPanic.normal ?_
                  go_wp2
                  go_meet
                  case rel => exact F.out
              case rest =>
                clear HV HB
                obtain ⟨hv, hb⟩ := hcut
                have HV : Hid (Vals wc (w.heap.size + 2) b ((4 + ks.length) + 2) (f5 ((m + 3) / 4) lf lt op ks orph ko) ((2 + one op + one (decide (0 < ks.length)) + one orph) + twoIf ko)) := hv
                have HB : Hid (Below (w.heap.size + 2) W0 wc) := hb
                clear hv hb
                go_upto_region 13 with fail
                go_cut [55] (fun t w' => t = .bool bo.isSome ∧ Vals w' (w.heap.size + 2) b ((4 + ks.length) + 2) (f5 ((m + 3) / 4) lf lt op ks orph ko) ((2 + one op + one (decide (0 < ks.length)) + one orph) + twoIf ko) ∧ Below (w.heap.size + 2) W0 w')
                case first =>
                  have hc := (HH.out.below HB.out (by omega)).2.2.2.2.1
                  rcases bo with _ | ⟨pb, l, ad⟩
                  · obtain rfl := HBP.out
                    simp only [Node.value] at hc
                    go_wp2
                    go_meet
                    case rel => exact ⟨rfl, HV.out, HB.out⟩
                  · obtain rfl := HBP.out
                    simp only [Node.value] at hc
                    go_wp2
                    go_meet
                    case rel => exact ⟨rfl, HV.out, HB.out⟩
                case rest =>
                  clear HV HB
                  obtain ⟨rfl, hv, hb⟩ := hcut
                  have HV : Hid (Vals wc (w.heap.size + 2) b ((4 + ks.length) + 2) (f5 ((m + 3) / 4) lf lt op ks orph ko) ((2 + one op + one (decide (0 < ks.length)) + one orph) + twoIf ko)) := hv
                  have HB : Hid (Below (w.heap.size + 2) W0 wc) := hb
                  clear hv hb
                  go_upto_if 55 with fail
                  go_cut [] (fun w' => Vals w' (w.heap.size + 2) b (((4 + ks.length) + 2) + 2) (f6 ((m + 3) / 4) lf lt op ks orph ko bo) (((2 + one op + one (decide (0 < ks.length)) + one orph) + twoIf ko) + twoIf bo) ∧ Below (w.heap.size + 2) W0 w')
                  case first =>
                    rcases bo with _ | ⟨pb, l, ad⟩
                    · simp only [Option.isSome_none]
                      go_wp2
                      go_meet
                      case rel => exact ⟨HV.out.mono (by omega), HB.out⟩
                    · simp only [Option.isSome_some]
                      obtain rfl := HBP.out
                      have hA := HH.out.below HB.out (by omega)
                      have hc := hA.2.2.2.2.1
                      have hc5 : wc.cell? ⟨w.heap.size, 0, none⟩ = some (.int .u64 (160 - m)) := (HB.out.cell (p := ⟨w.heap.size, 0, none⟩) (by show w.heap.size < _; omega)).trans HS.out
                      have hB0 : Below w.heap.size w wc := HW.out.trans (HB.out.mono (by omega))
                      obtain ⟨hl20, hpr, hpb⟩ := HBO.out
                      have R : Hid (wc.rangeAt pb 0 (bv l ++ [Value.string ad])) := fun i v hv => (hB0.cell (p := ⟨pb, 0 + i, none⟩) hpb).trans (hpr i v hv)
                      have HI : Hid ((Ybad.prog.info? 51).map (·.size) = some (bv l ++ [Value.string ad]).length) := by show _ = _; rw [List.length_append, bv_length, hl20]; kernel_rfl
                      simp only [Node.value] at hc
                      clear hA hpr hB0
                      go_wp2
                      refine wp_region_noPanic ?_
                      refine wp_region_held_drew (S := fun w' => w'.cell? ⟨w.heap.size, 0, none⟩ = some (.int .u64 (160 - m)) ∧ w'.cell? ⟨w.heap.size + 1, 42, none⟩ = some (.pointer (some ⟨pb, 0, none⟩)) ∧ w'.rangeAt pb 0 (bv l ++ [Value.string ad])) (by kernel_rfl) ⟨hc5, hc, R.out⟩ (fun hHeld => ?_)
                      refine wpAnyH_take (i := 0) (v := .agg #[.int .u64 (160 - m)]) rfl (by kernel_rfl) (by kernel_rfl) (by kernel_rfl) (fun _ _ _ h => h) (Or.inl ⟨by rfl, ?_⟩) hHeld ?_
                      · rintro wx ⟨s0, s1, s2⟩
                        clear s2 hHeld
                        go_simp
                      simp only [List.getElem_toArray, List.getElem_cons_zero, Act.put, List.setIfInBounds_toArray, List.set_cons_zero, List.set_cons_succ]
                      refine wpAnyH_take (i := 1) (v := .map (some b)) rfl (by kernel_rfl) (by kernel_rfl) (by kernel_rfl) (fun _ _ _ h => h) (Or.inl ⟨by rfl, ?_⟩) hHeld ?_
                      · rintro wx ⟨s0, s1, s2⟩
                        clear s2 hHeld
                        go_simp
                      simp only [List.getElem_toArray, List.getElem_cons_succ, List.getElem_cons_zero, Act.put, List.setIfInBounds_toArray, List.set_cons_zero, List.set_cons_succ]
                      refine wpAnyH_take (i := 2) (v := .pointer (some ⟨w.heap.size + 1, 42, none⟩)) rfl (by kernel_rfl) (by kernel_rfl) (by kernel_rfl) (fun _ _ _ h => h) (Or.inl ⟨by rfl, ?_⟩) hHeld ?_
                      · rintro wx ⟨s0, s1, s2⟩
                        clear s2 hHeld
                        go_simp
                      simp only [List.getElem_toArray, List.getElem_cons_succ, List.getElem_cons_zero, Act.put, List.setIfInBounds_toArray, List.set_cons_zero, List.set_cons_succ]
                      refine wpAnyH_take (i := 3) (v := .pointer (some ⟨pb, 0, none⟩)) rfl (by kernel_rfl) (by kernel_rfl) (by kernel_rfl) (fun _ _ _ h => h) (Or.inl ⟨by rfl, ?_⟩) hHeld ?_
                      · rintro wx ⟨s0, s1, s2⟩
                        clear s2 hHeld
                        go_simp
                      simp only [List.getElem_toArray, List.getElem_cons_succ, List.getElem_cons_zero, Act.put, List.setIfInBounds_toArray, List.set_cons_zero, List.set_cons_succ]
                      refine wpAnyH_take (i := 4) (v := .pointer (some ⟨pb, 0, none⟩)) rfl (by kernel_rfl) (by kernel_rfl) (by kernel_rfl) (fun _ _ _ h => h) (Or.inl ⟨by rfl, ?_⟩) hHeld ?_
                      · rintro wx ⟨s0, s1, s2⟩
                        clear s2 hHeld
                        go_simp
                      simp only [List.getElem_toArray, List.getElem_cons_succ, List.getElem_cons_zero, Act.put, List.setIfInBounds_toArray, List.set_cons_zero, List.set_cons_succ]
                      refine wpAnyH_take (i := 5) (v := .agg (bv l ++ [Value.string ad]).toArray) rfl (by kernel_rfl) (by kernel_rfl) (by kernel_rfl) (fun _ _ _ h => h) (yieldsIf_load_mid (by rfl) 51 _ rfl pb 0 rfl (bv l ++ [Value.string ad]) _ (fun w h => h.2.2) Ybad.underlying51 rfl HI.out) hHeld ?_
                      simp only [List.getElem_toArray, List.getElem_cons_succ, List.getElem_cons_zero, Act.put, List.setIfInBounds_toArray, List.set_cons_zero, List.set_cons_succ]
                      refine wpAnyH_ready (rs := [6]) (by kernel_rfl) (by simp) ?_
                      refine AllReadyH.cons rfl (fun K hK => ?_) AllReadyH.nil
                      go_simp
                      refine (setPeer_any m h1 h2 (w.heap.size + 2) b _ _ _ (⟨#[98, 101, 102, 111, 114, 101]⟩ : ByteArray) ad l hl20 _ HV.out.drew (by decide) (by omega) ?_).mono ?_
                      · have := HB.out.size; have := HZ.out; show _ ≤ wc.heap.size; omega
                      rintro e w2 ⟨rfl, V2, B2⟩
                      have eA : ((⟨#[98, 101, 102, 111, 114, 101]⟩ : ByteArray) ++ (⟨#[95, 97, 100, 100, 114]⟩ : ByteArray)).data.toList = cBeforeAddr := by decide +kernel
                      rw [eA] at V2
                      have e1 : grew (f5 ((m + 3) / 4) lf lt op ks orph ko) cBefore ((2 + one op + one (decide (0 < ks.length)) + one orph) + twoIf ko) = ((2 + one op + one (decide (0 < ks.length)) + one orph) + twoIf ko) + 1 := grew_none _ _ _ (f5_none _ (by decide) (by decide) (by decide) (by decide) (by decide) (by decide) (by decide))
                      have e2 : ∀ v n, grew (putL (f5 ((m + 3) / 4) lf lt op ks orph ko) cBefore v) cBeforeAddr n = n + 1 := fun v n => grew_none _ _ _ (by rw [putL_other _ _ _ _ (by decide)]; exact (f5_none _ (by decide) (by decide) (by decide) (by decide) (by decide) (by decide) (by decide)))
                      have V3 : Vals w2 (w.heap.size + 2) b (((4 + ks.length) + 2) + 2) (f6 ((m + 3) / 4) lf lt op ks orph ko (some (pb, l, ad))) (((2 + one op + one (decide (0 < ks.length)) + one orph) + twoIf ko) + twoIf (some (pb, l, ad))) := by
                        have e3 : grew (putL (f5 ((m + 3) / 4) lf lt op ks orph ko) cBefore [tail l ((m + 3) / 4)]) cBeforeAddr (grew (f5 ((m + 3) / 4) lf lt op ks orph ko) cBefore ((2 + one op + one (decide (0 < ks.length)) + one orph) + twoIf ko)) = ((2 + one op + one (decide (0 < ks.length)) + one orph) + twoIf ko) + twoIf (some (pb, l, ad)) := by rw [e1, e2]; rfl
                        rw [← e3]; exact V2
                      have B3 : Below (w.heap.size + 2) W0 w2 := HB.out.drew.trans B2
                      have F : Hid (Vals w2 (w.heap.size + 2) b (((4 + ks.length) + 2) + 2) (f6 ((m + 3) / 4) lf lt op ks orph ko (some (pb, l, ad))) (((2 + one op + one (decide (0 < ks.length)) + one orph) + twoIf ko) + twoIf (some (pb, l, ad))) ∧ Below (w.heap.size + 2) W0 w2) := ⟨V3, B3⟩
                      refine hK.out _ _ ⟨?_, ?_, ?_⟩ (fun _ => ?_)
                      · exact (B2.cell (p := ⟨w.heap.size, 0, none⟩) (by show w.heap.size < _; omega)).trans hc5
                      · exact (B2.cell (p := ⟨w.heap.size + 1, 42, none⟩) (by show w.heap.size + 1 < _; omega)).trans hc
                      · exact fun i v hv => (B2.cell (p := ⟨pb, 0 + i, none⟩) (by show pb < _; omega)).trans (R.out i v hv)
                      clear V2 B2 V3 B3 e1 e2 hK hHeld
                      refine wpAnyH_done (by kernel_rfl) ?_ _
                      refine NoPanic.normal ?_
                      go_wp2
                      go_meet
                      case rel => exact F.out
                  case rest =>
                    clear HV HB
                    obtain ⟨hv, hb⟩ := hcut
                    have HV : Hid (Vals wc (w.heap.size + 2) b (((4 + ks.length) + 2) + 2) (f6 ((m + 3) / 4) lf lt op ks orph ko bo) (((2 + one op + one (decide (0 < ks.length)) + one orph) + twoIf ko) + twoIf bo)) := hv
                    have HB : Hid (Below (w.heap.size + 2) W0 wc) := hb
                    clear hv hb
                    have hc := (HH.out.below HB.out (by omega)).2.2.2.2.2.2.2
                    have hT : Lib.TabIs Ybad.prog wc tabName .u64 Lib.pow10Tab := tab_below HTB.out (HW.out.trans (HB.out.mono (by omega)))
                    have HT := Lib.hid hT
                    clear hT
                    go_wp2_with fail
                    refine (setNumber_any (w.heap.size + 2) b _ _ (f6 ((m + 3) / 4) lf lt op ks orph ko bo) _ u hu wc HV.out (by decide) (by unfold maxLen; omega) ?_ HT.out).mono ?_
                    · have := HB.out.size; have := HZ.out; omega
                    rintro e w2 ⟨rfl, n2, V2, B2⟩
                    have F : Hid (∃ n, Vals w2 w.heap.size b n (f7 ((m + 3) / 4) lf lt op ks orph ko bo u) (2 + one op + one (decide (0 < ks.length)) + one orph + twoIf ko + twoIf bo + one (decide (0 < u))) ∧ Below w.heap.size w w2) := by
                      refine ⟨n2, ?_, (HW.out.trans (HB.out.mono (by omega))).trans (B2.mono (by omega))⟩
                      have e : numSize (f6 ((m + 3) / 4) lf lt op ks orph ko bo) cClock (((2 + one op + one (decide (0 < ks.length)) + one orph) + twoIf ko) + twoIf bo) u = (((2 + one op + one (decide (0 < ks.length)) + one orph) + twoIf ko) + twoIf bo) + one (decide (0 < u)) := by
                        unfold numSize one
                        by_cases h0 : 0 < u
                        · simp only [h0, decide_true, if_true]
                          exact grew_none _ _ _ (f6_none _ (by decide) (by decide) (by decide) (by decide) (by decide) (by decide) (by decide) (by decide) (by decide))
                        · simp [h0]
                      rw [← e]
                      exact V2.lower (by omega)
                    clear V2 B2
                    go_wp2
                    go_ret
                    obtain ⟨n, hn⟩ := F.out
                    exact ⟨b, n, rfl, hn⟩
end Go.Proofs.YbulkajiaDoor
