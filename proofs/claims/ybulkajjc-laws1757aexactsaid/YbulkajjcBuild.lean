/-
  zzs1757abuild.
-/
import Derived.Test.YbulkajjcBuildA
import Derived.Deep.WholeRow
namespace Go.Proofs.Ybulkajjc
open Go.RowKit Go.Maps Go.Lib

abbrev nil : Value := .slice none 0 0

/-- The method's variable, and the result's. -/
structure SB (w : World) (ms ml : Nat) (cV hV aV : Value) (W : World) : Prop where
  hr : W.heap[w.heap.size]? = some (.cells (mcells 0 0 nil nil nil) 30 (0, 0))
  hm : W.heap[w.heap.size + 1]? = some (.cells (mcells ms ml cV hV aV) 30 (0, 0))
  low : Below w.heap.size w W

/-- The blocks that are still written. -/
def Nob (w : World) (v : Value) : Nat → Prop := fun k => k = w.heap.size ∨ k = w.heap.size + 1 ∨ v.ownBlock = some k

/-- A handler that is built: its bytes. -/
structure Good (p : Hm × Value) (W : World) : Prop where
  yes : p.1.has = true → Rd W p.2 p.1.c ∧ ∃ a n c, p.2 = .slice (some a) n c
  no : p.1.has = false → p.2 = nil

structure PhA (w : World) (ms ml : Nat) (code : List UInt8) (cV hV : Value) (ps : List (Hm × Value)) (W : World) : Prop where
  sb : SB w ms ml cV hV nil W
  own : W.ownsRow (w.heap.size + 2) 51 4 hV ps.length (ps.flatMap cell4)
  st : Stab W (Nob w hV) (fun W => Rd W cV code ∧ ∀ p ∈ ps, Good p W)

structure PhB (w : World) (ms ml : Nat) (code : List UInt8) (ha : Option Addr) (hc : Nat) (hs : List Hm) (cV aV : Value) (ats : List Am) (W : World) : Prop where
  sb : SB w ms ml cV (.slice ha hs.length hc) aV W
  own : W.ownsRow (w.heap.size + 2) 40 2 aV ats.length (ats.flatMap Am.cells)
  st : Stab W (Nob w aV) (fun W => Rd W cV code ∧ CIn ha hs W ∧ ∀ x ∈ ats, Rd W x.iv x.info)

theorem sb_start (w : World) (ms ml : Nat) : SB w ms ml nil nil nil ((w.alloc (.cells (mcells 0 0 nil nil nil) 30)).alloc (.cells (mcells ms ml nil nil nil) 30)) := by
  have h1 := alloc_below w (.cells (mcells 0 0 nil nil nil) 30)
  have h2 := alloc_below (w.alloc (.cells (mcells 0 0 nil nil nil) 30)) (.cells (mcells ms ml nil nil nil) 30)
  have hs : (w.alloc (.cells (mcells 0 0 nil nil nil) 30)).heap.size = w.heap.size + 1 := by simp
  have h3 := heap_alloc_new (w.alloc (.cells (mcells 0 0 nil nil nil) 30)) (.cells (mcells ms ml nil nil nil) 30)
  rw [hs] at h2 h3
  exact ⟨(h2.block w.heap.size (by omega)).trans (heap_alloc_new w _), h3, h1.trans (h2.mono (by omega))⟩

theorem SB.sz {w : World} {ms ml : Nat} {cV hV aV : Value} {W : World} (h : SB w ms ml cV hV aV W) : w.heap.size + 1 < W.heap.size := by
  have := h.hm
  exact (Array.getElem?_eq_some_iff.1 this).1

theorem SB.moved {w : World} {ms ml : Nat} {cV hV aV : Value} {W W' : World} (h : SB w ms ml cV hV aV W) (h1 : W'.heap[w.heap.size]? = W.heap[w.heap.size]?) (h2 : W'.heap[w.heap.size + 1]? = W.heap[w.heap.size + 1]?) (hb : Below w.heap.size W W') : SB w ms ml cV hV aV W' :=
  ⟨h1.trans h.hr, h2.trans h.hm, h.low.trans hb⟩

theorem SB.later {w : World} {ms ml : Nat} {cV hV aV : Value} {W W' : World} (h : SB w ms ml cV hV aV W) (hb : Below W.heap.size W W') : SB w ms ml cV hV aV W' :=
  h.moved (hb.block _ (by have := h.sz; omega)) (hb.block _ (by have := h.sz; omega)) (hb.mono (by have := h.sz; omega))

theorem SB.set {w : World} {ms ml : Nat} {cV hV aV cV' hV' aV' : Value} {W : World} {k : Nat} {u : Value} (hk : (mcells ms ml cV hV aV).setIfInBounds k u = mcells ms ml cV' hV' aV') (h : SB w ms ml cV hV aV W) : SB w ms ml cV' hV' aV' (W.setCell ⟨w.heap.size + 1, k, none⟩ u) := by
  refine ⟨?_, ?_, h.low.setCell (by show w.heap.size ≤ w.heap.size + 1; omega) _⟩
  · rw [sc_heap (show w.heap.size ≠ w.heap.size + 1 by omega)]; exact h.hr
  · rw [heap_setCell_same W _ k _ 30 u h.hm, hk]

theorem own_same {w w' : World} {base : Nat} {e : TypeId} {size : Nat} {v : Value} {n : Nat} {xs : List Value} (h : w.ownsRow base e size v n xs) (hb : ∀ k, v.ownBlock = some k → w'.heap[k]? = w.heap[k]?) : w'.ownsRow base e size v n xs := by
  refine ⟨h.1, ?_⟩
  rcases h.2 with h | ⟨g, cap, cur, rfl, h1, h2, h3⟩
  · exact .inl h
  · exact .inr ⟨g, cap, cur, rfl, h1, (hb g rfl).trans h2, h3⟩

/-- The blocks, from the round's start to its end. -/
theorem step_blocks {w wr w2 w3 : World} {hV u : Value} {e : TypeId} {size n g k' : Nat} {xs : List Value} (hq : w.heap.size + 1 < wr.heap.size) (hown : wr.ownsRow (w.heap.size + 2) e size hV n xs) (hb : Below wr.heap.size wr w2) (hg : w2.grownBy w3 hV.ownBlock) (hloc : hV.ownBlock = some g ∨ w2.heap.size ≤ g) :
    (∀ k, k < w2.heap.size → ¬ Nob w hV k → (w3.setCell ⟨w.heap.size + 1, k', none⟩ u).heap[k]? = w2.heap[k]?) ∧ (∀ k, k < w2.heap.size → Nob w (.slice (some ⟨g, 0, none⟩) n size) k → Nob w hV k) ∧
      w3.heap[w.heap.size]? = wr.heap[w.heap.size]? ∧ w3.heap[w.heap.size + 1]? = wr.heap[w.heap.size + 1]? ∧ Below w.heap.size wr w3 := by
  have hlo : ∀ k, hV.ownBlock = some k → w.heap.size + 2 ≤ k := fun k hk => (World.ownsRow.lt hown k hk).1
  refine ⟨fun k hk hn => ?_, fun k hk hn => ?_, ?_, ?_, ?_⟩
  · rw [sc_heap (show k ≠ w.heap.size + 1 from fun e => hn (.inr (.inl e)))]
    exact hg.block k hk (fun e => hn (.inr (.inr e.symm)))
  · rcases hn with h | h | h
    · exact .inl h
    · exact .inr (.inl h)
    · simp only [Value.ownBlock, Option.some.injEq] at h
      subst h
      rcases hloc with e | e
      · exact .inr (.inr e)
      · omega
  · rw [hg.block w.heap.size (by have := hb.size; omega) (fun e => by have := hlo _ e.symm; omega)]
    exact hb.block _ (by omega)
  · rw [hg.block (w.heap.size + 1) (by have := hb.size; omega) (fun e => by have := hlo _ e.symm; omega)]
    exact hb.block _ (by omega)
  · exact (hb.mono (by omega)).grown hg (by have := hb.size; omega) (fun k e => by have := hlo k e; omega)

theorem PhA.step {w wr w2 w3 : World} {ms ml : Nat} {code : List UInt8} {cV hV : Value} {ps : List (Hm × Value)} {x : Hm} {ct : Value} {g c : Nat} (h : PhA w ms ml code cV hV ps wr) (hb : Below wr.heap.size wr w2) (hgood : Stab w2 (Nob w hV) (Good (x, ct)))
    (hg : w2.grownBy w3 hV.ownBlock) (ho : w3.ownsRow (w.heap.size + 2) 51 4 (.slice (some ⟨g, 0, none⟩) (ps.length + 1) c) (ps.length + 1) (ps.flatMap cell4 ++ cell4 (x, ct))) (hloc : hV.ownBlock = some g ∨ w2.heap.size ≤ g) :
    PhA w ms ml code cV (.slice (some ⟨g, 0, none⟩) (ps.length + 1) c) (ps ++ [(x, ct)]) (w3.setCell ⟨w.heap.size + 1, 6, none⟩ (.slice (some ⟨g, 0, none⟩) (ps.length + 1) c)) := by
  have hq := h.sb.sz
  obtain ⟨k1, k2, k3, k4, k5⟩ := step_blocks (k' := 6) (u := .slice (some ⟨g, 0, none⟩) (ps.length + 1) c) hq h.own hb hg hloc
  have hgl := World.ownsRow.lt ho g rfl
  have hsz : w2.heap.size ≤ (w3.setCell ⟨w.heap.size + 1, 6, none⟩ (.slice (some ⟨g, 0, none⟩) (ps.length + 1) c)).heap.size := by rw [setCell_size]; exact hg.size
  refine ⟨SB.set (k := 6) rfl (h.sb.moved k3 k4 k5), ?_, ?_⟩
  · rw [List.length_append, List.flatMap_append, List.length_singleton, List.flatMap_singleton]
    exact own_same ho (fun k hk => by cases hk; exact sc_heap (show g ≠ w.heap.size + 1 by omega))
  · have s2 : Stab w2 (Nob w hV) (fun W => Rd W cV code ∧ ∀ p ∈ ps, Good p W) := h.st.move hb.size (fun k hk _ => hb.block k hk) (fun _ _ h => h)
    have s3 := (s2.and hgood).move hsz k1 k2
    refine s3.weak (fun W ⟨⟨a1, a2⟩, a3⟩ => ⟨a1, fun p hp => ?_⟩)
    rcases List.mem_append.1 hp with h | h
    · exact a2 p h
    · rw [List.mem_singleton.1 h]; exact a3

theorem PhB.step {w wr w2 w3 : World} {ms ml : Nat} {code : List UInt8} {ha : Option Addr} {hc : Nat} {hs : List Hm} {cV aV : Value} {ps : List Am} {x : Am} {g c : Nat} (h : PhB w ms ml code ha hc hs cV aV ps wr) (hb : Below wr.heap.size wr w2) (hgood : Stab w2 (Nob w aV) (fun W => Rd W x.iv x.info))
    (hg : w2.grownBy w3 aV.ownBlock) (ho : w3.ownsRow (w.heap.size + 2) 40 2 (.slice (some ⟨g, 0, none⟩) (ps.length + 1) c) (ps.length + 1) (ps.flatMap Am.cells ++ x.cells)) (hloc : aV.ownBlock = some g ∨ w2.heap.size ≤ g) :
    PhB w ms ml code ha hc hs cV (.slice (some ⟨g, 0, none⟩) (ps.length + 1) c) (ps ++ [x]) (w3.setCell ⟨w.heap.size + 1, 7, none⟩ (.slice (some ⟨g, 0, none⟩) (ps.length + 1) c)) := by
  have hq := h.sb.sz
  obtain ⟨k1, k2, k3, k4, k5⟩ := step_blocks (k' := 7) (u := .slice (some ⟨g, 0, none⟩) (ps.length + 1) c) hq h.own hb hg hloc
  have hgl := World.ownsRow.lt ho g rfl
  have hsz : w2.heap.size ≤ (w3.setCell ⟨w.heap.size + 1, 7, none⟩ (.slice (some ⟨g, 0, none⟩) (ps.length + 1) c)).heap.size := by rw [setCell_size]; exact hg.size
  refine ⟨SB.set (k := 7) rfl (h.sb.moved k3 k4 k5), ?_, ?_⟩
  · rw [List.length_append, List.flatMap_append, List.length_singleton, List.flatMap_singleton]
    exact own_same ho (fun k hk => by cases hk; exact sc_heap (show g ≠ w.heap.size + 1 by omega))
  · have s2 := h.st.move (w' := w2) (No' := Nob w aV) hb.size (fun k hk _ => hb.block k hk) (fun _ _ h => h)
    have s3 := (s2.and hgood).move hsz k1 k2
    refine s3.weak (fun W ⟨⟨a1, a2, a3⟩, a4⟩ => ⟨a1, a2, fun p hp => ?_⟩)
    rcases List.mem_append.1 hp with h | h
    · exact a3 p h
    · rw [List.mem_singleton.1 h]; exact a4

/-- From the handlers to the attributes. -/
theorem PhA.turn {w W : World} {ms ml : Nat} {code : List UInt8} {cV hV : Value} {ps : List (Hm × Value)} {hs : List Hm} (h : PhA w ms ml code cV hV ps W) (he : ps.map Prod.fst = hs) (hlt : ∀ x ∈ hs, x.s < 65536 ∧ x.e < 65536 ∧ x.h < 65536) :
    ∃ ha hc, hV = .slice ha hs.length hc ∧ PhB w ms ml code ha hc hs cV nil [] W := by
  have hlen : ps.length = hs.length := by rw [← he, List.length_map]
  obtain ⟨ha, hc, rfl, hcase⟩ : ∃ ha hc, hV = .slice ha hs.length hc ∧ ((ha = none ∧ hs = []) ∨ ∃ g, ha = some ⟨g, 0, none⟩ ∧ ¬ Nob w nil g ∧ g < W.heap.size) := by
    rcases h.own.2 with ⟨rfl, h0⟩ | ⟨g, cap, cur, rfl, hg, hgg, _⟩
    · have : hs = [] := List.eq_nil_of_length_eq_zero (by omega)
      subst this
      exact ⟨none, 0, rfl, .inl ⟨rfl, rfl⟩⟩
    · rw [hlen]
      refine ⟨_, cap, rfl, .inr ⟨g, rfl, ?_, (Array.getElem?_eq_some_iff.1 hgg).1⟩⟩
      rintro (h | h | h)
      · omega
      · omega
      · cases h
  refine ⟨ha, hc, rfl, h.sb, World.ownsRow_nil _ _ _ _, fun W' hs' hk' => ?_⟩
  have hst := h.st W' hs' (fun k hk hn => hk' k hk (fun e => hn (by
    rcases e with e | e | e
    · exact .inl e
    · exact .inr (.inl e)
    · cases e)))
  refine ⟨hst.1, ?_, fun x hx => by cases hx⟩
  intro j x hx
  rcases hcase with ⟨rfl, rfl⟩ | ⟨g, rfl, hng, hgs⟩
  · simp at hx
  · obtain ⟨p, hp, rfl⟩ : ∃ p, ps[j]? = some p ∧ p.1 = x := by
      rw [← he, List.getElem?_map] at hx
      cases hpj : ps[j]? with
      | none => rw [hpj] at hx; cases hx
      | some p => rw [hpj] at hx; exact ⟨p, rfl, Option.some.inj hx⟩
    have hgd := hst.2 p (List.mem_of_getElem? hp)
    have hlt' := hlt p.1 (by rw [← he]; exact List.mem_map.2 ⟨p, List.mem_of_getElem? hp, rfl⟩)
    refine ⟨g, 0, p.2, rfl, ⟨fun i u hu => ?_, hgd.yes, hgd.no, hlt'.1, hlt'.2.1, hlt'.2.2⟩⟩
    have hi : i < 4 := by
      have := (List.getElem?_eq_some_iff.1 hu).1
      simpa using this
    rw [World.cell?_of_block (w := W) (hk' g hgs hng)]
    have hc := World.ownsRow.cells h.own (g := g) rfl (j * 4 + i) u (by rw [flat_get cell4 4 cell4_length ps j i p hp hi]; exact hu)
    rw [Addr.add_lit] at hc
    rw [Nat.zero_add] at hc ⊢
    exact hc

theorem wp_store_row {P : Program} {op : Oper} {a : Act} {w : World} {K : Act → World → Prop} {Q : Exit → Act → World → Prop} (ty : TypeId) (x y : Operand) (ho : op.op = .store ty x y)
    (g : Nat) (t : TypeId) (old cells : Array Value) (hx : a.eval x = .pointer (some ⟨g, 0, none⟩)) (hy : a.eval y = .agg cells) (hg : w.heap[g]? = some (.cells old t (0, 0)))
    (hi : (P.info? ty).map (·.size) = some cells.size) (hs : old.size = cells.size) (h1 : cells.all (·.oneCell') = true) (h : K (a.put op.dst undef) (w.setRow g cells)) : op.wp P a w K Q := by
  unfold Oper.wp execOp
  simp only [ho, hx, hy, Instr.storeAt, Instr.sureAddr, Sem.run_bind, Sem.run_pure, Result.andThen_ok, run_storeVar_row w g t ty old cells hg hi hs h1]
  exact h

theorem wpList_store_row {P : Program} {ops : Array Oper} {rest : List Oper} {op : Oper} {a : Act} {w : World} {Q : Exit → Act → World → Prop} (hgd : op.guard = none) (ty : TypeId) (x y : Operand) (ho : op.op = .store ty x y)
    (g : Nat) (t : TypeId) (old cells : Array Value) (hx : a.eval x = .pointer (some ⟨g, 0, none⟩)) (hy : a.eval y = .agg cells) (hg : w.heap[g]? = some (.cells old t (0, 0)))
    (hi : (P.info? ty).map (·.size) = some cells.size) (hs : old.size = cells.size) (h1 : cells.all (·.oneCell') = true) (h : wpList P ops Q rest (a.put op.dst undef) (w.setRow g cells)) : wpList P ops Q (op :: rest) a w :=
  wpList_plain hgd fun _ hK => wp_store_row ty x y ho g t old cells hx hy hg hi hs h1 (hK _ _ h)

/-- What is handed back. -/
theorem PhB.done {w W : World} {ms ml : Nat} {code : List UInt8} {ha : Option Addr} {hc : Nat} {hs : List Hm} {cV aV : Value} {ps : List Am} (h : PhB w ms ml code ha hc hs cV aV ps W) (hlt : ∀ x ∈ ps, x.name.size ≤ maxLen) :
    ∃ cva cvc aa ac, cV = .slice cva code.length cvc ∧ aV = .slice aa ps.length ac ∧
      Rd (W.setRow w.heap.size (mcells ms ml cV (.slice ha hs.length hc) aV)) (.slice cva code.length cvc) code ∧ CIn ha hs (W.setRow w.heap.size (mcells ms ml cV (.slice ha hs.length hc) aV)) ∧
      AIn aa ps (W.setRow w.heap.size (mcells ms ml cV (.slice ha hs.length hc) aV)) ∧ Below w.heap.size w (W.setRow w.heap.size (mcells ms ml cV (.slice ha hs.length hc) aV)) ∧
      (W.setRow w.heap.size (mcells ms ml cV (.slice ha hs.length hc) aV)).rangeAt w.heap.size 0 (mcells ms ml cV (.slice ha hs.length hc) aV).toList := by
  have hsz := h.sb.sz
  have hoth : ∀ k, k ≠ w.heap.size → (W.setRow w.heap.size (mcells ms ml cV (.slice ha hs.length hc) aV)).heap[k]? = W.heap[k]? := fun k hk => setRow_other W w.heap.size k _ hk
  have hst := h.st (W.setRow w.heap.size (mcells ms ml cV (.slice ha hs.length hc) aV)) (by simp) (fun k _ hn => hoth k (fun e => hn (.inl e)))
  obtain ⟨cva, cvc, hcv⟩ := hst.1.len
  obtain ⟨aa, ac, hav⟩ : ∃ aa ac, aV = .slice aa ps.length ac := by
    rcases h.own.2 with ⟨rfl, h0⟩ | ⟨g, cap, cur, rfl, _⟩
    · rw [h0]; exact ⟨none, 0, rfl⟩
    · exact ⟨_, _, rfl⟩
  refine ⟨cva, cvc, aa, ac, hcv, hav, hcv ▸ hst.1, hst.2.1, ?_, ?_, ?_⟩
  · intro j x hx
    rcases h.own.2 with ⟨e, h0⟩ | ⟨g, cap, cur, e, hg, _⟩
    · have : ps = [] := List.eq_nil_of_length_eq_zero h0
      subst this
      simp at hx
    · rw [hav] at e
      cases e
      refine ⟨g, 0, rfl, ⟨fun i u hu => ?_, hst.2.2 x (List.mem_of_getElem? hx), hlt x (List.mem_of_getElem? hx)⟩⟩
      have hi : i < 2 := by
        have := (List.getElem?_eq_some_iff.1 hu).1
        simpa [Am.cells] using this
      rw [World.cell?_of_block (w := W) (hoth g (by omega))]
      have hc := World.ownsRow.cells h.own (g := g) (by rw [hav]; rfl) (j * 2 + i) u (by rw [flat_get Am.cells 2 am_length ps j i x hx hi]; exact hu)
      rw [Addr.add_lit] at hc
      rw [Nat.zero_add] at hc ⊢
      exact hc
  · exact h.sb.low.trans ⟨rfl, rfl, rfl, by simp, fun k hk => hoth k (by omega)⟩
  · intro i u hu
    rw [cell_of_row _ w.heap.size (0 + i) _ 30 (0, 0) (setRow_heap W w.heap.size _ _ 30 _ h.sb.hr), Nat.zero_add, ← Array.getElem?_toList]
    exact hu

def strip (x : Am) : ByteArray × List UInt8 := (x.name, x.info)

set_option maxHeartbeats 1000000 in
theorem build_any (ms ml : Nat) (cv : Value) (code : List UInt8) (ha : Option Addr) (hc : Nat) (hs : List Hm) (aa : Option Addr) (ac : Nat) (ats : List Am) (w : World)
    (hcode : Rd w cv code) (hH : HIn ha hs w) (hA : AIn aa ats w) (hsm : Small code hs ats) :
    Calls Yba.prog 6 #[.int .u16 (ms : Int), .int .u16 (ml : Int), cv, .slice ha hs.length hc, .slice aa ats.length ac] w fun e w' =>
      ∃ (cva : Option Addr) (cvc : Nat) (ha' : Option Addr) (hc' : Nat) (aa' : Option Addr) (ac' : Nat) (ats' : List Am), e = .returned (.agg (mcells ms ml (.slice cva code.length cvc) (.slice ha' hs.length hc') (.slice aa' ats'.length ac'))) ∧
        ats'.map strip = ats.map strip ∧ Rd w' (.slice cva code.length cvc) code ∧ CIn ha' hs w' ∧ AIn aa' ats' w' ∧ Below w.heap.size w w' := by
  obtain ⟨hn, hhn⟩ : ∃ n, hs.length = n := ⟨_, rfl⟩
  obtain ⟨an, han⟩ : ∃ n, ats.length = n := ⟨_, rfl⟩
  have hhn1 : hn ≤ 1024 := by rw [← hhn]; exact hsm.lh
  have han1 : an ≤ 1024 := by rw [← han]; exact hsm.la
  have HP := Lib.hid (And.intro hcode (And.intro hH (And.intro hA (And.intro hsm (And.intro hhn han)))))
  rw [hhn, han]
  clear hcode hH hA hsm hhn han
  have hq1 := neq_nil
  have hq2 := neq_some
  obtain ⟨qa, qn, qc, rfl⟩ := HP.out.1.shape
  go_enter Yba.func6, Yba.ntmps6
  go_upto_if 22 with fail
  go_cut [] (fun W => ∃ cV, Hid (PhA w ms ml code cV nil [] W))
  case first =>
    have S0 := Lib.hid (sb_start w ms ml)
    unfold mcells at S0
    rcases HP.out.1 with ⟨hcv, hcd⟩ | ⟨a, c, hcv, hcells⟩
    · cases hcv
      have F : Hid (PhA w ms ml code nil nil [] _) := ⟨S0.out, World.ownsRow_nil _ _ _ _, fun W _ _ => ⟨.inl ⟨rfl, hcd⟩, fun p hp => by cases hp⟩⟩
      go_wp2_with fail
      go_meet
      case rel => exact ⟨_, F⟩
    · cases hcv
      have hL : Rd _ (.slice (some a) code.length qc) code := HP.out.1.below S0.out.low
      obtain ⟨g, n, cc, w2, hr2, ho2, hb2, hg2⟩ := copy_row hL HP.out.2.2.2.1.lc
      rw [show ∀ o1 o2, ((w.alloc o1).alloc o2).heap.size = w.heap.size + 1 + 1 from fun o1 o2 => by simp] at hr2 ho2 hb2 hg2
      have S2 : SB w ms ml nil nil nil w2 := S0.out.later (by simpa using hb2)
      have c5 : w2.cell? ⟨w.heap.size + 1, 5, none⟩ = some nil := (mcell S2.hm).2.2.1
      have f5 : w2.frozen? ⟨w.heap.size + 1, 5, none⟩ = false := by simp [World.frozen?, S2.hm]
      have F : Hid (PhA w ms ml code (.slice (some ⟨g, 0, none⟩) n cc) nil [] (w2.setCell ⟨w.heap.size + 1, 5, none⟩ (.slice (some ⟨g, 0, none⟩) n cc))) := by
        refine ⟨SB.set (k := 5) rfl S2, World.ownsRow_nil _ _ _ _, ?_⟩
        have hne : g ≠ w.heap.size + 1 := by omega
        have := (ho2.same (w' := w2.setCell ⟨w.heap.size + 1, 5, none⟩ (.slice (some ⟨g, 0, none⟩) n cc)) (fun k hk => by cases hk; exact sc_heap hne)).stab (No := Nob w nil) (fun k hk => by
          simp only [Value.ownBlock, Option.some.injEq] at hk
          subst hk
          rintro (h | h | h)
          · omega
          · omega
          · cases h)
        exact this.weak (fun W h => ⟨h, fun p hp => by cases hp⟩)
      clear ho2 hb2 hg2 S2 hL hcells
      go_wp2_with (first | (at_builtin; refine wpList_app rfl _ _ _ _ rfl _ _ rfl rfl hr2 ?_))
      go_meet
      case rel => exact ⟨_, F⟩
  case rest =>
    obtain ⟨cV, HA⟩ := hcut
    go_wp2_with fail
    go_loopw [29] (fun i wr => ∃ j : Nat, j ≤ hn ∧ i = .int .i64 j ∧ Hid (∃ hV ps, ps.map Prod.fst = hs.take j ∧ PhA w ms ml code cV hV ps wr)) (fun i _ => hn - (RowKit.intOf i).toNat)
    case atStart => exact ⟨0, Nat.zero_le _, rfl, nil, [], rfl, HA.out⟩
    case round =>
      clear HA
      obtain ⟨j, hj, rfl, HA0⟩ := hrel
      obtain ⟨hV, ps, hps, hA⟩ := HA0.out
      have HA := Lib.hid hA
      clear hA HA0
      have hpl : ps.length ≤ 1024 := by
        have := congrArg List.length hps
        rw [List.length_map, List.length_take] at this
        omega
      by_cases hjl : j < hn
      case pos =>
        obtain ⟨x, hx⟩ : ∃ x, hs[j]? = some x := ⟨_, List.getElem?_eq_getElem (by have := HP.out.2.2.2.2.1; omega)⟩
        obtain ⟨b, o, rfl, hat⟩ := HP.out.2.1.below HA.out.sb.low j x hx
        obtain ⟨a1, c1, hcv⟩ := hat.rd.len
        have hr := hat.range
        unfold Hm.cells at hr
        have hrd := hat.rd
        rw [hcv] at hr hrd
        have hcl := HP.out.2.2.2.1.ch x (List.mem_of_getElem? hx)
        have HX := Lib.hid hx
        have hqs := HA.out.sb.sz
        have c6 : wr.cell? ⟨w.heap.size + 1, 6, none⟩ = some hV := (mcell HA.out.sb.hm).2.2.2.1
        clear hx hat hcv
        cases hh : x.has
        · skip
          rw [hh] at hr
          have HR := Lib.hid hr
          have hB1 := alloc_below wr (.cells #[.int .u16 (x.s : Int), .int .u16 (x.e : Int), .int .u16 (x.h : Int), .bool false, .slice a1 x.c.length c1] 46)
          have hsz : (wr.alloc (.cells #[.int .u16 (x.s : Int), .int .u16 (x.e : Int), .int .u16 (x.h : Int), .bool false, .slice a1 x.c.length c1] 46)).heap.size = wr.heap.size + 1 := by simp
          have hgood : Stab (wr.alloc (.cells #[.int .u16 (x.s : Int), .int .u16 (x.e : Int), .int .u16 (x.h : Int), .bool false, .slice a1 x.c.length c1] 46)) (Nob w hV) (Good (x, nil)) := fun W _ _ => ⟨fun h0 => by simp [hh] at h0, fun _ => rfl⟩
          have hW2 := hB1
          have hown2 := World.ownsRow.kept HA.out.own (row := none) ⟨hW2.os, hW2.tape, hW2.output, hW2.size, fun k hk _ => hW2.block k hk⟩ (by cases hV.ownBlock <;> simp)
          obtain ⟨g3, c3, w3, hr3, ho3, hg3, hl3⟩ := app_struct Yba.underlying27 info51b rfl (by decide) (by decide) (w := (wr.alloc (.cells #[.int .u16 (x.s : Int), .int .u16 (x.e : Int), .int .u16 (x.h : Int), .bool false, .slice a1 x.c.length c1] 46))) (cell4 (x, nil)) rfl (by simp [cell4, Value.oneCell']) hown2 (by have := hpl; omega) (by have := hW2.size; omega)
          rw [hsz] at hr3
          have P3 := HA.out.step hW2 hgood hg3 ho3 hl3
          have s2 := HA.out.sb.later hW2
          have c6b : ((wr.alloc (.cells #[.int .u16 (x.s : Int), .int .u16 (x.e : Int), .int .u16 (x.h : Int), .bool false, .slice a1 x.c.length c1] 46)) : World).cell? ⟨w.heap.size + 1, 6, none⟩ = some hV := (mcell s2.hm).2.2.2.1
          have s3 : SB w ms ml cV hV nil w3 := by
            obtain ⟨_, _, k3, k4, k5⟩ := step_blocks (k' := 6) (u := nil) HA.out.sb.sz HA.out.own hW2 hg3 hl3
            exact HA.out.sb.moved k3 k4 k5
          have c6d : w3.cell? ⟨w.heap.size + 1, 6, none⟩ = some hV := (mcell s3.hm).2.2.2.1
          have f6d : w3.frozen? ⟨w.heap.size + 1, 6, none⟩ = false := by simp [World.frozen?, s3.hm]
          have FIN : Hid (∃ hV' ps', ps'.map Prod.fst = hs.take (j + 1) ∧ PhA w ms ml code cV hV' ps' (w3.setCell ⟨w.heap.size + 1, 6, none⟩ (.slice (some ⟨g3, 0, none⟩) (ps.length + 1) c3))) := ⟨_, _, by rw [take_next HX.out, List.map_append, hps]; rfl, P3⟩
          clear P3 s2 s3 hg3 ho3 hl3 hgood hown2 
          unfold cell4 at hr3
          go_wp2_with (first | refine wpList_load_mid rfl 46 _ rfl b (o + j * 5) rfl _ _ HR.out Yba.underlying46 rfl info46 ?_ | (at_builtin; refine wpList_app rfl _ _ _ _ rfl _ _ rfl rfl hr3 ?_))
          go_roundw
          case rel => exact ⟨j + 1, by omega, by go_num, FIN⟩
          case measure => simp [RowKit.intOf]; omega
        · skip
          rw [hh] at hr
          have HR := Lib.hid hr
          have hB1 := alloc_below wr (.cells #[.int .u16 (x.s : Int), .int .u16 (x.e : Int), .int .u16 (x.h : Int), .bool true, .slice a1 x.c.length c1] 46)
          have hsz : (wr.alloc (.cells #[.int .u16 (x.s : Int), .int .u16 (x.e : Int), .int .u16 (x.h : Int), .bool true, .slice a1 x.c.length c1] 46)).heap.size = wr.heap.size + 1 := by simp
          obtain ⟨g, n, cc, w2, hr2, ho2, hb2, hg2⟩ := copy_row (hrd.below hB1) hcl
          rw [hsz] at hr2 ho2 hb2 hg2
          have hW2 : Below wr.heap.size wr w2 := hB1.trans (hb2.mono (by omega))
          have hnew := (hb2.block wr.heap.size (by omega)).trans (heap_alloc_new wr (.cells #[.int .u16 (x.s : Int), .int .u16 (x.e : Int), .int .u16 (x.h : Int), .bool true, .slice a1 x.c.length c1] 46))
          have x0 : w2.cell? ⟨wr.heap.size, 0, none⟩ = some (.int .u16 (x.s : Int)) := by rw [cell_of_row w2 wr.heap.size 0 _ 46 (0, 0) hnew]; rfl
          have x1 : w2.cell? ⟨wr.heap.size, 1, none⟩ = some (.int .u16 (x.e : Int)) := by rw [cell_of_row w2 wr.heap.size 1 _ 46 (0, 0) hnew]; rfl
          have x2 : w2.cell? ⟨wr.heap.size, 2, none⟩ = some (.int .u16 (x.h : Int)) := by rw [cell_of_row w2 wr.heap.size 2 _ 46 (0, 0) hnew]; rfl
          clear hnew
          have hgood : Stab w2 (Nob w hV) (Good (x, .slice (some ⟨g, 0, none⟩) n cc)) := (ho2.stab (No := Nob w hV) (fun k hk => by
            simp only [Value.ownBlock, Option.some.injEq] at hk
            subst hk
            rintro (h | h | h)
            · omega
            · omega
            · have := (World.ownsRow.lt HA.out.own _ h).2; omega)).weak (fun W h => ⟨fun _ => ⟨h, _, _, _, rfl⟩, fun h0 => by simp [hh] at h0⟩)
          have hown2 := World.ownsRow.kept HA.out.own (row := none) ⟨hW2.os, hW2.tape, hW2.output, hW2.size, fun k hk _ => hW2.block k hk⟩ (by cases hV.ownBlock <;> simp)
          obtain ⟨g3, c3, w3, hr3, ho3, hg3, hl3⟩ := app_struct Yba.underlying27 info51b rfl (by decide) (by decide) (w := w2) (cell4 (x, .slice (some ⟨g, 0, none⟩) n cc)) rfl (by simp [cell4, Value.oneCell']) hown2 (by have := hpl; omega) (by have := hW2.size; omega)
          have P3 := HA.out.step hW2 hgood hg3 ho3 hl3
          have s2 := HA.out.sb.later hW2
          have c6b : (w2 : World).cell? ⟨w.heap.size + 1, 6, none⟩ = some hV := (mcell s2.hm).2.2.2.1
          have s3 : SB w ms ml cV hV nil w3 := by
            obtain ⟨_, _, k3, k4, k5⟩ := step_blocks (k' := 6) (u := nil) HA.out.sb.sz HA.out.own hW2 hg3 hl3
            exact HA.out.sb.moved k3 k4 k5
          have c6d : w3.cell? ⟨w.heap.size + 1, 6, none⟩ = some hV := (mcell s3.hm).2.2.2.1
          have f6d : w3.frozen? ⟨w.heap.size + 1, 6, none⟩ = false := by simp [World.frozen?, s3.hm]
          have FIN : Hid (∃ hV' ps', ps'.map Prod.fst = hs.take (j + 1) ∧ PhA w ms ml code cV hV' ps' (w3.setCell ⟨w.heap.size + 1, 6, none⟩ (.slice (some ⟨g3, 0, none⟩) (ps.length + 1) c3))) := ⟨_, _, by rw [take_next HX.out, List.map_append, hps]; rfl, P3⟩
          clear P3 s2 s3 hg3 ho3 hl3 hgood hown2 
          unfold cell4 at hr3
          go_wp2_with (first | refine wpList_load_mid rfl 46 _ rfl b (o + j * 5) rfl _ _ HR.out Yba.underlying46 rfl info46 ?_ | (at_builtin; refine wpList_app rfl _ _ _ _ rfl _ _ rfl rfl hr2 ?_) | (at_builtin; refine wpList_app rfl _ _ _ _ rfl _ _ rfl rfl hr3 ?_))
          go_roundw
          case rel => exact ⟨j + 1, by omega, by go_num, FIN⟩
          case measure => simp [RowKit.intOf]; omega
      case neg =>
        have ej : j = hn := by omega
        subst ej
        rw [show hs.take j = hs from by rw [← HP.out.2.2.2.2.1, List.take_length]] at hps
        obtain ⟨ha', hc', rfl, hB0⟩ := HA.out.turn hps (fun x hx => by
          obtain ⟨i, hi, rfl⟩ := List.getElem_of_mem hx
          obtain ⟨b, o, _, hat⟩ := HP.out.2.1 i _ (List.getElem?_eq_getElem hi)
          exact ⟨hat.hs, hat.he, hat.hh⟩)
        have HB := Lib.hid hB0
        clear hB0 HA hps hpl
        go_wp2_with fail
        go_loopw [55] (fun i wr => ∃ j : Nat, j ≤ an ∧ i = .int .i64 j ∧ Hid (∃ aV as', as'.map strip = (ats.take j).map strip ∧ PhB w ms ml code ha' hc' hs cV aV as' wr)) (fun i _ => an - (RowKit.intOf i).toNat)
        case atStart => exact ⟨0, Nat.zero_le _, rfl, nil, [], rfl, HB.out⟩
        case round =>
          clear HB
          obtain ⟨k, hk, rfl, HB0⟩ := hrel
          obtain ⟨aV, as', hps, hA⟩ := HB0.out
          have HB := Lib.hid hA
          clear hA HB0
          have hpl : as'.length ≤ 1024 := by
            have := congrArg List.length hps
            rw [List.length_map, List.length_map, List.length_take] at this
            omega
          by_cases hkl : k < an
          case pos =>
            obtain ⟨x, hx⟩ : ∃ x, ats[k]? = some x := ⟨_, List.getElem?_eq_getElem (by have := HP.out.2.2.2.2.2; omega)⟩
            obtain ⟨b, o, rfl, hat⟩ := HP.out.2.2.1.below HB.out.sb.low k x hx
            have hr := hat.range
            unfold Am.cells at hr
            have hrd := hat.rd
            have hcl := HP.out.2.2.2.1.inf x (List.mem_of_getElem? hx)
            have HX := Lib.hid hx
            have hqs := HB.out.sb.sz
            have c7 : wr.cell? ⟨w.heap.size + 1, 7, none⟩ = some aV := (mcell HB.out.sb.hm).2.2.2.2
            clear hx hat
            rcases hrd0 : hrd with ⟨hiv, hinf⟩ | ⟨a1, c1, hiv, _⟩
            · rw [hiv] at hr
              have HR := Lib.hid hr
              have hW2 := alloc_below wr (.cells #[.string x.name, nil] 47)
              have hsz : (wr.alloc (.cells #[.string x.name, nil] 47)).heap.size = wr.heap.size + 1 := by simp
              have hgood : Stab (wr.alloc (.cells #[.string x.name, nil] 47)) (Nob w aV) (fun W => Rd W nil x.info) := fun W _ _ => .inl ⟨rfl, hinf⟩
              have hown2 := World.ownsRow.kept HB.out.own (row := none) ⟨hW2.os, hW2.tape, hW2.output, hW2.size, fun k hk _ => hW2.block k hk⟩ (by cases aV.ownBlock <;> simp)
              obtain ⟨g3, c3, w3, hr3, ho3, hg3, hl3⟩ := app_struct Yba.underlying28 info40b rfl (by decide) (by decide) (w := (wr.alloc (.cells #[.string x.name, nil] 47))) (Am.cells ⟨x.name, nil, x.info⟩) rfl (by simp [Am.cells, Value.oneCell']) hown2 (by have := hpl; omega) (by have := hW2.size; omega)
              rw [hsz] at hr3
              have P3 := HB.out.step (x := ⟨x.name, nil, x.info⟩) hW2 hgood hg3 ho3 hl3
              have s3 : SB w ms ml cV (.slice ha' hs.length hc') aV w3 := by
                obtain ⟨_, _, k3, k4, k5⟩ := step_blocks (k' := 7) (u := nil) HB.out.sb.sz HB.out.own hW2 hg3 hl3
                exact HB.out.sb.moved k3 k4 k5
              have c7d : w3.cell? ⟨w.heap.size + 1, 7, none⟩ = some aV := (mcell s3.hm).2.2.2.2
              have f7d : w3.frozen? ⟨w.heap.size + 1, 7, none⟩ = false := by simp [World.frozen?, s3.hm]
              have FIN : Hid (∃ aV' at', at'.map strip = (ats.take (k + 1)).map strip ∧ PhB w ms ml code ha' hc' hs cV aV' at' (w3.setCell ⟨w.heap.size + 1, 7, none⟩ (.slice (some ⟨g3, 0, none⟩) (as'.length + 1) c3))) := ⟨_, _, by rw [take_next HX.out, List.map_append, List.map_append, hps]; rfl, P3⟩
              clear P3 s3 hg3 ho3 hl3 hgood hown2
              unfold Am.cells at hr3
              go_wp2_with (first | refine wpList_load_mid rfl 47 _ rfl b (o + k * 2) rfl _ _ HR.out Yba.underlying47 rfl info47 ?_ | (at_builtin; refine wpList_app rfl _ _ _ _ rfl _ _ rfl rfl hr3 ?_))
              go_roundw
              case rel => exact ⟨k + 1, by omega, by go_num, FIN⟩
              case measure => simp [RowKit.intOf]; omega
            · rw [hiv] at hr
              have HR := Lib.hid hr
              have hB1 := alloc_below wr (.cells #[.string x.name, .slice (some a1) x.info.length c1] 47)
              have hsz : (wr.alloc (.cells #[.string x.name, .slice (some a1) x.info.length c1] 47)).heap.size = wr.heap.size + 1 := by simp
              have hrd1 := hrd.below hB1
              rw [hiv] at hrd1
              obtain ⟨g, n, cc, w2, hr2, ho2, hb2, hg2⟩ := copy_row hrd1 hcl
              rw [hsz] at hr2 ho2 hb2 hg2
              have hW2 : Below wr.heap.size wr w2 := hB1.trans (hb2.mono (by omega))
              have hnew := (hb2.block wr.heap.size (by omega)).trans (heap_alloc_new wr (.cells #[.string x.name, .slice (some a1) x.info.length c1] 47))
              have x0 : w2.cell? ⟨wr.heap.size, 0, none⟩ = some (.string x.name) := by rw [cell_of_row w2 wr.heap.size 0 _ 47 (0, 0) hnew]; rfl
              clear hnew
              have hgood : Stab w2 (Nob w aV) (fun W => Rd W (.slice (some ⟨g, 0, none⟩) n cc) x.info) := ho2.stab (No := Nob w aV) (fun k hk => by
                simp only [Value.ownBlock, Option.some.injEq] at hk
                subst hk
                rintro (h | h | h)
                · omega
                · omega
                · have := (World.ownsRow.lt HB.out.own _ h).2; omega)
              have hown2 := World.ownsRow.kept HB.out.own (row := none) ⟨hW2.os, hW2.tape, hW2.output, hW2.size, fun k hk _ => hW2.block k hk⟩ (by cases aV.ownBlock <;> simp)
              obtain ⟨g3, c3, w3, hr3, ho3, hg3, hl3⟩ := app_struct Yba.underlying28 info40b rfl (by decide) (by decide) (w := w2) (Am.cells ⟨x.name, .slice (some ⟨g, 0, none⟩) n cc, x.info⟩) rfl (by simp [Am.cells, Value.oneCell']) hown2 (by have := hpl; omega) (by have := hW2.size; omega)
              have P3 := HB.out.step (x := ⟨x.name, .slice (some ⟨g, 0, none⟩) n cc, x.info⟩) hW2 hgood hg3 ho3 hl3
              have c7b : w2.cell? ⟨w.heap.size + 1, 7, none⟩ = some aV := (mcell (HB.out.sb.later hW2).hm).2.2.2.2
              have s3 : SB w ms ml cV (.slice ha' hs.length hc') aV w3 := by
                obtain ⟨_, _, k3, k4, k5⟩ := step_blocks (k' := 7) (u := nil) HB.out.sb.sz HB.out.own hW2 hg3 hl3
                exact HB.out.sb.moved k3 k4 k5
              have c7d : w3.cell? ⟨w.heap.size + 1, 7, none⟩ = some aV := (mcell s3.hm).2.2.2.2
              have f7d : w3.frozen? ⟨w.heap.size + 1, 7, none⟩ = false := by simp [World.frozen?, s3.hm]
              have FIN : Hid (∃ aV' at', at'.map strip = (ats.take (k + 1)).map strip ∧ PhB w ms ml code ha' hc' hs cV aV' at' (w3.setCell ⟨w.heap.size + 1, 7, none⟩ (.slice (some ⟨g3, 0, none⟩) (as'.length + 1) c3))) := ⟨_, _, by rw [take_next HX.out, List.map_append, List.map_append, hps]; rfl, P3⟩
              clear P3 s3 hg3 ho3 hl3 hgood hown2 hrd1
              unfold Am.cells at hr3
              go_wp2_with (first | refine wpList_load_mid rfl 47 _ rfl b (o + k * 2) rfl _ _ HR.out Yba.underlying47 rfl info47 ?_ | (at_builtin; refine wpList_app rfl _ _ _ _ rfl _ _ rfl rfl hr2 ?_) | (at_builtin; refine wpList_app rfl _ _ _ _ rfl _ _ rfl rfl hr3 ?_))
              go_roundw
              case rel => exact ⟨k + 1, by omega, by go_num, FIN⟩
              case measure => simp [RowKit.intOf]; omega
          case neg =>
            have ek : k = an := by omega
            subst ek
            rw [show ats.take k = ats from by rw [← HP.out.2.2.2.2.2, List.take_length]] at hps
            obtain ⟨cva, cvc, aa', ac', rfl, rfl, d1, d2, d3, d4, d5⟩ := HB.out.done (fun x hx => by
              have : strip x ∈ ats.map strip := by rw [← hps]; exact List.mem_map.2 ⟨x, hx, rfl⟩
              obtain ⟨y, hy, e⟩ := List.mem_map.1 this
              have h1 := HP.out.2.2.2.1.nm y hy
              have h2 : y.name = x.name := congrArg Prod.fst e
              rw [← h2]; unfold maxLen; omega)
            obtain ⟨cs, hcs⟩ : ∃ cs : List Value, mcells ms ml (.slice cva code.length cvc) (.slice ha' hs.length hc') (.slice aa' as'.length ac') = cs.toArray := ⟨_, rfl⟩
            have hone : (mcells ms ml (.slice cva code.length cvc) (.slice ha' hs.length hc') (.slice aa' as'.length ac')).all (·.oneCell') = true := by simp [mcells, Value.oneCell']
            have hsz9 : (mcells ms ml (.slice cva code.length cvc) (.slice ha' hs.length hc') (.slice aa' as'.length ac')).size = 9 := rfl
            have hm9 := HB.out.sb.hm
            rw [hcs] at d1 d2 d3 d4 d5 hone hsz9 hm9
            have R : Hid (wr.rangeAt (w.heap.size + 1) 0 cs) := fun i u hu => by
              rw [cell_of_row wr (w.heap.size + 1) (0 + i) _ 30 (0, 0) hm9, Nat.zero_add]
              simpa using hu
            have HZ := Lib.hid HB.out.sb.hr
            have DD := Lib.hid (And.intro d1 (And.intro d2 (And.intro d3 d4)))
            have D5 := Lib.hid d5
            have HL := Lib.hid HP.out.2.2.2.2.1
            have HON := Lib.hid hone
            have HI : Hid ((Yba.prog.info? 30).map (·.size) = some cs.length) := by show _ = _; rw [show cs.length = 9 from by simpa using hsz9]; exact info30
            have HI2 : Hid ((Yba.prog.info? 30).map (·.size) = some cs.toArray.size) := by show _ = _; rw [hsz9]; exact info30
            have HS : Hid ((mcells 0 0 nil nil nil).size = cs.toArray.size) := by show _ = _; rw [hsz9]; rfl
            have HCS := Lib.hid hcs
            clear d1 d2 d3 d4 d5 HB hone hsz9 hm9 hcs
            go_wp2_with (first | refine wpList_load_mid rfl 30 _ rfl (w.heap.size + 1) 0 rfl cs _ R.out Yba.underlying30 rfl HI.out ?_ | refine wpList_store_row rfl 30 _ _ rfl w.heap.size 30 _ cs.toArray rfl rfl HZ.out HI2.out HS.out HON.out ?_)
            obtain ⟨f1, f2, f3, f4⟩ := DD.out
            have hd5 : (wr.setRow w.heap.size cs.toArray).rangeAt w.heap.size 0 cs := by simpa using D5.out
            refine bodyPost_ret (v := .agg cs.toArray) (results_row Yba.results6 _ _ w.heap.size rfl cs _ hd5 Yba.underlying30 rfl HI.out) rfl ⟨cva, cvc, ha', hc', aa', ac', as', ?_, hps, f1, f2, f3, f4⟩
            rw [← HCS.out, ← HL.out]
end Go.Proofs.Ybulkajjc
