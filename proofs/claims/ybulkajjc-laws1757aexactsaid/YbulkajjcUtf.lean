/-
  utf8.
-/
import Derived.Test.YbulkajjcEntry
namespace Go.Proofs.Ybulkajjc
open Go.RowKit Go.Maps Go.Lib

/-- THE CLASS STANDS where its own blocks stand. -/
theorem Cl.move {w w' : World} {base cb : Nat} {ns : List ByteArray} {No No' : Nat → Prop} (h : Cl w base cb ns No) (hk : ∀ k, k < w.heap.size → ¬ No k → w'.heap[k]? = w.heap[k]?) (hn : ∀ k, k < w.heap.size → No' k → No k) : Cl w' base cb ns No' := by
  rcases h.ex with ⟨rfl, h8, h9, h10, hf⟩ | ⟨hne, pv, mb, f, hm⟩
  · have hlt := World.block_lt_of_cell? w _ h8
    have hb := hk cb hlt h.no
    exact ⟨h.lo, fun e => h.no (hn cb hlt e), .inl ⟨rfl, (World.cell?_of_block hb).trans h8, (World.cell?_of_block hb).trans h9, (World.cell?_of_block hb).trans h10, fun k => (World.frozen?_of_block hb).trans (hf k)⟩⟩
  · have hlt := World.block_lt_of_cell? w _ hm.h8
    have hb := hk cb hlt h.no
    have hml := hm.mi.lt
    refine ⟨h.lo, fun e => h.no (hn cb hlt e), .inr ⟨hne, pv, mb, f, (World.cell?_of_block hb).trans hm.h8, (World.cell?_of_block hb).trans hm.h9, (World.cell?_of_block hb).trans hm.h10, fun k => (World.frozen?_of_block hb).trans (hm.fr k), ?_, ?_, hm.mlo, hm.mne, fun e => hm.mno (hn mb hml e), ?_, hm.fs⟩⟩
    · exact hm.own.same (fun k e => hk k (hm.own.lt k e).2 (hm.away k e).1)
    · exact fun g e => ⟨fun e2 => (hm.away g e).1 (hn g (hm.own.lt g e).2 e2), (hm.away g e).2⟩
    · exact hm.mi.same (hk mb hml hm.mno)

theorem Cl.lt {w : World} {base cb : Nat} {ns : List ByteArray} {No : Nat → Prop} (h : Cl w base cb ns No) : cb < w.heap.size := by
  rcases h.ex with ⟨_, h8, _⟩ | ⟨_, pv, mb, f, hm⟩
  · exact World.block_lt_of_cell? w _ h8
  · exact World.block_lt_of_cell? w _ hm.h8

theorem nums_new (w : World) (vs : List Nat) (cs : Array Value) (hc : cs.toList = vs.map (fun x : Nat => Value.int .u16 (x : Int))) : Nums (w.alloc (.cells cs 22)) w.heap.size vs := by
  intro j x hx
  rw [cell_of_row _ w.heap.size j _ 22 (0, 0) (heap_alloc_new w _), ← Array.getElem?_toList, hc]
  simp [hx]

theorem Bs.form {w : World} {base : Nat} {v : Value} {l : List UInt8} (h : Bs w base v l) (hl : 0 < l.length) : ∃ g c, v = .slice (some ⟨g, 0, none⟩) l.length c ∧ base ≤ g ∧ w.rangeAt g 0 (bv l) := by
  rcases h.2 with ⟨_, h⟩ | ⟨g, cap, cur, rfl, hg, _⟩
  · omega
  · refine ⟨g, cap, rfl, hg, fun j u hu => ?_⟩
    have := World.ownsRow.cells h (g := g) rfl j u hu
    rwa [Addr.add_lit] at this

set_option maxHeartbeats 1000000 in
theorem utf8_any (base cb : Nat) (ns : List ByteArray) (No : Nat → Prop) (s : ByteArray) (w : World) (h : Cl w base cb ns No) (hNo : ∀ k, No k → k < w.heap.size) (hb : base ≤ w.heap.size)
    (hs : s.size ≤ 1024) (hl : ns.length ≤ 2000) (hp : (poolOf ns).length ≤ 10000000) :
    Calls Yba.prog 15 #[.pointer (some ⟨cb, 0, none⟩), .string s] w fun e w' => e = .returned (.int .u16 ((pos ns s : Int) + 1)) ∧ Cl w' base cb (add ns s) No ∧ Kept base No w w' := by
  have H := Lib.hid h
  have HP := Lib.hid (And.intro hNo (And.intro hp hl))
  clear h hNo hp hl
  have hB1 := alloc_below w (.cells #[.int .u8 1] 5)
  have hB2 := alloc_below (w.alloc (.cells #[.int .u8 1] 5)) (.cells #[.int .u16 (s.size : Int)] 22)
  rw [show (w.alloc (.cells #[.int .u8 1] 5)).heap.size = w.heap.size + 1 from by simp] at hB2
  have r0 : Bs (w.alloc (.cells #[.int .u8 1] 5)) w.heap.size (.slice (some ⟨w.heap.size, 0, none⟩) 1 1) [1] := World.ownsRow_lit w #[.int .u8 1] 1 (Nat.le_refl _) (by decide) rfl
  have hsz1 : (w.alloc (.cells #[.int .u8 1] 5)).heap.size = w.heap.size + 1 := by simp
  have hsz2 : ((w.alloc (.cells #[.int .u8 1] 5)).alloc (.cells #[.int .u16 (s.size : Int)] 22)).heap.size = w.heap.size + 2 := by simp
  have hN := nums_new (w.alloc (.cells #[.int .u8 1] 5)) [s.size] #[.int .u16 (s.size : Int)] rfl
  rw [hsz1] at hN
  have hc := be16_any w.heap.size (.slice (some ⟨w.heap.size, 0, none⟩) 1 1) [1] (w.heap.size + 1) [s.size] 1 1 rfl _ hN (by simp; omega) (by simp [Value.ownBlock]) (r0.later (by rw [hsz1]; exact hB2)) (by simp) (by rw [hsz2]; omega)
  have r1 := r0.later (w' := (w.alloc (.cells #[.int .u8 1] 5)).alloc (.cells #[.int .u16 (s.size : Int)] 22)) (by rw [hsz1]; exact hB2)
  have R1 := Lib.hid (And.intro r1 hsz2)
  have HC := Lib.hid hc
  have HB := Lib.hid (hB1.trans (hB2.mono (Nat.le_succ _)))
  have hsi : (s.size : Int) ≤ 1024 := by omega
  clear hc hN r0 hB1 hB2 hsz1 hsz2 r1
  go_enter Yba.func15, Yba.ntmps15
  go_wp2_with fail
  refine HC.out.mono ?_
  rintro e w3 ⟨v3, rfl, ha3⟩
  have hb3 : Below w.heap.size w w3 := HB.out.trans (ha3.below R1.out.1 (by rw [R1.out.2]; omega))
  obtain ⟨v4, w4, hr4, ha4, _⟩ := app_str 23 s ha3.own (by simp [puts, e16]; omega) hb3.size
  have hb4 : Below w.heap.size w w4 := hb3.trans (ha4.below ha3.own hb3.size)
  have e4 : [1] ++ puts [s.size] ++ s.data.toList = ent s := by simp [puts, ent]
  have o4 := ha4.own
  rw [e4] at o4
  obtain ⟨xb, c, rfl, hxb, hxr⟩ := o4.form (by rw [ent_length]; omega)
  have hN4 : ∀ k, (No k ∨ k = xb) → k < w4.heap.size := by
    rintro k (hk | rfl)
    · exact Nat.lt_of_lt_of_le (HP.out.1 k hk) hb4.size
    · exact (o4.lt k rfl).2
  have C4 : Cl w4 base cb ns (fun k => No k ∨ k = xb) := H.out.move (fun k hk _ => hb4.block k hk) (fun k hk h => by
    rcases h with h | h
    · exact h
    · omega)
  have HE := Lib.hid (entry_any base cb ns (fun k => No k ∨ k = xb) s xb 0 (ent s).length c rfl w4 C4 hN4 (Nat.le_trans hb hb4.size) hxr (.inr rfl) hs HP.out.2.2 HP.out.2.1)
  have HB4 := Lib.hid hb4
  obtain ⟨q3a, q3n, q3c, rfl⟩ := ha3.own.rd.shape
  clear C4 hN4 hxr hxb o4 e4 hb4 hb3 ha4 ha3 HC R1
  go_wp2_with (first | (at_builtin; refine wpList_app rfl _ _ _ _ rfl _ _ rfl rfl hr4 ?_))
  refine HE.out.mono ?_
  rintro e w5 ⟨rfl, C5, K5⟩
  have F : Hid (Cl w5 base cb (add ns s) No ∧ Kept base No w w5) := ⟨C5.move (fun _ _ _ => rfl) (fun k _ h => .inl h), ⟨(HB4.out.mono hb).trans K5.below, fun k hk => (K5.no k (.inl hk)).trans (HB4.out.block k (HP.out.1 k hk))⟩⟩
  clear C5 K5 HE
  go_wp2_with fail
  go_ret
  exact ⟨rfl, F.out⟩
end Go.Proofs.Ybulkajjc
