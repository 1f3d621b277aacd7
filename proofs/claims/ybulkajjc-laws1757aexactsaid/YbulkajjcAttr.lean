/-
  attributes.
-/
import Derived.Test.YbulkajjcUtf
namespace Go.Proofs.Ybulkajjc
open Go.RowKit Go.Maps Go.Lib

/-- One attribute written: the names so far, the bytes so far. -/
def step (st : List ByteArray × List UInt8) (x : Am) : List ByteArray × List UInt8 := (add st.1 x.name, st.2 ++ e16 (pos st.1 x.name + 1) ++ e32 x.info.length ++ x.info)
def run (l : List UInt8) (ats : List Am) : List ByteArray × List UInt8 := ats.foldl step ([], l)

theorem run_next {l : List UInt8} {ats : List Am} {j : Nat} {x : Am} (h : ats[j]? = some x) : run l (ats.take (j + 1)) = step (run l (ats.take j)) x := by
  unfold run
  rw [take_next h, List.foldl_append]
  rfl

theorem add_length (ns : List ByteArray) (s : ByteArray) : (add ns s).length ≤ ns.length + 1 := by
  unfold add; split <;> simp

theorem pool_add (ns : List ByteArray) (s : ByteArray) (hs : s.size ≤ 1024) : (poolOf (add ns s)).length ≤ (poolOf ns).length + 1027 := by
  unfold add
  split
  · omega
  · have : poolOf (ns ++ [s]) = poolOf ns ++ ent s := by simp [poolOf]
    rw [this, List.length_append, ent_length]; omega

theorem run_bounds (l : List UInt8) (ats : List Am) (hn : ∀ x ∈ ats, x.name.size ≤ 1024) (hi : ∀ x ∈ ats, x.info.length ≤ 1024) (j : Nat) (hj : j ≤ ats.length) :
    (run l (ats.take j)).1.length ≤ j ∧ (poolOf (run l (ats.take j)).1).length ≤ 1027 * j ∧ (run l (ats.take j)).2.length ≤ l.length + 1030 * j := by
  induction j with
  | zero => simp [run, poolOf]
  | succ j ih =>
    have hx : ats[j]? = some ats[j] := List.getElem?_eq_getElem (by omega)
    obtain ⟨h1, h2, h3⟩ := ih (by omega)
    have m := List.mem_of_getElem? hx
    rw [run_next hx]
    have a1 := add_length (run l (ats.take j)).1 ats[j].name
    have a2 := pool_add (run l (ats.take j)).1 ats[j].name (hn _ m)
    have a3 := hi _ m
    refine ⟨?_, ?_, ?_⟩
    · show (add _ _).length ≤ _; omega
    · show (poolOf (add _ _)).length ≤ _; omega
    · show (_ ++ _ ++ _ ++ _ : List UInt8).length ≤ _
      simp only [List.length_append, e16_length, e32_length]; omega

theorem info40 : (Yba.prog.info? 40).map (·.size) = some 2 := by kernel_rfl

/-- The class, a row beside it, and blocks that neither lies in. -/
structure Both (Ex : Nat → Prop) (w : World) (base cb : Nat) (ns : List ByteArray) (v : Value) (l : List UInt8) : Prop where
  own : Bs w base v l
  cl : Cl w base cb ns (fun k => v.ownBlock = some k ∨ Ex k)
  dj : ∀ k, v.ownBlock = some k → ¬ Ex k
  lt : ∀ k, Ex k → k < w.heap.size

section
variable {Ex : Nat → Prop} {w w' : World} {base cb : Nat} {ns : List ByteArray} {v v' : Value} {l l' : List UInt8}

theorem Both.app (h : Both Ex w base cb ns v l) (ha : App base w w' v v' l') : Both Ex w' base cb ns v' l' := by
  refine ⟨ha.own, h.cl.move (fun k hk hn => (ha.other hk (fun e => hn (.inl e))).1) (fun k hk hn => ?_), fun k hk he => ?_, fun k hk => Nat.lt_of_lt_of_le (h.lt k hk) ha.size⟩
  · rcases hn with hn | hn
    · rcases ha.loc with e | ⟨g, e, hg⟩
      · rw [e] at hn; exact .inl hn
      · rw [e] at hn; cases hn; omega
    · exact .inr hn
  · exact (ha.other (h.lt k he) (fun e => h.dj k e he)).2 hk

theorem Both.keeps (h : Both Ex w base cb ns v l) (ha : App base w w' v v' l') (hb : base ≤ w.heap.size) : Kept base Ex w w' :=
  ⟨ha.below h.own hb, fun k hk => (ha.other (h.lt k hk) (fun e => h.dj k e hk)).1⟩

theorem Both.later (h : Both Ex w base cb ns v l) (hb : Below w.heap.size w w') : Both Ex w' base cb ns v l :=
  ⟨h.own.later hb, h.cl.move (fun k hk _ => hb.block k hk) (fun _ _ h => h), h.dj, fun k hk => Nat.lt_of_lt_of_le (h.lt k hk) hb.size⟩

theorem Both.laterK (h : Both Ex w base cb ns v l) (hb : Below w.heap.size w w') (hbase : base ≤ w.heap.size) : Kept base Ex w w' :=
  ⟨hb.mono hbase, fun k hk => hb.block k (h.lt k hk)⟩
end

set_option maxHeartbeats 1000000 in
theorem attributes_any (Ex : Nat → Prop) (base cb : Nat) (v : Value) (l : List UInt8) (aa : Option Addr) (ac : Nat) (ats : List Am) (w0 w : World) (hw0 : base = w0.heap.size) (h : Both Ex w base cb [] v l) (hA : AIn aa ats w0) (hB : Below base w0 w)
    (hal : ats.length ≤ 1024) (hn : ∀ x ∈ ats, x.name.size ≤ 1024) (hi : ∀ x ∈ ats, x.info.length ≤ 1024) (hl : l.length ≤ 10000000) :
    Calls Yba.prog 13 #[.pointer (some ⟨cb, 0, none⟩), v, .slice aa ats.length ac] w fun e w' => ∃ v', e = .returned v' ∧ Both Ex w' base cb (run (l ++ e16 ats.length) ats).1 v' (run (l ++ e16 ats.length) ats).2 ∧ Kept base Ex w w' := by
  have H := Lib.hid h
  have HA := Lib.hid hA
  have HW := Lib.hid hB
  have HN := Lib.hid (And.intro hn (And.intro hi (And.intro hl hw0)))
  have hbs : base ≤ w.heap.size := by rw [hw0]; exact hB.size
  obtain ⟨al, hal2⟩ : ∃ n, ats.length = n := ⟨_, rfl⟩
  have HL := Lib.hid hal2
  rw [hal2] at hal
  rw [hal2]
  clear h hA hB hn hi hl hw0 hal2
  have hB2 := alloc_below w (.cells #[.int .u16 (al : Int)] 22)
  have H1 := H.out.later hB2
  have hne : v.ownBlock ≠ some w.heap.size := fun e => by have := (H.out.own.lt _ e).2; omega
  have hc := be16_any base v l w.heap.size [al] 1 1 rfl _ (nums_new w [al] #[.int .u16 (al : Int)] rfl) (by simp; omega) hne H1.own (by have := HN.out.2.2.1; simp; omega) (Nat.le_trans hbs hB2.size)
  have HC := Lib.hid hc
  have H2 := Lib.hid (And.intro H1 hB2)
  have hai : (al : Int) ≤ 1024 := by omega
  clear hc hne H1 hB2
  go_enter Yba.func13, Yba.ntmps13
  go_wp2_with fail
  refine HC.out.mono ?_
  rintro e w3 ⟨v3, rfl, ha3⟩
  have B3 : Hid (Both Ex w3 base cb (run (l ++ e16 al) (ats.take 0)).1 v3 (run (l ++ e16 al) (ats.take 0)).2 ∧ Kept base Ex w w3) := by
    refine ⟨?_, (H.out.laterK H2.out.2 hbs).trans (H2.out.1.keeps ha3 (Nat.le_trans hbs H2.out.2.size))⟩
    have := H2.out.1.app ha3
    simpa [run, puts] using this
  clear ha3 HC H2
  go_wp2_with fail
  go_loopw [1, 17] (fun u i wr => ∃ j : Nat, j ≤ al ∧ i = .int .i64 j ∧ Hid (Both Ex wr base cb (run (l ++ e16 al) (ats.take j)).1 u (run (l ++ e16 al) (ats.take j)).2 ∧ Kept base Ex w wr)) (fun _ i _ => al - (RowKit.intOf i).toNat)
  case atStart => exact ⟨0, Nat.zero_le _, rfl, B3⟩
  case round =>
    obtain ⟨j, hj, rfl, HJ⟩ := hrel
    by_cases hjl : j < al
    case pos =>
      have hW0 : Below base w0 wr := HW.out.trans HJ.out.2.below
      obtain ⟨x, hx⟩ : ∃ x, ats[j]? = some x := ⟨_, List.getElem?_eq_getElem (by have := HL.out; omega)⟩
      obtain ⟨b, o, rfl, hat⟩ := HA.out j x hx
      have hat2 := hat.below (by rw [← HN.out.2.2.2]; exact hW0)
      obtain ⟨a1, c1, hcv⟩ := hat2.rd.len
      have hr := hat2.range
      unfold Am.cells at hr
      rw [hcv] at hr
      have hxm := List.mem_of_getElem? hx
      have hxn := HN.out.1 x hxm
      have hxi := HN.out.2.1 x hxm
      obtain ⟨bd1, bd2, bd3⟩ := run_bounds (l ++ e16 al) ats HN.out.1 HN.out.2.1 j (by have := HL.out; omega)
      have est := Lib.hid (run_next (l := l ++ e16 al) hx)
      revert est bd1 bd2 bd3 HJ
      generalize run (l ++ e16 al) (ats.take j) = st
      obtain ⟨ns, bs⟩ := st
      intro HJ bd1 bd2 bd3 est
      have hrd := hat.rd
      rw [hcv] at hrd
      have RD := Lib.hid hrd
      have HR := Lib.hid hr
      have HB := Lib.hid hW0
      have hwb : base ≤ wr.heap.size := by rw [HN.out.2.2.2]; exact hW0.size
      have hB1 := alloc_below wr (.cells #[.string x.name, .slice a1 x.info.length c1] 40)
      have hul : ∀ k, u1.ownBlock = some k → k < wr.heap.size := fun k hk => (HJ.out.1.own.lt k hk).2
      have J1 : Cl (wr.alloc (.cells #[.string x.name, .slice a1 x.info.length c1] 40)) base cb ns (fun k => (u1.ownBlock = some k ∨ Ex k) ∨ k = wr.heap.size) :=
        HJ.out.1.cl.move (fun k hk _ => hB1.block k hk) (fun k hk h => by
          rcases h with h | h
          · exact h
          · omega)
      have hU := utf8_any base cb ns _ x.name _ J1 (by
        rintro k ((hk | hk) | rfl)
        · have := hul k hk; simp; omega
        · have := HJ.out.1.lt k hk; simp; omega
        · simp) (Nat.le_trans hwb hB1.size) hxn (by simp only at bd1; omega) (by simp only at bd2; omega)
      have HU := Lib.hid hU
      have J := Lib.hid HJ.out.1
      have O1 := Lib.hid (And.intro HJ.out.1.own (And.intro hB1 hul))
      have UL := Lib.hid hul
      have KR := Lib.hid HJ.out.2
      have BD := Lib.hid (And.intro bd1 (And.intro bd2 bd3))
      have hii : (x.info.length : Int) ≤ 1024 := by omega
      clear hU J1 hB1 hul hr hrd hat hat2 hcv hx hxm HJ bd1 bd2 bd3 hW0
      go_wp2_with (first | refine wpList_load_mid rfl 40 _ rfl b (o + j * 2) rfl _ _ HR.out Yba.underlying40 rfl info40 ?_)
      refine HU.out.mono ?_
      rintro e w4 ⟨rfl, C4, K4⟩
      have hsz4 : wr.heap.size < w4.heap.size := by have := K4.below.size; simp at this; omega
      have c4 : w4.cell? ⟨wr.heap.size, 1, none⟩ = some (.slice a1 x.info.length c1) := by
        rw [World.cell?_of_block (K4.no wr.heap.size (.inr rfl)), cell_of_row _ wr.heap.size 1 _ 40 (0, 0) (heap_alloc_new wr _)]; rfl
      have o4 : Bs w4 base u1 bs := O1.out.1.same (fun k hk => (K4.no k (.inl (.inl hk))).trans (O1.out.2.1.block k (O1.out.2.2 k hk)))
      have b4 : Both Ex w4 base cb (add ns x.name) u1 bs := ⟨o4, C4.move (fun _ _ _ => rfl) (fun k _ h => .inl h), J.out.dj, fun k hk => by have := J.out.lt k hk; omega⟩
      have hb4 : Kept base Ex wr w4 := (J.out.laterK O1.out.2.1 hwb).trans ⟨K4.below, fun k hk => K4.no k (.inl (.inr hk))⟩
      have hpl := pos_le ns x.name
      have hB5 := alloc_below w4 (.cells #[.int .u16 ((pos ns x.name : Int) + 1)] 22)
      have b5 := b4.later hB5
      have hwb4 : base ≤ w4.heap.size := Nat.le_trans hwb hb4.below.size
      have hc := be16_any base u1 bs w4.heap.size [pos ns x.name + 1] 1 1 rfl _ (nums_new w4 [pos ns x.name + 1] #[.int .u16 ((pos ns x.name : Int) + 1)] (by simp)) (by have := BD.out.1; simp; omega) (fun e => by have := (o4.lt _ e).2; omega) b5.own (by have q1 := BD.out.2.2; have q2 := HN.out.2.2.1; simp only [List.length_append, e16_length] at q1; simp; omega) (Nat.le_trans hwb4 hB5.size)
      have HC := Lib.hid hc
      have B5 := Lib.hid (And.intro b5 (And.intro hB5 (And.intro (hb4.trans (b4.laterK hB5 hwb4)) (And.intro c4 hwb4))))
      clear hc b5 hB5 hb4 b4 o4 C4 K4 HU O1 c4 hwb4
      go_wp2_with fail
      refine HC.out.mono ?_
      rintro e w6 ⟨v6, rfl, ha6⟩
      have b6 := B5.out.1.app ha6
      have hwb5 := Nat.le_trans B5.out.2.2.2.2 B5.out.2.1.size
      have hwb6 : base ≤ w6.heap.size := Nat.le_trans hwb5 ha6.size
      have hl6 : (bs ++ puts [pos ns x.name + 1]).length ≤ 20000000 := by have q1 := BD.out.2.2; have q2 := HN.out.2.2.1; simp only [List.length_append, e16_length] at q1; simp only [List.length_append, puts_length, List.length_cons, List.length_nil]; omega
      have hoth := ha6.other (k := wr.heap.size) (by have := B5.out.2.1.size; omega) (fun e => by have := UL.out _ e; omega)
      have c6 : w6.cell? ⟨wr.heap.size, 1, none⟩ = some (.slice a1 x.info.length c1) := by
        rw [World.cell?_of_block hoth.1, World.cell?_of_block (B5.out.2.1.block wr.heap.size hsz4)]
        exact B5.out.2.2.2.1
      have hsz6 : wr.heap.size < w6.heap.size := by have := B5.out.2.1.size; have := ha6.size; omega
      have V6 := Lib.hid hoth.2
      have HC6 := Lib.hid (au32_any base v6 _ x.info.length w6 (by omega) b6.own (by omega) hwb6)
      have hb6 : Kept base Ex wr w6 := B5.out.2.2.1.trans (B5.out.1.keeps ha6 hwb5)
      have B6 := Lib.hid (And.intro b6 (And.intro hb6 (And.intro hwb6 hl6)))
      clear b6 hb6 hwb6 hwb5 hl6 ha6 B5 HC hoth
      go_wp2_with fail
      refine HC6.out.mono ?_
      rintro e w7 ⟨v7, rfl, ha7, _⟩
      have b7 := B6.out.1.app ha7
      have hoth := ha7.other hsz6 V6.out
      have c7 : w7.cell? ⟨wr.heap.size, 1, none⟩ = some (.slice a1 x.info.length c1) := (World.cell?_of_block hoth.1).trans c6
      have hb7 : Kept base Ex wr w7 := B6.out.2.1.trans (B6.out.1.keeps ha7 B6.out.2.2.1)
      have hw7 : Below base w0 w7 := HB.out.trans hb7.below
      have hwb7 : base ≤ w7.heap.size := Nat.le_trans hwb hb7.below.size
      obtain ⟨v8, w8, hr8, ha8, _⟩ := app_rd 23 b7.own (RD.out.below (by rw [← HN.out.2.2.2]; exact hw7)) (by have := B6.out.2.2.2; simp only [List.length_append, e32_length] at *; omega) hwb7
      have b8 := b7.app ha8
      have FIN : Hid (Both Ex w8 base cb (run (l ++ e16 al) (ats.take (j + 1))).1 v8 (run (l ++ e16 al) (ats.take (j + 1))).2 ∧ Kept base Ex w w8) := by
        refine ⟨?_, KR.out.trans (hb7.trans (b7.keeps ha8 hwb7))⟩
        rw [est.out]
        simpa [step, puts] using b8
      clear b8 ha8 b7 ha7 hb7 hw7 hwb7 hoth B6 HC6 c6
      go_wp2_with (first | (at_builtin; refine wpList_app rfl _ _ _ _ rfl _ _ rfl rfl hr8 ?_))
      go_roundw
      case rel => exact ⟨j + 1, by omega, by go_num, FIN⟩
      case measure => simp [RowKit.intOf]; omega
    case neg =>
      have ej : j = al := by omega
      subst ej
      have HA2 : Hid (Both Ex wr base cb (run (l ++ e16 j) ats).1 u1 (run (l ++ e16 j) ats).2 ∧ Kept base Ex w wr) := by have := HJ.out; rw [← HL.out, List.take_length] at this; rw [← HL.out]; exact this
      clear HJ
      go_wp2_with fail
      go_ret
      exact ⟨u1, rfl, HA2.out⟩
end Go.Proofs.Ybulkajjc
