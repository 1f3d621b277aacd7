/-
  LawS1757AExact: her own walk.
-/
import Derived.Test.YbulkajjcLawA
import Derived.Deep.CutBlock
import Derived.Deep.QuietTactic
import Derived.BigQuiet
namespace Go.Proofs.Ybulkajjc
open Go.RowKit Go.Maps Go.Lib

theorem ba_beq {a b : ByteArray} (h : ¬ a = b) : (a.toList == b.toList) = false := by
  rw [beq_eq_false_iff_ne, ByteArray.toList_eq, ByteArray.toList_eq]
  exact fun e => h (ba_ext e)

theorem run_strip {l : List UInt8} {a b : List Am} (h : a.map strip = b.map strip) : run l a = run l b := by
  have key : ∀ (c : List Am), run l c = (c.map strip).foldl (fun st p => (add st.1 p.1, st.2 ++ e16 (pos st.1 p.1 + 1) ++ e32 p.2.length ++ p.2)) ([], l) := by
    intro c
    unfold run
    rw [List.foldl_map]
    rfl
  rw [key, key, h]

/-- The state within a round of the last loop. -/
structure JJ (B : Nat) (W6 : World) (wv nv pv : Value) (ns : List ByteArray) (bs : List UInt8) (name : ByteArray) (a1 : Option Addr) (il c1 : Nat) (wr W : World) : Prop where
  l2 : L2 B W6 wv nv pv ns (poolOf ns) bs W
  hx : W.heap[wr.heap.size]? = some (.cells #[.string name, .slice a1 il c1] 47 (0, 0))
  sz : wr.heap.size < W.heap.size
  lo : Below wr.heap.size wr W

/-- The same, behind the names' and the pool's growth. -/
structure KK (B : Nat) (W6 : World) (wv nv pv : Value) (ns : List ByteArray) (bs : List UInt8) (name : ByteArray) (a1 : Option Addr) (il c1 : Nat) (p : Nat) (W : World) : Prop where
  l2 : L2 B W6 wv nv pv ns (poolOf ns) bs W
  hx : W.heap[p]? = some (.cells #[.string name, .slice a1 il c1] 47 (0, 0))
  sz : p < W.heap.size
  wp : wv.ownBlock ≠ some p

theorem JJ.drew {B : Nat} {W6 : World} {wv nv pv : Value} {ns : List ByteArray} {bs : List UInt8} {name : ByteArray} {a1 : Option Addr} {il c1 : Nat} {wr W : World} (h : JJ B W6 wv nv pv ns bs name a1 il c1 wr W) (n : Nat) : JJ B W6 wv nv pv ns bs name a1 il c1 wr (W.drewN n) := by
  have hb : Below W.heap.size W (W.drewN n) := ⟨rfl, rfl, rfl, Nat.le_refl _, fun _ _ => rfl⟩
  exact ⟨h.l2.later hb, h.hx, h.sz, h.lo.trans ⟨rfl, rfl, rfl, Nat.le_refl _, fun _ _ => rfl⟩⟩

set_option maxRecDepth 100000 in
set_option maxHeartbeats 2000000 in
theorem law_true (ms ml : Nat) (cv : Value) (code : List UInt8) (ha : Option Addr) (hc : Nat) (hs : List Hm) (aa : Option Addr) (ac : Nat) (ats : List Am) (w : World) (hms : ms < 65536) (hml : ml < 65536)
    (hcode : Rd w cv code) (hH : HIn ha hs w) (hA : AIn aa ats w) :
    Calls Yba.prog 3 #[.int .u16 (ms : Int), .int .u16 (ml : Int), cv, .slice ha hs.length hc, .slice aa ats.length ac] w fun e w' => e = .returned (.bool true) ∧ Below w.heap.size w w' := by
  obtain ⟨ca, cc, rfl⟩ := hcode.len
  have HT := Lib.hid (toobig_any ca cc code ha hc hs aa ac ats w hH hA)
  have HP := Lib.hid (And.intro hcode (And.intro hH hA))
  obtain ⟨cn, hcn⟩ : ∃ n, code.length = n := ⟨_, rfl⟩
  obtain ⟨hn, hhn⟩ : ∃ n, hs.length = n := ⟨_, rfl⟩
  obtain ⟨an, han⟩ : ∃ n, ats.length = n := ⟨_, rfl⟩
  rw [hcn, hhn, han] at HT
  rw [hcn, hhn, han]
  have HL := Lib.hid (And.intro hcn (And.intro hhn han))
  clear hcode hH hA hcn hhn han
  go_enter Yba.func3, Yba.ntmps3
  go_wp2_with fail
  refine HT.out.mono ?_
  rintro e w1 ⟨hb1, rfl | ⟨rfl, hsm⟩⟩
  · go_wp2_with fail
    go_ret
    exact ⟨rfl, hb1⟩
  have hB := build_any ms ml (.slice ca code.length cc) code ha hc hs aa ac ats w1 (HP.out.1.below hb1) (HP.out.2.1.below hb1) (HP.out.2.2.below hb1) hsm
  rw [HL.out.1, HL.out.2.1, HL.out.2.2] at hB
  have HB := Lib.hid hB
  have HS := Lib.hid hsm
  have HB1 := Lib.hid hb1
  clear hB hsm hb1 HT
  go_wp2_with fail
  refine HB.out.mono ?_
  rintro e w2 ⟨cva, cvc, ha', hc', aa', ac', ats', rfl, est, rd2, ci2, ai2, lo2⟩
  obtain ⟨an', han'⟩ : ∃ n, ats'.length = n := ⟨_, rfl⟩
  have ean : an' = an := by
    have := congrArg List.length est
    rw [List.length_map, List.length_map, han', HL.out.2.2] at this
    exact this
  subst ean
  rw [han']
  have hA3 := alloc_below w2 (.cells (mcells ms ml (.slice cva cn cvc) (.slice ha' hn hc') (.slice aa' an' ac')) 30)
  have rd3 := rd2.below hA3
  have ci3 := ci2.below hA3
  have ai3 := ai2.below hA3
  have hsm' : Small code hs ats' := by
    have hs0 := HS.out
    refine ⟨hs0.lc, hs0.lh, ?_, hs0.ch, fun x hx => ?_, fun x hx => ?_⟩
    · have := hs0.la; rw [HL.out.2.2] at this; omega
    · have : strip x ∈ ats.map strip := by rw [← est]; exact List.mem_map.2 ⟨x, hx, rfl⟩
      obtain ⟨y, hy, e⟩ := List.mem_map.1 this
      have h2 : y.name = x.name := congrArg Prod.fst e
      rw [← h2]; exact hs0.nm y hy
    · have : strip x ∈ ats.map strip := by rw [← est]; exact List.mem_map.2 ⟨x, hx, rfl⟩
      obtain ⟨y, hy, e⟩ := List.mem_map.1 this
      have h2 : y.info = x.info := congrArg Prod.snd e
      rw [← h2]; exact hs0.inf y hy
  have hsz3 : (w2.alloc (.cells (mcells ms ml (.slice cva cn cvc) (.slice ha' hn hc') (.slice aa' an' ac')) 30)).heap.size = w2.heap.size + 1 := by simp
  have hcl := cl_new (w2.alloc (.cells (mcells ms ml (.slice cva cn cvc) (.slice ha' hn hc') (.slice aa' an' ac')) 30))
  have hA4 := alloc_below (w2.alloc (.cells (mcells ms ml (.slice cva cn cvc) (.slice ha' hn hc') (.slice aa' an' ac')) 30)) (.cells ccells 38)
  rw [hsz3] at hcl hA4
  have hC := code_any (w2.heap.size + 1) (w2.heap.size + 1) ms ml cva cvc code ha' hc' hs aa' ac' ats' _ _ hsz3.symm hA4 hms hml hcl (by rw [HL.out.1]; exact rd3) ci3 ai3 hsm'
  rw [HL.out.1, HL.out.2.1, han'] at hC
  have HC := Lib.hid hC
  have LO := Lib.hid (And.intro lo2 (And.intro hA3 est))
  clear hC hA4 hA3 hcl hsm' rd2 rd3 ci2 ci3 ai2 ai3 lo2 est HB hsz3
  unfold mcells ccells at *
  go_wp2_with fail
  refine HC.out.mono ?_
  rintro e w5 ⟨v5, rfl, both5, lo5⟩
  obtain ⟨g5, n5, c5, rfl⟩ := both5.own.rd.shape
  have hA6 := alloc_below w5 (.cells #[.string ⟨#[67, 111, 100, 101]⟩, .slice g5 n5 c5] 40)
  have hsz6 : (w5.alloc (.cells #[.string ⟨#[67, 111, 100, 101]⟩, .slice g5 n5 c5] 40)).heap.size = w5.heap.size + 1 := by simp
  have rd5 := both5.own.rd.below hA6
  have hlow6 : Below w.heap.size w (w5.alloc (.cells #[.string ⟨#[67, 111, 100, 101]⟩, .slice g5 n5 c5] 40)) := by
    have s1 := HB1.out.size
    have s2 := LO.out.1.size
    have s3 := LO.out.2.1.size
    have s5 := lo5.size
    refine (((HB1.out.trans (LO.out.1.mono s1)).trans (LO.out.2.1.mono (by omega))).trans (lo5.mono (by omega))).trans (hA6.mono (by omega))
  have cl6 := both5.cl.move (w' := w5.alloc (.cells #[.string ⟨#[67, 111, 100, 101]⟩, .slice g5 n5 c5] 40)) (No' := fun _ => False) (fun k hk _ => hA6.block k hk) (fun _ _ h => h.elim)
  have hnew := heap_alloc_new w5 (.cells #[.string ⟨#[67, 111, 100, 101]⟩, .slice g5 n5 c5] 40)
  have S0 : WS (w5.heap.size + 1) (w5.alloc (.cells #[.string ⟨#[67, 111, 100, 101]⟩, .slice g5 n5 c5] 40)) nil [] (w5.alloc (.cells #[.string ⟨#[67, 111, 100, 101]⟩, .slice g5 n5 c5] 40)) := ⟨Bs.nil _ _, Below.refl _ _, by rw [hsz6]; exact Nat.le_refl _⟩
  have HG := Lib.hid (And.intro rd5 (And.intro hlow6 (And.intro cl6 (And.intro hnew LO.out.2.2))))
  have HC1 := Lib.hid (put16_any _ nil [] ms _ hms S0.own (by simp) S0.bs)
  have HS0 := Lib.hid hsz6
  clear rd5 hlow6 cl6 hnew both5 lo5 HC LO HB1 hA6 hsz6
  go_wp2_with fail
  refine HC1.out.mono ?_
  rintro e w7 ⟨v7, rfl, ha7, _⟩
  have S7 := Lib.hid (S0.app ha7)
  have hBw : w.heap.size ≤ w5.heap.size + 1 := by have := HG.out.2.1.size; simp at this; omega
  have HLOW := Lib.hid HG.out.2.1
  clear ha7 S0 HC1
  revert S7 HG HS0 HLOW
  generalize w5.alloc (.cells #[.string ⟨#[67, 111, 100, 101]⟩, .slice g5 n5 c5] 40) = W6
  intro HG HS0 S7 HLOW
  have HC2 := Lib.hid (put16_any _ v7 _ ml w7 hml S7.out.own (by simp [e16]) S7.out.bs)
  go_wp2_with fail
  refine HC2.out.mono ?_
  rintro e w8 ⟨v8, rfl, ha8, _⟩
  have S8 := Lib.hid (S7.out.app ha8)
  clear ha8 S7 HC2
  have hcn1 : cn ≤ 1024 := by rw [← HL.out.1]; exact HS.out.lc
  have hhn1 : hn ≤ 1024 := by rw [← HL.out.2.1]; exact HS.out.lh
  have han1 : an' ≤ 1024 := by rw [← HL.out.2.2]; exact HS.out.la
  have hcni : (cn : Int) ≤ 1024 := by omega
  have hhni : (hn : Int) ≤ 1024 := by omega
  have hani : (an' : Int) ≤ 1024 := by omega
  have HC3 := Lib.hid (put32_any _ v8 _ cn w8 (by omega) S8.out.own (by simp [e16]) S8.out.bs)
  go_wp2_with fail
  refine HC3.out.mono ?_
  rintro e w9 ⟨v9, rfl, ha9, _⟩
  have S9 := Lib.hid (S8.out.app ha9)
  clear ha9 S8 HC3
  have hrd9 := HP.out.1.below (HLOW.out.trans (S9.out.low.mono hBw))
  rw [HL.out.1] at hrd9
  obtain ⟨v10, w10, hr10, ha10, _⟩ := app_rd 23 S9.out.own hrd9 (by have := HL.out.1; simp [e16, e32]; omega) S9.out.bs
  have S10 := Lib.hid (S9.out.app ha10)
  clear ha10 S9 hrd9
  have HC4 := Lib.hid (put16_any _ v10 _ hn w10 (by omega) S10.out.own (by have := HL.out.1; simp [e16, e32]; omega) S10.out.bs)
  go_wp2_with (first | (at_builtin; refine wpList_app rfl _ _ _ _ rfl _ _ rfl rfl hr10 ?_))
  refine HC4.out.mono ?_
  rintro e w11 ⟨v11, rfl, ha11, _⟩
  have S11 : Hid (WS (w5.heap.size + 1) W6 v11 (front ms ml code hn ++ hbys (hs.take 0)) w11) := by
    have := S10.out.app ha11
    have e : front ms ml code hn ++ hbys (hs.take 0) = [] ++ e16 ms ++ e16 ml ++ e32 cn ++ code ++ e16 hn := by
      rw [← HL.out.1]; simp [front, hbys, puts]
    rw [e]; exact this
  clear ha11 S10 HC4 hr10
  go_wp2_with fail
  go_loopw [14, 59] (fun u i wr => ∃ j : Nat, j ≤ hn ∧ i = .int .i64 j ∧ Hid (WS (w5.heap.size + 1) W6 u (front ms ml code hn ++ hbys (hs.take j)) wr)) (fun _ i _ => hn - (RowKit.intOf i).toNat)
  case atStart => exact ⟨0, Nat.zero_le _, rfl, S11⟩
  case round =>
    clear S11
    obtain ⟨j, hj, rfl, HJ⟩ := hrel
    by_cases hjl : j < hn
    case pos =>
      obtain ⟨x, hx⟩ : ∃ x, hs[j]? = some x := ⟨_, List.getElem?_eq_getElem (by have := HL.out.2.1; omega)⟩
      obtain ⟨b, o, rfl, hat0⟩ := HP.out.2.1 j x hx
      have hat := hat0.below (HLOW.out.trans (HJ.out.low.mono hBw))
      obtain ⟨a1, c1, hcv⟩ := hat.rd.len
      have hr := hat.range
      unfold Hm.cells at hr
      have hrd := hat0.rd
      rw [hcv] at hr hrd
      have RD := Lib.hid hrd
      have hx1 := hat.hs
      have hx2 := hat.he
      have hx3 := hat.hh
      have hxc := HS.out.ch x (List.mem_of_getElem? hx)
      have HX := Lib.hid hx
      have hlen : (front ms ml code hn).length + (hbys (hs.take j)).length ≤ 10000000 := by
        have h1 := hbys_length (hs.take j) (fun y hy => HS.out.ch y (List.mem_of_mem_take hy))
        have h2 := List.length_take_le j hs
        have h3 := HL.out.1
        simp only [front, List.length_append, puts_length, e32_length, List.length_cons, List.length_nil]
        omega
      clear hx hat hat0 hcv hrd
      cases hh : x.has
      · skip
        rw [hh] at hr
        have HR := Lib.hid hr
        have hB1 := alloc_below wr (.cells #[.int .u16 (x.s : Int), .int .u16 (x.e : Int), .int .u16 (x.h : Int), .bool false, .slice a1 x.c.length c1] 46)
        have hnew := heap_alloc_new wr (.cells #[.int .u16 (x.s : Int), .int .u16 (x.e : Int), .int .u16 (x.h : Int), .bool false, .slice a1 x.c.length c1] 46)
        have hsz : wr.heap.size < (wr.alloc (.cells #[.int .u16 (x.s : Int), .int .u16 (x.e : Int), .int .u16 (x.h : Int), .bool false, .slice a1 x.c.length c1] 46)).heap.size := by simp
        have s1 := HJ.out.later hB1
        have hne1 : u14.ownBlock ≠ some wr.heap.size := fun e => by have := (HJ.out.own.lt _ e).2; omega
        have S1 := Lib.hid (And.intro s1 (And.intro hnew (And.intro hsz hne1)))
        have HC1 := Lib.hid (put16_any _ u14 _ x.s _ hx1 s1.own (by rw [List.length_append]; omega) s1.bs)
        clear s1 hnew hsz hne1 hB1 HJ
        go_wp2_with (first | refine wpList_load_mid rfl 46 _ rfl b (o + j * 5) rfl _ _ HR.out Yba.underlying46 rfl info46 ?_)
        refine HC1.out.mono ?_
        rintro e y2 ⟨v2, rfl, ha, _⟩
        have ho := ha.other S1.out.2.2.1 S1.out.2.2.2
        have S2 := Lib.hid (And.intro (S1.out.1.app ha) (And.intro (ho.1.trans S1.out.2.1) (And.intro (Nat.lt_of_lt_of_le S1.out.2.2.1 ha.size) ho.2)))
        clear ha ho S1 HC1
        have xc : y2.cell? ⟨wr.heap.size, 1, none⟩ = some (.int .u16 (x.e : Int)) := by rw [cell_of_row y2 wr.heap.size 1 _ 46 (0, 0) S2.out.2.1]; rfl
        have HC2 := Lib.hid (put16_any _ v2 _ x.e _ hx2 S2.out.1.own (by simp only [List.length_append, e16_length]; omega) S2.out.1.bs)
        go_wp2_with fail
        clear xc
        refine HC2.out.mono ?_
        rintro e y3 ⟨v3, rfl, ha, _⟩
        have ho := ha.other S2.out.2.2.1 S2.out.2.2.2
        have S3 := Lib.hid (And.intro (S2.out.1.app ha) (And.intro (ho.1.trans S2.out.2.1) (And.intro (Nat.lt_of_lt_of_le S2.out.2.2.1 ha.size) ho.2)))
        clear ha ho S2 HC2
        have xc : y3.cell? ⟨wr.heap.size, 2, none⟩ = some (.int .u16 (x.h : Int)) := by rw [cell_of_row y3 wr.heap.size 2 _ 46 (0, 0) S3.out.2.1]; rfl
        have HC3 := Lib.hid (put16_any _ v3 _ x.h _ hx3 S3.out.1.own (by simp only [List.length_append, e16_length]; omega) S3.out.1.bs)
        go_wp2_with fail
        clear xc
        refine HC3.out.mono ?_
        rintro e y4 ⟨v4, rfl, ha, _⟩
        have ho := ha.other S3.out.2.2.1 S3.out.2.2.2
        have S4 := Lib.hid (And.intro (S3.out.1.app ha) (And.intro (ho.1.trans S3.out.2.1) (And.intro (Nat.lt_of_lt_of_le S3.out.2.2.1 ha.size) ho.2)))
        clear ha ho S3 HC3
        have xc : y4.cell? ⟨wr.heap.size, 3, none⟩ = some (.bool false) := by rw [cell_of_row y4 wr.heap.size 3 _ 46 (0, 0) S4.out.2.1]; rfl
        obtain ⟨v5, y5, hr5, ha5, _⟩ := app_lit _ v4 _ (e16 0) _ y4 (e16_cells 0 (by decide)) 2 rfl (by simp [e16]) S4.out.1.own (by simp only [List.length_append, e16_length]; omega) S4.out.1.bs
        have S5 := Lib.hid (S4.out.1.app ha5)
        clear ha5 S4
        simp only [Int.natCast_zero, Int.zero_ediv, Int.zero_emod] at hr5
        go_wp2_with (first | (at_builtin; refine wpList_app rfl _ _ _ _ rfl _ _ rfl rfl hr5 ?_))
        go_roundw
        case rel =>
          refine ⟨j + 1, by omega, by go_num, ?_⟩
          have e : front ms ml code hn ++ hbys (hs.take (j + 1)) = front ms ml code hn ++ hbys (hs.take j) ++ e16 x.s ++ e16 x.e ++ e16 x.h ++ e16 0 := by
            rw [hbys_next HX.out]; simp [hby, hh, puts]
          rw [e]; exact S5
        case measure => simp [RowKit.intOf]; omega
      · skip
        rw [hh] at hr
        have HR := Lib.hid hr
        have hB1 := alloc_below wr (.cells #[.int .u16 (x.s : Int), .int .u16 (x.e : Int), .int .u16 (x.h : Int), .bool true, .slice a1 x.c.length c1] 46)
        have hnew := heap_alloc_new wr (.cells #[.int .u16 (x.s : Int), .int .u16 (x.e : Int), .int .u16 (x.h : Int), .bool true, .slice a1 x.c.length c1] 46)
        have hsz : wr.heap.size < (wr.alloc (.cells #[.int .u16 (x.s : Int), .int .u16 (x.e : Int), .int .u16 (x.h : Int), .bool true, .slice a1 x.c.length c1] 46)).heap.size := by simp
        have s1 := HJ.out.later hB1
        have hne1 : u14.ownBlock ≠ some wr.heap.size := fun e => by have := (HJ.out.own.lt _ e).2; omega
        have S1 := Lib.hid (And.intro s1 (And.intro hnew (And.intro hsz hne1)))
        have HC1 := Lib.hid (put16_any _ u14 _ x.s _ hx1 s1.own (by rw [List.length_append]; omega) s1.bs)
        clear s1 hnew hsz hne1 hB1 HJ
        go_wp2_with (first | refine wpList_load_mid rfl 46 _ rfl b (o + j * 5) rfl _ _ HR.out Yba.underlying46 rfl info46 ?_)
        refine HC1.out.mono ?_
        rintro e y2 ⟨v2, rfl, ha, _⟩
        have ho := ha.other S1.out.2.2.1 S1.out.2.2.2
        have S2 := Lib.hid (And.intro (S1.out.1.app ha) (And.intro (ho.1.trans S1.out.2.1) (And.intro (Nat.lt_of_lt_of_le S1.out.2.2.1 ha.size) ho.2)))
        clear ha ho S1 HC1
        have xc : y2.cell? ⟨wr.heap.size, 1, none⟩ = some (.int .u16 (x.e : Int)) := by rw [cell_of_row y2 wr.heap.size 1 _ 46 (0, 0) S2.out.2.1]; rfl
        have HC2 := Lib.hid (put16_any _ v2 _ x.e _ hx2 S2.out.1.own (by simp only [List.length_append, e16_length]; omega) S2.out.1.bs)
        go_wp2_with fail
        clear xc
        refine HC2.out.mono ?_
        rintro e y3 ⟨v3, rfl, ha, _⟩
        have ho := ha.other S2.out.2.2.1 S2.out.2.2.2
        have S3 := Lib.hid (And.intro (S2.out.1.app ha) (And.intro (ho.1.trans S2.out.2.1) (And.intro (Nat.lt_of_lt_of_le S2.out.2.2.1 ha.size) ho.2)))
        clear ha ho S2 HC2
        have xc : y3.cell? ⟨wr.heap.size, 2, none⟩ = some (.int .u16 (x.h : Int)) := by rw [cell_of_row y3 wr.heap.size 2 _ 46 (0, 0) S3.out.2.1]; rfl
        have HC3 := Lib.hid (put16_any _ v3 _ x.h _ hx3 S3.out.1.own (by simp only [List.length_append, e16_length]; omega) S3.out.1.bs)
        go_wp2_with fail
        clear xc
        refine HC3.out.mono ?_
        rintro e y4 ⟨v4, rfl, ha, _⟩
        have ho := ha.other S3.out.2.2.1 S3.out.2.2.2
        have S4 := Lib.hid (And.intro (S3.out.1.app ha) (And.intro (ho.1.trans S3.out.2.1) (And.intro (Nat.lt_of_lt_of_le S3.out.2.2.1 ha.size) ho.2)))
        clear ha ho S3 HC3
        have xc : y4.cell? ⟨wr.heap.size, 3, none⟩ = some (.bool true) := by rw [cell_of_row y4 wr.heap.size 3 _ 46 (0, 0) S4.out.2.1]; rfl
        have xd : y4.cell? ⟨wr.heap.size, 4, none⟩ = some (.slice a1 x.c.length c1) := by rw [cell_of_row y4 wr.heap.size 4 _ 46 (0, 0) S4.out.2.1]; rfl
        obtain ⟨v5, y5, hr5, ha5, _⟩ := app_rd 23 S4.out.1.own (RD.out.below (HLOW.out.trans (S4.out.1.low.mono hBw))) (by simp only [List.length_append, e16_length]; omega) S4.out.1.bs
        have S5 := Lib.hid (S4.out.1.app ha5)
        clear ha5 S4
        go_wp2_with (first | (at_builtin; refine wpList_app rfl _ _ _ _ rfl _ _ rfl rfl hr5 ?_))
        go_roundw
        case rel =>
          refine ⟨j + 1, by omega, by go_num, ?_⟩
          have e : front ms ml code hn ++ hbys (hs.take (j + 1)) = front ms ml code hn ++ hbys (hs.take j) ++ e16 x.s ++ e16 x.e ++ e16 x.h ++ x.c := by
            rw [hbys_next HX.out]; simp [hby, hh, puts]
          rw [e]; exact S5
        case measure => simp [RowKit.intOf]; omega
    case neg =>
      have ej : j = hn := by omega
      subst ej
      have S12 : Hid (WS (w5.heap.size + 1) W6 u14 (front ms ml code j ++ hbys hs) wr) := by
        have := HJ.out
        rw [show hs.take j = hs from by rw [← HL.out.2.1, List.take_length]] at this
        exact this
      clear HJ
      have hlen : (front ms ml code j ++ hbys hs).length ≤ 10000000 := by
        have h1 := hbys_length hs HS.out.ch
        have h2 := HS.out.lh
        have h3 := HL.out.1
        simp only [front, List.length_append, puts_length, e32_length, List.length_cons, List.length_nil]
        omega
      have HC5 := Lib.hid (put16_any _ u14 _ an' wr (by omega) S12.out.own (by omega) S12.out.bs)
      go_wp2_with fail
      refine HC5.out.mono ?_
      rintro e w13 ⟨v13, rfl, ha13, _⟩
      have S13 : Hid (L2 (w5.heap.size + 1) W6 v13 nil nil (run (front ms ml code j ++ hbys hs ++ e16 an') (ats.take 0)).1 (poolOf (run (front ms ml code j ++ hbys hs ++ e16 an') (ats.take 0)).1) (run (front ms ml code j ++ hbys hs ++ e16 an') (ats.take 0)).2 w13) :=
        ⟨S12.out.app ha13, World.ownsRow_nil _ _ _ _, Bs.nil _ _, fun k _ e => (by simp [Value.ownBlock] at e), fun k _ e => (by simp [Value.ownBlock] at e), fun k _ e => (by simp [Value.ownBlock] at e)⟩
      clear ha13 S12 HC5
      go_wp2_with fail
      go_loopw [14, 17, 18, 92] (fun wv nv pv i wr => ∃ k : Nat, k ≤ an' ∧ i = .int .i64 k ∧ Hid (L2 (w5.heap.size + 1) W6 wv nv pv (run (front ms ml code j ++ hbys hs ++ e16 an') (ats.take k)).1 (poolOf (run (front ms ml code j ++ hbys hs ++ e16 an') (ats.take k)).1) (run (front ms ml code j ++ hbys hs ++ e16 an') (ats.take k)).2 wr)) (fun _ _ _ i _ => an' - (RowKit.intOf i).toNat)
      case atStart => exact ⟨0, Nat.zero_le _, rfl, S13⟩
      case round =>
        clear S13
        obtain ⟨k, hk, rfl, HK⟩ := hrel
        obtain ⟨wo, hwo⟩ : ∃ W, W = wr := ⟨_, rfl⟩
        subst hwo
        by_cases hkl : k < an'
        case pos =>
          obtain ⟨x, hx⟩ : ∃ x, ats[k]? = some x := ⟨_, List.getElem?_eq_getElem (by have := HL.out.2.2; omega)⟩
          obtain ⟨b, o, rfl, hat0⟩ := HP.out.2.2 k x hx
          have hat := hat0.below (HLOW.out.trans (HK.out.wn.low.mono hBw))
          obtain ⟨a1, c1, hcv⟩ := hat.rd.len
          have hr := hat.range
          unfold Am.cells at hr
          have hrd := hat0.rd
          rw [hcv] at hr hrd
          have RD := Lib.hid hrd
          have HR := Lib.hid hr
          have hxm := List.mem_of_getElem? hx
          have hxn := HS.out.nm x hxm
          have hxi := HS.out.inf x hxm
          obtain ⟨bd1, bd2, bd3⟩ := run_bounds (front ms ml code j ++ hbys hs ++ e16 an') ats HS.out.nm HS.out.inf k (by have := HL.out.2.2; omega)
          have est := Lib.hid (run_next (l := front ms ml code j ++ hbys hs ++ e16 an') hx)
          rw [List.length_append, e16_length] at bd3
          revert est bd1 bd2 bd3 HK
          generalize run (front ms ml code j ++ hbys hs ++ e16 an') (ats.take k) = st
          obtain ⟨ns, bs⟩ := st
          intro HK bd1 bd2 bd3 est
          simp only at bd1 bd2 bd3 HK
          obtain ⟨na, nc, rfl, hns⟩ := HK.out.nm.shape
          have HNS := Lib.hid hns
          obtain ⟨nl, hnl⟩ : ∃ n, ns.length = n := ⟨_, rfl⟩
          have HNL := Lib.hid hnl
          rw [hnl] at HK bd1 ⊢
          have hB1 := alloc_below wo (.cells #[.string x.name, .slice a1 x.info.length c1] 47)
          have hnew := heap_alloc_new wo (.cells #[.string x.name, .slice a1 x.info.length c1] 47)
          have hszA : wo.heap.size < (wo.alloc (.cells #[.string x.name, .slice a1 x.info.length c1] 47)).heap.size := by simp
          have J1 : Hid (JJ (w5.heap.size + 1) W6 u14 (.slice na nl nc) u18 ns bs x.name a1 x.info.length c1 wo (wo.alloc (.cells #[.string x.name, .slice a1 x.info.length c1] 47))) := ⟨HK.out.later hB1, hnew, hszA, hB1⟩
          clear hB1 hnew hszA hr hrd hat hat0 hcv hx hxm hns hnl
          go_upto_block 4 with (first | refine wpList_load_mid rfl 47 _ rfl b (o + k * 2) rfl _ _ HR.out Yba.underlying47 rfl info47 ?_)
          go_cut [21, 22] (fun q _ W' => q = .int .i64 (if pos ns x.name < nl then (pos ns x.name : Int) else -1) ∧ Hid (JJ (w5.heap.size + 1) W6 u14 (.slice na nl nc) u18 ns bs x.name a1 x.info.length c1 wo W'))
          case first =>
            go_wp2_with fail
            go_loopw [21, 22] (fun q i wi => ∃ t : Nat, t ≤ nl ∧ i = .int .i64 t ∧ q = .int .i64 (-1) ∧ t ≤ pos ns x.name ∧ Hid (JJ (w5.heap.size + 1) W6 u14 (.slice na nl nc) u18 ns bs x.name a1 x.info.length c1 wo wi)) (fun _ i _ => nl - (RowKit.intOf i).toNat)
            case atStart => exact ⟨0, Nat.zero_le _, rfl, rfl, Nat.zero_le _, J1⟩
            case round =>
              obtain ⟨t, ht, rfl, rfl, htp, HT⟩ := hrel
              by_cases htl : t < nl
              case pos =>
                obtain ⟨nt, hnt⟩ : ∃ r, ns[t]? = some r := ⟨_, List.getElem?_eq_getElem (by have := HNL.out; omega)⟩
                obtain ⟨g, rfl, hcell0⟩ := HNS.out t nt hnt
                have hcell : wr.cell? ⟨g, t, none⟩ = some (.string nt) := (HT.out.lo.cell (p := ⟨g, t, none⟩) (World.block_lt_of_cell? wo _ hcell0)).trans hcell0
                have hcell2 : wr.cell? ⟨wo.heap.size, 0, none⟩ = some (.string x.name) := by rw [cell_of_row wr wo.heap.size 0 _ 47 (0, 0) HT.out.hx]; rfl
                clear hcell0 J1
                by_cases he : nt = x.name
                case pos =>
                  subst he
                  have ep := pos_found htp hnt
                  have hti : (t : Int) < (nl : Int) := by omega
                  go_wp2_with fail
                  go_quiet (fail)
                  go_wp2_with fail
                  go_meet
                  case rel => exact ⟨by rw [ep, if_pos htl], HT.out.drew _⟩
                case neg =>
                  have ep := pos_next htp hnt he
                  have hti : (t : Int) < (nl : Int) := by omega
                  have heq := ba_beq he
                  go_wp2_with fail
                  go_quiet (fail)
                  go_wp2_with fail
                  go_roundw
                  case rel => exact ⟨t + 1, by omega, by go_num, rfl, ep, HT.out.drew _⟩
                  case measure => simp [RowKit.intOf]; omega
              case neg =>
                have et : t = nl := by omega
                subst et
                clear J1
                go_wp2_with fail
                go_meet
                case rel => exact ⟨by rw [if_neg (by omega)], HT⟩
          case rest =>
            obtain ⟨rfl, HJ⟩ := hcut
            have hwb : ∀ k, u14.ownBlock = some k → k < wo.heap.size := fun k hk => (HK.out.wn.own.lt k hk).2
            have hnb : ∀ k, (Value.slice na nl nc).ownBlock = some k → k < wo.heap.size := fun k hk => (World.ownsRow.lt HK.out.nm k hk).2
            have hpb : ∀ k, u18.ownBlock = some k → k < wo.heap.size := fun k hk => (HK.out.pl.lt k hk).2
            have HWB := Lib.hid (And.intro hwb (And.intro hnb hpb))
            clear hwb hnb hpb J1
            generalize hidx : (if pos ns x.name < nl then (pos ns x.name : Int) else -1) = idx
            have HIDX := Lib.hid hidx
            clear hidx
            have hple := pos_le ns x.name
            rw [HNL.out] at hple
            go_upto_if 111 with fail
            go_cut [17, 18, 21] (fun nv' pv' q W' => q = .int .i64 (pos ns x.name : Int) ∧ Hid (KK (w5.heap.size + 1) W6 u14 nv' pv' (add ns x.name) bs x.name a1 x.info.length c1 wo.heap.size W'))
            case first =>
              by_cases hp : pos ns x.name < nl
              case pos =>
                have e := HIDX.out
                rw [if_pos hp] at e
                subst e
                have hnn : ¬ ((pos ns x.name : Int) < 0) := by omega
                have F : Hid (KK (w5.heap.size + 1) W6 u14 (.slice na nl nc) u18 (add ns x.name) bs x.name a1 x.info.length c1 wo.heap.size wc) := by
                  have ea : add ns x.name = ns := by unfold add; rw [if_pos (by rw [HNL.out]; exact hp)]
                  rw [ea]
                  exact ⟨HJ.out.l2, HJ.out.hx, HJ.out.sz, fun e => by have := HWB.out.1 _ e; omega⟩
                go_wp2_with fail
                go_meet
                case rel => exact ⟨rfl, F⟩
              case neg =>
                have e := HIDX.out
                rw [if_neg hp] at e
                subst e
                have hpe : pos ns x.name = nl := by omega
                have n0 : wc.cell? ⟨wo.heap.size, 0, none⟩ = some (.string x.name) := by rw [cell_of_row wc wo.heap.size 0 _ 47 (0, 0) HJ.out.hx]; rfl
                obtain ⟨g3, c3, w3, hr3, ho3, hg3, hl3⟩ := app_struct Yba.underlying33 info9b rfl (by decide) (by decide) (w := wc) [.string x.name] rfl (by simp [Value.oneCell']) HJ.out.l2.nm (by have := HNL.out; omega) HJ.out.l2.wn.bs
                have l3 := HJ.out.l2.names hg3 ho3 hl3
                have x3 : w3.heap[wo.heap.size]? = some (.cells #[.string x.name, .slice a1 x.info.length c1] 47 (0, 0)) := (hg3.block wo.heap.size HJ.out.sz (fun e => by have := HWB.out.2.1 _ e.symm; omega)).trans HJ.out.hx
                have z3 : wo.heap.size < w3.heap.size := Nat.lt_of_lt_of_le HJ.out.sz hg3.size
                obtain ⟨v4, w4, hr4, ha4, _⟩ := app_lit (w5.heap.size + 1) u18 (poolOf ns) [1] #[.int .u8 1] w3 rfl 1 rfl (by simp) l3.pl (by simp; omega) l3.wn.bs
                have l4 := l3.pool ha4
                have o4 := ha4.other z3 (fun e => by have := HWB.out.2.2 _ e; omega)
                have z4 : wo.heap.size < w4.heap.size := Nat.lt_of_lt_of_le z3 ha4.size
                have n4 : w4.cell? ⟨wo.heap.size, 0, none⟩ = some (.string x.name) := by rw [cell_of_row w4 wo.heap.size 0 _ 47 (0, 0) (o4.1.trans x3)]; rfl
                have hxni : (x.name.size : Int) ≤ 1024 := by omega
                have HC4 := Lib.hid (put16_any _ v4 _ x.name.size w4 (by omega) l4.pl (by simp; omega) l4.wn.bs)
                have S4 := Lib.hid (And.intro l4 (And.intro (o4.1.trans x3) (And.intro z4 o4.2)))
                rw [HNL.out] at hr3
                clear l3 l4 o4 ha4 ho3 hg3 hl3 x3 HJ
                go_wp2_with (first | (at_builtin; refine wpList_app rfl _ _ _ _ rfl _ _ rfl rfl hr3 ?_) | (at_builtin; refine wpList_app rfl _ _ _ _ rfl _ _ rfl rfl hr4 ?_))
                refine HC4.out.mono ?_
                rintro e w6' ⟨v6, rfl, ha6, _⟩
                have o6 := ha6.other S4.out.2.2.1 S4.out.2.2.2
                have l6 := S4.out.1.pool ha6
                have x6 := o6.1.trans S4.out.2.1
                have z6 := Nat.lt_of_lt_of_le S4.out.2.2.1 ha6.size
                have n6 : w6'.cell? ⟨wo.heap.size, 0, none⟩ = some (.string x.name) := by rw [cell_of_row w6' wo.heap.size 0 _ 47 (0, 0) x6]; rfl
                obtain ⟨v7', w7', hr7, ha7, _⟩ := app_str 23 x.name l6.pl (by simp [e16]; omega) l6.wn.bs
                have l7 := l6.pool ha7
                have F : Hid (KK (w5.heap.size + 1) W6 u14 (.slice (some ⟨g3, 0, none⟩) (nl + 1) c3) v7' (add ns x.name) bs x.name a1 x.info.length c1 wo.heap.size w7') := by
                  have ea : add ns x.name = ns ++ [x.name] := by unfold add; rw [if_neg (by rw [HNL.out]; exact hp)]
                  have eb : poolOf (ns ++ [x.name]) = poolOf ns ++ [1] ++ e16 x.name.size ++ x.name.data.toList := by simp [poolOf, ent]
                  rw [ea]
                  refine ⟨by rw [eb, ← HNL.out]; exact l7, (ha7.other z6 o6.2).1.trans x6, Nat.lt_of_lt_of_le z6 ha7.size, fun e => by have := HWB.out.1 _ e; omega⟩
                clear l6 l7 ha6 ha7 o6 x6 S4 HC4
                go_wp2_with (first | (at_builtin; refine wpList_app rfl _ _ _ _ rfl _ _ rfl rfl hr7 ?_))
                go_meet
                case rel => exact ⟨by rw [hpe], F⟩
            case rest =>
              obtain ⟨rfl, HQ⟩ := hcut
              have hpi : (pos ns x.name : Int) ≤ 1024 := by omega
              have hC := put16_any _ u14 _ (pos ns x.name + 1) wc (by omega) HQ.out.l2.wn.own (by omega) HQ.out.l2.wn.bs
              rw [show ((pos ns x.name + 1 : Nat) : Int) = (pos ns x.name : Int) + 1 from by omega] at hC
              have HC6 := Lib.hid hC
              clear hC
              go_wp2_with fail
              refine HC6.out.mono ?_
              rintro e y1 ⟨z1, rfl, ha1, _⟩
              have l1 := HQ.out.l2.want ha1
              have o1 := ha1.other HQ.out.sz HQ.out.wp
              have x1 := o1.1.trans HQ.out.hx
              have s1 := Nat.lt_of_lt_of_le HQ.out.sz ha1.size
              have m1 : y1.cell? ⟨wo.heap.size, 1, none⟩ = some (.slice a1 x.info.length c1) := by rw [cell_of_row y1 wo.heap.size 1 _ 47 (0, 0) x1]; rfl
              have hxii : (x.info.length : Int) ≤ 1024 := by omega
              have HC7 := Lib.hid (put32_any _ z1 _ x.info.length y1 (by omega) l1.wn.own (by simp only [List.length_append, e16_length]; omega) l1.wn.bs)
              have T1 := Lib.hid (And.intro l1 (And.intro x1 (And.intro s1 o1.2)))
              clear l1 x1 s1 o1 ha1 HC6 HQ
              go_wp2_with fail
              refine HC7.out.mono ?_
              rintro e y2 ⟨z2, rfl, ha2, _⟩
              have l2 := T1.out.1.want ha2
              have o2 := ha2.other T1.out.2.2.1 T1.out.2.2.2
              have x2 := o2.1.trans T1.out.2.1
              have m2 : y2.cell? ⟨wo.heap.size, 1, none⟩ = some (.slice a1 x.info.length c1) := by rw [cell_of_row y2 wo.heap.size 1 _ 47 (0, 0) x2]; rfl
              obtain ⟨z3, y3, hr3, ha3, _⟩ := app_rd 23 l2.wn.own (RD.out.below (HLOW.out.trans (l2.wn.low.mono hBw))) (by simp only [List.length_append, e16_length, e32_length]; omega) l2.wn.bs
              have l3 := l2.want ha3
              have FIN : Hid (L2 (w5.heap.size + 1) W6 z3 u17 u18 (run (front ms ml code j ++ hbys hs ++ e16 an') (ats.take (k + 1))).1 (poolOf (run (front ms ml code j ++ hbys hs ++ e16 an') (ats.take (k + 1))).1) (run (front ms ml code j ++ hbys hs ++ e16 an') (ats.take (k + 1))).2 y3) := by
                rw [est.out]
                exact l3
              clear l2 l3 ha2 ha3 o2 x2 T1 HC7 m1
              go_wp2_with (first | (at_builtin; refine wpList_app rfl _ _ _ _ rfl _ _ rfl rfl hr3 ?_))
              go_roundw
              case rel => exact ⟨k + 1, by omega, by go_num, FIN⟩
              case measure => simp [RowKit.intOf]; omega
        case neg =>
          have ek : k = an' := by omega
          subst ek
          have hL := HK.out
          rw [show ats.take k = ats from by rw [← HL.out.2.2, List.take_length]] at hL
          obtain ⟨hg1, _, hg3, hg4, hg5⟩ := HG.out
          rw [run_strip hg5] at hg1 hg3
          obtain ⟨bd1, _, _⟩ := run_bounds (front ms ml code j ++ hbys hs ++ e16 k) ats HS.out.nm HS.out.inf k (by have := HL.out.2.2; omega)
          rw [show ats.take k = ats from by rw [← HL.out.2.2, List.take_length]] at bd1
          revert hL hg1 hg3 bd1
          generalize run (front ms ml code j ++ hbys hs ++ e16 k) ats = st
          obtain ⟨ns, bs⟩ := st
          intro hL hg1 hg3 bd1
          simp only at hL hg1 hg3 bd1
          have hBz := HS0.out
          have hlw : Below W6.heap.size W6 wo := by rw [hBz]; exact hL.wn.low
          obtain ⟨pv0, e8, r8, e9⟩ := hg3.reads
          have q8 : wo.cell? ⟨w2.heap.size + 1, 8, none⟩ = some pv0 := (hlw.cell (p := ⟨w2.heap.size + 1, 8, none⟩) (World.block_lt_of_cell? W6 _ e8)).trans e8
          have q9 : wo.cell? ⟨w2.heap.size + 1, 9, none⟩ = some (.int .u16 (if ns.length = 0 then 0 else (ns.length : Int) + 1)) := (hlw.cell (p := ⟨w2.heap.size + 1, 9, none⟩) (World.block_lt_of_cell? W6 _ e9)).trans e9
          have hgw : wo.heap[w5.heap.size]? = some (.cells #[.string ⟨#[67, 111, 100, 101]⟩, .slice g5 n5 c5] 40 (0, 0)) := (hlw.block w5.heap.size (by omega)).trans hg4
          have q0 : wo.cell? ⟨w5.heap.size, 0, none⟩ = some (.string ⟨#[67, 111, 100, 101]⟩) := by rw [cell_of_row wo w5.heap.size 0 _ 40 (0, 0) hgw]; rfl
          have q1 : wo.cell? ⟨w5.heap.size, 1, none⟩ = some (.slice g5 n5 c5) := by rw [cell_of_row wo w5.heap.size 1 _ 40 (0, 0) hgw]; rfl
          have E1 := Lib.hid (equal_any (.slice g5 n5 c5) u14 bs wo (hg1.below hlw) hL.wn.own.rd)
          have E2 := Lib.hid (equal_any pv0 u18 (poolOf ns) wo (r8.below hlw) hL.pl.rd)
          obtain ⟨na, nc, rfl, _⟩ := hL.nm.shape
          obtain ⟨nl, hnl⟩ : ∃ n, ns.length = n := ⟨_, rfl⟩
          rw [hnl] at q9 bd1 ⊢
          have FB := Lib.hid (HLOW.out.trans (hL.wn.low.mono hBw))
          have hnli : (nl : Int) ≤ 1024 := by omega
          clear hL hg1 hg3 hg4 hg5 hgw r8 e8 e9 hlw HK HG hnl
          by_cases h0 : nl = 0
          case pos =>
            subst h0
            rw [if_pos rfl] at q9
            go_wp2_with fail
            refine E1.out.mono ?_
            rintro e wz ⟨rfl, rfl⟩
            go_wp2_with fail
            refine E2.out.mono ?_
            rintro e wz ⟨rfl, rfl⟩
            go_wp2_with fail
            go_ret
            exact ⟨rfl, FB.out⟩
          case neg =>
            rw [if_neg h0] at q9
            have h0i : (0 : Int) < (nl : Int) := by omega
            go_wp2_with fail
            refine E1.out.mono ?_
            rintro e wz ⟨rfl, rfl⟩
            go_wp2_with fail
            refine E2.out.mono ?_
            rintro e wz ⟨rfl, rfl⟩
            go_wp2_with fail
            go_ret
            exact ⟨rfl, FB.out⟩
end Go.Proofs.Ybulkajjc
