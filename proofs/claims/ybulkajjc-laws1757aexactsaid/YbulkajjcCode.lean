/-
  (*Class).code.
-/
import Derived.Test.YbulkajjcAttr
namespace Go.Proofs.Ybulkajjc
open Go.RowKit Go.Maps Go.Lib

/-- A handler's bytes. -/
def hby (x : Hm) : List UInt8 := puts [x.s, x.e, x.h] ++ (if x.has then x.c else puts [0])
def hbys (hs : List Hm) : List UInt8 := hs.flatMap hby

theorem hbys_next {hs : List Hm} {j : Nat} {x : Hm} (h : hs[j]? = some x) : hbys (hs.take (j + 1)) = hbys (hs.take j) ++ hby x := by
  unfold hbys
  rw [take_next h]
  simp

theorem hby_length (x : Hm) (h : x.c.length ≤ 1024) : (hby x).length ≤ 1030 := by
  unfold hby
  rw [List.length_append, puts_length]
  split
  · simp only [List.length_cons, List.length_nil]; omega
  · rw [puts_length]; simp only [List.length_cons, List.length_nil]; omega

theorem hbys_length (hs : List Hm) (h : ∀ x ∈ hs, x.c.length ≤ 1024) : (hbys hs).length ≤ 1030 * hs.length := by
  unfold hbys
  induction hs with
  | nil => simp
  | cons x r ih =>
    have h1 := hby_length x (h x (by simp))
    have h2 := ih (fun y hy => h y (by simp [hy]))
    rw [List.flatMap_cons, List.length_append, List.length_cons]
    omega

/-- What stands ahead of the attributes. -/
def front (ms ml : Nat) (code : List UInt8) (n : Nat) : List UInt8 := puts [ms, ml] ++ e32 code.length ++ code ++ puts [n]

/-- A handler of the method. -/
structure CAt (w : World) (b o : Nat) (x : Hm) (cv : Value) : Prop where
  range : w.rangeAt b o [.int .u16 (x.s : Int), .int .u16 (x.e : Int), .int .u16 (x.h : Int), cv]
  yes : x.has = true → Rd w cv x.c ∧ ∃ a n c, cv = .slice (some a) n c
  no : x.has = false → cv = .slice none 0 0
  hs : x.s < 65536
  he : x.e < 65536
  hh : x.h < 65536

def CIn (ha : Option Addr) (hs : List Hm) (w : World) : Prop := ∀ (j : Nat) (x : Hm), hs[j]? = some x → ∃ b o cv, ha = some ⟨b, o, none⟩ ∧ CAt w b (o + j * 4) x cv

theorem info51 : (Yba.prog.info? 51).map (·.size) = some 4 := by kernel_rfl
theorem info30 : (Yba.prog.info? 30).map (·.size) = some 9 := by kernel_rfl

/-- The cells of a method. -/
def mcells (ms ml : Nat) (cv hv av : Value) : Array Value := #[.int .u16 0, .string ByteArray.empty, .string ByteArray.empty, .int .u16 (ms : Int), .int .u16 (ml : Int), cv, hv, av, .slice none 0 0]

theorem mcell {w : World} {b : Nat} {ms ml : Nat} {cv hv av : Value} (h : w.heap[b]? = some (.cells (mcells ms ml cv hv av) 30 (0, 0))) :
    w.cell? ⟨b, 3, none⟩ = some (.int .u16 (ms : Int)) ∧ w.cell? ⟨b, 4, none⟩ = some (.int .u16 (ml : Int)) ∧ w.cell? ⟨b, 5, none⟩ = some cv ∧ w.cell? ⟨b, 6, none⟩ = some hv ∧ w.cell? ⟨b, 7, none⟩ = some av := by
  refine ⟨?_, ?_, ?_, ?_, ?_⟩ <;> (rw [cell_of_row _ b _ _ 30 (0, 0) h]; rfl)

/-- The state of the walk: the class, the row, the two variables at p and p + 1. -/
structure St (p base cb : Nat) (w0 : World) (mc : Array Value) (v : Value) (l : List UInt8) (w : World) : Prop where
  both : Both (fun k => k = p ∨ k = p + 1) w base cb [] v l
  low : Below base w0 w
  hm : w.heap[p]? = some (.cells mc 30 (0, 0))
  hr : w.heap[p + 1]? = some (.cells #[.string ⟨#[]⟩, .slice none 0 0] 40 (0, 0))
  bs : base ≤ w.heap.size

theorem St.app {p base cb : Nat} {w0 : World} {mc : Array Value} {v v' : Value} {l l' : List UInt8} {w w' : World} (h : St p base cb w0 mc v l w) (ha : App base w w' v v' l') : St p base cb w0 mc v' l' w' := by
  have hk := h.both.keeps ha h.bs
  exact ⟨h.both.app ha, h.low.trans hk.below, (hk.no p (.inl rfl)).trans h.hm, (hk.no (p + 1) (.inr rfl)).trans h.hr, Nat.le_trans h.bs ha.size⟩

theorem St.later {p base cb : Nat} {w0 : World} {mc : Array Value} {v : Value} {l : List UInt8} {w w' : World} (h : St p base cb w0 mc v l w) (hb : Below w.heap.size w w') : St p base cb w0 mc v l w' := by
  have hk := h.both.laterK hb h.bs
  exact ⟨h.both.later hb, h.low.trans hk.below, (hk.no p (.inl rfl)).trans h.hm, (hk.no (p + 1) (.inr rfl)).trans h.hr, Nat.le_trans h.bs hb.size⟩

/-- be16 behind the making of its list. -/
theorem St.be {p base cb : Nat} {w0 : World} {mc : Array Value} {v : Value} {l : List UInt8} {w : World} (h : St p base cb w0 mc v l w) (vs : List Nat) (cs : Array Value) (hc : cs.toList = vs.map (fun x : Nat => Value.int .u16 (x : Int))) (n : Nat) (hn : n = vs.length) (hlt : ∀ x ∈ vs, x < 65536) (hl : l.length + 2 * vs.length ≤ 100000000) :
    Calls Yba.prog 11 #[v, .slice (some ⟨w.heap.size, 0, none⟩) n n] (w.alloc (.cells cs 22)) (fun e w' => ∃ v', e = .returned v' ∧ St p base cb w0 mc v' (l ++ puts vs) w' ∧ App base w w' v v' (l ++ puts vs)) := by
  have hB := alloc_below w (.cells cs 22)
  have h2 := h.later hB
  refine (be16_any base v l w.heap.size vs n n hn _ (nums_new w vs cs hc) hlt (fun e => by have := (h.both.own.lt _ e).2; omega) h2.both.own hl h2.bs).mono ?_
  rintro e w' ⟨v', rfl, ha⟩
  exact ⟨v', rfl, h2.app ha, App.pre hB ha⟩

/-- A result that lies in a variable of its own. -/
theorem results_row {P : Program} {fn : Func} {p : Tmp} {ty : TypeId} (h : fn.results = #[.cell p ty]) (tmps : Array Value) (w : World) (g : Nat) (hp : tmps.getD p undef = .pointer (some ⟨g, 0, none⟩)) (cs : List Value) (d : TypeDesc)
    (hc : w.rangeAt g 0 cs) (hu : P.underlying ty = some d) (hd : d.isRow = true) (hi : (P.info? ty).map (·.size) = some cs.length) :
    (results fn tmps).run P w = .ok (.agg cs.toArray) w := by
  rw [Array.getD_eq_getD_getElem?] at hp
  simp only [results, h]
  simp [hp, run_loadVar_mid w g 0 ty cs d hc hu hd hi, asAddr]

theorem sl_nil (w : World) : (binOp .eql 23 (.slice none 0 0) (.slice none 0 0)).run Yba.prog w = .ok (.bool true) w := by kernel_rfl
theorem sl_some (a : Addr) (n c : Nat) (w : World) : (binOp .eql 23 (.slice (some a) n c) (.slice none 0 0)).run Yba.prog w = .ok (.bool false) w := by kernel_rfl

set_option maxHeartbeats 1000000 in
theorem code_any (base cb ms ml : Nat) (cva : Option Addr) (cvc : Nat) (code : List UInt8) (ha : Option Addr) (hc : Nat) (hs : List Hm) (aa : Option Addr) (ac : Nat) (ats : List Am) (w0 w : World) (hw0 : base = w0.heap.size) (hB : Below base w0 w) (hms : ms < 65536) (hml : ml < 65536)
    (hcl : Cl w base cb [] (fun _ => False)) (hcode : Rd w0 (.slice cva code.length cvc) code) (hH : CIn ha hs w0) (hA : AIn aa ats w0) (hsm : Small code hs ats) :
    Calls Yba.prog 7 #[.pointer (some ⟨cb, 0, none⟩), .agg (mcells ms ml (.slice cva code.length cvc) (.slice ha hs.length hc) (.slice aa ats.length ac))] w fun e w' =>
      ∃ v', e = .returned (.agg #[.string ⟨#[67, 111, 100, 101]⟩, v']) ∧
        Both (fun _ => False) w' base cb (run (front ms ml code hs.length ++ hbys hs ++ e16 ats.length) ats).1 v' (run (front ms ml code hs.length ++ hbys hs ++ e16 ats.length) ats).2 ∧ Below base w0 w' := by
  have hbs : base ≤ w.heap.size := by rw [hw0]; exact hB.size
  obtain ⟨hn, hhn⟩ : ∃ n, hs.length = n := ⟨_, rfl⟩
  obtain ⟨cn, hcn⟩ : ∃ n, code.length = n := ⟨_, rfl⟩
  obtain ⟨an, han⟩ : ∃ n, ats.length = n := ⟨_, rfl⟩
  rw [hcn] at hcode ⊢
  rw [hhn, han]
  have han1 : an ≤ 1024 := by rw [← han]; exact hsm.la
  have hcn1 : cn ≤ 1024 := by rw [← hcn]; exact hsm.lc
  have hhn1 : hn ≤ 1024 := by rw [← hhn]; exact hsm.lh
  -- the two variables
  have hA1 := alloc_below w (.cells (mcells ms ml (.slice cva cn cvc) (.slice ha hn hc) (.slice aa an ac)) 30)
  have hA2 := alloc_below (w.alloc (.cells (mcells ms ml (.slice cva cn cvc) (.slice ha hn hc) (.slice aa an ac)) 30)) (.cells #[.string ⟨#[]⟩, .slice none 0 0] 40)
  have hm1 := heap_alloc_new w (.cells (mcells ms ml (.slice cva cn cvc) (.slice ha hn hc) (.slice aa an ac)) 30)
  have hm2 := heap_alloc_new (w.alloc (.cells (mcells ms ml (.slice cva cn cvc) (.slice ha hn hc) (.slice aa an ac)) 30)) (.cells #[.string ⟨#[]⟩, .slice none 0 0] 40)
  have hs1 : (w.alloc (.cells (mcells ms ml (.slice cva cn cvc) (.slice ha hn hc) (.slice aa an ac)) 30)).heap.size = w.heap.size + 1 := by simp
  have hs2 : ((w.alloc (.cells (mcells ms ml (.slice cva cn cvc) (.slice ha hn hc) (.slice aa an ac)) 30)).alloc (.cells #[.string ⟨#[]⟩, .slice none 0 0] 40)).heap.size = w.heap.size + 1 + 1 := by simp
  rw [hs1] at hA2 hm2
  have hm1' := (hA2.block w.heap.size (by omega)).trans hm1
  have hW1 : Below w.heap.size w ((w.alloc (.cells (mcells ms ml (.slice cva cn cvc) (.slice ha hn hc) (.slice aa an ac)) 30)).alloc (.cells #[.string ⟨#[]⟩, .slice none 0 0] 40)) := hA1.trans (hA2.mono (by omega))
  clear hA1 hA2 hm1 hs1
  revert hs2 hm1' hm2 hW1
  generalize hWe : ((w.alloc (.cells (mcells ms ml (.slice cva cn cvc) (.slice ha hn hc) (.slice aa an ac)) 30)).alloc (.cells #[.string ⟨#[]⟩, .slice none 0 0] 40)) = W1
  intro hm2 hs2 hm1 hW1
  have hWB : base ≤ W1.heap.size := by omega
  have B1 : Both (fun k => k = w.heap.size ∨ k = w.heap.size + 1) W1 base cb [] (.slice none 0 0) [] := by
    refine ⟨Bs.nil _ _, hcl.move (fun k hk _ => hW1.block k hk) (fun k hk h => ?_), fun k hk => by simp [Value.ownBlock] at hk, fun k hk => by omega⟩
    rcases h with h | h
    · simp [Value.ownBlock] at h
    · omega
  have S1 : St w.heap.size base cb w0 (mcells ms ml (.slice cva cn cvc) (.slice ha hn hc) (.slice aa an ac)) (.slice none 0 0) [] W1 := ⟨B1, hB.trans (hW1.mono hbs), hm1, hm2, hWB⟩
  have hC := S1.be [ms, ml] #[.int .u16 (ms : Int), .int .u16 (ml : Int)] rfl 2 rfl (by simp; omega) (by simp)
  rw [hs2] at hC
  have HC1 := Lib.hid hC
  have HP := Lib.hid (And.intro hcode (And.intro hH (And.intro hA (And.intro hsm (And.intro hw0 (And.intro hhn (And.intro hcn han)))))))
  have hcni : (cn : Int) ≤ 1024 := by omega
  have hhni : (hn : Int) ≤ 1024 := by omega
  clear B1 hC S1 hm1 hm2 hWB hs2 hW1 hcode hH hA hsm hcl hB hw0 hhn hcn han
  subst hWe
  generalize hmc : mcells ms ml (.slice cva cn cvc) (.slice ha hn hc) (.slice aa an ac) = mc at *
  have hmc2 := hmc
  unfold mcells at hmc2
  have HMC := Lib.hid hmc
  subst hmc2
  clear hmc
  go_enter Yba.func7, Yba.ntmps7
  go_wp2_with fail
  refine HC1.out.mono ?_
  rintro e w2 ⟨v2, rfl, s2, _⟩
  have S2 := Lib.hid s2
  clear s2 HC1
  obtain ⟨_, _, c5, _, _⟩ := mcell (ms := ms) (ml := ml) (cv := .slice cva cn cvc) (hv := .slice ha hn hc) (av := .slice aa an ac) S2.out.hm
  have HC2 := Lib.hid (au32_any base v2 _ cn w2 (by omega) S2.out.both.own (by simp [puts, e16]) S2.out.bs)
  go_wp2_with fail
  refine HC2.out.mono ?_
  rintro e w3 ⟨v3, rfl, ha3, _⟩
  have S3 := Lib.hid (S2.out.app ha3)
  clear ha3 S2 HC2 c5
  obtain ⟨_, _, c5, c6, _⟩ := mcell (ms := ms) (ml := ml) (cv := .slice cva cn cvc) (hv := .slice ha hn hc) (av := .slice aa an ac) S3.out.hm
  obtain ⟨v4, w4, hr4, ha4, _⟩ := app_rd 23 S3.out.both.own (HP.out.1.below (by rw [← HP.out.2.2.2.2.1]; exact S3.out.low)) (by rw [HP.out.2.2.2.2.2.2.1]; simp [puts, e16, e32]; omega) S3.out.bs
  have S4 := Lib.hid (S3.out.app ha4)
  clear ha4 S3 c6
  obtain ⟨_, _, _, c6, _⟩ := mcell (ms := ms) (ml := ml) (cv := .slice cva cn cvc) (hv := .slice ha hn hc) (av := .slice aa an ac) S4.out.hm
  have HC4 := Lib.hid (S4.out.be [hn] #[.int .u16 (hn : Int)] rfl 1 rfl (by simp; omega) (by have := HP.out.2.2.2.2.2.2.1; simp [puts, e16, e32]; omega))
  go_wp2_with (first | (at_builtin; refine wpList_app rfl _ _ _ _ rfl _ _ rfl rfl hr4 ?_))
  refine HC4.out.mono ?_
  rintro e w5 ⟨v5, rfl, s5, _⟩
  have S5 : Hid (St w.heap.size base cb w0 (mcells ms ml (.slice cva cn cvc) (.slice ha hn hc) (.slice aa an ac)) v5 (front ms ml code hn ++ hbys (hs.take 0)) w5) := by
    have : front ms ml code hn ++ hbys (hs.take 0) = [] ++ puts [ms, ml] ++ e32 cn ++ code ++ puts [hn] := by
      rw [← HP.out.2.2.2.2.2.2.1]; simp [front, hbys]
    rw [this]; exact s5
  clear s5 HC4 S4 hr4 c5 c6
  obtain ⟨_, _, _, c6, _⟩ := mcell S5.out.hm
  go_wp2_with fail
  go_loopw [5, 35] (fun u i wr => ∃ j : Nat, j ≤ hn ∧ i = .int .i64 j ∧ Hid (St w.heap.size base cb w0 (mcells ms ml (.slice cva cn cvc) (.slice ha hn hc) (.slice aa an ac)) u (front ms ml code hn ++ hbys (hs.take j)) wr)) (fun _ i _ => hn - (RowKit.intOf i).toNat)
  case atStart => exact ⟨0, Nat.zero_le _, rfl, S5⟩
  case round =>
    obtain ⟨j, hj, rfl, HJ⟩ := hrel
    by_cases hjl : j < hn
    case pos =>
      obtain ⟨x, hx⟩ : ∃ x, hs[j]? = some x := ⟨_, List.getElem?_eq_getElem (by have := HP.out.2.2.2.2.2.1; omega)⟩
      obtain ⟨b, o, cv, rfl, hat⟩ := HP.out.2.1 j x hx
      have HX := Lib.hid hx
      have hlen : (front ms ml code hn).length + (hbys (hs.take j)).length ≤ 10000000 := by
        have h1 := hbys_length (hs.take j) (fun y hy => HP.out.2.2.2.1.ch y (List.mem_of_mem_take hy))
        have h2 := List.length_take_le j hs
        have h3 := HP.out.2.2.2.2.2.2.1
        simp only [front, List.length_append, puts_length, e32_length, List.length_cons, List.length_nil]
        omega
      clear hx c6 S5
      have hq1 := sl_nil
      have hq2 := sl_some
      cases hh : x.has
      · skip
        have ecv := hat.no hh
        subst ecv
        have HR := Lib.hid (range_below hat.range (by rw [← HP.out.2.2.2.2.1]; exact HJ.out.low))
        have hB1 := alloc_below wr (.cells #[.int .u16 (x.s : Int), .int .u16 (x.e : Int), .int .u16 (x.h : Int), .slice none 0 0] 51)
        have s1 := HJ.out.later hB1
        have hsz : (wr.alloc (.cells #[.int .u16 (x.s : Int), .int .u16 (x.e : Int), .int .u16 (x.h : Int), .slice none 0 0] 51)).heap.size = wr.heap.size + 1 := by simp
        have hul : u5.ownBlock ≠ some wr.heap.size := fun e => by have := (HJ.out.both.own.lt _ e).2; omega
        have hC := s1.be [x.s, x.e, x.h] #[.int .u16 (x.s : Int), .int .u16 (x.e : Int), .int .u16 (x.h : Int)] rfl 3 rfl (by simp; exact ⟨hat.hs, hat.he, hat.hh⟩) (by simp; omega)
        rw [hsz] at hC
        have HC := Lib.hid hC
        have hnew := Lib.hid (heap_alloc_new wr (.cells #[.int .u16 (x.s : Int), .int .u16 (x.e : Int), .int .u16 (x.h : Int), .slice none 0 0] 51))
        clear hC hat s1 hB1 HJ
        go_wp2_with (first | refine wpList_load_mid rfl 51 _ rfl b (o + j * 4) rfl _ _ HR.out Yba.underlying51 rfl info51 ?_)
        refine HC.out.mono ?_
        rintro e w6 ⟨v6, rfl, s6, a6⟩
        have c6 : w6.cell? ⟨wr.heap.size, 3, none⟩ = some (.slice none 0 0) := by
          rw [cell_of_row w6 wr.heap.size 3 _ 51 (0, 0) ((a6.other (by rw [hsz]; omega) hul).1.trans hnew.out)]; rfl
        have S6 := Lib.hid s6
        clear s6 a6 HC hsz hnew
        have HC7 := Lib.hid (S6.out.be [0] #[.int .u16 0] rfl 1 rfl (by simp) (by simp only [List.length_append, puts_length, List.length_cons, List.length_nil]; omega))
        go_wp2_with fail
        refine HC7.out.mono ?_
        rintro e w7 ⟨v7, rfl, s7, _⟩
        have S7 := Lib.hid s7
        clear s7 HC7
        go_wp2_with fail
        go_roundw
        case rel =>
          refine ⟨j + 1, by omega, by go_num, ?_⟩
          have e : front ms ml code hn ++ hbys (hs.take (j + 1)) = front ms ml code hn ++ hbys (hs.take j) ++ puts [x.s, x.e, x.h] ++ puts [0] := by
            rw [hbys_next HX.out]; simp [hby, hh]
          rw [e]; exact S7
        case measure => simp [RowKit.intOf]; omega
      · skip
        obtain ⟨hrd, ca, cl, cc, rfl⟩ := hat.yes hh
        have RD := Lib.hid hrd
        clear hrd
        have HR := Lib.hid (range_below hat.range (by rw [← HP.out.2.2.2.2.1]; exact HJ.out.low))
        have hB1 := alloc_below wr (.cells #[.int .u16 (x.s : Int), .int .u16 (x.e : Int), .int .u16 (x.h : Int), .slice (some ca) cl cc] 51)
        have s1 := HJ.out.later hB1
        have hsz : (wr.alloc (.cells #[.int .u16 (x.s : Int), .int .u16 (x.e : Int), .int .u16 (x.h : Int), .slice (some ca) cl cc] 51)).heap.size = wr.heap.size + 1 := by simp
        have hul : u5.ownBlock ≠ some wr.heap.size := fun e => by have := (HJ.out.both.own.lt _ e).2; omega
        have hC := s1.be [x.s, x.e, x.h] #[.int .u16 (x.s : Int), .int .u16 (x.e : Int), .int .u16 (x.h : Int)] rfl 3 rfl (by simp; exact ⟨hat.hs, hat.he, hat.hh⟩) (by simp; omega)
        rw [hsz] at hC
        have HC := Lib.hid hC
        have hnew := Lib.hid (heap_alloc_new wr (.cells #[.int .u16 (x.s : Int), .int .u16 (x.e : Int), .int .u16 (x.h : Int), .slice (some ca) cl cc] 51))
        clear hC hat s1 hB1 HJ
        go_wp2_with (first | refine wpList_load_mid rfl 51 _ rfl b (o + j * 4) rfl _ _ HR.out Yba.underlying51 rfl info51 ?_)
        refine HC.out.mono ?_
        rintro e w6 ⟨v6, rfl, s6, a6⟩
        have c6 : w6.cell? ⟨wr.heap.size, 3, none⟩ = some (.slice (some ca) cl cc) := by
          rw [cell_of_row w6 wr.heap.size 3 _ 51 (0, 0) ((a6.other (by rw [hsz]; omega) hul).1.trans hnew.out)]; rfl
        have S6 := Lib.hid s6
        clear s6 a6 HC hsz hnew
        obtain ⟨v7, w7, hr7, ha7, _⟩ := app_rd 23 S6.out.both.own (RD.out.below (by rw [← HP.out.2.2.2.2.1]; exact S6.out.low)) (by have := HP.out.2.2.2.1.ch x (List.mem_of_getElem? HX.out); simp only [List.length_append, puts_length, List.length_cons, List.length_nil]; omega) S6.out.bs
        have S7 := Lib.hid (S6.out.app ha7)
        clear ha7
        go_wp2_with (first | (at_builtin; refine wpList_app rfl _ _ _ _ rfl _ _ rfl rfl hr7 ?_))
        go_roundw
        case rel =>
          refine ⟨j + 1, by omega, by go_num, ?_⟩
          have e : front ms ml code hn ++ hbys (hs.take (j + 1)) = front ms ml code hn ++ hbys (hs.take j) ++ puts [x.s, x.e, x.h] ++ x.c := by
            rw [hbys_next HX.out]; simp [hby, hh]
          rw [e]; exact S7
        case measure => simp [RowKit.intOf]; omega
    case neg =>
      have ej : j = hn := by omega
      subst ej
      clear c6 S5
      obtain ⟨_, _, _, _, c7⟩ := mcell HJ.out.hm
      have hfr : (front ms ml code j ++ hbys hs).length ≤ 10000000 := by
        have h1 := hbys_length hs HP.out.2.2.2.1.ch
        have h2 := HP.out.2.2.2.1.lh
        have h3 := HP.out.2.2.2.2.2.2.1
        simp only [front, List.length_append, puts_length, e32_length, List.length_cons, List.length_nil]
        omega
      have S9 : Hid (St w.heap.size base cb w0 (mcells ms ml (.slice cva cn cvc) (.slice ha j hc) (.slice aa an ac)) u5 (front ms ml code j ++ hbys hs) wr) := by
        have := HJ.out
        rw [show hs.take j = hs from by rw [← HP.out.2.2.2.2.2.1, List.take_length]] at this
        exact this
      have hC := attributes_any (fun k => k = w.heap.size ∨ k = w.heap.size + 1) base cb u5 (front ms ml code j ++ hbys hs) aa ac ats w0 wr HP.out.2.2.2.2.1 S9.out.both HP.out.2.2.1 S9.out.low HP.out.2.2.2.1.la HP.out.2.2.2.1.nm HP.out.2.2.2.1.inf hfr
      rw [HP.out.2.2.2.2.2.2.2] at hC
      have HC := Lib.hid hC
      clear hC HJ
      go_wp2_with fail
      refine HC.out.mono ?_
      rintro e w8 ⟨v8, rfl, b8, k8⟩
      obtain ⟨qa, qn, qc, rfl⟩ := b8.own.rd.shape
      have hr8 := (k8.no (w.heap.size + 1) (.inr rfl)).trans S9.out.hr
      have r0 : w8.cell? ⟨w.heap.size + 1, 0, none⟩ = some (.string ⟨#[]⟩) := by rw [cell_of_row w8 _ 0 _ 40 (0, 0) hr8]; rfl
      have r1 : w8.cell? ⟨w.heap.size + 1, 1, none⟩ = some (.slice none 0 0) := by rw [cell_of_row w8 _ 1 _ 40 (0, 0) hr8]; rfl
      have f0 : w8.frozen? ⟨w.heap.size + 1, 0, none⟩ = false := by simp [World.frozen?, hr8]
      have f1 : w8.frozen? ⟨w.heap.size + 1, 1, none⟩ = false := by simp [World.frozen?, hr8]
      have B8 := Lib.hid (And.intro b8 k8)
      clear b8 k8 hr8 HC c7
      go_wp2_with fail
      refine bodyPost_ret (v := .agg #[.string ⟨#[67, 111, 100, 101]⟩, .slice qa qn qc]) (results_row Yba.results7 _ _ (w.heap.size + 1) rfl [.string ⟨#[67, 111, 100, 101]⟩, .slice qa qn qc] _ (fun i u hu => ?_) Yba.underlying40 rfl info40) rfl ⟨.slice qa qn qc, rfl, ⟨?_, ?_, fun _ _ h => h, fun _ h => h.elim⟩, ?_⟩
      · rcases i with _ | _ | i
        · cases hu
          rw [sc_other (by simp)]; exact sc_same r0
        · cases hu
          exact sc_same (u := .slice none 0 0) (by rw [sc_other (by simp)]; exact r1)
        · simp at hu
      · exact B8.out.1.own.same (fun k hk => by
          have hne : k ≠ w.heap.size + 1 := fun e => B8.out.1.dj k hk (.inr e)
          rw [sc_heap hne, sc_heap hne])
      · refine B8.out.1.cl.move (fun k hk hn => ?_) (fun k hk h => ?_)
        · have hne : k ≠ w.heap.size + 1 := fun e => hn (.inr (.inr e))
          rw [sc_heap hne, sc_heap hne]
        · rcases h with h | h
          · exact .inl h
          · exact h.elim
      · exact ((S9.out.low.trans B8.out.2.below).setCell (by show base ≤ w.heap.size + 1; omega) _).setCell (by show base ≤ w.heap.size + 1; omega) _
end Go.Proofs.Ybulkajjc
