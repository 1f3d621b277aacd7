/-
  LawS1755CQuery, walked.
-/
import Derived.Test.YbulkajiaDoorLawA
namespace Go.Proofs.YbulkajiaDoor
open Go.RowKit Go.Maps Go.Lib Go.Sort

theorem KIn.later {ka : Option Addr} {ks : List (List UInt8)} {w w' : World} {B : Nat} (h : KIn ka ks w) (hB : w.heap.size ≤ B) (hb : Below B w w') : KIn ka ks w' := by
  intro j l hj
  obtain ⟨h1, kb, ko, e, hr, hk⟩ := h j l hj
  exact ⟨h1, kb, ko, e, fun i v hv => (hb.cell (p := ⟨kb, ko + j * 20 + i, none⟩) (by show kb < B; omega)).trans (hr i v hv), Nat.lt_of_lt_of_le hk hb.size⟩

theorem Inp.range (x : Inp) (w : World) (t : TypeId) : (w.alloc (.cells x.cells t)).rangeAt w.heap.size 0 x.cells.toList := by
  have := range_new w [] x.cells.toList [] t
  rw [List.nil_append, List.append_nil] at this
  exact this

theorem Inp.size (x : Inp) (ok : x.Ok) : x.cells.toList.length = 89 := by
  unfold Inp.cells; simp [bv_length, ok.hf, ok.ht, ok.hk, ok.hb]

/-- What the query holds, in the input's own words. -/
def asked (x : Inp) (d : Int) (ks : List (List UInt8)) (f : Fn) : Prop :=
  f cFrom = some [tail x.lf d] ∧ f cTo = some [tail x.lt d] ∧ f cOpen = (if x.op then some [vTrue] else none) ∧ f cOrphans = (if x.orph then some [vTrue] else none) ∧
  f cKept = (if ks = [] then none else some (ks.map fun l => tail l d)) ∧ f cKeeper = (if x.hasK then some [tail x.lk d] else none) ∧ f cKeeperAddr = (if x.hasK then some [x.ka] else none) ∧
  f cBefore = (if x.hasB then some [tail x.lb d] else none) ∧ f cBeforeAddr = (if x.hasB then some [x.ba] else none) ∧ f cClock = (if 0 < x.u then some [dec x.u] else none)

def two (b : Bool) : Nat := if b then 2 else 0

theorem asked_of (x : Inp) (d : Int) (ks : List (List UInt8)) (ko bo : Node) (w : World) (h1 : NodeIs x.hasK x.lk x.ka ko w) (h2 : NodeIs x.hasB x.lb x.ba bo w) :
    asked x d ks (f7 d x.lf x.lt x.op ks x.orph ko bo x.u) ∧ twoIf ko = two x.hasK ∧ twoIf bo = two x.hasB := by
  refine ⟨⟨at_from .., at_to .., at_open .., at_orphans .., at_kept .., ?_, ?_, ?_, ?_, at_clock ..⟩, ?_, ?_⟩
  · rw [at_keeper]; rcases h1 with ⟨e, rfl⟩ | ⟨e, pb, rfl, _⟩ <;> simp [e]
  · rw [at_keeperAddr]; rcases h1 with ⟨e, rfl⟩ | ⟨e, pb, rfl, _⟩ <;> simp [e]
  · rw [at_before]; rcases h2 with ⟨e, rfl⟩ | ⟨e, pb, rfl, _⟩ <;> simp [e]
  · rw [at_beforeAddr]; rcases h2 with ⟨e, rfl⟩ | ⟨e, pb, rfl, _⟩ <;> simp [e]
  · rcases h1 with ⟨e, rfl⟩ | ⟨e, pb, rfl, _⟩ <;> simp [e, twoIf, two]
  · rcases h2 with ⟨e, rfl⟩ | ⟨e, pb, rfl, _⟩ <;> simp [e, twoIf, two]

theorem ite_take {c : Prop} [Decidable c] {a b : Prop} (hc : c) (h : a) : if c then a else b := by rw [if_pos hc]; exact h

/-- A guarded operation whose guard has said so is done. -/
theorem wanted_guard {ops : Array Oper} {o oj : Oper} {tmps : Array Value} {j s : Nat} {b : Bool} (hg : o.guard = some (j, b)) (ho : ops[j]? = some oj) (hd : oj.dst = some s) (ht : tmps[s]? = some (.bool b)) : Region.wanted o (yielded ops tmps) = true := by
  simp [Region.wanted, hg, yielded, ho, hd, ht]

theorem wpList_len {P : Program} {w : World} {ops : Array Oper} {rest : List Oper} {o : Oper} {a : Act} {Q : Exit → Act → World → Prop} (hgd : o.guard = none) (s : Operand) (t : TypeId)
    (ho : o.op = .call { callee := .builtin .len, args := #[s], argTypes := #[t] }) (v : Value) (hs : a.eval s = v) {v' : Value} {w' : World}
    (hr : (Builtin.len_ #[t] o.type #[v]).run P w = .ok v' w') (h : wpList P ops Q rest (a.put o.dst v') w') : wpList P ops Q (o :: rest) a w := by
  refine wpList_plain hgd fun K hK => ?_
  unfold Oper.wp execOp
  simp only [ho, resolve, invoke, builtin, Sem.run_bind, Sem.run_pure, Result.andThen_ok, List.map_toArray, List.map_cons, List.map_nil, hs, hr]
  exact hK _ _ h

/-- The slice 'want' behind j rounds. -/
def Want (w : World) (base : Nat) (v : Value) (ks : List (List UInt8)) (D j : Nat) : Prop := w.ownsRow base 9 1 v ((ks.take j).map fun l => tail l D).length (((ks.take j).map fun l => tail l D).map Value.string)

theorem take_tail (ks : List (List UInt8)) (j : Nat) (l : List UInt8) (D : Nat) (h : ks[j]? = some l) : ((ks.take j).map fun l => tail l D) ++ [tail l D] = (ks.take (j + 1)).map fun l => tail l D := by
  have hj : j < ks.length := (List.getElem?_eq_some_iff.1 h).1
  have e : ks[j] = l := by rw [List.getElem?_eq_getElem hj] at h; exact Option.some.inj h
  rw [List.take_succ_eq_append_getElem hj, e]
  simp

set_option maxHeartbeats 4000000 in
set_option maxRecDepth 100000 in
theorem law_true (x : Inp) (ok : x.Ok) (B : Nat) (hB : x.bits = B) (hB2 : B < 256) (ka : Option Addr) (kc : Nat) (ks : List (List UInt8)) (hkin : x.kin = .slice ka ks.length kc) (w : World) (hks : KIn ka ks w)
    (htab : Lib.TabIs Ybad.prog w tabName .u64 Lib.pow10Tab) :
    Calls Ybad.prog 3 #[.agg x.cells] w fun e w' => e = .returned (.bool true) ∧ Below w.heap.size w w' := by
  have HKIN := Lib.hid hkin
  have HKS := Lib.hid hks
  have HT := Lib.hid htab
  clear hkin hks htab
  have hX := Inp.At.new x ok w 26
  have hXr := x.range w 26
  have hck := hX.kin
  rw [HKIN.out] at hck
  have hcb := hX.bits
  rw [hB] at hcb
  have HX := Lib.hid hX
  have HXR := Lib.hid hXr
  clear hX hXr
  go_enter Ybad.func3, Ybad.ntmps3
  go_upto_if 17 with fail
  by_cases hn : ks.length ≤ 1024
  case neg =>
    go_wp2
    go_ret
    exact ⟨rfl, (Below.refl _ _).alloc (Nat.le_refl _) _⟩
  case pos =>
    go_upto_region 6 with fail

    clear hck hcb
    generalize hmd : 1 + (B : Int) % 160 = m
    have h1 : 1 ≤ m := by omega
    have h2 : m ≤ 160 := by omega
    obtain ⟨D, hD⟩ : ∃ D : Nat, (m + 3) / 4 = (D : Int) := ⟨((m + 3) / 4).toNat, by omega⟩
    rw [hD]
    have hD1 : 1 ≤ D := by omega
    have hD2 : D ≤ 40 := by omega
    have hmd' := Lib.hid hmd
    clear hmd
    generalize hW1 : (w.alloc (.cells x.cells 26)).alloc (.cells #[.int .u64 (160 - m)] 29) = W1
    have hB1 : Below w.heap.size w W1 := by rw [← hW1]; exact ((Below.refl _ _).alloc (Nat.le_refl _) _).alloc (by simp) _
    have hBX : Below (w.heap.size + 1) (w.alloc (.cells x.cells 26)) W1 := by rw [← hW1]; exact (Below.refl _ _).alloc (by simp) _
    have hs1 : W1.heap.size = w.heap.size + 2 := by rw [← hW1]; simp
    have hX1 : x.At w.heap.size W1 := HX.out.below hBX (by omega)
    have hR1 : W1.rangeAt w.heap.size 0 x.cells.toList := fun i v hv => (hBX.cell (p := ⟨w.heap.size, 0 + i, none⟩) (by show w.heap.size < _; omega)).trans (HXR.out i v hv)
    have hc1 : W1.cell? ⟨w.heap.size + 1, 0, none⟩ = some (.int .u64 (160 - m)) := by rw [← hW1]; simp [go_sem]
    have HB1 := Lib.hid hB1
    have HX1 := Lib.hid hX1
    have HR1 := Lib.hid hR1
    have HC1 := Lib.hid hc1
    have HS1 := Lib.hid hs1
    have HKS1 : Hid (KIn ka ks W1) := HKS.out.later (Nat.le_refl _) hB1
    have HI26 : Hid ((Ybad.prog.info? 26).map (·.size) = some x.cells.toList.length) := by show (Ybad.prog.info? 26).map (·.size) = _; rw [x.size ok]; kernel_rfl
    clear hX1 hR1 hc1 hB1 hBX HX HXR hW1 hs1
    go_cut [6] (fun q w' => ∃ (g cap hb : Nat) (ko bo : Node) (cs : List Value), q = .pointer (some ⟨hb, 0, none⟩) ∧ hovCells x.lf x.op x.lt ko.value bo.value x.orph (.slice (some ⟨g, 0, none⟩) ks.length cap) x.u = cs.toArray ∧ w'.rangeAt hb 0 cs ∧ KeptAt g ks w' ∧ NodeIs x.hasK x.lk x.ka ko w' ∧ NodeIs x.hasB x.lb x.ba bo w' ∧ Below W1.heap.size W1 w')
    case first =>
      go_wp2_with (refine wpList_load_mid rfl 26 _ rfl w.heap.size 0 rfl x.cells.toList _ HR1.out Ybad.underlying26 rfl HI26.out ?_)
      refine (build_any x ok m ka kc ks HKIN.out hn W1 HKS1.out).mono ?_
      rintro e w2 ⟨g, cap, ko, bo, rfl, q1, q2, q3, q4⟩
      obtain ⟨cs, hcs⟩ : ∃ cs : List Value, hovCells x.lf x.op x.lt ko.value bo.value x.orph (.slice (some ⟨g, 0, none⟩) ks.length cap) x.u = cs.toArray := ⟨_, rfl⟩
      have hsz : cs.length = 46 := by
        have := hov_size x.lf x.lt ok.hf ok.ht x.op x.orph ko.value bo.value (.slice (some ⟨g, 0, none⟩) ks.length cap) x.u
        rw [hcs, List.size_toArray] at this; exact this
      have hone : cs.toArray.all (·.oneCell') = true := by
        rw [← hcs]
        exact hov_one _ _ _ _ _ _ _ _ (by cases ko <;> rfl) (by cases bo <;> rfl) rfl
      have hr6 : (w2.alloc (.cells cs.toArray 36)).rangeAt w2.heap.size 0 cs := by have := range_new w2 [] cs [] 36; rw [List.nil_append, List.append_nil] at this; exact this
      have hnew : Below w2.heap.size w2 (w2.alloc (.cells cs.toArray 36)) := (Below.refl _ _).alloc (Nat.le_refl _) _
      have FIN : Hid (∃ (g cap hb : Nat) (ko bo : Node) (cs' : List Value), Value.pointer (some ⟨w2.heap.size, 0, none⟩) = .pointer (some ⟨hb, 0, none⟩) ∧ hovCells x.lf x.op x.lt ko.value bo.value x.orph (.slice (some ⟨g, 0, none⟩) ks.length cap) x.u = cs'.toArray ∧ (w2.alloc (.cells cs.toArray 36)).rangeAt hb 0 cs' ∧ KeptAt g ks (w2.alloc (.cells cs.toArray 36)) ∧ NodeIs x.hasK x.lk x.ka ko (w2.alloc (.cells cs.toArray 36)) ∧ NodeIs x.hasB x.lb x.ba bo (w2.alloc (.cells cs.toArray 36)) ∧ Below W1.heap.size W1 (w2.alloc (.cells cs.toArray 36))) :=
        ⟨g, cap, w2.heap.size, ko, bo, cs, rfl, hcs, hr6, q1.later hnew, q2.later hnew, q3.later hnew, q4.alloc q4.size _⟩
      have HONE := Lib.hid hone
      have HSZ := Lib.hid hsz
      have HI36 : Hid ((Ybad.prog.info? 36).map (·.size) = some cs.length) := by show (Ybad.prog.info? 36).map (·.size) = _; rw [hsz]; kernel_rfl
      rw [hcs]
      clear hcs hsz hone q1 q2 q3 q4 hr6 hnew
      go_wp2_with (refine wpList_store_new rfl 36 _ _ rfl _ cs.toArray rfl rfl HI36.out HSZ.out.symm HONE.out ?_)
      simp only [Act.put]
      go_meet
      case rel => exact FIN.out
    case rest =>
    obtain ⟨g, cap, hb, ko, bo, cs, rfl, hcs, hr6, q1, q2, q3, q4⟩ := hcut
    have hc2 : wc.cell? ⟨w.heap.size + 1, 0, none⟩ = some (.int .u64 (160 - m)) := cell_later HC1.out q4
    have hsz : cs.length = 46 := by
      have := hov_size x.lf x.lt ok.hf ok.ht x.op x.orph ko.value bo.value (.slice (some ⟨g, 0, none⟩) ks.length cap) x.u
      rw [hcs, List.size_toArray] at this; exact this
    have HI36 : Hid ((Ybad.prog.info? 36).map (·.size) = some cs.length) := by show (Ybad.prog.info? 36).map (·.size) = _; rw [hsz]; kernel_rfl
    have R6 := Lib.hid hr6
    have henc := enc_any m h1 h2 x.lf x.lt ok.hf ok.ht x.op x.orph ko bo g cap ks hn x.u ok.hu _ (q2.lies ok.hk) (q3.lies ok.hb) q1 (tab_below HT.out (HB1.out.trans (q4.mono HB1.out.size)))
    rw [hcs] at henc
    have HENC := Lib.hid henc
    have HA := Lib.hid (asked_of x ((m + 3) / 4) ks ko bo _ q2 q3)
    have Q4 := Lib.hid q4
    clear q1 q2 q3 q4 hcs hsz hr6 henc
    go_upto_region 7 with fail
    go_cut [7] (fun q w' => ∃ (b n base : Nat) (F : Fn), q = .map (some b) ∧ Vals w' base b n F (2 + one x.op + one (decide (0 < ks.length)) + one x.orph + two x.hasK + two x.hasB + one (decide (0 < x.u))) ∧ asked x D ks F ∧ Below W1.heap.size W1 w')
    case first =>
      go_wp2_with (refine wpList_load_mid rfl 36 _ rfl hb 0 rfl cs _ R6.out Ybad.underlying36 rfl HI36.out ?_)
      refine HENC.out.mono ?_
      rintro e w3 ⟨b, n, rfl, hv, hb3⟩
      obtain ⟨ha, ha2, ha3⟩ := HA.out
      rw [ha2, ha3] at hv
      rw [hD] at ha hv
      have FIN : Hid (∃ (b' n base : Nat) (F : Fn), Value.map (some b) = .map (some b') ∧ Vals w3 base b' n F (2 + one x.op + one (decide (0 < ks.length)) + one x.orph + two x.hasK + two x.hasB + one (decide (0 < x.u))) ∧ asked x D ks F ∧ Below W1.heap.size W1 w3) := ⟨b, n, _, _, rfl, hv, ha, Q4.out.trans (hb3.mono Q4.out.size)⟩
      clear hv hb3 ha ha2 ha3
      go_wp2_with fail
      go_meet
      case rel => exact FIN.out
    case rest =>
    obtain ⟨b, n, base, F, rfl, hv, ha, hb13⟩ := hcut
    obtain ⟨w3, hw3⟩ : ∃ w3, w3 = wc := ⟨_, rfl⟩
    subst hw3
    have HV := Lib.hid hv
    have HAS := Lib.hid ha
    have HXQ : Hid (x.At w.heap.size w3) := HX1.out.below hb13 (by rw [HS1.out]; omega)
    have HKQ : Hid (KIn ka ks w3) := HKS1.out.later (Nat.le_refl _) hb13
    have HW := Lib.hid (HB1.out.trans (hb13.mono HB1.out.size))
    have hlt : w.heap.size < w3.heap.size := by have := hb13.size; have := HS1.out; omega
    clear ha hv hb13 HENC HA Q4 R6 HI36 HKS1 HX1 HR1 HC1 HI26 hmd' HKS HT HB1 HS1 hc2
    have hlt0 := hlt
    obtain ⟨ib, hib⟩ : ∃ ib, ib = w.heap.size := ⟨_, rfl⟩
    rw [← hib] at HXQ hlt ⊢
    have HIB := Lib.hid hib
    clear hib
    have HI22 : Hid (∀ l : List UInt8, l.length = 20 → (Ybad.prog.info? 22).map (·.size) = some (bv l).length) := fun l hl => info22 l hl
    have HB0 : Hid (Below w3.heap.size w3 w3) := Below.refl _ _
    have R : Hid (w3.rangeAt ib 1 (bv x.lf)) := (HXQ.out.below HB0.out hlt).lf
    go_wp2_with (refine wpList_load_mid rfl 22 _ rfl ib 1 rfl (bv x.lf) _ R.out Ybad.underlying22 rfl (HI22.out _ ok.hf) ?_)
    refine (chex_any D hD1 hD2 x.lf ok.hf w3).mono ?_
    rintro e v1 ⟨rfl, hb⟩
    have HBn1 : Hid (Below w3.heap.size w3 v1) := HB0.out.trans (hb.mono HB0.out.size)
    clear R hb HB0
    go_wp2_with fail
    refine (cone_any (HV.out.later HBn1.out) (⟨#[102, 114, 111, 109]⟩ : ByteArray) _ true (by decide) HAS.out.1).mono ?_
    rintro e v1' ⟨rfl, rfl⟩
    have R : Hid (v1'.rangeAt ib 21 (bv x.lt)) := (HXQ.out.below HBn1.out hlt).lt
    go_wp2_with (refine wpList_load_mid rfl 22 _ rfl ib 21 rfl (bv x.lt) _ R.out Ybad.underlying22 rfl (HI22.out _ ok.ht) ?_)
    refine (chex_any D hD1 hD2 x.lt ok.ht v1').mono ?_
    rintro e v2 ⟨rfl, hb⟩
    have HBn2 : Hid (Below w3.heap.size w3 v2) := HBn1.out.trans (hb.mono HBn1.out.size)
    clear R hb HBn1
    go_wp2_with fail
    refine (cone_any (HV.out.later HBn2.out) (⟨#[116, 111]⟩ : ByteArray) _ true (by decide) HAS.out.2.1).mono ?_
    rintro e v2' ⟨rfl, rfl⟩
    have hc := (HXQ.out.below HBn2.out hlt).op
    go_wp2_with fail
    refine (cone_any (HV.out.later HBn2.out) (⟨#[111, 112, 101, 110]⟩ : ByteArray) _ x.op (by decide) HAS.out.2.2.1).mono ?_
    rintro e v3 ⟨rfl, rfl⟩
    go_upto_if 56 with fail
    clear hc
    go_cut [8] (fun q w' => ∃ N : Nat, q = .int .i64 (N : Int) ∧ N = 2 + one x.op ∧ Below w3.heap.size w3 w')
    case first => as_aux_lemma =>
      cases hop : x.op
      · go_wp2_with fail
        go_meet
        case rel => exact ⟨2, rfl, by rw [hop]; rfl, HBn2.out⟩
      · go_wp2_with fail
        go_meet
        case rel => exact ⟨2 + 1, by first | rfl | (simp only [Int.natCast_add]; rfl), by rw [hop]; rfl, HBn2.out⟩
    case rest =>
    clear HBn2
    obtain ⟨N1, rfl, hN, hbn⟩ := hcut
    have HBc1 := Lib.hid hbn
    have hM1 : N1 ≤ 3 := by rw [hN]; unfold one; split <;> omega
    have HN1 := Lib.hid hN
    clear hN hbn
    have hc := (HXQ.out.below HBc1.out hlt).orph
    go_wp2_with fail
    refine (cone_any (HV.out.later HBc1.out) (⟨#[111, 114, 112, 104, 97, 110, 115]⟩ : ByteArray) _ x.orph (by decide) HAS.out.2.2.2.1).mono ?_
    rintro e v4 ⟨rfl, rfl⟩
    go_upto_if 65 with fail
    clear hc
    go_cut [8] (fun q w' => ∃ N : Nat, q = .int .i64 (N : Int) ∧ N = N1 + one x.orph ∧ Below w3.heap.size w3 w')
    case first => as_aux_lemma =>
      cases hop : x.orph
      · go_wp2_with fail
        go_meet
        case rel => exact ⟨N1, rfl, by rw [hop]; rfl, HBc1.out⟩
      · go_wp2_with fail
        go_meet
        case rel => exact ⟨N1 + 1, by first | rfl | (simp only [Int.natCast_add]; rfl), by rw [hop]; rfl, HBc1.out⟩
    case rest =>
    clear HBc1
    obtain ⟨N2, rfl, hN, hbn⟩ := hcut
    have HBc2 := Lib.hid hbn
    have hM2 : N2 ≤ 4 := by rw [hN]; unfold one; split <;> omega
    have HN2 := Lib.hid hN
    clear hN hbn
    have hck : wc.cell? ⟨ib, 42, none⟩ = some (.slice ka ks.length kc) := by rw [← HKIN.out]; exact (HXQ.out.below HBc2.out hlt).kin
    go_upto_if 71 with fail
    go_cut [8] (fun q w' => ∃ N : Nat, q = .int .i64 (N : Int) ∧ N = N2 + one (decide (0 < ks.length)) ∧ Below w3.heap.size w3 w')
    case first => as_aux_lemma =>
      by_cases h0 : 0 < ks.length
      case neg =>
        have ek : ks = [] := List.eq_nil_of_length_eq_zero (by omega)
        have hlk := look_none (HV.out.later HBc2.out) (⟨#[107, 101, 112, 116]⟩ : ByteArray) (by decide) (HAS.out.2.2.2.2.1.trans (by rw [if_pos ek]))
        clear ek
        go_wp2_with fail
        go_meet
        case rel => exact ⟨N2, rfl, by rw [decide_eq_false h0]; rfl, HBc2.out⟩
      case pos =>
        simp only [h0, decide_true]
        have hmk := fun w => make43 ks.length hn w
        have hck2 : ∀ o, (wc.alloc o).cell? ⟨ib, 42, none⟩ = some (.slice ka ks.length kc) := fun o => cell_later hck ((Below.refl _ _).alloc (Nat.le_refl _) _)
        go_wp2_with fail
        clear hck hck2 hmk
        go_loopw [9, 79] (fun v i wr => ∃ j : Nat, j ≤ ks.length ∧ i = .int .i64 j ∧ Hid (Want wr wc.heap.size v ks D j) ∧ Hid (v ≠ .slice none 0 0) ∧ Hid (Below wc.heap.size wc wr)) (fun _ i _ => ks.length - (RowKit.intOf i).toNat)
        case atStart => exact ⟨0, Nat.zero_le _, rfl, World.ownsRow_made wc _ _ (Nat.le_refl _) (by unfold maxLen; omega) (by rw [size_madeCells]; simp), (by simp : Value.slice (some ⟨wc.heap.size, 0, none⟩) 0 ks.length ≠ .slice none 0 0), (Below.refl _ _).alloc (Nat.le_refl _) _⟩
        case round =>
          obtain ⟨j, hj, rfl, HO, HN, HBr⟩ := hrel
          by_cases hjl : j < ks.length
          case pos =>
            obtain ⟨l, hl⟩ : ∃ l, ks[j]? = some l := ⟨_, List.getElem?_eq_getElem hjl⟩
            obtain ⟨hl20, kb, ko', rfl, hrg, hkb⟩ := HKQ.out j l hl
            have hb0 : Below w3.heap.size w3 wr := HBc2.out.trans (HBr.out.mono HBc2.out.size)
            have R : Hid (wr.rangeAt kb (ko' + j * 20) (bv l)) := fun i v hv => (hb0.cell (p := ⟨kb, ko' + j * 20 + i, none⟩) hkb).trans (hrg i v hv)
            have HL : Hid (ks[j]? = some l) := hl
            have HI2 : Hid ((Ybad.prog.info? 22).map (·.size) = some (bv l).toArray.size) := by show _ = _; rw [List.size_toArray]; exact info22 l hl20
            have R2 : Hid ((wr.alloc (.cells (bv l).toArray 22)).rangeAt wr.heap.size 0 (bv l)) := by have := range_new wr [] (bv l) [] 22; rw [List.nil_append, List.append_nil] at this; exact this
            clear hl hb0 hrg
            go_wp2_with (first | refine wpList_load_mid rfl 22 _ rfl kb (ko' + j * 20) rfl (bv l) _ R.out Ybad.underlying22 rfl (HI22.out _ hl20) ?_ | refine wpList_store_new rfl 22 _ _ rfl _ (bv l).toArray rfl rfl HI2.out (zeros20 l hl20 _) (bv_one l) ?_ | refine wpList_load_mid rfl 22 _ rfl wr.heap.size 0 rfl (bv l) _ R2.out Ybad.underlying22 rfl (HI22.out _ hl20) ?_)
            refine (chex_any D hD1 hD2 l hl20 _).mono ?_
            rintro e w2 ⟨rfl, hb2⟩
            have hb3 : Below wr.heap.size wr w2 := ((Below.refl _ _).alloc (Nat.le_refl _) _).trans (hb2.mono (by simp))
            have hown := (show wr.ownsRow _ 9 1 u9 _ _ from HO.out).kept (w' := w2) (row := none) ⟨hb3.os, hb3.tape, hb3.output, hb3.size, fun k hk _ => hb3.block k hk⟩ (by cases u9.ownBlock <;> simp)
            obtain ⟨v', w5, hr3, ho3, hn3, hb4⟩ := app43 ((ks.take j).map fun l => tail l D) (by simp; omega) (tail l D) wc.heap.size u9 w2 (by have := HBr.out.size; have := hb3.size; omega) hown HN.out
            rw [take_tail ks j l D HL.out] at ho3
            have FIN : Hid (Want w5 wc.heap.size v' ks D (j + 1) ∧ v' ≠ .slice none 0 0 ∧ Below wc.heap.size wc w5) := ⟨ho3, hn3, (HBr.out.trans (hb3.mono HBr.out.size)).trans hb4⟩
            have hsl := Lib.hid (slice43 (tail l D) w2)
            clear ho3 hn3 hb4 hown hb2 hb3 R R2 HI2
            go_wp2_with (first | (refine wpList_bslice rfl 43 1 _ rfl _ rfl (v' := .slice (some ⟨w2.heap.size, 0, none⟩) 1 1) (w' := w2.alloc (.cells #[.string (tail l D)] 9)) ?hbs ?_; case hbs => exact hsl.out) | (at_builtin; refine wpList_app rfl _ _ _ _ rfl _ _ rfl rfl hr3 ?_; clear hr3 HO HN))
            go_roundw
            case rel => exact ⟨j + 1, by omega, by go_num, FIN.out.1, FIN.out.2.1, FIN.out.2.2⟩
            case measure => simp [RowKit.intOf]; omega
          case neg =>
            have ej : j = ks.length := by omega
            subst ej
            have ho := HO.out
            unfold Want at ho
            rw [List.take_length, List.length_map] at ho
            obtain ⟨g2, cap2, rfl⟩ := row_form9 ho HN.out
            have hbr : Below w3.heap.size w3 wr := HBc2.out.trans (HBr.out.mono HBc2.out.size)
            obtain ⟨g1, cap1, hlk, _, hq1⟩ := look_some (HV.out.later hbr) (⟨#[107, 101, 112, 116]⟩ : ByteArray) (by decide) (ks.map fun l => tail l D) ks.length (List.length_map ..) h0 (HAS.out.2.2.2.2.1.trans (by rw [if_neg (fun e => by rw [e] at h0; exact absurd h0 (by decide))]))
            have HEQ := Lib.hid (equal_same (ks.map fun l => tail l D) ks.length (List.length_map ..) hn g1 cap1 g2 cap2 wr hq1 (row_cells9 ho))
            have HBR := Lib.hid hbr
            clear hbr hq1 ho HO HN HBr
            go_wp2_with fail
            refine HEQ.out.mono ?_
            rintro e w5 ⟨rfl, hb5⟩
            have HB5 := Lib.hid (HBR.out.trans (hb5.mono HBR.out.size))
            clear hb5 hlk HEQ
            go_wp2_with fail
            go_meet
            case rel => exact ⟨N2 + 1, by first | rfl | (simp only [Int.natCast_add]; rfl), by first | (rw [decide_eq_true h0]; rfl) | rfl, HB5.out⟩
    case rest =>
    clear HBc2 hck
    obtain ⟨N3, rfl, hN, hbn⟩ := hcut
    have HBc3 := Lib.hid hbn
    have hM3 : N3 ≤ 5 := by rw [hN]; unfold one; split <;> omega
    have HN3 := Lib.hid hN
    clear hN hbn
    go_upto_region 34 with fail
    go_cut [120] (fun q w' => q = .bool false ∧ Below w3.heap.size w3 w')
    case first => as_aux_lemma =>
      refine wp_region_inv (by kernel_rfl) (by kernel_rfl) (fun a0 ls a w' => ls.size = 18 ∧ ∃ v103 v104 v105 v106 v107 v108 v109 v110 v111 v112 v113 v114 v115 v116 v117 v118 v119 v120, a = ((((((((((((((((((a0.put (some 103) v103).put (some 104) v104).put (some 105) v105).put (some 106) v106).put (some 107) v107).put (some 108) v108).put (some 109) v109).put (some 110) v110).put (some 111) v111).put (some 112) v112).put (some 113) v113).put (some 114) v114).put (some 115) v115).put (some 116) v116).put (some 117) v117).put (some 118) v118).put (some 119) v119).put (some 120) v120) ∧ ((On ls 0 → v103 = .map (some b)) ∧ (On ls 1 → v104 = .pointer (some ⟨ib, 44, none⟩)) ∧ (On ls 2 → v105 = .bool x.hasK) ∧ (On ls 3 → v106 = .pointer (some ⟨ib, 45, none⟩)) ∧ (On ls 4 → v107 = .agg (bv x.lk).toArray) ∧ (On ls 5 → v108 = .int .i64 (D : Int)) ∧ (On ls 6 → v109 = .string (tail x.lk D)) ∧ (On ls 7 → v110 = .bool true) ∧ (On ls 8 → v111 = .bool false) ∧ (On ls 9 → v112 = .bool false) ∧ (On ls 10 → v113 = .map (some b)) ∧ (On ls 11 → v114 = .pointer (some ⟨ib, 44, none⟩)) ∧ (On ls 12 → v115 = .bool x.hasK) ∧ (On ls 13 → v116 = .pointer (some ⟨ib, 65, none⟩)) ∧ (On ls 14 → v117 = .string x.ka) ∧ (On ls 15 → v118 = .bool true) ∧ (On ls 16 → v119 = .bool false) ∧ (On ls 17 → v120 = .bool false)) ∧ Below w3.heap.size w3 w') ?_ ?_ ?_
      · refine ⟨by simp, u103, u104, u105, u106, u107, u108, u109, u110, u111, u112, u113, u114, u115, u116, u117, u118, u119, u120, by simp only [Act.put, List.setIfInBounds_toArray, List.set_cons_zero, List.set_cons_succ], ⟨fun h => h.not_replicate.elim, fun h => h.not_replicate.elim, fun h => h.not_replicate.elim, fun h => h.not_replicate.elim, fun h => h.not_replicate.elim, fun h => h.not_replicate.elim, fun h => h.not_replicate.elim, fun h => h.not_replicate.elim, fun h => h.not_replicate.elim, fun h => h.not_replicate.elim, fun h => h.not_replicate.elim, fun h => h.not_replicate.elim, fun h => h.not_replicate.elim, fun h => h.not_replicate.elim, fun h => h.not_replicate.elim, fun h => h.not_replicate.elim, fun h => h.not_replicate.elim, fun h => h.not_replicate.elim⟩, HBc3.out.drew⟩
      · intro i o ls a' w' ho hl hd hI
        obtain ⟨hsz, v103, v104, v105, v106, v107, v108, v109, v110, v111, v112, v113, v114, v115, v116, v117, v118, v119, v120, rfl, ⟨p0, p1, p2, p3, p4, p5, p6, p7, p8, p9, p10, p11, p12, p13, p14, p15, p16, p17⟩, he⟩ := hI
        have hi : i < 18 := (Array.getElem?_eq_some_iff.1 ho).1
        rcases (by omega : i = 0 ∨ i = 1 ∨ i = 2 ∨ i = 3 ∨ i = 4 ∨ i = 5 ∨ i = 6 ∨ i = 7 ∨ i = 8 ∨ i = 9 ∨ i = 10 ∨ i = 11 ∨ i = 12 ∨ i = 13 ∨ i = 14 ∨ i = 15 ∨ i = 16 ∨ i = 17) with rfl | rfl | rfl | rfl | rfl | rfl | rfl | rfl | rfl | rfl | rfl | rfl | rfl | rfl | rfl | rfl | rfl | rfl
        · cases ho
          refine wpOp_stepS rfl (fun K hK => ?_)
          simp only [Act.put, List.setIfInBounds_toArray, List.set_cons_zero, List.set_cons_succ]
          go_simp
          exact hK.out _ _ ⟨by simpa using hsz, .map (some b), v104, v105, v106, v107, v108, v109, v110, v111, v112, v113, v114, v115, v116, v117, v118, v119, v120, by first | with_reducible rfl | simp only [Act.put, List.setIfInBounds_toArray, List.set_cons_zero, List.set_cons_succ], ⟨fun _ => rfl, fun h => p1 ((On_ne (by omega)).1 h), fun h => p2 ((On_ne (by omega)).1 h), fun h => p3 ((On_ne (by omega)).1 h), fun h => p4 ((On_ne (by omega)).1 h), fun h => p5 ((On_ne (by omega)).1 h), fun h => p6 ((On_ne (by omega)).1 h), fun h => p7 ((On_ne (by omega)).1 h), fun h => p8 ((On_ne (by omega)).1 h), fun h => p9 ((On_ne (by omega)).1 h), fun h => p10 ((On_ne (by omega)).1 h), fun h => p11 ((On_ne (by omega)).1 h), fun h => p12 ((On_ne (by omega)).1 h), fun h => p13 ((On_ne (by omega)).1 h), fun h => p14 ((On_ne (by omega)).1 h), fun h => p15 ((On_ne (by omega)).1 h), fun h => p16 ((On_ne (by omega)).1 h), fun h => p17 ((On_ne (by omega)).1 h)⟩, he⟩
        · cases ho
          refine wpOp_stepS rfl (fun K hK => ?_)
          simp only [Act.put, List.setIfInBounds_toArray, List.set_cons_zero, List.set_cons_succ]
          go_simp
          exact hK.out _ _ ⟨by simpa using hsz, v103, .pointer (some ⟨ib, 44, none⟩), v105, v106, v107, v108, v109, v110, v111, v112, v113, v114, v115, v116, v117, v118, v119, v120, by first | with_reducible rfl | simp only [Act.put, List.setIfInBounds_toArray, List.set_cons_zero, List.set_cons_succ], ⟨fun h => p0 ((On_ne (by omega)).1 h), fun _ => rfl, fun h => p2 ((On_ne (by omega)).1 h), fun h => p3 ((On_ne (by omega)).1 h), fun h => p4 ((On_ne (by omega)).1 h), fun h => p5 ((On_ne (by omega)).1 h), fun h => p6 ((On_ne (by omega)).1 h), fun h => p7 ((On_ne (by omega)).1 h), fun h => p8 ((On_ne (by omega)).1 h), fun h => p9 ((On_ne (by omega)).1 h), fun h => p10 ((On_ne (by omega)).1 h), fun h => p11 ((On_ne (by omega)).1 h), fun h => p12 ((On_ne (by omega)).1 h), fun h => p13 ((On_ne (by omega)).1 h), fun h => p14 ((On_ne (by omega)).1 h), fun h => p15 ((On_ne (by omega)).1 h), fun h => p16 ((On_ne (by omega)).1 h), fun h => p17 ((On_ne (by omega)).1 h)⟩, he⟩
        · cases ho
          have d1 : On ls 1 := hd ⟨1, .data⟩ (by simp) rfl
          have e := p1 d1
          subst e
          refine wpOp_stepS rfl (fun K hK => ?_)
          simp only [Act.put, List.setIfInBounds_toArray, List.set_cons_zero, List.set_cons_succ]
          have hr := (HXQ.out.below he hlt).hasK
          go_simp
          exact hK.out _ _ ⟨by simpa using hsz, v103, .pointer (some ⟨ib, 44, none⟩), .bool x.hasK, v106, v107, v108, v109, v110, v111, v112, v113, v114, v115, v116, v117, v118, v119, v120, by first | with_reducible rfl | simp only [Act.put, List.setIfInBounds_toArray, List.set_cons_zero, List.set_cons_succ], ⟨fun h => p0 ((On_ne (by omega)).1 h), fun h => p1 ((On_ne (by omega)).1 h), fun _ => rfl, fun h => p3 ((On_ne (by omega)).1 h), fun h => p4 ((On_ne (by omega)).1 h), fun h => p5 ((On_ne (by omega)).1 h), fun h => p6 ((On_ne (by omega)).1 h), fun h => p7 ((On_ne (by omega)).1 h), fun h => p8 ((On_ne (by omega)).1 h), fun h => p9 ((On_ne (by omega)).1 h), fun h => p10 ((On_ne (by omega)).1 h), fun h => p11 ((On_ne (by omega)).1 h), fun h => p12 ((On_ne (by omega)).1 h), fun h => p13 ((On_ne (by omega)).1 h), fun h => p14 ((On_ne (by omega)).1 h), fun h => p15 ((On_ne (by omega)).1 h), fun h => p16 ((On_ne (by omega)).1 h), fun h => p17 ((On_ne (by omega)).1 h)⟩, he⟩
        · cases ho
          refine wpOp_stepS rfl (fun K hK => ?_)
          simp only [Act.put, List.setIfInBounds_toArray, List.set_cons_zero, List.set_cons_succ]
          go_simp
          exact hK.out _ _ ⟨by simpa using hsz, v103, v104, v105, .pointer (some ⟨ib, 45, none⟩), v107, v108, v109, v110, v111, v112, v113, v114, v115, v116, v117, v118, v119, v120, by first | with_reducible rfl | simp only [Act.put, List.setIfInBounds_toArray, List.set_cons_zero, List.set_cons_succ], ⟨fun h => p0 ((On_ne (by omega)).1 h), fun h => p1 ((On_ne (by omega)).1 h), fun h => p2 ((On_ne (by omega)).1 h), fun _ => rfl, fun h => p4 ((On_ne (by omega)).1 h), fun h => p5 ((On_ne (by omega)).1 h), fun h => p6 ((On_ne (by omega)).1 h), fun h => p7 ((On_ne (by omega)).1 h), fun h => p8 ((On_ne (by omega)).1 h), fun h => p9 ((On_ne (by omega)).1 h), fun h => p10 ((On_ne (by omega)).1 h), fun h => p11 ((On_ne (by omega)).1 h), fun h => p12 ((On_ne (by omega)).1 h), fun h => p13 ((On_ne (by omega)).1 h), fun h => p14 ((On_ne (by omega)).1 h), fun h => p15 ((On_ne (by omega)).1 h), fun h => p16 ((On_ne (by omega)).1 h), fun h => p17 ((On_ne (by omega)).1 h)⟩, he⟩
        · cases ho
          have d3 : On ls 3 := hd ⟨3, .data⟩ (by simp) rfl
          have e := p3 d3
          subst e
          refine wpOp_stepS rfl (fun K hK => ?_)
          simp only [Act.put, List.setIfInBounds_toArray, List.set_cons_zero, List.set_cons_succ]
          have hr := (HXQ.out.below he hlt).lk
          rw [if_pos (by rfl)]
          refine wp_load_mid 22 _ rfl ib 45 rfl (bv x.lk) _ hr Ybad.underlying22 rfl (info22 _ ok.hk) ?_
          simp only [List.getElem_toArray, List.getElem_cons_succ, List.getElem_cons_zero, Act.put, List.setIfInBounds_toArray, List.set_cons_zero, List.set_cons_succ]
          exact hK.out _ _ ⟨by simpa using hsz, v103, v104, v105, .pointer (some ⟨ib, 45, none⟩), .agg (bv x.lk).toArray, v108, v109, v110, v111, v112, v113, v114, v115, v116, v117, v118, v119, v120, by first | with_reducible rfl | simp only [Act.put, List.setIfInBounds_toArray, List.set_cons_zero, List.set_cons_succ], ⟨fun h => p0 ((On_ne (by omega)).1 h), fun h => p1 ((On_ne (by omega)).1 h), fun h => p2 ((On_ne (by omega)).1 h), fun h => p3 ((On_ne (by omega)).1 h), fun _ => rfl, fun h => p5 ((On_ne (by omega)).1 h), fun h => p6 ((On_ne (by omega)).1 h), fun h => p7 ((On_ne (by omega)).1 h), fun h => p8 ((On_ne (by omega)).1 h), fun h => p9 ((On_ne (by omega)).1 h), fun h => p10 ((On_ne (by omega)).1 h), fun h => p11 ((On_ne (by omega)).1 h), fun h => p12 ((On_ne (by omega)).1 h), fun h => p13 ((On_ne (by omega)).1 h), fun h => p14 ((On_ne (by omega)).1 h), fun h => p15 ((On_ne (by omega)).1 h), fun h => p16 ((On_ne (by omega)).1 h), fun h => p17 ((On_ne (by omega)).1 h)⟩, he⟩
        · cases ho
          refine wpOp_stepS rfl (fun K hK => ?_)
          simp only [Act.put, List.setIfInBounds_toArray, List.set_cons_zero, List.set_cons_succ]
          go_simp
          exact hK.out _ _ ⟨by simpa using hsz, v103, v104, v105, v106, v107, .int .i64 (D : Int), v109, v110, v111, v112, v113, v114, v115, v116, v117, v118, v119, v120, by first | with_reducible rfl | simp only [Act.put, List.setIfInBounds_toArray, List.set_cons_zero, List.set_cons_succ], ⟨fun h => p0 ((On_ne (by omega)).1 h), fun h => p1 ((On_ne (by omega)).1 h), fun h => p2 ((On_ne (by omega)).1 h), fun h => p3 ((On_ne (by omega)).1 h), fun h => p4 ((On_ne (by omega)).1 h), fun _ => rfl, fun h => p6 ((On_ne (by omega)).1 h), fun h => p7 ((On_ne (by omega)).1 h), fun h => p8 ((On_ne (by omega)).1 h), fun h => p9 ((On_ne (by omega)).1 h), fun h => p10 ((On_ne (by omega)).1 h), fun h => p11 ((On_ne (by omega)).1 h), fun h => p12 ((On_ne (by omega)).1 h), fun h => p13 ((On_ne (by omega)).1 h), fun h => p14 ((On_ne (by omega)).1 h), fun h => p15 ((On_ne (by omega)).1 h), fun h => p16 ((On_ne (by omega)).1 h), fun h => p17 ((On_ne (by omega)).1 h)⟩, he⟩
        · cases ho
          have d4 : On ls 4 := hd ⟨4, .data⟩ (by simp) rfl
          have e := p4 d4
          subst e
          have d5 : On ls 5 := hd ⟨5, .data⟩ (by simp) rfl
          have e := p5 d5
          subst e
          refine wpOp_stepS rfl (fun K hK => ?_)
          simp only [Act.put, List.setIfInBounds_toArray, List.set_cons_zero, List.set_cons_succ]
          go_simp
          refine (chex_any D hD1 hD2 x.lk ok.hk _).mono ?_
          rintro e w2 ⟨rfl, hb2⟩
          exact hK.out _ _ ⟨by simpa using hsz, v103, v104, v105, v106, .agg (bv x.lk).toArray, .int .i64 (D : Int), .string (tail x.lk D), v110, v111, v112, v113, v114, v115, v116, v117, v118, v119, v120, by first | with_reducible rfl | simp only [Act.put, List.setIfInBounds_toArray, List.set_cons_zero, List.set_cons_succ], ⟨fun h => p0 ((On_ne (by omega)).1 h), fun h => p1 ((On_ne (by omega)).1 h), fun h => p2 ((On_ne (by omega)).1 h), fun h => p3 ((On_ne (by omega)).1 h), fun h => p4 ((On_ne (by omega)).1 h), fun h => p5 ((On_ne (by omega)).1 h), fun _ => rfl, fun h => p7 ((On_ne (by omega)).1 h), fun h => p8 ((On_ne (by omega)).1 h), fun h => p9 ((On_ne (by omega)).1 h), fun h => p10 ((On_ne (by omega)).1 h), fun h => p11 ((On_ne (by omega)).1 h), fun h => p12 ((On_ne (by omega)).1 h), fun h => p13 ((On_ne (by omega)).1 h), fun h => p14 ((On_ne (by omega)).1 h), fun h => p15 ((On_ne (by omega)).1 h), fun h => p16 ((On_ne (by omega)).1 h), fun h => p17 ((On_ne (by omega)).1 h)⟩, he.trans (hb2.mono he.size)⟩
        · cases ho
          have d0 : On ls 0 := hd ⟨0, .data⟩ (by simp) rfl
          have e := p0 d0
          subst e
          have d2 : On ls 2 := hd ⟨2, .data⟩ (by simp) rfl
          have e := p2 d2
          subst e
          have d6 : On ls 6 := hd ⟨6, .data⟩ (by simp) rfl
          have e := p6 d6
          subst e
          refine wpOp_stepS rfl (fun K hK => ?_)
          simp only [Act.put, List.setIfInBounds_toArray, List.set_cons_zero, List.set_cons_succ]
          go_simp
          refine (cone_any (HV.out.later he) (⟨#[107, 101, 101, 112, 101, 114]⟩ : ByteArray) _ x.hasK (by decide) HAS.out.2.2.2.2.2.1).mono ?_
          rintro e w2 ⟨rfl, rfl⟩
          exact hK.out _ _ ⟨by simpa using hsz, .map (some b), v104, .bool x.hasK, v106, v107, v108, .string (tail x.lk D), .bool true, v111, v112, v113, v114, v115, v116, v117, v118, v119, v120, by first | with_reducible rfl | simp only [Act.put, List.setIfInBounds_toArray, List.set_cons_zero, List.set_cons_succ], ⟨fun h => p0 ((On_ne (by omega)).1 h), fun h => p1 ((On_ne (by omega)).1 h), fun h => p2 ((On_ne (by omega)).1 h), fun h => p3 ((On_ne (by omega)).1 h), fun h => p4 ((On_ne (by omega)).1 h), fun h => p5 ((On_ne (by omega)).1 h), fun h => p6 ((On_ne (by omega)).1 h), fun _ => rfl, fun h => p8 ((On_ne (by omega)).1 h), fun h => p9 ((On_ne (by omega)).1 h), fun h => p10 ((On_ne (by omega)).1 h), fun h => p11 ((On_ne (by omega)).1 h), fun h => p12 ((On_ne (by omega)).1 h), fun h => p13 ((On_ne (by omega)).1 h), fun h => p14 ((On_ne (by omega)).1 h), fun h => p15 ((On_ne (by omega)).1 h), fun h => p16 ((On_ne (by omega)).1 h), fun h => p17 ((On_ne (by omega)).1 h)⟩, he⟩
        · cases ho
          have d7 : On ls 7 := hd ⟨7, .data⟩ (by simp) rfl
          have e := p7 d7
          subst e
          refine wpOp_stepS rfl (fun K hK => ?_)
          simp only [Act.put, List.setIfInBounds_toArray, List.set_cons_zero, List.set_cons_succ]
          go_simp
          exact hK.out _ _ ⟨by simpa using hsz, v103, v104, v105, v106, v107, v108, v109, .bool true, .bool false, v112, v113, v114, v115, v116, v117, v118, v119, v120, by first | with_reducible rfl | simp only [Act.put, List.setIfInBounds_toArray, List.set_cons_zero, List.set_cons_succ], ⟨fun h => p0 ((On_ne (by omega)).1 h), fun h => p1 ((On_ne (by omega)).1 h), fun h => p2 ((On_ne (by omega)).1 h), fun h => p3 ((On_ne (by omega)).1 h), fun h => p4 ((On_ne (by omega)).1 h), fun h => p5 ((On_ne (by omega)).1 h), fun h => p6 ((On_ne (by omega)).1 h), fun h => p7 ((On_ne (by omega)).1 h), fun _ => rfl, fun h => p9 ((On_ne (by omega)).1 h), fun h => p10 ((On_ne (by omega)).1 h), fun h => p11 ((On_ne (by omega)).1 h), fun h => p12 ((On_ne (by omega)).1 h), fun h => p13 ((On_ne (by omega)).1 h), fun h => p14 ((On_ne (by omega)).1 h), fun h => p15 ((On_ne (by omega)).1 h), fun h => p16 ((On_ne (by omega)).1 h), fun h => p17 ((On_ne (by omega)).1 h)⟩, he⟩
        · cases ho
          have d8 : On ls 8 := hd ⟨8, .data⟩ (by simp) rfl
          have e := p8 d8
          subst e
          refine wpOp_stepS rfl (fun K hK => ?_)
          simp only [Act.put, List.setIfInBounds_toArray, List.set_cons_zero, List.set_cons_succ]
          go_simp
          exact hK.out _ _ ⟨by simpa using hsz, v103, v104, v105, v106, v107, v108, v109, v110, .bool false, .bool false, v113, v114, v115, v116, v117, v118, v119, v120, by first | with_reducible rfl | simp only [Act.put, List.setIfInBounds_toArray, List.set_cons_zero, List.set_cons_succ], ⟨fun h => p0 ((On_ne (by omega)).1 h), fun h => p1 ((On_ne (by omega)).1 h), fun h => p2 ((On_ne (by omega)).1 h), fun h => p3 ((On_ne (by omega)).1 h), fun h => p4 ((On_ne (by omega)).1 h), fun h => p5 ((On_ne (by omega)).1 h), fun h => p6 ((On_ne (by omega)).1 h), fun h => p7 ((On_ne (by omega)).1 h), fun h => p8 ((On_ne (by omega)).1 h), fun _ => rfl, fun h => p10 ((On_ne (by omega)).1 h), fun h => p11 ((On_ne (by omega)).1 h), fun h => p12 ((On_ne (by omega)).1 h), fun h => p13 ((On_ne (by omega)).1 h), fun h => p14 ((On_ne (by omega)).1 h), fun h => p15 ((On_ne (by omega)).1 h), fun h => p16 ((On_ne (by omega)).1 h), fun h => p17 ((On_ne (by omega)).1 h)⟩, he⟩
        · cases ho
          have d9 : On ls 9 := hd ⟨9, .guard⟩ (by simp) rfl
          have e := p9 d9
          subst e
          simp only [Act.put, List.setIfInBounds_toArray, List.set_cons_zero, List.set_cons_succ]
          refine wpOp_stepS rfl (fun K hK => ?_)
          refine ite_take (wanted_guard (j := 9) (b := false) (s := 112) rfl rfl rfl (by simp only [List.getElem?_toArray, List.getElem?_cons_succ, List.getElem?_cons_zero])) ?_
          go_simp
          exact hK.out _ _ ⟨by simpa using hsz, v103, v104, v105, v106, v107, v108, v109, v110, v111, .bool false, .map (some b), v114, v115, v116, v117, v118, v119, v120, by first | with_reducible rfl | simp only [Act.put, List.setIfInBounds_toArray, List.set_cons_zero, List.set_cons_succ], ⟨fun h => p0 ((On_ne (by omega)).1 h), fun h => p1 ((On_ne (by omega)).1 h), fun h => p2 ((On_ne (by omega)).1 h), fun h => p3 ((On_ne (by omega)).1 h), fun h => p4 ((On_ne (by omega)).1 h), fun h => p5 ((On_ne (by omega)).1 h), fun h => p6 ((On_ne (by omega)).1 h), fun h => p7 ((On_ne (by omega)).1 h), fun h => p8 ((On_ne (by omega)).1 h), fun h => p9 ((On_ne (by omega)).1 h), fun _ => rfl, fun h => p11 ((On_ne (by omega)).1 h), fun h => p12 ((On_ne (by omega)).1 h), fun h => p13 ((On_ne (by omega)).1 h), fun h => p14 ((On_ne (by omega)).1 h), fun h => p15 ((On_ne (by omega)).1 h), fun h => p16 ((On_ne (by omega)).1 h), fun h => p17 ((On_ne (by omega)).1 h)⟩, he⟩
        · cases ho
          have d9 : On ls 9 := hd ⟨9, .guard⟩ (by simp) rfl
          have e := p9 d9
          subst e
          simp only [Act.put, List.setIfInBounds_toArray, List.set_cons_zero, List.set_cons_succ]
          refine wpOp_stepS rfl (fun K hK => ?_)
          refine ite_take (wanted_guard (j := 9) (b := false) (s := 112) rfl rfl rfl (by simp only [List.getElem?_toArray, List.getElem?_cons_succ, List.getElem?_cons_zero])) ?_
          go_simp
          exact hK.out _ _ ⟨by simpa using hsz, v103, v104, v105, v106, v107, v108, v109, v110, v111, .bool false, v113, .pointer (some ⟨ib, 44, none⟩), v115, v116, v117, v118, v119, v120, by first | with_reducible rfl | simp only [Act.put, List.setIfInBounds_toArray, List.set_cons_zero, List.set_cons_succ], ⟨fun h => p0 ((On_ne (by omega)).1 h), fun h => p1 ((On_ne (by omega)).1 h), fun h => p2 ((On_ne (by omega)).1 h), fun h => p3 ((On_ne (by omega)).1 h), fun h => p4 ((On_ne (by omega)).1 h), fun h => p5 ((On_ne (by omega)).1 h), fun h => p6 ((On_ne (by omega)).1 h), fun h => p7 ((On_ne (by omega)).1 h), fun h => p8 ((On_ne (by omega)).1 h), fun h => p9 ((On_ne (by omega)).1 h), fun h => p10 ((On_ne (by omega)).1 h), fun _ => rfl, fun h => p12 ((On_ne (by omega)).1 h), fun h => p13 ((On_ne (by omega)).1 h), fun h => p14 ((On_ne (by omega)).1 h), fun h => p15 ((On_ne (by omega)).1 h), fun h => p16 ((On_ne (by omega)).1 h), fun h => p17 ((On_ne (by omega)).1 h)⟩, he⟩
        · cases ho
          have d11 : On ls 11 := hd ⟨11, .data⟩ (by simp) rfl
          have e := p11 d11
          subst e
          have d9 : On ls 9 := hd ⟨9, .guard⟩ (by simp) rfl
          have e := p9 d9
          subst e
          simp only [Act.put, List.setIfInBounds_toArray, List.set_cons_zero, List.set_cons_succ]
          refine wpOp_stepS rfl (fun K hK => ?_)
          have hr := (HXQ.out.below he hlt).hasK
          refine ite_take (wanted_guard (j := 9) (b := false) (s := 112) rfl rfl rfl (by simp only [List.getElem?_toArray, List.getElem?_cons_succ, List.getElem?_cons_zero])) ?_
          go_simp
          exact hK.out _ _ ⟨by simpa using hsz, v103, v104, v105, v106, v107, v108, v109, v110, v111, .bool false, v113, .pointer (some ⟨ib, 44, none⟩), .bool x.hasK, v116, v117, v118, v119, v120, by first | with_reducible rfl | simp only [Act.put, List.setIfInBounds_toArray, List.set_cons_zero, List.set_cons_succ], ⟨fun h => p0 ((On_ne (by omega)).1 h), fun h => p1 ((On_ne (by omega)).1 h), fun h => p2 ((On_ne (by omega)).1 h), fun h => p3 ((On_ne (by omega)).1 h), fun h => p4 ((On_ne (by omega)).1 h), fun h => p5 ((On_ne (by omega)).1 h), fun h => p6 ((On_ne (by omega)).1 h), fun h => p7 ((On_ne (by omega)).1 h), fun h => p8 ((On_ne (by omega)).1 h), fun h => p9 ((On_ne (by omega)).1 h), fun h => p10 ((On_ne (by omega)).1 h), fun h => p11 ((On_ne (by omega)).1 h), fun _ => rfl, fun h => p13 ((On_ne (by omega)).1 h), fun h => p14 ((On_ne (by omega)).1 h), fun h => p15 ((On_ne (by omega)).1 h), fun h => p16 ((On_ne (by omega)).1 h), fun h => p17 ((On_ne (by omega)).1 h)⟩, he⟩
        · cases ho
          have d9 : On ls 9 := hd ⟨9, .guard⟩ (by simp) rfl
          have e := p9 d9
          subst e
          simp only [Act.put, List.setIfInBounds_toArray, List.set_cons_zero, List.set_cons_succ]
          refine wpOp_stepS rfl (fun K hK => ?_)
          refine ite_take (wanted_guard (j := 9) (b := false) (s := 112) rfl rfl rfl (by simp only [List.getElem?_toArray, List.getElem?_cons_succ, List.getElem?_cons_zero])) ?_
          go_simp
          exact hK.out _ _ ⟨by simpa using hsz, v103, v104, v105, v106, v107, v108, v109, v110, v111, .bool false, v113, v114, v115, .pointer (some ⟨ib, 65, none⟩), v117, v118, v119, v120, by first | with_reducible rfl | simp only [Act.put, List.setIfInBounds_toArray, List.set_cons_zero, List.set_cons_succ], ⟨fun h => p0 ((On_ne (by omega)).1 h), fun h => p1 ((On_ne (by omega)).1 h), fun h => p2 ((On_ne (by omega)).1 h), fun h => p3 ((On_ne (by omega)).1 h), fun h => p4 ((On_ne (by omega)).1 h), fun h => p5 ((On_ne (by omega)).1 h), fun h => p6 ((On_ne (by omega)).1 h), fun h => p7 ((On_ne (by omega)).1 h), fun h => p8 ((On_ne (by omega)).1 h), fun h => p9 ((On_ne (by omega)).1 h), fun h => p10 ((On_ne (by omega)).1 h), fun h => p11 ((On_ne (by omega)).1 h), fun h => p12 ((On_ne (by omega)).1 h), fun _ => rfl, fun h => p14 ((On_ne (by omega)).1 h), fun h => p15 ((On_ne (by omega)).1 h), fun h => p16 ((On_ne (by omega)).1 h), fun h => p17 ((On_ne (by omega)).1 h)⟩, he⟩
        · cases ho
          have d13 : On ls 13 := hd ⟨13, .data⟩ (by simp) rfl
          have e := p13 d13
          subst e
          have d9 : On ls 9 := hd ⟨9, .guard⟩ (by simp) rfl
          have e := p9 d9
          subst e
          simp only [Act.put, List.setIfInBounds_toArray, List.set_cons_zero, List.set_cons_succ]
          refine wpOp_stepS rfl (fun K hK => ?_)
          have hr := (HXQ.out.below he hlt).ka
          refine ite_take (wanted_guard (j := 9) (b := false) (s := 112) rfl rfl rfl (by simp only [List.getElem?_toArray, List.getElem?_cons_succ, List.getElem?_cons_zero])) ?_
          go_simp
          exact hK.out _ _ ⟨by simpa using hsz, v103, v104, v105, v106, v107, v108, v109, v110, v111, .bool false, v113, v114, v115, .pointer (some ⟨ib, 65, none⟩), .string x.ka, v118, v119, v120, by first | with_reducible rfl | simp only [Act.put, List.setIfInBounds_toArray, List.set_cons_zero, List.set_cons_succ], ⟨fun h => p0 ((On_ne (by omega)).1 h), fun h => p1 ((On_ne (by omega)).1 h), fun h => p2 ((On_ne (by omega)).1 h), fun h => p3 ((On_ne (by omega)).1 h), fun h => p4 ((On_ne (by omega)).1 h), fun h => p5 ((On_ne (by omega)).1 h), fun h => p6 ((On_ne (by omega)).1 h), fun h => p7 ((On_ne (by omega)).1 h), fun h => p8 ((On_ne (by omega)).1 h), fun h => p9 ((On_ne (by omega)).1 h), fun h => p10 ((On_ne (by omega)).1 h), fun h => p11 ((On_ne (by omega)).1 h), fun h => p12 ((On_ne (by omega)).1 h), fun h => p13 ((On_ne (by omega)).1 h), fun _ => rfl, fun h => p15 ((On_ne (by omega)).1 h), fun h => p16 ((On_ne (by omega)).1 h), fun h => p17 ((On_ne (by omega)).1 h)⟩, he⟩
        · cases ho
          have d10 : On ls 10 := hd ⟨10, .data⟩ (by simp) rfl
          have e := p10 d10
          subst e
          have d12 : On ls 12 := hd ⟨12, .data⟩ (by simp) rfl
          have e := p12 d12
          subst e
          have d14 : On ls 14 := hd ⟨14, .data⟩ (by simp) rfl
          have e := p14 d14
          subst e
          have d9 : On ls 9 := hd ⟨9, .guard⟩ (by simp) rfl
          have e := p9 d9
          subst e
          simp only [Act.put, List.setIfInBounds_toArray, List.set_cons_zero, List.set_cons_succ]
          refine wpOp_stepS rfl (fun K hK => ?_)
          refine ite_take (wanted_guard (j := 9) (b := false) (s := 112) rfl rfl rfl (by simp only [List.getElem?_toArray, List.getElem?_cons_succ, List.getElem?_cons_zero])) ?_
          go_simp
          refine (cone_any (HV.out.later he) (⟨#[107, 101, 101, 112, 101, 114, 95, 97, 100, 100, 114]⟩ : ByteArray) _ x.hasK (by decide) HAS.out.2.2.2.2.2.2.1).mono ?_
          rintro e w2 ⟨rfl, rfl⟩
          exact hK.out _ _ ⟨by simpa using hsz, v103, v104, v105, v106, v107, v108, v109, v110, v111, .bool false, .map (some b), v114, .bool x.hasK, v116, .string x.ka, .bool true, v119, v120, by first | with_reducible rfl | simp only [Act.put, List.setIfInBounds_toArray, List.set_cons_zero, List.set_cons_succ], ⟨fun h => p0 ((On_ne (by omega)).1 h), fun h => p1 ((On_ne (by omega)).1 h), fun h => p2 ((On_ne (by omega)).1 h), fun h => p3 ((On_ne (by omega)).1 h), fun h => p4 ((On_ne (by omega)).1 h), fun h => p5 ((On_ne (by omega)).1 h), fun h => p6 ((On_ne (by omega)).1 h), fun h => p7 ((On_ne (by omega)).1 h), fun h => p8 ((On_ne (by omega)).1 h), fun h => p9 ((On_ne (by omega)).1 h), fun h => p10 ((On_ne (by omega)).1 h), fun h => p11 ((On_ne (by omega)).1 h), fun h => p12 ((On_ne (by omega)).1 h), fun h => p13 ((On_ne (by omega)).1 h), fun h => p14 ((On_ne (by omega)).1 h), fun _ => rfl, fun h => p16 ((On_ne (by omega)).1 h), fun h => p17 ((On_ne (by omega)).1 h)⟩, he⟩
        · cases ho
          have d15 : On ls 15 := hd ⟨15, .data⟩ (by simp) rfl
          have e := p15 d15
          subst e
          have d9 : On ls 9 := hd ⟨9, .guard⟩ (by simp) rfl
          have e := p9 d9
          subst e
          simp only [Act.put, List.setIfInBounds_toArray, List.set_cons_zero, List.set_cons_succ]
          refine wpOp_stepS rfl (fun K hK => ?_)
          refine ite_take (wanted_guard (j := 9) (b := false) (s := 112) rfl rfl rfl (by simp only [List.getElem?_toArray, List.getElem?_cons_succ, List.getElem?_cons_zero])) ?_
          go_simp
          exact hK.out _ _ ⟨by simpa using hsz, v103, v104, v105, v106, v107, v108, v109, v110, v111, .bool false, v113, v114, v115, v116, v117, .bool true, .bool false, v120, by first | with_reducible rfl | simp only [Act.put, List.setIfInBounds_toArray, List.set_cons_zero, List.set_cons_succ], ⟨fun h => p0 ((On_ne (by omega)).1 h), fun h => p1 ((On_ne (by omega)).1 h), fun h => p2 ((On_ne (by omega)).1 h), fun h => p3 ((On_ne (by omega)).1 h), fun h => p4 ((On_ne (by omega)).1 h), fun h => p5 ((On_ne (by omega)).1 h), fun h => p6 ((On_ne (by omega)).1 h), fun h => p7 ((On_ne (by omega)).1 h), fun h => p8 ((On_ne (by omega)).1 h), fun h => p9 ((On_ne (by omega)).1 h), fun h => p10 ((On_ne (by omega)).1 h), fun h => p11 ((On_ne (by omega)).1 h), fun h => p12 ((On_ne (by omega)).1 h), fun h => p13 ((On_ne (by omega)).1 h), fun h => p14 ((On_ne (by omega)).1 h), fun h => p15 ((On_ne (by omega)).1 h), fun _ => rfl, fun h => p17 ((On_ne (by omega)).1 h)⟩, he⟩
        · cases ho
          have d9 : On ls 9 := hd ⟨9, .data⟩ (by simp) rfl
          have e := p9 d9
          subst e
          have d16 : On ls 16 := hd ⟨16, .data⟩ (by simp) rfl
          have e := p16 d16
          subst e
          refine wpOp_stepS rfl (fun K hK => ?_)
          simp only [Act.put, List.setIfInBounds_toArray, List.set_cons_zero, List.set_cons_succ]
          go_simp
          exact hK.out _ _ ⟨by simpa using hsz, v103, v104, v105, v106, v107, v108, v109, v110, v111, .bool false, v113, v114, v115, v116, v117, v118, .bool false, .bool false, by first | with_reducible rfl | simp only [Act.put, List.setIfInBounds_toArray, List.set_cons_zero, List.set_cons_succ], ⟨fun h => p0 ((On_ne (by omega)).1 h), fun h => p1 ((On_ne (by omega)).1 h), fun h => p2 ((On_ne (by omega)).1 h), fun h => p3 ((On_ne (by omega)).1 h), fun h => p4 ((On_ne (by omega)).1 h), fun h => p5 ((On_ne (by omega)).1 h), fun h => p6 ((On_ne (by omega)).1 h), fun h => p7 ((On_ne (by omega)).1 h), fun h => p8 ((On_ne (by omega)).1 h), fun h => p9 ((On_ne (by omega)).1 h), fun h => p10 ((On_ne (by omega)).1 h), fun h => p11 ((On_ne (by omega)).1 h), fun h => p12 ((On_ne (by omega)).1 h), fun h => p13 ((On_ne (by omega)).1 h), fun h => p14 ((On_ne (by omega)).1 h), fun h => p15 ((On_ne (by omega)).1 h), fun h => p16 ((On_ne (by omega)).1 h), fun _ => rfl⟩, he⟩
      · intro ls a' w' hall hI
        obtain ⟨hsz, v103, v104, v105, v106, v107, v108, v109, v110, v111, v112, v113, v114, v115, v116, v117, v118, v119, v120, rfl, ⟨p0, p1, p2, p3, p4, p5, p6, p7, p8, p9, p10, p11, p12, p13, p14, p15, p16, p17⟩, he⟩ := hI
        have e := p17 (On.of_listed (by omega) (hall 17 (by simp)))
        subst e
        clear hall hsz p0 p1 p2 p3 p4 p5 p6 p7 p8 p9 p10 p11 p12 p13 p14 p15 p16
        simp only [Act.put, List.setIfInBounds_toArray, List.set_cons_zero, List.set_cons_succ]
        go_wp2_with fail
        go_meet
        case rel => exact ⟨rfl, he⟩
    case rest =>
    clear HBc3
    obtain ⟨rfl, hbn⟩ := hcut
    have HBp34 := Lib.hid hbn
    have hc := (HXQ.out.below hbn hlt).hasK
    clear hbn
    go_upto_if 122 with fail
    clear hc
    go_cut [8] (fun q w' => ∃ N : Nat, q = .int .i64 (N : Int) ∧ N = N3 + two x.hasK ∧ Below w3.heap.size w3 w')
    case first => as_aux_lemma =>
      cases hop : x.hasK
      · go_wp2_with fail
        go_meet
        case rel => exact ⟨N3, rfl, by rw [hop]; rfl, HBp34.out⟩
      · go_wp2_with fail
        go_meet
        case rel => exact ⟨N3 + 2, by first | rfl | (simp only [Int.natCast_add]; rfl), by rw [hop]; rfl, HBp34.out⟩
    case rest =>
    clear HBp34
    obtain ⟨N4, rfl, hN, hbn⟩ := hcut
    have HBc4 := Lib.hid hbn
    have hM4 : N4 ≤ 7 := by rw [hN]; unfold two; split <;> omega
    have HN4 := Lib.hid hN
    clear hN hbn
    go_upto_region 38 with fail
    go_cut [142] (fun q w' => q = .bool false ∧ Below w3.heap.size w3 w')
    case first => as_aux_lemma =>
      refine wp_region_inv (by kernel_rfl) (by kernel_rfl) (fun a0 ls a w' => ls.size = 18 ∧ ∃ v125 v126 v127 v128 v129 v130 v131 v132 v133 v134 v135 v136 v137 v138 v139 v140 v141 v142, a = ((((((((((((((((((a0.put (some 125) v125).put (some 126) v126).put (some 127) v127).put (some 128) v128).put (some 129) v129).put (some 130) v130).put (some 131) v131).put (some 132) v132).put (some 133) v133).put (some 134) v134).put (some 135) v135).put (some 136) v136).put (some 137) v137).put (some 138) v138).put (some 139) v139).put (some 140) v140).put (some 141) v141).put (some 142) v142) ∧ ((On ls 0 → v125 = .map (some b)) ∧ (On ls 1 → v126 = .pointer (some ⟨ib, 66, none⟩)) ∧ (On ls 2 → v127 = .bool x.hasB) ∧ (On ls 3 → v128 = .pointer (some ⟨ib, 67, none⟩)) ∧ (On ls 4 → v129 = .agg (bv x.lb).toArray) ∧ (On ls 5 → v130 = .int .i64 (D : Int)) ∧ (On ls 6 → v131 = .string (tail x.lb D)) ∧ (On ls 7 → v132 = .bool true) ∧ (On ls 8 → v133 = .bool false) ∧ (On ls 9 → v134 = .bool false) ∧ (On ls 10 → v135 = .map (some b)) ∧ (On ls 11 → v136 = .pointer (some ⟨ib, 66, none⟩)) ∧ (On ls 12 → v137 = .bool x.hasB) ∧ (On ls 13 → v138 = .pointer (some ⟨ib, 87, none⟩)) ∧ (On ls 14 → v139 = .string x.ba) ∧ (On ls 15 → v140 = .bool true) ∧ (On ls 16 → v141 = .bool false) ∧ (On ls 17 → v142 = .bool false)) ∧ Below w3.heap.size w3 w') ?_ ?_ ?_
      · refine ⟨by simp, u125, u126, u127, u128, u129, u130, u131, u132, u133, u134, u135, u136, u137, u138, u139, u140, u141, u142, by simp only [Act.put, List.setIfInBounds_toArray, List.set_cons_zero, List.set_cons_succ], ⟨fun h => h.not_replicate.elim, fun h => h.not_replicate.elim, fun h => h.not_replicate.elim, fun h => h.not_replicate.elim, fun h => h.not_replicate.elim, fun h => h.not_replicate.elim, fun h => h.not_replicate.elim, fun h => h.not_replicate.elim, fun h => h.not_replicate.elim, fun h => h.not_replicate.elim, fun h => h.not_replicate.elim, fun h => h.not_replicate.elim, fun h => h.not_replicate.elim, fun h => h.not_replicate.elim, fun h => h.not_replicate.elim, fun h => h.not_replicate.elim, fun h => h.not_replicate.elim, fun h => h.not_replicate.elim⟩, HBc4.out.drew⟩
      · intro i o ls a' w' ho hl hd hI
        obtain ⟨hsz, v125, v126, v127, v128, v129, v130, v131, v132, v133, v134, v135, v136, v137, v138, v139, v140, v141, v142, rfl, ⟨p0, p1, p2, p3, p4, p5, p6, p7, p8, p9, p10, p11, p12, p13, p14, p15, p16, p17⟩, he⟩ := hI
        have hi : i < 18 := (Array.getElem?_eq_some_iff.1 ho).1
        rcases (by omega : i = 0 ∨ i = 1 ∨ i = 2 ∨ i = 3 ∨ i = 4 ∨ i = 5 ∨ i = 6 ∨ i = 7 ∨ i = 8 ∨ i = 9 ∨ i = 10 ∨ i = 11 ∨ i = 12 ∨ i = 13 ∨ i = 14 ∨ i = 15 ∨ i = 16 ∨ i = 17) with rfl | rfl | rfl | rfl | rfl | rfl | rfl | rfl | rfl | rfl | rfl | rfl | rfl | rfl | rfl | rfl | rfl | rfl
        · cases ho
          refine wpOp_stepS rfl (fun K hK => ?_)
          simp only [Act.put, List.setIfInBounds_toArray, List.set_cons_zero, List.set_cons_succ]
          go_simp
          exact hK.out _ _ ⟨by simpa using hsz, .map (some b), v126, v127, v128, v129, v130, v131, v132, v133, v134, v135, v136, v137, v138, v139, v140, v141, v142, by first | with_reducible rfl | simp only [Act.put, List.setIfInBounds_toArray, List.set_cons_zero, List.set_cons_succ], ⟨fun _ => rfl, fun h => p1 ((On_ne (by omega)).1 h), fun h => p2 ((On_ne (by omega)).1 h), fun h => p3 ((On_ne (by omega)).1 h), fun h => p4 ((On_ne (by omega)).1 h), fun h => p5 ((On_ne (by omega)).1 h), fun h => p6 ((On_ne (by omega)).1 h), fun h => p7 ((On_ne (by omega)).1 h), fun h => p8 ((On_ne (by omega)).1 h), fun h => p9 ((On_ne (by omega)).1 h), fun h => p10 ((On_ne (by omega)).1 h), fun h => p11 ((On_ne (by omega)).1 h), fun h => p12 ((On_ne (by omega)).1 h), fun h => p13 ((On_ne (by omega)).1 h), fun h => p14 ((On_ne (by omega)).1 h), fun h => p15 ((On_ne (by omega)).1 h), fun h => p16 ((On_ne (by omega)).1 h), fun h => p17 ((On_ne (by omega)).1 h)⟩, he⟩
        · cases ho
          refine wpOp_stepS rfl (fun K hK => ?_)
          simp only [Act.put, List.setIfInBounds_toArray, List.set_cons_zero, List.set_cons_succ]
          go_simp
          exact hK.out _ _ ⟨by simpa using hsz, v125, .pointer (some ⟨ib, 66, none⟩), v127, v128, v129, v130, v131, v132, v133, v134, v135, v136, v137, v138, v139, v140, v141, v142, by first | with_reducible rfl | simp only [Act.put, List.setIfInBounds_toArray, List.set_cons_zero, List.set_cons_succ], ⟨fun h => p0 ((On_ne (by omega)).1 h), fun _ => rfl, fun h => p2 ((On_ne (by omega)).1 h), fun h => p3 ((On_ne (by omega)).1 h), fun h => p4 ((On_ne (by omega)).1 h), fun h => p5 ((On_ne (by omega)).1 h), fun h => p6 ((On_ne (by omega)).1 h), fun h => p7 ((On_ne (by omega)).1 h), fun h => p8 ((On_ne (by omega)).1 h), fun h => p9 ((On_ne (by omega)).1 h), fun h => p10 ((On_ne (by omega)).1 h), fun h => p11 ((On_ne (by omega)).1 h), fun h => p12 ((On_ne (by omega)).1 h), fun h => p13 ((On_ne (by omega)).1 h), fun h => p14 ((On_ne (by omega)).1 h), fun h => p15 ((On_ne (by omega)).1 h), fun h => p16 ((On_ne (by omega)).1 h), fun h => p17 ((On_ne (by omega)).1 h)⟩, he⟩
        · cases ho
          have d1 : On ls 1 := hd ⟨1, .data⟩ (by simp) rfl
          have e := p1 d1
          subst e
          refine wpOp_stepS rfl (fun K hK => ?_)
          simp only [Act.put, List.setIfInBounds_toArray, List.set_cons_zero, List.set_cons_succ]
          have hr := (HXQ.out.below he hlt).hasB
          go_simp
          exact hK.out _ _ ⟨by simpa using hsz, v125, .pointer (some ⟨ib, 66, none⟩), .bool x.hasB, v128, v129, v130, v131, v132, v133, v134, v135, v136, v137, v138, v139, v140, v141, v142, by first | with_reducible rfl | simp only [Act.put, List.setIfInBounds_toArray, List.set_cons_zero, List.set_cons_succ], ⟨fun h => p0 ((On_ne (by omega)).1 h), fun h => p1 ((On_ne (by omega)).1 h), fun _ => rfl, fun h => p3 ((On_ne (by omega)).1 h), fun h => p4 ((On_ne (by omega)).1 h), fun h => p5 ((On_ne (by omega)).1 h), fun h => p6 ((On_ne (by omega)).1 h), fun h => p7 ((On_ne (by omega)).1 h), fun h => p8 ((On_ne (by omega)).1 h), fun h => p9 ((On_ne (by omega)).1 h), fun h => p10 ((On_ne (by omega)).1 h), fun h => p11 ((On_ne (by omega)).1 h), fun h => p12 ((On_ne (by omega)).1 h), fun h => p13 ((On_ne (by omega)).1 h), fun h => p14 ((On_ne (by omega)).1 h), fun h => p15 ((On_ne (by omega)).1 h), fun h => p16 ((On_ne (by omega)).1 h), fun h => p17 ((On_ne (by omega)).1 h)⟩, he⟩
        · cases ho
          refine wpOp_stepS rfl (fun K hK => ?_)
          simp only [Act.put, List.setIfInBounds_toArray, List.set_cons_zero, List.set_cons_succ]
          go_simp
          exact hK.out _ _ ⟨by simpa using hsz, v125, v126, v127, .pointer (some ⟨ib, 67, none⟩), v129, v130, v131, v132, v133, v134, v135, v136, v137, v138, v139, v140, v141, v142, by first | with_reducible rfl | simp only [Act.put, List.setIfInBounds_toArray, List.set_cons_zero, List.set_cons_succ], ⟨fun h => p0 ((On_ne (by omega)).1 h), fun h => p1 ((On_ne (by omega)).1 h), fun h => p2 ((On_ne (by omega)).1 h), fun _ => rfl, fun h => p4 ((On_ne (by omega)).1 h), fun h => p5 ((On_ne (by omega)).1 h), fun h => p6 ((On_ne (by omega)).1 h), fun h => p7 ((On_ne (by omega)).1 h), fun h => p8 ((On_ne (by omega)).1 h), fun h => p9 ((On_ne (by omega)).1 h), fun h => p10 ((On_ne (by omega)).1 h), fun h => p11 ((On_ne (by omega)).1 h), fun h => p12 ((On_ne (by omega)).1 h), fun h => p13 ((On_ne (by omega)).1 h), fun h => p14 ((On_ne (by omega)).1 h), fun h => p15 ((On_ne (by omega)).1 h), fun h => p16 ((On_ne (by omega)).1 h), fun h => p17 ((On_ne (by omega)).1 h)⟩, he⟩
        · cases ho
          have d3 : On ls 3 := hd ⟨3, .data⟩ (by simp) rfl
          have e := p3 d3
          subst e
          refine wpOp_stepS rfl (fun K hK => ?_)
          simp only [Act.put, List.setIfInBounds_toArray, List.set_cons_zero, List.set_cons_succ]
          have hr := (HXQ.out.below he hlt).lb
          rw [if_pos (by rfl)]
          refine wp_load_mid 22 _ rfl ib 67 rfl (bv x.lb) _ hr Ybad.underlying22 rfl (info22 _ ok.hb) ?_
          simp only [List.getElem_toArray, List.getElem_cons_succ, List.getElem_cons_zero, Act.put, List.setIfInBounds_toArray, List.set_cons_zero, List.set_cons_succ]
          exact hK.out _ _ ⟨by simpa using hsz, v125, v126, v127, .pointer (some ⟨ib, 67, none⟩), .agg (bv x.lb).toArray, v130, v131, v132, v133, v134, v135, v136, v137, v138, v139, v140, v141, v142, by first | with_reducible rfl | simp only [Act.put, List.setIfInBounds_toArray, List.set_cons_zero, List.set_cons_succ], ⟨fun h => p0 ((On_ne (by omega)).1 h), fun h => p1 ((On_ne (by omega)).1 h), fun h => p2 ((On_ne (by omega)).1 h), fun h => p3 ((On_ne (by omega)).1 h), fun _ => rfl, fun h => p5 ((On_ne (by omega)).1 h), fun h => p6 ((On_ne (by omega)).1 h), fun h => p7 ((On_ne (by omega)).1 h), fun h => p8 ((On_ne (by omega)).1 h), fun h => p9 ((On_ne (by omega)).1 h), fun h => p10 ((On_ne (by omega)).1 h), fun h => p11 ((On_ne (by omega)).1 h), fun h => p12 ((On_ne (by omega)).1 h), fun h => p13 ((On_ne (by omega)).1 h), fun h => p14 ((On_ne (by omega)).1 h), fun h => p15 ((On_ne (by omega)).1 h), fun h => p16 ((On_ne (by omega)).1 h), fun h => p17 ((On_ne (by omega)).1 h)⟩, he⟩
        · cases ho
          refine wpOp_stepS rfl (fun K hK => ?_)
          simp only [Act.put, List.setIfInBounds_toArray, List.set_cons_zero, List.set_cons_succ]
          go_simp
          exact hK.out _ _ ⟨by simpa using hsz, v125, v126, v127, v128, v129, .int .i64 (D : Int), v131, v132, v133, v134, v135, v136, v137, v138, v139, v140, v141, v142, by first | with_reducible rfl | simp only [Act.put, List.setIfInBounds_toArray, List.set_cons_zero, List.set_cons_succ], ⟨fun h => p0 ((On_ne (by omega)).1 h), fun h => p1 ((On_ne (by omega)).1 h), fun h => p2 ((On_ne (by omega)).1 h), fun h => p3 ((On_ne (by omega)).1 h), fun h => p4 ((On_ne (by omega)).1 h), fun _ => rfl, fun h => p6 ((On_ne (by omega)).1 h), fun h => p7 ((On_ne (by omega)).1 h), fun h => p8 ((On_ne (by omega)).1 h), fun h => p9 ((On_ne (by omega)).1 h), fun h => p10 ((On_ne (by omega)).1 h), fun h => p11 ((On_ne (by omega)).1 h), fun h => p12 ((On_ne (by omega)).1 h), fun h => p13 ((On_ne (by omega)).1 h), fun h => p14 ((On_ne (by omega)).1 h), fun h => p15 ((On_ne (by omega)).1 h), fun h => p16 ((On_ne (by omega)).1 h), fun h => p17 ((On_ne (by omega)).1 h)⟩, he⟩
        · cases ho
          have d4 : On ls 4 := hd ⟨4, .data⟩ (by simp) rfl
          have e := p4 d4
          subst e
          have d5 : On ls 5 := hd ⟨5, .data⟩ (by simp) rfl
          have e := p5 d5
          subst e
          refine wpOp_stepS rfl (fun K hK => ?_)
          simp only [Act.put, List.setIfInBounds_toArray, List.set_cons_zero, List.set_cons_succ]
          go_simp
          refine (chex_any D hD1 hD2 x.lb ok.hb _).mono ?_
          rintro e w2 ⟨rfl, hb2⟩
          exact hK.out _ _ ⟨by simpa using hsz, v125, v126, v127, v128, .agg (bv x.lb).toArray, .int .i64 (D : Int), .string (tail x.lb D), v132, v133, v134, v135, v136, v137, v138, v139, v140, v141, v142, by first | with_reducible rfl | simp only [Act.put, List.setIfInBounds_toArray, List.set_cons_zero, List.set_cons_succ], ⟨fun h => p0 ((On_ne (by omega)).1 h), fun h => p1 ((On_ne (by omega)).1 h), fun h => p2 ((On_ne (by omega)).1 h), fun h => p3 ((On_ne (by omega)).1 h), fun h => p4 ((On_ne (by omega)).1 h), fun h => p5 ((On_ne (by omega)).1 h), fun _ => rfl, fun h => p7 ((On_ne (by omega)).1 h), fun h => p8 ((On_ne (by omega)).1 h), fun h => p9 ((On_ne (by omega)).1 h), fun h => p10 ((On_ne (by omega)).1 h), fun h => p11 ((On_ne (by omega)).1 h), fun h => p12 ((On_ne (by omega)).1 h), fun h => p13 ((On_ne (by omega)).1 h), fun h => p14 ((On_ne (by omega)).1 h), fun h => p15 ((On_ne (by omega)).1 h), fun h => p16 ((On_ne (by omega)).1 h), fun h => p17 ((On_ne (by omega)).1 h)⟩, he.trans (hb2.mono he.size)⟩
        · cases ho
          have d0 : On ls 0 := hd ⟨0, .data⟩ (by simp) rfl
          have e := p0 d0
          subst e
          have d2 : On ls 2 := hd ⟨2, .data⟩ (by simp) rfl
          have e := p2 d2
          subst e
          have d6 : On ls 6 := hd ⟨6, .data⟩ (by simp) rfl
          have e := p6 d6
          subst e
          refine wpOp_stepS rfl (fun K hK => ?_)
          simp only [Act.put, List.setIfInBounds_toArray, List.set_cons_zero, List.set_cons_succ]
          go_simp
          refine (cone_any (HV.out.later he) (⟨#[98, 101, 102, 111, 114, 101]⟩ : ByteArray) _ x.hasB (by decide) HAS.out.2.2.2.2.2.2.2.1).mono ?_
          rintro e w2 ⟨rfl, rfl⟩
          exact hK.out _ _ ⟨by simpa using hsz, .map (some b), v126, .bool x.hasB, v128, v129, v130, .string (tail x.lb D), .bool true, v133, v134, v135, v136, v137, v138, v139, v140, v141, v142, by first | with_reducible rfl | simp only [Act.put, List.setIfInBounds_toArray, List.set_cons_zero, List.set_cons_succ], ⟨fun h => p0 ((On_ne (by omega)).1 h), fun h => p1 ((On_ne (by omega)).1 h), fun h => p2 ((On_ne (by omega)).1 h), fun h => p3 ((On_ne (by omega)).1 h), fun h => p4 ((On_ne (by omega)).1 h), fun h => p5 ((On_ne (by omega)).1 h), fun h => p6 ((On_ne (by omega)).1 h), fun _ => rfl, fun h => p8 ((On_ne (by omega)).1 h), fun h => p9 ((On_ne (by omega)).1 h), fun h => p10 ((On_ne (by omega)).1 h), fun h => p11 ((On_ne (by omega)).1 h), fun h => p12 ((On_ne (by omega)).1 h), fun h => p13 ((On_ne (by omega)).1 h), fun h => p14 ((On_ne (by omega)).1 h), fun h => p15 ((On_ne (by omega)).1 h), fun h => p16 ((On_ne (by omega)).1 h), fun h => p17 ((On_ne (by omega)).1 h)⟩, he⟩
        · cases ho
          have d7 : On ls 7 := hd ⟨7, .data⟩ (by simp) rfl
          have e := p7 d7
          subst e
          refine wpOp_stepS rfl (fun K hK => ?_)
          simp only [Act.put, List.setIfInBounds_toArray, List.set_cons_zero, List.set_cons_succ]
          go_simp
          exact hK.out _ _ ⟨by simpa using hsz, v125, v126, v127, v128, v129, v130, v131, .bool true, .bool false, v134, v135, v136, v137, v138, v139, v140, v141, v142, by first | with_reducible rfl | simp only [Act.put, List.setIfInBounds_toArray, List.set_cons_zero, List.set_cons_succ], ⟨fun h => p0 ((On_ne (by omega)).1 h), fun h => p1 ((On_ne (by omega)).1 h), fun h => p2 ((On_ne (by omega)).1 h), fun h => p3 ((On_ne (by omega)).1 h), fun h => p4 ((On_ne (by omega)).1 h), fun h => p5 ((On_ne (by omega)).1 h), fun h => p6 ((On_ne (by omega)).1 h), fun h => p7 ((On_ne (by omega)).1 h), fun _ => rfl, fun h => p9 ((On_ne (by omega)).1 h), fun h => p10 ((On_ne (by omega)).1 h), fun h => p11 ((On_ne (by omega)).1 h), fun h => p12 ((On_ne (by omega)).1 h), fun h => p13 ((On_ne (by omega)).1 h), fun h => p14 ((On_ne (by omega)).1 h), fun h => p15 ((On_ne (by omega)).1 h), fun h => p16 ((On_ne (by omega)).1 h), fun h => p17 ((On_ne (by omega)).1 h)⟩, he⟩
        · cases ho
          have d8 : On ls 8 := hd ⟨8, .data⟩ (by simp) rfl
          have e := p8 d8
          subst e
          refine wpOp_stepS rfl (fun K hK => ?_)
          simp only [Act.put, List.setIfInBounds_toArray, List.set_cons_zero, List.set_cons_succ]
          go_simp
          exact hK.out _ _ ⟨by simpa using hsz, v125, v126, v127, v128, v129, v130, v131, v132, .bool false, .bool false, v135, v136, v137, v138, v139, v140, v141, v142, by first | with_reducible rfl | simp only [Act.put, List.setIfInBounds_toArray, List.set_cons_zero, List.set_cons_succ], ⟨fun h => p0 ((On_ne (by omega)).1 h), fun h => p1 ((On_ne (by omega)).1 h), fun h => p2 ((On_ne (by omega)).1 h), fun h => p3 ((On_ne (by omega)).1 h), fun h => p4 ((On_ne (by omega)).1 h), fun h => p5 ((On_ne (by omega)).1 h), fun h => p6 ((On_ne (by omega)).1 h), fun h => p7 ((On_ne (by omega)).1 h), fun h => p8 ((On_ne (by omega)).1 h), fun _ => rfl, fun h => p10 ((On_ne (by omega)).1 h), fun h => p11 ((On_ne (by omega)).1 h), fun h => p12 ((On_ne (by omega)).1 h), fun h => p13 ((On_ne (by omega)).1 h), fun h => p14 ((On_ne (by omega)).1 h), fun h => p15 ((On_ne (by omega)).1 h), fun h => p16 ((On_ne (by omega)).1 h), fun h => p17 ((On_ne (by omega)).1 h)⟩, he⟩
        · cases ho
          have d9 : On ls 9 := hd ⟨9, .guard⟩ (by simp) rfl
          have e := p9 d9
          subst e
          simp only [Act.put, List.setIfInBounds_toArray, List.set_cons_zero, List.set_cons_succ]
          refine wpOp_stepS rfl (fun K hK => ?_)
          refine ite_take (wanted_guard (j := 9) (b := false) (s := 134) rfl rfl rfl (by simp only [List.getElem?_toArray, List.getElem?_cons_succ, List.getElem?_cons_zero])) ?_
          go_simp
          exact hK.out _ _ ⟨by simpa using hsz, v125, v126, v127, v128, v129, v130, v131, v132, v133, .bool false, .map (some b), v136, v137, v138, v139, v140, v141, v142, by first | with_reducible rfl | simp only [Act.put, List.setIfInBounds_toArray, List.set_cons_zero, List.set_cons_succ], ⟨fun h => p0 ((On_ne (by omega)).1 h), fun h => p1 ((On_ne (by omega)).1 h), fun h => p2 ((On_ne (by omega)).1 h), fun h => p3 ((On_ne (by omega)).1 h), fun h => p4 ((On_ne (by omega)).1 h), fun h => p5 ((On_ne (by omega)).1 h), fun h => p6 ((On_ne (by omega)).1 h), fun h => p7 ((On_ne (by omega)).1 h), fun h => p8 ((On_ne (by omega)).1 h), fun h => p9 ((On_ne (by omega)).1 h), fun _ => rfl, fun h => p11 ((On_ne (by omega)).1 h), fun h => p12 ((On_ne (by omega)).1 h), fun h => p13 ((On_ne (by omega)).1 h), fun h => p14 ((On_ne (by omega)).1 h), fun h => p15 ((On_ne (by omega)).1 h), fun h => p16 ((On_ne (by omega)).1 h), fun h => p17 ((On_ne (by omega)).1 h)⟩, he⟩
        · cases ho
          have d9 : On ls 9 := hd ⟨9, .guard⟩ (by simp) rfl
          have e := p9 d9
          subst e
          simp only [Act.put, List.setIfInBounds_toArray, List.set_cons_zero, List.set_cons_succ]
          refine wpOp_stepS rfl (fun K hK => ?_)
          refine ite_take (wanted_guard (j := 9) (b := false) (s := 134) rfl rfl rfl (by simp only [List.getElem?_toArray, List.getElem?_cons_succ, List.getElem?_cons_zero])) ?_
          go_simp
          exact hK.out _ _ ⟨by simpa using hsz, v125, v126, v127, v128, v129, v130, v131, v132, v133, .bool false, v135, .pointer (some ⟨ib, 66, none⟩), v137, v138, v139, v140, v141, v142, by first | with_reducible rfl | simp only [Act.put, List.setIfInBounds_toArray, List.set_cons_zero, List.set_cons_succ], ⟨fun h => p0 ((On_ne (by omega)).1 h), fun h => p1 ((On_ne (by omega)).1 h), fun h => p2 ((On_ne (by omega)).1 h), fun h => p3 ((On_ne (by omega)).1 h), fun h => p4 ((On_ne (by omega)).1 h), fun h => p5 ((On_ne (by omega)).1 h), fun h => p6 ((On_ne (by omega)).1 h), fun h => p7 ((On_ne (by omega)).1 h), fun h => p8 ((On_ne (by omega)).1 h), fun h => p9 ((On_ne (by omega)).1 h), fun h => p10 ((On_ne (by omega)).1 h), fun _ => rfl, fun h => p12 ((On_ne (by omega)).1 h), fun h => p13 ((On_ne (by omega)).1 h), fun h => p14 ((On_ne (by omega)).1 h), fun h => p15 ((On_ne (by omega)).1 h), fun h => p16 ((On_ne (by omega)).1 h), fun h => p17 ((On_ne (by omega)).1 h)⟩, he⟩
        · cases ho
          have d11 : On ls 11 := hd ⟨11, .data⟩ (by simp) rfl
          have e := p11 d11
          subst e
          have d9 : On ls 9 := hd ⟨9, .guard⟩ (by simp) rfl
          have e := p9 d9
          subst e
          simp only [Act.put, List.setIfInBounds_toArray, List.set_cons_zero, List.set_cons_succ]
          refine wpOp_stepS rfl (fun K hK => ?_)
          have hr := (HXQ.out.below he hlt).hasB
          refine ite_take (wanted_guard (j := 9) (b := false) (s := 134) rfl rfl rfl (by simp only [List.getElem?_toArray, List.getElem?_cons_succ, List.getElem?_cons_zero])) ?_
          go_simp
          exact hK.out _ _ ⟨by simpa using hsz, v125, v126, v127, v128, v129, v130, v131, v132, v133, .bool false, v135, .pointer (some ⟨ib, 66, none⟩), .bool x.hasB, v138, v139, v140, v141, v142, by first | with_reducible rfl | simp only [Act.put, List.setIfInBounds_toArray, List.set_cons_zero, List.set_cons_succ], ⟨fun h => p0 ((On_ne (by omega)).1 h), fun h => p1 ((On_ne (by omega)).1 h), fun h => p2 ((On_ne (by omega)).1 h), fun h => p3 ((On_ne (by omega)).1 h), fun h => p4 ((On_ne (by omega)).1 h), fun h => p5 ((On_ne (by omega)).1 h), fun h => p6 ((On_ne (by omega)).1 h), fun h => p7 ((On_ne (by omega)).1 h), fun h => p8 ((On_ne (by omega)).1 h), fun h => p9 ((On_ne (by omega)).1 h), fun h => p10 ((On_ne (by omega)).1 h), fun h => p11 ((On_ne (by omega)).1 h), fun _ => rfl, fun h => p13 ((On_ne (by omega)).1 h), fun h => p14 ((On_ne (by omega)).1 h), fun h => p15 ((On_ne (by omega)).1 h), fun h => p16 ((On_ne (by omega)).1 h), fun h => p17 ((On_ne (by omega)).1 h)⟩, he⟩
        · cases ho
          have d9 : On ls 9 := hd ⟨9, .guard⟩ (by simp) rfl
          have e := p9 d9
          subst e
          simp only [Act.put, List.setIfInBounds_toArray, List.set_cons_zero, List.set_cons_succ]
          refine wpOp_stepS rfl (fun K hK => ?_)
          refine ite_take (wanted_guard (j := 9) (b := false) (s := 134) rfl rfl rfl (by simp only [List.getElem?_toArray, List.getElem?_cons_succ, List.getElem?_cons_zero])) ?_
          go_simp
          exact hK.out _ _ ⟨by simpa using hsz, v125, v126, v127, v128, v129, v130, v131, v132, v133, .bool false, v135, v136, v137, .pointer (some ⟨ib, 87, none⟩), v139, v140, v141, v142, by first | with_reducible rfl | simp only [Act.put, List.setIfInBounds_toArray, List.set_cons_zero, List.set_cons_succ], ⟨fun h => p0 ((On_ne (by omega)).1 h), fun h => p1 ((On_ne (by omega)).1 h), fun h => p2 ((On_ne (by omega)).1 h), fun h => p3 ((On_ne (by omega)).1 h), fun h => p4 ((On_ne (by omega)).1 h), fun h => p5 ((On_ne (by omega)).1 h), fun h => p6 ((On_ne (by omega)).1 h), fun h => p7 ((On_ne (by omega)).1 h), fun h => p8 ((On_ne (by omega)).1 h), fun h => p9 ((On_ne (by omega)).1 h), fun h => p10 ((On_ne (by omega)).1 h), fun h => p11 ((On_ne (by omega)).1 h), fun h => p12 ((On_ne (by omega)).1 h), fun _ => rfl, fun h => p14 ((On_ne (by omega)).1 h), fun h => p15 ((On_ne (by omega)).1 h), fun h => p16 ((On_ne (by omega)).1 h), fun h => p17 ((On_ne (by omega)).1 h)⟩, he⟩
        · cases ho
          have d13 : On ls 13 := hd ⟨13, .data⟩ (by simp) rfl
          have e := p13 d13
          subst e
          have d9 : On ls 9 := hd ⟨9, .guard⟩ (by simp) rfl
          have e := p9 d9
          subst e
          simp only [Act.put, List.setIfInBounds_toArray, List.set_cons_zero, List.set_cons_succ]
          refine wpOp_stepS rfl (fun K hK => ?_)
          have hr := (HXQ.out.below he hlt).ba
          refine ite_take (wanted_guard (j := 9) (b := false) (s := 134) rfl rfl rfl (by simp only [List.getElem?_toArray, List.getElem?_cons_succ, List.getElem?_cons_zero])) ?_
          go_simp
          exact hK.out _ _ ⟨by simpa using hsz, v125, v126, v127, v128, v129, v130, v131, v132, v133, .bool false, v135, v136, v137, .pointer (some ⟨ib, 87, none⟩), .string x.ba, v140, v141, v142, by first | with_reducible rfl | simp only [Act.put, List.setIfInBounds_toArray, List.set_cons_zero, List.set_cons_succ], ⟨fun h => p0 ((On_ne (by omega)).1 h), fun h => p1 ((On_ne (by omega)).1 h), fun h => p2 ((On_ne (by omega)).1 h), fun h => p3 ((On_ne (by omega)).1 h), fun h => p4 ((On_ne (by omega)).1 h), fun h => p5 ((On_ne (by omega)).1 h), fun h => p6 ((On_ne (by omega)).1 h), fun h => p7 ((On_ne (by omega)).1 h), fun h => p8 ((On_ne (by omega)).1 h), fun h => p9 ((On_ne (by omega)).1 h), fun h => p10 ((On_ne (by omega)).1 h), fun h => p11 ((On_ne (by omega)).1 h), fun h => p12 ((On_ne (by omega)).1 h), fun h => p13 ((On_ne (by omega)).1 h), fun _ => rfl, fun h => p15 ((On_ne (by omega)).1 h), fun h => p16 ((On_ne (by omega)).1 h), fun h => p17 ((On_ne (by omega)).1 h)⟩, he⟩
        · cases ho
          have d10 : On ls 10 := hd ⟨10, .data⟩ (by simp) rfl
          have e := p10 d10
          subst e
          have d12 : On ls 12 := hd ⟨12, .data⟩ (by simp) rfl
          have e := p12 d12
          subst e
          have d14 : On ls 14 := hd ⟨14, .data⟩ (by simp) rfl
          have e := p14 d14
          subst e
          have d9 : On ls 9 := hd ⟨9, .guard⟩ (by simp) rfl
          have e := p9 d9
          subst e
          simp only [Act.put, List.setIfInBounds_toArray, List.set_cons_zero, List.set_cons_succ]
          refine wpOp_stepS rfl (fun K hK => ?_)
          refine ite_take (wanted_guard (j := 9) (b := false) (s := 134) rfl rfl rfl (by simp only [List.getElem?_toArray, List.getElem?_cons_succ, List.getElem?_cons_zero])) ?_
          go_simp
          refine (cone_any (HV.out.later he) (⟨#[98, 101, 102, 111, 114, 101, 95, 97, 100, 100, 114]⟩ : ByteArray) _ x.hasB (by decide) HAS.out.2.2.2.2.2.2.2.2.1).mono ?_
          rintro e w2 ⟨rfl, rfl⟩
          exact hK.out _ _ ⟨by simpa using hsz, v125, v126, v127, v128, v129, v130, v131, v132, v133, .bool false, .map (some b), v136, .bool x.hasB, v138, .string x.ba, .bool true, v141, v142, by first | with_reducible rfl | simp only [Act.put, List.setIfInBounds_toArray, List.set_cons_zero, List.set_cons_succ], ⟨fun h => p0 ((On_ne (by omega)).1 h), fun h => p1 ((On_ne (by omega)).1 h), fun h => p2 ((On_ne (by omega)).1 h), fun h => p3 ((On_ne (by omega)).1 h), fun h => p4 ((On_ne (by omega)).1 h), fun h => p5 ((On_ne (by omega)).1 h), fun h => p6 ((On_ne (by omega)).1 h), fun h => p7 ((On_ne (by omega)).1 h), fun h => p8 ((On_ne (by omega)).1 h), fun h => p9 ((On_ne (by omega)).1 h), fun h => p10 ((On_ne (by omega)).1 h), fun h => p11 ((On_ne (by omega)).1 h), fun h => p12 ((On_ne (by omega)).1 h), fun h => p13 ((On_ne (by omega)).1 h), fun h => p14 ((On_ne (by omega)).1 h), fun _ => rfl, fun h => p16 ((On_ne (by omega)).1 h), fun h => p17 ((On_ne (by omega)).1 h)⟩, he⟩
        · cases ho
          have d15 : On ls 15 := hd ⟨15, .data⟩ (by simp) rfl
          have e := p15 d15
          subst e
          have d9 : On ls 9 := hd ⟨9, .guard⟩ (by simp) rfl
          have e := p9 d9
          subst e
          simp only [Act.put, List.setIfInBounds_toArray, List.set_cons_zero, List.set_cons_succ]
          refine wpOp_stepS rfl (fun K hK => ?_)
          refine ite_take (wanted_guard (j := 9) (b := false) (s := 134) rfl rfl rfl (by simp only [List.getElem?_toArray, List.getElem?_cons_succ, List.getElem?_cons_zero])) ?_
          go_simp
          exact hK.out _ _ ⟨by simpa using hsz, v125, v126, v127, v128, v129, v130, v131, v132, v133, .bool false, v135, v136, v137, v138, v139, .bool true, .bool false, v142, by first | with_reducible rfl | simp only [Act.put, List.setIfInBounds_toArray, List.set_cons_zero, List.set_cons_succ], ⟨fun h => p0 ((On_ne (by omega)).1 h), fun h => p1 ((On_ne (by omega)).1 h), fun h => p2 ((On_ne (by omega)).1 h), fun h => p3 ((On_ne (by omega)).1 h), fun h => p4 ((On_ne (by omega)).1 h), fun h => p5 ((On_ne (by omega)).1 h), fun h => p6 ((On_ne (by omega)).1 h), fun h => p7 ((On_ne (by omega)).1 h), fun h => p8 ((On_ne (by omega)).1 h), fun h => p9 ((On_ne (by omega)).1 h), fun h => p10 ((On_ne (by omega)).1 h), fun h => p11 ((On_ne (by omega)).1 h), fun h => p12 ((On_ne (by omega)).1 h), fun h => p13 ((On_ne (by omega)).1 h), fun h => p14 ((On_ne (by omega)).1 h), fun h => p15 ((On_ne (by omega)).1 h), fun _ => rfl, fun h => p17 ((On_ne (by omega)).1 h)⟩, he⟩
        · cases ho
          have d9 : On ls 9 := hd ⟨9, .data⟩ (by simp) rfl
          have e := p9 d9
          subst e
          have d16 : On ls 16 := hd ⟨16, .data⟩ (by simp) rfl
          have e := p16 d16
          subst e
          refine wpOp_stepS rfl (fun K hK => ?_)
          simp only [Act.put, List.setIfInBounds_toArray, List.set_cons_zero, List.set_cons_succ]
          go_simp
          exact hK.out _ _ ⟨by simpa using hsz, v125, v126, v127, v128, v129, v130, v131, v132, v133, .bool false, v135, v136, v137, v138, v139, v140, .bool false, .bool false, by first | with_reducible rfl | simp only [Act.put, List.setIfInBounds_toArray, List.set_cons_zero, List.set_cons_succ], ⟨fun h => p0 ((On_ne (by omega)).1 h), fun h => p1 ((On_ne (by omega)).1 h), fun h => p2 ((On_ne (by omega)).1 h), fun h => p3 ((On_ne (by omega)).1 h), fun h => p4 ((On_ne (by omega)).1 h), fun h => p5 ((On_ne (by omega)).1 h), fun h => p6 ((On_ne (by omega)).1 h), fun h => p7 ((On_ne (by omega)).1 h), fun h => p8 ((On_ne (by omega)).1 h), fun h => p9 ((On_ne (by omega)).1 h), fun h => p10 ((On_ne (by omega)).1 h), fun h => p11 ((On_ne (by omega)).1 h), fun h => p12 ((On_ne (by omega)).1 h), fun h => p13 ((On_ne (by omega)).1 h), fun h => p14 ((On_ne (by omega)).1 h), fun h => p15 ((On_ne (by omega)).1 h), fun h => p16 ((On_ne (by omega)).1 h), fun _ => rfl⟩, he⟩
      · intro ls a' w' hall hI
        obtain ⟨hsz, v125, v126, v127, v128, v129, v130, v131, v132, v133, v134, v135, v136, v137, v138, v139, v140, v141, v142, rfl, ⟨p0, p1, p2, p3, p4, p5, p6, p7, p8, p9, p10, p11, p12, p13, p14, p15, p16, p17⟩, he⟩ := hI
        have e := p17 (On.of_listed (by omega) (hall 17 (by simp)))
        subst e
        clear hall hsz p0 p1 p2 p3 p4 p5 p6 p7 p8 p9 p10 p11 p12 p13 p14 p15 p16
        simp only [Act.put, List.setIfInBounds_toArray, List.set_cons_zero, List.set_cons_succ]
        go_wp2_with fail
        go_meet
        case rel => exact ⟨rfl, he⟩
    case rest =>
    clear HBc4
    obtain ⟨rfl, hbn⟩ := hcut
    have HBp38 := Lib.hid hbn
    have hc := (HXQ.out.below hbn hlt).hasB
    clear hbn
    go_upto_if 144 with fail
    clear hc
    go_cut [8] (fun q w' => ∃ N : Nat, q = .int .i64 (N : Int) ∧ N = N4 + two x.hasB ∧ Below w3.heap.size w3 w')
    case first => as_aux_lemma =>
      cases hop : x.hasB
      · go_wp2_with fail
        go_meet
        case rel => exact ⟨N4, rfl, by rw [hop]; rfl, HBp38.out⟩
      · go_wp2_with fail
        go_meet
        case rel => exact ⟨N4 + 2, by first | rfl | (simp only [Int.natCast_add]; rfl), by rw [hop]; rfl, HBp38.out⟩
    case rest =>
    clear HBp38
    obtain ⟨N5, rfl, hN, hbn⟩ := hcut
    have HBc5 := Lib.hid hbn
    have hM5 : N5 ≤ 9 := by rw [hN]; unfold two; split <;> omega
    have HN5 := Lib.hid hN
    clear hN hbn
    go_upto_region 42 with fail
    go_cut [155] (fun q w' => q = .bool false ∧ Below w3.heap.size w3 w')
    case first => as_aux_lemma =>
      obtain ⟨U, hU⟩ : ∃ U : Int, (x.u : Int) = U := ⟨_, rfl⟩
      have HD : Hid (∀ w, Calls Ybad.prog 9 #[.int .u64 U] w fun e w' => e = .returned (.string (dec x.u)) ∧ Below w.heap.size w w') := by
        intro w
        rw [← hU]
        exact cdec_any x.u ok.hu w
      have HC : Hid (∀ w', Below w3.heap.size w3 w' → w'.cell? ⟨ib, 88, none⟩ = some (.int .u64 U)) := by
        intro w' he
        rw [← hU]
        exact (HXQ.out.below he hlt).u
      have HU := Lib.hid hU
      clear hU
      by_cases hu : U = 0
      case pos =>
        subst hu
        refine wp_region_inv (by kernel_rfl) (by kernel_rfl) (fun a0 ls a w' => ls.size = 9 ∧ ∃ v147 v148 v149 v150 v151 v152 v153 v154 v155, a = (((((((((a0.put (some 147) v147).put (some 148) v148).put (some 149) v149).put (some 150) v150).put (some 151) v151).put (some 152) v152).put (some 153) v153).put (some 154) v154).put (some 155) v155) ∧ ((On ls 0 → v147 = .map (some b)) ∧ (On ls 1 → v148 = .pointer (some ⟨ib, 88, none⟩)) ∧ (On ls 2 → v149 = .int .u64 0) ∧ (On ls 3 → v150 = .bool false) ∧ (On ls 4 → v151 = .pointer (some ⟨ib, 88, none⟩)) ∧ (On ls 5 → v152 = .int .u64 0) ∧ (On ls 6 → v153 = .string (dec x.u)) ∧ (On ls 7 → v154 = .bool true) ∧ (On ls 8 → v155 = .bool false)) ∧ Below w3.heap.size w3 w') ?_ ?_ ?_
        · refine ⟨by simp, u147, u148, u149, u150, u151, u152, u153, u154, u155, by simp only [Act.put, List.setIfInBounds_toArray, List.set_cons_zero, List.set_cons_succ], ⟨fun h => h.not_replicate.elim, fun h => h.not_replicate.elim, fun h => h.not_replicate.elim, fun h => h.not_replicate.elim, fun h => h.not_replicate.elim, fun h => h.not_replicate.elim, fun h => h.not_replicate.elim, fun h => h.not_replicate.elim, fun h => h.not_replicate.elim⟩, HBc5.out.drew⟩
        · intro i o ls a' w' ho hl hd hI
          obtain ⟨hsz, v147, v148, v149, v150, v151, v152, v153, v154, v155, rfl, ⟨p0, p1, p2, p3, p4, p5, p6, p7, p8⟩, he⟩ := hI
          have hi : i < 9 := (Array.getElem?_eq_some_iff.1 ho).1
          rcases (by omega : i = 0 ∨ i = 1 ∨ i = 2 ∨ i = 3 ∨ i = 4 ∨ i = 5 ∨ i = 6 ∨ i = 7 ∨ i = 8) with rfl | rfl | rfl | rfl | rfl | rfl | rfl | rfl | rfl
          · cases ho
            refine wpOp_stepS rfl (fun K hK => ?_)
            simp only [Act.put, List.setIfInBounds_toArray, List.set_cons_zero, List.set_cons_succ]
            go_simp
            exact hK.out _ _ ⟨by simpa using hsz, .map (some b), v148, v149, v150, v151, v152, v153, v154, v155, by first | with_reducible rfl | simp only [Act.put, List.setIfInBounds_toArray, List.set_cons_zero, List.set_cons_succ], ⟨fun _ => rfl, fun h => p1 ((On_ne (by omega)).1 h), fun h => p2 ((On_ne (by omega)).1 h), fun h => p3 ((On_ne (by omega)).1 h), fun h => p4 ((On_ne (by omega)).1 h), fun h => p5 ((On_ne (by omega)).1 h), fun h => p6 ((On_ne (by omega)).1 h), fun h => p7 ((On_ne (by omega)).1 h), fun h => p8 ((On_ne (by omega)).1 h)⟩, he⟩
          · cases ho
            refine wpOp_stepS rfl (fun K hK => ?_)
            simp only [Act.put, List.setIfInBounds_toArray, List.set_cons_zero, List.set_cons_succ]
            go_simp
            exact hK.out _ _ ⟨by simpa using hsz, v147, .pointer (some ⟨ib, 88, none⟩), v149, v150, v151, v152, v153, v154, v155, by first | with_reducible rfl | simp only [Act.put, List.setIfInBounds_toArray, List.set_cons_zero, List.set_cons_succ], ⟨fun h => p0 ((On_ne (by omega)).1 h), fun _ => rfl, fun h => p2 ((On_ne (by omega)).1 h), fun h => p3 ((On_ne (by omega)).1 h), fun h => p4 ((On_ne (by omega)).1 h), fun h => p5 ((On_ne (by omega)).1 h), fun h => p6 ((On_ne (by omega)).1 h), fun h => p7 ((On_ne (by omega)).1 h), fun h => p8 ((On_ne (by omega)).1 h)⟩, he⟩
          · cases ho
            have d1 : On ls 1 := hd ⟨1, .data⟩ (by simp) rfl
            have e := p1 d1
            subst e
            refine wpOp_stepS rfl (fun K hK => ?_)
            simp only [Act.put, List.setIfInBounds_toArray, List.set_cons_zero, List.set_cons_succ]
            have hr := HC.out _ he
            go_simp
            exact hK.out _ _ ⟨by simpa using hsz, v147, .pointer (some ⟨ib, 88, none⟩), .int .u64 0, v150, v151, v152, v153, v154, v155, by first | with_reducible rfl | simp only [Act.put, List.setIfInBounds_toArray, List.set_cons_zero, List.set_cons_succ], ⟨fun h => p0 ((On_ne (by omega)).1 h), fun h => p1 ((On_ne (by omega)).1 h), fun _ => rfl, fun h => p3 ((On_ne (by omega)).1 h), fun h => p4 ((On_ne (by omega)).1 h), fun h => p5 ((On_ne (by omega)).1 h), fun h => p6 ((On_ne (by omega)).1 h), fun h => p7 ((On_ne (by omega)).1 h), fun h => p8 ((On_ne (by omega)).1 h)⟩, he⟩
          · cases ho
            have d2 : On ls 2 := hd ⟨2, .data⟩ (by simp) rfl
            have e := p2 d2
            subst e
            refine wpOp_stepS rfl (fun K hK => ?_)
            simp only [Act.put, List.setIfInBounds_toArray, List.set_cons_zero, List.set_cons_succ]
            go_simp
            exact hK.out _ _ ⟨by simpa using hsz, v147, v148, .int .u64 0, .bool false, v151, v152, v153, v154, v155, by first | with_reducible rfl | simp only [Act.put, List.setIfInBounds_toArray, List.set_cons_zero, List.set_cons_succ], ⟨fun h => p0 ((On_ne (by omega)).1 h), fun h => p1 ((On_ne (by omega)).1 h), fun h => p2 ((On_ne (by omega)).1 h), fun _ => rfl, fun h => p4 ((On_ne (by omega)).1 h), fun h => p5 ((On_ne (by omega)).1 h), fun h => p6 ((On_ne (by omega)).1 h), fun h => p7 ((On_ne (by omega)).1 h), fun h => p8 ((On_ne (by omega)).1 h)⟩, he⟩
          · cases ho
            refine wpOp_stepS rfl (fun K hK => ?_)
            simp only [Act.put, List.setIfInBounds_toArray, List.set_cons_zero, List.set_cons_succ]
            go_simp
            exact hK.out _ _ ⟨by simpa using hsz, v147, v148, v149, v150, .pointer (some ⟨ib, 88, none⟩), v152, v153, v154, v155, by first | with_reducible rfl | simp only [Act.put, List.setIfInBounds_toArray, List.set_cons_zero, List.set_cons_succ], ⟨fun h => p0 ((On_ne (by omega)).1 h), fun h => p1 ((On_ne (by omega)).1 h), fun h => p2 ((On_ne (by omega)).1 h), fun h => p3 ((On_ne (by omega)).1 h), fun _ => rfl, fun h => p5 ((On_ne (by omega)).1 h), fun h => p6 ((On_ne (by omega)).1 h), fun h => p7 ((On_ne (by omega)).1 h), fun h => p8 ((On_ne (by omega)).1 h)⟩, he⟩
          · cases ho
            have d4 : On ls 4 := hd ⟨4, .data⟩ (by simp) rfl
            have e := p4 d4
            subst e
            refine wpOp_stepS rfl (fun K hK => ?_)
            simp only [Act.put, List.setIfInBounds_toArray, List.set_cons_zero, List.set_cons_succ]
            have hr := HC.out _ he
            go_simp
            exact hK.out _ _ ⟨by simpa using hsz, v147, v148, v149, v150, .pointer (some ⟨ib, 88, none⟩), .int .u64 0, v153, v154, v155, by first | with_reducible rfl | simp only [Act.put, List.setIfInBounds_toArray, List.set_cons_zero, List.set_cons_succ], ⟨fun h => p0 ((On_ne (by omega)).1 h), fun h => p1 ((On_ne (by omega)).1 h), fun h => p2 ((On_ne (by omega)).1 h), fun h => p3 ((On_ne (by omega)).1 h), fun h => p4 ((On_ne (by omega)).1 h), fun _ => rfl, fun h => p6 ((On_ne (by omega)).1 h), fun h => p7 ((On_ne (by omega)).1 h), fun h => p8 ((On_ne (by omega)).1 h)⟩, he⟩
          · cases ho
            have d5 : On ls 5 := hd ⟨5, .data⟩ (by simp) rfl
            have e := p5 d5
            subst e
            refine wpOp_stepS rfl (fun K hK => ?_)
            simp only [Act.put, List.setIfInBounds_toArray, List.set_cons_zero, List.set_cons_succ]
            go_simp
            refine (HD.out _).mono ?_
            rintro e w2 ⟨rfl, hb2⟩
            exact hK.out _ _ ⟨by simpa using hsz, v147, v148, v149, v150, v151, .int .u64 0, .string (dec x.u), v154, v155, by first | with_reducible rfl | simp only [Act.put, List.setIfInBounds_toArray, List.set_cons_zero, List.set_cons_succ], ⟨fun h => p0 ((On_ne (by omega)).1 h), fun h => p1 ((On_ne (by omega)).1 h), fun h => p2 ((On_ne (by omega)).1 h), fun h => p3 ((On_ne (by omega)).1 h), fun h => p4 ((On_ne (by omega)).1 h), fun h => p5 ((On_ne (by omega)).1 h), fun _ => rfl, fun h => p7 ((On_ne (by omega)).1 h), fun h => p8 ((On_ne (by omega)).1 h)⟩, he.trans (hb2.mono he.size)⟩
          · cases ho
            have d0 : On ls 0 := hd ⟨0, .data⟩ (by simp) rfl
            have e := p0 d0
            subst e
            have d3 : On ls 3 := hd ⟨3, .data⟩ (by simp) rfl
            have e := p3 d3
            subst e
            have d6 : On ls 6 := hd ⟨6, .data⟩ (by simp) rfl
            have e := p6 d6
            subst e
            refine wpOp_stepS rfl (fun K hK => ?_)
            simp only [Act.put, List.setIfInBounds_toArray, List.set_cons_zero, List.set_cons_succ]
            go_simp
            refine (cone_any (HV.out.later he) (⟨#[99, 108, 111, 99, 107]⟩ : ByteArray) _ false (by decide) (HAS.out.2.2.2.2.2.2.2.2.2.trans (by rw [if_neg (by have := HU.out; omega)]; rfl))).mono ?_
            rintro e w2 ⟨rfl, rfl⟩
            exact hK.out _ _ ⟨by simpa using hsz, .map (some b), v148, v149, .bool false, v151, v152, .string (dec x.u), .bool true, v155, by first | with_reducible rfl | simp only [Act.put, List.setIfInBounds_toArray, List.set_cons_zero, List.set_cons_succ], ⟨fun h => p0 ((On_ne (by omega)).1 h), fun h => p1 ((On_ne (by omega)).1 h), fun h => p2 ((On_ne (by omega)).1 h), fun h => p3 ((On_ne (by omega)).1 h), fun h => p4 ((On_ne (by omega)).1 h), fun h => p5 ((On_ne (by omega)).1 h), fun h => p6 ((On_ne (by omega)).1 h), fun _ => rfl, fun h => p8 ((On_ne (by omega)).1 h)⟩, he⟩
          · cases ho
            have d7 : On ls 7 := hd ⟨7, .data⟩ (by simp) rfl
            have e := p7 d7
            subst e
            refine wpOp_stepS rfl (fun K hK => ?_)
            simp only [Act.put, List.setIfInBounds_toArray, List.set_cons_zero, List.set_cons_succ]
            go_simp
            exact hK.out _ _ ⟨by simpa using hsz, v147, v148, v149, v150, v151, v152, v153, .bool true, .bool false, by first | with_reducible rfl | simp only [Act.put, List.setIfInBounds_toArray, List.set_cons_zero, List.set_cons_succ], ⟨fun h => p0 ((On_ne (by omega)).1 h), fun h => p1 ((On_ne (by omega)).1 h), fun h => p2 ((On_ne (by omega)).1 h), fun h => p3 ((On_ne (by omega)).1 h), fun h => p4 ((On_ne (by omega)).1 h), fun h => p5 ((On_ne (by omega)).1 h), fun h => p6 ((On_ne (by omega)).1 h), fun h => p7 ((On_ne (by omega)).1 h), fun _ => rfl⟩, he⟩
        · intro ls a' w' hall hI
          obtain ⟨hsz, v147, v148, v149, v150, v151, v152, v153, v154, v155, rfl, ⟨p0, p1, p2, p3, p4, p5, p6, p7, p8⟩, he⟩ := hI
          have e := p8 (On.of_listed (by omega) (hall 8 (by simp)))
          subst e
          clear hall hsz p0 p1 p2 p3 p4 p5 p6 p7
          simp only [Act.put, List.setIfInBounds_toArray, List.set_cons_zero, List.set_cons_succ]
          go_wp2_with fail
          go_meet
          case rel => exact ⟨rfl, he⟩
      case neg =>
        refine wp_region_inv (by kernel_rfl) (by kernel_rfl) (fun a0 ls a w' => ls.size = 9 ∧ ∃ v147 v148 v149 v150 v151 v152 v153 v154 v155, a = (((((((((a0.put (some 147) v147).put (some 148) v148).put (some 149) v149).put (some 150) v150).put (some 151) v151).put (some 152) v152).put (some 153) v153).put (some 154) v154).put (some 155) v155) ∧ ((On ls 0 → v147 = .map (some b)) ∧ (On ls 1 → v148 = .pointer (some ⟨ib, 88, none⟩)) ∧ (On ls 2 → v149 = .int .u64 U) ∧ (On ls 3 → v150 = .bool true) ∧ (On ls 4 → v151 = .pointer (some ⟨ib, 88, none⟩)) ∧ (On ls 5 → v152 = .int .u64 U) ∧ (On ls 6 → v153 = .string (dec x.u)) ∧ (On ls 7 → v154 = .bool true) ∧ (On ls 8 → v155 = .bool false)) ∧ Below w3.heap.size w3 w') ?_ ?_ ?_
        · refine ⟨by simp, u147, u148, u149, u150, u151, u152, u153, u154, u155, by simp only [Act.put, List.setIfInBounds_toArray, List.set_cons_zero, List.set_cons_succ], ⟨fun h => h.not_replicate.elim, fun h => h.not_replicate.elim, fun h => h.not_replicate.elim, fun h => h.not_replicate.elim, fun h => h.not_replicate.elim, fun h => h.not_replicate.elim, fun h => h.not_replicate.elim, fun h => h.not_replicate.elim, fun h => h.not_replicate.elim⟩, HBc5.out.drew⟩
        · intro i o ls a' w' ho hl hd hI
          obtain ⟨hsz, v147, v148, v149, v150, v151, v152, v153, v154, v155, rfl, ⟨p0, p1, p2, p3, p4, p5, p6, p7, p8⟩, he⟩ := hI
          have hi : i < 9 := (Array.getElem?_eq_some_iff.1 ho).1
          rcases (by omega : i = 0 ∨ i = 1 ∨ i = 2 ∨ i = 3 ∨ i = 4 ∨ i = 5 ∨ i = 6 ∨ i = 7 ∨ i = 8) with rfl | rfl | rfl | rfl | rfl | rfl | rfl | rfl | rfl
          · cases ho
            refine wpOp_stepS rfl (fun K hK => ?_)
            simp only [Act.put, List.setIfInBounds_toArray, List.set_cons_zero, List.set_cons_succ]
            go_simp
            exact hK.out _ _ ⟨by simpa using hsz, .map (some b), v148, v149, v150, v151, v152, v153, v154, v155, by first | with_reducible rfl | simp only [Act.put, List.setIfInBounds_toArray, List.set_cons_zero, List.set_cons_succ], ⟨fun _ => rfl, fun h => p1 ((On_ne (by omega)).1 h), fun h => p2 ((On_ne (by omega)).1 h), fun h => p3 ((On_ne (by omega)).1 h), fun h => p4 ((On_ne (by omega)).1 h), fun h => p5 ((On_ne (by omega)).1 h), fun h => p6 ((On_ne (by omega)).1 h), fun h => p7 ((On_ne (by omega)).1 h), fun h => p8 ((On_ne (by omega)).1 h)⟩, he⟩
          · cases ho
            refine wpOp_stepS rfl (fun K hK => ?_)
            simp only [Act.put, List.setIfInBounds_toArray, List.set_cons_zero, List.set_cons_succ]
            go_simp
            exact hK.out _ _ ⟨by simpa using hsz, v147, .pointer (some ⟨ib, 88, none⟩), v149, v150, v151, v152, v153, v154, v155, by first | with_reducible rfl | simp only [Act.put, List.setIfInBounds_toArray, List.set_cons_zero, List.set_cons_succ], ⟨fun h => p0 ((On_ne (by omega)).1 h), fun _ => rfl, fun h => p2 ((On_ne (by omega)).1 h), fun h => p3 ((On_ne (by omega)).1 h), fun h => p4 ((On_ne (by omega)).1 h), fun h => p5 ((On_ne (by omega)).1 h), fun h => p6 ((On_ne (by omega)).1 h), fun h => p7 ((On_ne (by omega)).1 h), fun h => p8 ((On_ne (by omega)).1 h)⟩, he⟩
          · cases ho
            have d1 : On ls 1 := hd ⟨1, .data⟩ (by simp) rfl
            have e := p1 d1
            subst e
            refine wpOp_stepS rfl (fun K hK => ?_)
            simp only [Act.put, List.setIfInBounds_toArray, List.set_cons_zero, List.set_cons_succ]
            have hr := HC.out _ he
            go_simp
            exact hK.out _ _ ⟨by simpa using hsz, v147, .pointer (some ⟨ib, 88, none⟩), .int .u64 U, v150, v151, v152, v153, v154, v155, by first | with_reducible rfl | simp only [Act.put, List.setIfInBounds_toArray, List.set_cons_zero, List.set_cons_succ], ⟨fun h => p0 ((On_ne (by omega)).1 h), fun h => p1 ((On_ne (by omega)).1 h), fun _ => rfl, fun h => p3 ((On_ne (by omega)).1 h), fun h => p4 ((On_ne (by omega)).1 h), fun h => p5 ((On_ne (by omega)).1 h), fun h => p6 ((On_ne (by omega)).1 h), fun h => p7 ((On_ne (by omega)).1 h), fun h => p8 ((On_ne (by omega)).1 h)⟩, he⟩
          · cases ho
            have d2 : On ls 2 := hd ⟨2, .data⟩ (by simp) rfl
            have e := p2 d2
            subst e
            refine wpOp_stepS rfl (fun K hK => ?_)
            simp only [Act.put, List.setIfInBounds_toArray, List.set_cons_zero, List.set_cons_succ]
            go_simp
            rw [show (U != 0) = true from bne_iff_ne.2 hu]
            exact hK.out _ _ ⟨by simpa using hsz, v147, v148, .int .u64 U, .bool true, v151, v152, v153, v154, v155, by first | with_reducible rfl | simp only [Act.put, List.setIfInBounds_toArray, List.set_cons_zero, List.set_cons_succ], ⟨fun h => p0 ((On_ne (by omega)).1 h), fun h => p1 ((On_ne (by omega)).1 h), fun h => p2 ((On_ne (by omega)).1 h), fun _ => rfl, fun h => p4 ((On_ne (by omega)).1 h), fun h => p5 ((On_ne (by omega)).1 h), fun h => p6 ((On_ne (by omega)).1 h), fun h => p7 ((On_ne (by omega)).1 h), fun h => p8 ((On_ne (by omega)).1 h)⟩, he⟩
          · cases ho
            refine wpOp_stepS rfl (fun K hK => ?_)
            simp only [Act.put, List.setIfInBounds_toArray, List.set_cons_zero, List.set_cons_succ]
            go_simp
            exact hK.out _ _ ⟨by simpa using hsz, v147, v148, v149, v150, .pointer (some ⟨ib, 88, none⟩), v152, v153, v154, v155, by first | with_reducible rfl | simp only [Act.put, List.setIfInBounds_toArray, List.set_cons_zero, List.set_cons_succ], ⟨fun h => p0 ((On_ne (by omega)).1 h), fun h => p1 ((On_ne (by omega)).1 h), fun h => p2 ((On_ne (by omega)).1 h), fun h => p3 ((On_ne (by omega)).1 h), fun _ => rfl, fun h => p5 ((On_ne (by omega)).1 h), fun h => p6 ((On_ne (by omega)).1 h), fun h => p7 ((On_ne (by omega)).1 h), fun h => p8 ((On_ne (by omega)).1 h)⟩, he⟩
          · cases ho
            have d4 : On ls 4 := hd ⟨4, .data⟩ (by simp) rfl
            have e := p4 d4
            subst e
            refine wpOp_stepS rfl (fun K hK => ?_)
            simp only [Act.put, List.setIfInBounds_toArray, List.set_cons_zero, List.set_cons_succ]
            have hr := HC.out _ he
            go_simp
            exact hK.out _ _ ⟨by simpa using hsz, v147, v148, v149, v150, .pointer (some ⟨ib, 88, none⟩), .int .u64 U, v153, v154, v155, by first | with_reducible rfl | simp only [Act.put, List.setIfInBounds_toArray, List.set_cons_zero, List.set_cons_succ], ⟨fun h => p0 ((On_ne (by omega)).1 h), fun h => p1 ((On_ne (by omega)).1 h), fun h => p2 ((On_ne (by omega)).1 h), fun h => p3 ((On_ne (by omega)).1 h), fun h => p4 ((On_ne (by omega)).1 h), fun _ => rfl, fun h => p6 ((On_ne (by omega)).1 h), fun h => p7 ((On_ne (by omega)).1 h), fun h => p8 ((On_ne (by omega)).1 h)⟩, he⟩
          · cases ho
            have d5 : On ls 5 := hd ⟨5, .data⟩ (by simp) rfl
            have e := p5 d5
            subst e
            refine wpOp_stepS rfl (fun K hK => ?_)
            simp only [Act.put, List.setIfInBounds_toArray, List.set_cons_zero, List.set_cons_succ]
            go_simp
            refine (HD.out _).mono ?_
            rintro e w2 ⟨rfl, hb2⟩
            exact hK.out _ _ ⟨by simpa using hsz, v147, v148, v149, v150, v151, .int .u64 U, .string (dec x.u), v154, v155, by first | with_reducible rfl | simp only [Act.put, List.setIfInBounds_toArray, List.set_cons_zero, List.set_cons_succ], ⟨fun h => p0 ((On_ne (by omega)).1 h), fun h => p1 ((On_ne (by omega)).1 h), fun h => p2 ((On_ne (by omega)).1 h), fun h => p3 ((On_ne (by omega)).1 h), fun h => p4 ((On_ne (by omega)).1 h), fun h => p5 ((On_ne (by omega)).1 h), fun _ => rfl, fun h => p7 ((On_ne (by omega)).1 h), fun h => p8 ((On_ne (by omega)).1 h)⟩, he.trans (hb2.mono he.size)⟩
          · cases ho
            have d0 : On ls 0 := hd ⟨0, .data⟩ (by simp) rfl
            have e := p0 d0
            subst e
            have d3 : On ls 3 := hd ⟨3, .data⟩ (by simp) rfl
            have e := p3 d3
            subst e
            have d6 : On ls 6 := hd ⟨6, .data⟩ (by simp) rfl
            have e := p6 d6
            subst e
            refine wpOp_stepS rfl (fun K hK => ?_)
            simp only [Act.put, List.setIfInBounds_toArray, List.set_cons_zero, List.set_cons_succ]
            go_simp
            refine (cone_any (HV.out.later he) (⟨#[99, 108, 111, 99, 107]⟩ : ByteArray) _ true (by decide) (HAS.out.2.2.2.2.2.2.2.2.2.trans (by rw [if_pos (by have := HU.out; omega)]; rfl))).mono ?_
            rintro e w2 ⟨rfl, rfl⟩
            exact hK.out _ _ ⟨by simpa using hsz, .map (some b), v148, v149, .bool true, v151, v152, .string (dec x.u), .bool true, v155, by first | with_reducible rfl | simp only [Act.put, List.setIfInBounds_toArray, List.set_cons_zero, List.set_cons_succ], ⟨fun h => p0 ((On_ne (by omega)).1 h), fun h => p1 ((On_ne (by omega)).1 h), fun h => p2 ((On_ne (by omega)).1 h), fun h => p3 ((On_ne (by omega)).1 h), fun h => p4 ((On_ne (by omega)).1 h), fun h => p5 ((On_ne (by omega)).1 h), fun h => p6 ((On_ne (by omega)).1 h), fun _ => rfl, fun h => p8 ((On_ne (by omega)).1 h)⟩, he⟩
          · cases ho
            have d7 : On ls 7 := hd ⟨7, .data⟩ (by simp) rfl
            have e := p7 d7
            subst e
            refine wpOp_stepS rfl (fun K hK => ?_)
            simp only [Act.put, List.setIfInBounds_toArray, List.set_cons_zero, List.set_cons_succ]
            go_simp
            exact hK.out _ _ ⟨by simpa using hsz, v147, v148, v149, v150, v151, v152, v153, .bool true, .bool false, by first | with_reducible rfl | simp only [Act.put, List.setIfInBounds_toArray, List.set_cons_zero, List.set_cons_succ], ⟨fun h => p0 ((On_ne (by omega)).1 h), fun h => p1 ((On_ne (by omega)).1 h), fun h => p2 ((On_ne (by omega)).1 h), fun h => p3 ((On_ne (by omega)).1 h), fun h => p4 ((On_ne (by omega)).1 h), fun h => p5 ((On_ne (by omega)).1 h), fun h => p6 ((On_ne (by omega)).1 h), fun h => p7 ((On_ne (by omega)).1 h), fun _ => rfl⟩, he⟩
        · intro ls a' w' hall hI
          obtain ⟨hsz, v147, v148, v149, v150, v151, v152, v153, v154, v155, rfl, ⟨p0, p1, p2, p3, p4, p5, p6, p7, p8⟩, he⟩ := hI
          have e := p8 (On.of_listed (by omega) (hall 8 (by simp)))
          subst e
          clear hall hsz p0 p1 p2 p3 p4 p5 p6 p7
          simp only [Act.put, List.setIfInBounds_toArray, List.set_cons_zero, List.set_cons_succ]
          go_wp2_with fail
          go_meet
          case rel => exact ⟨rfl, he⟩
    case rest =>
    clear HBc5
    obtain ⟨rfl, hbn⟩ := hcut
    have HBq := Lib.hid hbn
    have hc := (HXQ.out.below hbn hlt).u
    clear hbn
    go_upto_if 158 with fail
    clear hc
    go_cut [8] (fun q w' => ∃ N : Nat, q = .int .i64 (N : Int) ∧ N = N5 + one (decide (0 < x.u)) ∧ Below w3.heap.size w3 w')
    case first => as_aux_lemma =>
      by_cases hu : x.u = 0
      · have hu1 : (x.u : Int) = 0 := by omega
        go_wp2_with fail
        go_meet
        case rel => exact ⟨N5, rfl, by rw [hu]; rfl, HBq.out⟩
      · have hu1 : ¬ ((x.u : Int) = 0) := by omega
        go_wp2_with fail
        go_meet
        case rel => exact ⟨N5 + 1, by first | rfl | (simp only [Int.natCast_add]; rfl), by rw [decide_eq_true (show 0 < x.u by omega)]; rfl, HBq.out⟩
    case rest =>
    clear HBq
    obtain ⟨N, rfl, hN, hbn⟩ := hcut
    have HBz := Lib.hid hbn
    have eN : N = 2 + one x.op + one (decide (0 < ks.length)) + one x.orph + two x.hasK + two x.hasB + one (decide (0 < x.u)) := by rw [hN, HN5.out, HN4.out, HN3.out, HN2.out, HN1.out]; omega
    have hv := HV.out.later hbn
    rw [← eN] at hv
    have hlen := vals_len hv 3
    clear hv hbn hN eN
    go_wp2_with (first | (at_builtin; refine wpList_len rfl _ _ rfl _ rfl hlen ?_))
    go_ret
    exact ⟨rfl, HW.out.trans (HBz.out.mono (Nat.le_of_lt hlt0))⟩
end Go.Proofs.YbulkajiaDoor
