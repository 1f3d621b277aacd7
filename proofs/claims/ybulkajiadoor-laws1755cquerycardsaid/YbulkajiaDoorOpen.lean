/-
  The law's one argument, opened: 89 cells, and the slice that it names.
-/
import Derived.Test.YbulkajiaDoorBuild
import Derived.ChangeSame
import Derived.OpenShut
import Derived.Deep.Slices
import Derived.Lib.LaidU8
namespace Go.Proofs.YbulkajiaDoor
open Go.RowKit Go.Maps Go.Lib Go.Sort

theorem cells5 : Ybad.prog.cellsOf 5 = 1 := by kernel_rfl
theorem cells22 : Ybad.prog.cellsOf 22 = 20 := by kernel_rfl
theorem cells26 : Ybad.prog.cellsOf 26 = 89 := by kernel_rfl
theorem cells4 : Ybad.prog.cellsOf 4 = 1 := by kernel_rfl
theorem cells23 : Ybad.prog.cellsOf 23 = 1 := by kernel_rfl
theorem cells9 : Ybad.prog.cellsOf 9 = 1 := by kernel_rfl
theorem cells24 : Ybad.prog.cellsOf 24 = 1 := by kernel_rfl

section
variable {H : Type} {enc : TypeId × Value → H} {w : World} {base : Nat} {spare : Nat → Bool} {held : Bool}

theorem bytes_of_trod {fuel : Nat} {cs : List Value} {x : DataW H × List MemPlace} (h : DataW.trod enc Ybad.prog w base spare held fuel 22 cs = some x) : ∃ l : List UInt8, l.length = 20 ∧ cs = bv l := by
  obtain ⟨xs, m, _, _, hl, hn, he⟩ := DataW.trod_array Ybad.underlying22 h
  rw [cells22] at hl
  rw [cells5] at he
  have hb : ∀ i, i < 20 → ∃ b : UInt8, cs[i]? = some (.int .u8 (b.toNat : Int)) := by
    intro i hi
    have hx := he i hi
    rw [List.getElem?_eq_getElem (by omega)] at hx
    obtain ⟨n, hc, _, hw⟩ := DataW.trod_int Ybad.underlying5 hx
    have hr : 0 ≤ n ∧ n ≤ 255 := by simpa [Lit.wf, IntKind.min, IntKind.max, IntKind.signed, IntKind.bits] using hw
    have hc2 : cs[i]? = some (.int .u8 n) := by
      have := congrArg (fun l : List Value => l[0]?) hc
      simpa [List.getElem?_take, List.getElem?_drop] using this
    refine ⟨UInt8.ofNat n.toNat, ?_⟩
    rw [hc2]
    have : (UInt8.ofNat n.toNat).toNat = n.toNat := by
      rw [UInt8.toNat_ofNat']
      exact Nat.mod_eq_of_lt (by show n.toNat < 256; omega)
    rw [this]
    simp [Int.toNat_of_nonneg hr.1]
  obtain ⟨f, hf⟩ := Go.Deep.choose_lt hb
  refine ⟨(List.range 20).map f, by simp, ?_⟩
  apply List.ext_getElem?
  intro i
  by_cases hi : i < 20
  · rw [hf i hi]
    simp [bv, hi]
  · rw [List.getElem?_eq_none (by omega), List.getElem?_eq_none (by simp [bv]; omega)]

theorem cells_at {w : World} {base n : Nat} {a : Addr} {cs : List Value} (h : w.cells? base a n = some cs) : cs.length = n ∧ ∀ i, i < n → w.cell? (a.add i) = cs[i]? := by
  unfold World.cells? at h
  split at h
  · exact ⟨by simpa using mapM_some_length h, fun i hi => mapM_some_get h i i (by simp [hi])⟩
  · cases h

theorem kept_of_trod {fuel : Nat} {cs : List Value} {x : DataW H × List MemPlace} (h : DataW.trod enc Ybad.prog w base spare held fuel 23 cs = some x) :
    ∃ (ka : Option Addr) (kc : Nat) (ks : List (List UInt8)), cs = [.slice ka ks.length kc] ∧ KIn ka ks w := by
  rcases Go.Deep.open_slice Ybad.underlying23 h with ⟨rfl, _⟩ | ⟨a, len, cap, m, n, D, Pl, rfl, _, hl, _, hm, _, hel⟩
  · exact ⟨none, 0, [], rfl, fun j l hj => by simp at hj⟩
  rw [cells22] at hel
  have hle : len ≤ m := by rw [hm]; split <;> omega
  have hb : ∀ i, i < len → ∃ l : List UInt8, l.length = 20 ∧ ∀ k v, (bv l)[k]? = some v → w.cell? ((a.add (i * 20)).add k) = some v := by
    intro i hi
    obtain ⟨cs', h1, h2⟩ := hel i (by omega)
    obtain ⟨l, hl20, rfl⟩ := bytes_of_trod h2
    obtain ⟨_, h4⟩ := cells_at h1
    refine ⟨l, hl20, fun k v hv => ?_⟩
    have hk : k < 20 := by
      have := (List.getElem?_eq_some_iff.1 hv).1
      rw [bv_length] at this; omega
    rw [h4 k hk]; exact hv
  obtain ⟨f, hf⟩ := Go.Deep.choose_lt hb
  refine ⟨some a, cap, (List.range len).map f, by simp, fun j l hj => ?_⟩
  have hjl : j < len := by
    have := (List.getElem?_eq_some_iff.1 hj).1
    simpa using this
  have el : l = f j := by
    simp [hjl] at hj
    exact hj.symm
  subst el
  obtain ⟨h20, hc⟩ := hf j hjl
  obtain ⟨ab, ao, sp⟩ := a
  obtain ⟨h200, hc0⟩ := hf 0 (by omega)
  have hlen0 : (bv (f 0)).length = 20 := by rw [bv_length, h200]
  obtain ⟨v0, hv0⟩ : ∃ v, (bv (f 0))[0]? = some v := ⟨_, List.getElem?_eq_getElem (by omega)⟩
  have h0 : w.cell? ⟨ab, ao, sp⟩ = some v0 := hc0 0 v0 hv0
  have hsp : sp = none := cell_spot h0
  subst hsp
  refine ⟨h20, ab, ao, rfl, fun i v hv => ?_, World.block_lt_of_cell? w _ h0⟩
  have := hc i v hv
  rw [Addr.add_mid, Addr.add_mid] at this
  exact this

theorem cut (cs : List Value) (a n : Nat) : cs.drop a = (cs.drop a).take n ++ cs.drop (a + n) := by
  rw [← List.drop_drop]
  exact (List.take_append_drop n (cs.drop a)).symm

/-- THE ARGUMENT, OPENED. -/
theorem open_in {fuel : Nat} {cs : List Value} {y : DataW H × List MemPlace} (h : DataW.trod enc Ybad.prog w base spare held fuel 26 cs = some y) :
    ∃ x : Inp, x.Ok ∧ cs = x.cells.toList ∧ ∃ B : Nat, x.bits = B ∧ B < 256 ∧ ∃ (ka : Option Addr) (kc : Nat) (ks : List (List UInt8)), x.kin = .slice ka ks.length kc ∧ KIn ka ks w := by
  obtain ⟨xs, n, _, _, hl, hn, hf⟩ := DataW.trod_struct Ybad.underlying26 h
  rw [cells26] at hl
  have hn13 : xs.length = 13 := hn
  have get : ∀ i, i < 13 → ∃ z, xs[i]? = some z := fun i hi => ⟨_, List.getElem?_eq_getElem (by omega)⟩
  obtain ⟨z0, hz0⟩ := get 0 (by omega)
  obtain ⟨z1, hz1⟩ := get 1 (by omega)
  obtain ⟨z2, hz2⟩ := get 2 (by omega)
  obtain ⟨z3, hz3⟩ := get 3 (by omega)
  obtain ⟨z4, hz4⟩ := get 4 (by omega)
  obtain ⟨z5, hz5⟩ := get 5 (by omega)
  obtain ⟨z6, hz6⟩ := get 6 (by omega)
  obtain ⟨z7, hz7⟩ := get 7 (by omega)
  obtain ⟨z8, hz8⟩ := get 8 (by omega)
  obtain ⟨z9, hz9⟩ := get 9 (by omega)
  obtain ⟨z10, hz10⟩ := get 10 (by omega)
  obtain ⟨z11, hz11⟩ := get 11 (by omega)
  obtain ⟨z12, hz12⟩ := get 12 (by omega)
  have t0 : DataW.trod enc Ybad.prog w base spare held n 5 ((cs.drop 0).take (Ybad.prog.cellsOf 5)) = some z0 := (hf 0 _ rfl).trans hz0
  rw [cells5] at t0
  have t1 : DataW.trod enc Ybad.prog w base spare held n 22 ((cs.drop 1).take (Ybad.prog.cellsOf 22)) = some z1 := (hf 1 _ rfl).trans hz1
  rw [cells22] at t1
  have t2 : DataW.trod enc Ybad.prog w base spare held n 22 ((cs.drop 21).take (Ybad.prog.cellsOf 22)) = some z2 := (hf 2 _ rfl).trans hz2
  rw [cells22] at t2
  have t3 : DataW.trod enc Ybad.prog w base spare held n 4 ((cs.drop 41).take (Ybad.prog.cellsOf 4)) = some z3 := (hf 3 _ rfl).trans hz3
  rw [cells4] at t3
  have t4 : DataW.trod enc Ybad.prog w base spare held n 23 ((cs.drop 42).take (Ybad.prog.cellsOf 23)) = some z4 := (hf 4 _ rfl).trans hz4
  rw [cells23] at t4
  have t5 : DataW.trod enc Ybad.prog w base spare held n 4 ((cs.drop 43).take (Ybad.prog.cellsOf 4)) = some z5 := (hf 5 _ rfl).trans hz5
  rw [cells4] at t5
  have t6 : DataW.trod enc Ybad.prog w base spare held n 4 ((cs.drop 44).take (Ybad.prog.cellsOf 4)) = some z6 := (hf 6 _ rfl).trans hz6
  rw [cells4] at t6
  have t7 : DataW.trod enc Ybad.prog w base spare held n 22 ((cs.drop 45).take (Ybad.prog.cellsOf 22)) = some z7 := (hf 7 _ rfl).trans hz7
  rw [cells22] at t7
  have t8 : DataW.trod enc Ybad.prog w base spare held n 9 ((cs.drop 65).take (Ybad.prog.cellsOf 9)) = some z8 := (hf 8 _ rfl).trans hz8
  rw [cells9] at t8
  have t9 : DataW.trod enc Ybad.prog w base spare held n 4 ((cs.drop 66).take (Ybad.prog.cellsOf 4)) = some z9 := (hf 9 _ rfl).trans hz9
  rw [cells4] at t9
  have t10 : DataW.trod enc Ybad.prog w base spare held n 22 ((cs.drop 67).take (Ybad.prog.cellsOf 22)) = some z10 := (hf 10 _ rfl).trans hz10
  rw [cells22] at t10
  have t11 : DataW.trod enc Ybad.prog w base spare held n 9 ((cs.drop 87).take (Ybad.prog.cellsOf 9)) = some z11 := (hf 11 _ rfl).trans hz11
  rw [cells9] at t11
  have t12 : DataW.trod enc Ybad.prog w base spare held n 24 ((cs.drop 88).take (Ybad.prog.cellsOf 24)) = some z12 := (hf 12 _ rfl).trans hz12
  rw [cells24] at t12
  obtain ⟨b, c0, _, hw0⟩ := DataW.trod_int Ybad.underlying5 t0
  obtain ⟨lf, hlf, c1⟩ := bytes_of_trod t1
  obtain ⟨lt, hlt, c2⟩ := bytes_of_trod t2
  obtain ⟨op, c3, _⟩ := DataW.trod_bool Ybad.underlying4 t3
  obtain ⟨ka, kc, ks, c4, hk⟩ := kept_of_trod t4
  obtain ⟨orph, c5, _⟩ := DataW.trod_bool Ybad.underlying4 t5
  obtain ⟨hasK, c6, _⟩ := DataW.trod_bool Ybad.underlying4 t6
  obtain ⟨lk, hlk, c7⟩ := bytes_of_trod t7
  obtain ⟨sk, c8, _⟩ := DataW.trod_string Ybad.underlying9 t8
  obtain ⟨hasB, c9, _⟩ := DataW.trod_bool Ybad.underlying4 t9
  obtain ⟨lb, hlb, c10⟩ := bytes_of_trod t10
  obtain ⟨sb, c11, _⟩ := DataW.trod_string Ybad.underlying9 t11
  obtain ⟨u, c12, _, hw12⟩ := DataW.trod_int Ybad.underlying24 t12
  have hb : 0 ≤ b ∧ b ≤ 255 := by simpa [Lit.wf, IntKind.min, IntKind.max, IntKind.signed, IntKind.bits] using hw0
  have hu : 0 ≤ u ∧ u ≤ 18446744073709551615 := by simpa [Lit.wf, IntKind.min, IntKind.max, IntKind.signed, IntKind.bits] using hw12
  refine ⟨⟨b, lf, lt, op, .slice ka ks.length kc, orph, hasK, lk, sk, hasB, lb, sb, u.toNat⟩, ⟨hlf, hlt, hlk, hlb, by show u.toNat < _; omega⟩, ?_, b.toNat, by show b = _; omega, by omega, ka, kc, ks, rfl, hk⟩
  have e : cs = cs.drop 0 := rfl
  rw [e, cut cs 0 1, c0, cut cs 1 20, c1, cut cs 21 20, c2, cut cs 41 1, c3, cut cs 42 1, c4, cut cs 43 1, c5, cut cs 44 1, c6, cut cs 45 20, c7, cut cs 65 1, c8, cut cs 66 1, c9, cut cs 67 20, c10, cut cs 87 1, c11, cut cs 88 1, c12,
    List.drop_eq_nil_of_le (show cs.length ≤ 88 + 1 by omega)]
  simp [Inp.cells, Int.toNat_of_nonneg hu.1]
end
end Go.Proofs.YbulkajiaDoor
