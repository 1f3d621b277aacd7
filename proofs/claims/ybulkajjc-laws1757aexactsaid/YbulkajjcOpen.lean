/-
  The law's arguments, opened.
-/
import Derived.Test.YbulkajjcLaw
import Derived.ChangeSame
import Derived.OpenShut
import Derived.Deep.Slices
import Derived.Lib.LaidU8
namespace Go.Proofs.Ybulkajjc
open Go.RowKit Go.Maps Go.Lib

theorem cells22 : Yba.prog.cellsOf 22 = 1 := by kernel_rfl
theorem cells23 : Yba.prog.cellsOf 23 = 1 := by kernel_rfl
theorem cells5 : Yba.prog.cellsOf 5 = 1 := by kernel_rfl
theorem cells46 : Yba.prog.cellsOf 46 = 5 := by kernel_rfl
theorem cells4 : Yba.prog.cellsOf 4 = 1 := by kernel_rfl
theorem cells47 : Yba.prog.cellsOf 47 = 2 := by kernel_rfl
theorem cells9 : Yba.prog.cellsOf 9 = 1 := by kernel_rfl

theorem cells_at {w : World} {base n : Nat} {a : Addr} {cs : List Value} (h : w.cells? base a n = some cs) : cs.length = n ∧ ∀ i, i < n → w.cell? (a.add i) = cs[i]? := by
  unfold World.cells? at h
  split at h
  · exact ⟨by simpa using mapM_some_length h, fun i hi => mapM_some_get h i i (by simp [hi])⟩
  · cases h

section
variable {H : Type} {enc : TypeId × Value → H} {w : World} {base : Nat} {spare : Nat → Bool} {held : Bool}

theorem byte_of_trod {fuel : Nat} {cs : List Value} {x : DataW H × List MemPlace} (h : DataW.trod enc Yba.prog w base spare held fuel 5 cs = some x) : ∃ b : UInt8, cs = [.int .u8 (b.toNat : Int)] := by
  obtain ⟨n, hc, _, hw⟩ := DataW.trod_int Yba.underlying5 h
  have hr : 0 ≤ n ∧ n ≤ 255 := by simpa [Lit.wf, IntKind.min, IntKind.max, IntKind.signed, IntKind.bits] using hw
  refine ⟨UInt8.ofNat n.toNat, ?_⟩
  rw [hc]
  have : (UInt8.ofNat n.toNat).toNat = n.toNat := by
    rw [UInt8.toNat_ofNat']
    exact Nat.mod_eq_of_lt (by show n.toNat < 256; omega)
  rw [this]
  simp [Int.toNat_of_nonneg hr.1]

theorem num_of_trod {fuel : Nat} {cs : List Value} {x : DataW H × List MemPlace} (h : DataW.trod enc Yba.prog w base spare held fuel 22 cs = some x) : ∃ n : Nat, n < 65536 ∧ cs = [.int .u16 (n : Int)] := by
  obtain ⟨n, hc, _, hw⟩ := DataW.trod_int Yba.underlying22 h
  have hr : 0 ≤ n ∧ n ≤ 65535 := by simpa [Lit.wf, IntKind.min, IntKind.max, IntKind.signed, IntKind.bits] using hw
  refine ⟨n.toNat, by omega, ?_⟩
  rw [hc]
  simp [Int.toNat_of_nonneg hr.1]

theorem rd_of_trod {fuel : Nat} {cs : List Value} {x : DataW H × List MemPlace} (h : DataW.trod enc Yba.prog w base spare held fuel 23 cs = some x) : ∃ v l, cs = [v] ∧ Rd w v l := by
  rcases Go.Deep.open_slice Yba.underlying23 h with ⟨rfl, _⟩ | ⟨a, len, cap, m, n, D, Pl, rfl, _, hl, _, hm, _, hel⟩
  · exact ⟨_, [], rfl, .inl ⟨rfl, rfl⟩⟩
  rw [cells5] at hel
  have hle : len ≤ m := by rw [hm]; split <;> omega
  have hb : ∀ i, i < len → ∃ b : UInt8, w.cell? (a.add i) = some (.int .u8 (b.toNat : Int)) := by
    intro i hi
    obtain ⟨cs', h1, h2⟩ := hel i (by omega)
    obtain ⟨b, rfl⟩ := byte_of_trod h2
    obtain ⟨_, h4⟩ := cells_at h1
    refine ⟨b, ?_⟩
    have := h4 0 (by decide)
    rw [Addr.add_add] at this
    simpa using this
  obtain ⟨f, hf⟩ := Go.Deep.choose_lt hb
  refine ⟨_, (List.range len).map f, rfl, .inr ⟨a, cap, by simp, fun j u hu => ?_⟩⟩
  have hj : j < len := by
    have := (List.getElem?_eq_some_iff.1 hu).1
    simpa [bv] using this
  rw [hf j hj]
  simp [bv, hj] at hu
  rw [← hu]

theorem take_one {cs : List Value} {a : Nat} {v : Value} (h : (cs.drop a).take 1 = [v]) : cs[a]? = some v := by
  have := congrArg (fun l : List Value => l[0]?) h
  simpa [List.getElem?_take, List.getElem?_drop] using this

theorem hm_of_trod {fuel : Nat} {cs : List Value} {y : DataW H × List MemPlace} (h : DataW.trod enc Yba.prog w base spare held fuel 46 cs = some y) :
    ∃ x : Hm, cs = x.cells ∧ Rd w x.cv x.c ∧ x.s < 65536 ∧ x.e < 65536 ∧ x.h < 65536 := by
  obtain ⟨xs, n, _, _, hl, hn, hf⟩ := DataW.trod_struct Yba.underlying46 h
  rw [cells46] at hl
  have hn5 : xs.length = 5 := hn
  have get : ∀ i, i < 5 → ∃ z, xs[i]? = some z := fun i hi => ⟨_, List.getElem?_eq_getElem (by omega)⟩
  obtain ⟨z0, hz0⟩ := get 0 (by omega)
  obtain ⟨z1, hz1⟩ := get 1 (by omega)
  obtain ⟨z2, hz2⟩ := get 2 (by omega)
  obtain ⟨z3, hz3⟩ := get 3 (by omega)
  obtain ⟨z4, hz4⟩ := get 4 (by omega)
  have t0 : DataW.trod enc Yba.prog w base spare held n 22 ((cs.drop 0).take (Yba.prog.cellsOf 22)) = some z0 := (hf 0 _ rfl).trans hz0
  have t1 : DataW.trod enc Yba.prog w base spare held n 22 ((cs.drop 1).take (Yba.prog.cellsOf 22)) = some z1 := (hf 1 _ rfl).trans hz1
  have t2 : DataW.trod enc Yba.prog w base spare held n 22 ((cs.drop 2).take (Yba.prog.cellsOf 22)) = some z2 := (hf 2 _ rfl).trans hz2
  have t3 : DataW.trod enc Yba.prog w base spare held n 4 ((cs.drop 3).take (Yba.prog.cellsOf 4)) = some z3 := (hf 3 _ rfl).trans hz3
  have t4 : DataW.trod enc Yba.prog w base spare held n 23 ((cs.drop 4).take (Yba.prog.cellsOf 23)) = some z4 := (hf 4 _ rfl).trans hz4
  rw [cells22] at t0 t1 t2
  rw [cells4] at t3
  rw [cells23] at t4
  obtain ⟨s, hs, c0⟩ := num_of_trod t0
  obtain ⟨e, he, c1⟩ := num_of_trod t1
  obtain ⟨hh, hhh, c2⟩ := num_of_trod t2
  obtain ⟨b, c3, _⟩ := DataW.trod_bool Yba.underlying4 t3
  obtain ⟨v, l, c4, hrd⟩ := rd_of_trod t4
  refine ⟨⟨s, e, hh, b, v, l⟩, ?_, hrd, hs, he, hhh⟩
  have d0 := take_one c0
  have d1 := take_one c1
  have d2 := take_one c2
  have d3 := take_one c3
  have d4 := take_one c4
  match cs, hl with
  | [a0, a1, a2, a3, a4], _ =>
    simp at d0 d1 d2 d3 d4
    subst d0 d1 d2 d3 d4
    rfl

theorem am_of_trod {fuel : Nat} {cs : List Value} {y : DataW H × List MemPlace} (h : DataW.trod enc Yba.prog w base spare held fuel 47 cs = some y) :
    ∃ x : Am, cs = x.cells ∧ Rd w x.iv x.info ∧ x.name.size ≤ maxLen := by
  obtain ⟨xs, n, _, _, hl, hn, hf⟩ := DataW.trod_struct Yba.underlying47 h
  rw [cells47] at hl
  have hn5 : xs.length = 2 := hn
  have get : ∀ i, i < 2 → ∃ z, xs[i]? = some z := fun i hi => ⟨_, List.getElem?_eq_getElem (by omega)⟩
  obtain ⟨z0, hz0⟩ := get 0 (by omega)
  obtain ⟨z1, hz1⟩ := get 1 (by omega)
  have t0 : DataW.trod enc Yba.prog w base spare held n 9 ((cs.drop 0).take (Yba.prog.cellsOf 9)) = some z0 := (hf 0 _ rfl).trans hz0
  have t1 : DataW.trod enc Yba.prog w base spare held n 23 ((cs.drop 1).take (Yba.prog.cellsOf 23)) = some z1 := (hf 1 _ rfl).trans hz1
  rw [cells9] at t0
  rw [cells23] at t1
  obtain ⟨s, c0, _, hsz⟩ := DataW.trod_string Yba.underlying9 t0
  obtain ⟨v, l, c1, hrd⟩ := rd_of_trod t1
  refine ⟨⟨s, v, l⟩, ?_, hrd, hsz⟩
  have d0 := take_one c0
  have d1 := take_one c1
  match cs, hl with
  | [a0, a1], _ =>
    simp at d0 d1
    subst d0 d1
    rfl

theorem hin_of_trod {fuel : Nat} {cs : List Value} {x : DataW H × List MemPlace} (h : DataW.trod enc Yba.prog w base spare held fuel 24 cs = some x) :
    ∃ (ha : Option Addr) (hc : Nat) (hs : List Hm), cs = [.slice ha hs.length hc] ∧ HIn ha hs w := by
  rcases Go.Deep.open_slice Yba.underlying24 h with ⟨rfl, _⟩ | ⟨a, len, cap, m, n, D, Pl, rfl, _, hl, _, hm, _, hel⟩
  · exact ⟨none, 0, [], rfl, fun j x hj => by simp at hj⟩
  rw [cells46] at hel
  have hle : len ≤ m := by rw [hm]; split <;> omega
  have hb : ∀ i, i < len → ∃ x : Hm, (∀ k v, x.cells[k]? = some v → w.cell? ((a.add (i * 5)).add k) = some v) ∧ Rd w x.cv x.c ∧ x.s < 65536 ∧ x.e < 65536 ∧ x.h < 65536 := by
    intro i hi
    obtain ⟨cs', h1, h2⟩ := hel i (by omega)
    obtain ⟨x, rfl, hr⟩ := hm_of_trod h2
    obtain ⟨_, h4⟩ := cells_at h1
    refine ⟨x, fun k v hv => ?_, hr⟩
    have hk : k < 5 := (List.getElem?_eq_some_iff.1 hv).1
    rw [h4 k hk]; exact hv
  have : Inhabited Hm := ⟨⟨0, 0, 0, false, nil, []⟩⟩
  obtain ⟨f, hf⟩ := Go.Deep.choose_lt hb
  refine ⟨some a, cap, (List.range len).map f, by simp, fun j x hj => ?_⟩
  have hjl : j < len := by
    have := (List.getElem?_eq_some_iff.1 hj).1
    simpa using this
  have el : x = f j := by
    simp [hjl] at hj
    exact hj.symm
  subst el
  obtain ⟨hc, hrd, h1, h2, h3⟩ := hf j hjl
  obtain ⟨ab, ao, sp⟩ := a
  have h0 : w.cell? ⟨ab, ao, sp⟩ = some (.int .u16 ((f 0).s : Int)) := (hf 0 (by omega)).1 0 _ rfl
  have hsp : sp = none := cell_spot h0
  subst hsp
  refine ⟨ab, ao, rfl, fun i v hv => ?_, hrd, h1, h2, h3⟩
  have := hc i v hv
  rw [Addr.add_mid, Addr.add_mid] at this
  exact this

theorem ain_of_trod {fuel : Nat} {cs : List Value} {x : DataW H × List MemPlace} (h : DataW.trod enc Yba.prog w base spare held fuel 25 cs = some x) :
    ∃ (ha : Option Addr) (hc : Nat) (ats : List Am), cs = [.slice ha ats.length hc] ∧ AIn ha ats w := by
  rcases Go.Deep.open_slice Yba.underlying25 h with ⟨rfl, _⟩ | ⟨a, len, cap, m, n, D, Pl, rfl, _, hl, _, hm, _, hel⟩
  · exact ⟨none, 0, [], rfl, fun j x hj => by simp at hj⟩
  rw [cells47] at hel
  have hle : len ≤ m := by rw [hm]; split <;> omega
  have hb : ∀ i, i < len → ∃ x : Am, (∀ k v, x.cells[k]? = some v → w.cell? ((a.add (i * 2)).add k) = some v) ∧ Rd w x.iv x.info ∧ x.name.size ≤ maxLen := by
    intro i hi
    obtain ⟨cs', h1, h2⟩ := hel i (by omega)
    obtain ⟨x, rfl, hr⟩ := am_of_trod h2
    obtain ⟨_, h4⟩ := cells_at h1
    refine ⟨x, fun k v hv => ?_, hr⟩
    have hk : k < 2 := (List.getElem?_eq_some_iff.1 hv).1
    rw [h4 k hk]; exact hv
  have : Inhabited Am := ⟨⟨ByteArray.empty, nil, []⟩⟩
  obtain ⟨f, hf⟩ := Go.Deep.choose_lt hb
  refine ⟨some a, cap, (List.range len).map f, by simp, fun j x hj => ?_⟩
  have hjl : j < len := by
    have := (List.getElem?_eq_some_iff.1 hj).1
    simpa using this
  have el : x = f j := by
    simp [hjl] at hj
    exact hj.symm
  subst el
  obtain ⟨hc, hrd, hnm⟩ := hf j hjl
  obtain ⟨ab, ao, sp⟩ := a
  have h0 : w.cell? ⟨ab, ao, sp⟩ = some (.string (f 0).name) := (hf 0 (by omega)).1 0 _ rfl
  have hsp : sp = none := cell_spot h0
  subst hsp
  refine ⟨ab, ao, rfl, fun i v hv => ?_, hrd, hnm⟩
  have := hc i v hv
  rw [Addr.add_mid, Addr.add_mid] at this
  exact this
end
end Go.Proofs.Ybulkajjc
