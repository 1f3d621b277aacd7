/-
  Toward LawS1755CQuery: one look at the query by the law's own helper; the slices of strings.
-/
import Derived.Test.YbulkajiaDoorBuild
import Derived.Deep.AppendLies
namespace Go.Proofs.YbulkajiaDoor
open Go.RowKit Go.Maps Go.Lib Go.Sort

/-- zzs1755cone at a query that is known. -/
theorem cone_any {base b n sz : Nat} {f : List UInt8 → Option (List ByteArray)} {w : World} (h : Vals w base b n f sz) (key val : ByteArray) (p : Bool) (hs : key.size ≤ maxLen)
    (hf : f key.data.toList = if p then some [val] else none) :
    Calls Ybad.prog 6 #[.map (some b), .string key, .bool p, .string val] w fun e w' => e = .returned (.bool true) ∧ w' = w := by
  obtain ⟨fv, h1, h2, h3, h4, h5⟩ := h
  cases p with
  | false => exact cone_no b n sz fv key val w h1 hs (h3 _ (by simpa using hf))
  | true =>
    obtain ⟨v, hv, hr⟩ := h4 _ [val] (by simpa using hf)
    obtain ⟨g, cap, rfl⟩ : ∃ g cap, v = .slice (some ⟨g, 0, none⟩) 1 cap := by
      obtain ⟨_, e | ⟨g, cap, cur, e, _⟩⟩ := hr
      · have := e.2; simp at this
      · exact ⟨g, cap, e⟩
    have hc := hr.cells (g := g) rfl 0 (.string val) rfl
    rw [Addr.add_mid] at hc
    exact cone_yes b n sz fv key val w h1 hs g cap hv hc

/-- The look at a key: the slice that lies there. -/
theorem look_some {base b n sz : Nat} {f : List UInt8 → Option (List ByteArray)} {w : World} (h : Vals w base b n f sz) (key : ByteArray) (hs : key.size ≤ maxLen) (ss : List ByteArray) (k : Nat) (hk : ss.length = k) (hss : 0 < k) (hf : f key.data.toList = some ss) :
    ∃ g cap, (Instr.lookup 39 (.map (some b)) (.string key) false).run Ybad.prog w = .ok (.slice (some ⟨g, 0, none⟩) k cap) w ∧ g < w.heap.size ∧ ∀ j, j < ss.length → w.cell? ⟨g, 0 + j, none⟩ = some (.string (ss.getD j ByteArray.empty)) := by
  subst hk
  obtain ⟨fv, h1, h2, h3, h4, h5⟩ := h
  obtain ⟨v, hv, hr⟩ := h4 _ ss hf
  obtain ⟨g, cap, rfl⟩ : ∃ g cap, v = .slice (some ⟨g, 0, none⟩) ss.length cap := by
    obtain ⟨_, e | ⟨g, cap, cur, e, _⟩⟩ := hr
    · have := e.2; omega
    · exact ⟨g, cap, e⟩
  have hl := h1.look (t := 39) Ybad.underlying9 Ybad.underlying39 (zero43 w) hs
  rw [hv] at hl
  refine ⟨g, cap, hl, (hr.lt g rfl).2, fun j hj => ?_⟩
  have := hr.cells (g := g) rfl j (.string (ss.getD j ByteArray.empty)) (by rw [List.getElem?_map, List.getElem?_eq_getElem hj]; simp [List.getD_eq_getElem?_getD, List.getElem?_eq_getElem hj])
  rw [Addr.add_mid] at this
  exact this

/-- The look at a key that lacks. -/
theorem look_none {base b n sz : Nat} {f : List UInt8 → Option (List ByteArray)} {w : World} (h : Vals w base b n f sz) (key : ByteArray) (hs : key.size ≤ maxLen) (hf : f key.data.toList = none) :
    (Instr.lookup 39 (.map (some b)) (.string key) true).run Ybad.prog w = .ok (.tuple #[.slice none 0 0, .bool false]) w := by
  obtain ⟨fv, h1, h2, h3, h4, h5⟩ := h
  have hl := h1.look_ok (t := 39) Ybad.underlying9 Ybad.underlying39 (zero43 w) hs
  rw [h3 _ hf] at hl
  exact hl

theorem vals_len {base b n sz : Nat} {f : List UInt8 → Option (List ByteArray)} {w : World} (h : Vals w base b n f sz) (ty : TypeId) : (Builtin.len_ #[39] ty #[.map (some b)]).run Ybad.prog w = .ok (.int .i64 sz) w := by
  obtain ⟨fv, h1, _⟩ := h
  exact h1.len Ybad.underlying39 ty

theorem info9s : (Ybad.prog.info? 9).map (fun i => (i.zero, i.size, i.bytes)) = some (some (.string ByteArray.empty), 1, 16) := by kernel_rfl

theorem make43 (n : Nat) (hn : n ≤ 1024) (w : World) : (Instr.makeSlice 43 (.int .i64 0) (.int .i64 (n : Int))).run Ybad.prog w = .ok (.slice (some ⟨w.heap.size, 0, none⟩) 0 n) (w.alloc (.cells (madeCells #[.string ByteArray.empty] (n * 1)) 9)) := by
  obtain ⟨i0, hi, hz0, hz1, hz2⟩ := info_three info9s
  have := run_make (P := Ybad.prog) w 43 9 i0 _ Ybad.underlying43 hi hz0 .i64 .i64 0 (n : Int) (by omega) (by omega) (by rw [hz2]; omega) (by omega)
  rw [Int.toNat_natCast, hz1] at this
  exact this

theorem slice43 (s : ByteArray) (w : World) : (Instr.buildSlice 43 1 #[(0, .string s)]).run Ybad.prog w = .ok (.slice (some ⟨w.heap.size, 0, none⟩) 1 1) (w.alloc (.cells #[.string s] 9)) := by kernel_rfl

/-- One string more. -/
theorem app43 (ss : List ByteArray) (hn : ss.length ≤ 1024) (s : ByteArray) (base : Nat) (v : Value) (w : World) (hb : base ≤ w.heap.size) (h : w.ownsRow base 9 1 v ss.length (ss.map Value.string)) (hv : v ≠ .slice none 0 0) :
    ∃ v' w', (Builtin.append_ #[43, 43] 43 #[v, .slice (some ⟨w.heap.size, 0, none⟩) 1 1]).run Ybad.prog (w.alloc (.cells #[.string s] 9)) = .ok v' w' ∧
      w'.ownsRow base 9 1 v' (ss ++ [s]).length ((ss ++ [s]).map Value.string) ∧ v' ≠ .slice none 0 0 ∧ Below base w w' := by
  obtain ⟨i0, hi, hz0, hz1, hz2⟩ := info_three info9s
  obtain ⟨v', w', h1, h2, h3, h4⟩ := run_append_own (P := Ybad.prog) (w.alloc (.cells #[.string s] 9)) base 43 43 9 i0 _ 1 16 Ybad.underlying43 hi hz0 hz1 hz2 rfl (by decide) v ss.length _ (h.alloc _)
    ⟨w.heap.size, 0, none⟩ 1 1 [.string s] rfl (cell_one_new _ _ _) (by simp [Value.oneCell']) (by unfold maxLen; omega) (by omega) (by simp; omega)
  refine ⟨v', w', h1, by simpa using h2, fun e => hv (h4.1 e).1, ((Below.refl _ _).alloc hb _).grown h3 (by simp; omega) (fun k hk => (h.lt k hk).1)⟩

theorem row_form9 {w : World} {base n : Nat} {v : Value} {xs : List Value} (h : w.ownsRow base 9 1 v n xs) (hv : v ≠ .slice none 0 0) : ∃ g cap, v = .slice (some ⟨g, 0, none⟩) n cap := by
  obtain ⟨_, h | ⟨g, cap, cur, e, hg, _⟩⟩ := h
  · exact (hv h.1).elim
  · exact ⟨g, cap, e⟩

theorem row_cells9 {w : World} {base g cap n : Nat} {ss : List ByteArray} (h : w.ownsRow base 9 1 (.slice (some ⟨g, 0, none⟩) n cap) n (ss.map Value.string)) : ∀ j, j < ss.length → w.cell? ⟨g, 0 + j, none⟩ = some (.string (ss.getD j ByteArray.empty)) := by
  intro j hj
  have := h.cells (g := g) rfl j (.string (ss.getD j ByteArray.empty)) (by rw [List.getElem?_map, List.getElem?_eq_getElem hj]; simp [List.getD_eq_getElem?_getD, List.getElem?_eq_getElem hj])
  rw [Addr.add_mid] at this
  exact this

/-- slices.Equal at one and the same row of strings. -/
theorem equal_same (ss : List ByteArray) (k : Nat) (hk : ss.length = k) (hn : k ≤ 1024) (g c g2 c2 : Nat) (w : World) (h1 : ∀ j, j < ss.length → w.cell? ⟨g, 0 + j, none⟩ = some (.string (ss.getD j ByteArray.empty))) (h2 : ∀ j, j < ss.length → w.cell? ⟨g2, 0 + j, none⟩ = some (.string (ss.getD j ByteArray.empty))) :
    Calls Ybad.prog 8 #[.slice (some ⟨g, 0, none⟩) k c, .slice (some ⟨g2, 0, none⟩) k c2] w fun e w' => e = .returned (.bool true) ∧ Below w.heap.size w w' := by
  subst hk
  refine (Ybad.slices_Equal_string g 0 ss.length c g2 0 ss.length c2 ss ss w (Nat.le_refl _) (Nat.le_refl _) (by omega) (by omega) h1 h2).mono ?_
  rintro e w' ⟨rfl, q, rfl⟩
  exact ⟨by simp, rfl, rfl, rfl, Nat.le_refl _, fun _ _ => rfl⟩

end Go.Proofs.YbulkajiaDoor
