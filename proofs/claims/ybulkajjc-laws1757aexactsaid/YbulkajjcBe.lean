/-
  be16 and bytes.Equal.
-/
import Derived.Test.YbulkajjcPut
namespace Go.Proofs.Ybulkajjc
open Go.RowKit Go.Maps Go.Lib

/-- The numbers lie in block g. -/
def Nums (w : World) (g : Nat) (vs : List Nat) : Prop := ∀ j x : Nat, vs[j]? = some x → w.cell? ⟨g, j, none⟩ = some (.int .u16 (x : Int))

def puts (vs : List Nat) : List UInt8 := vs.flatMap e16

theorem puts_take (vs : List Nat) (j x : Nat) (h : vs[j]? = some x) : puts (vs.take (j + 1)) = puts (vs.take j) ++ e16 x := by
  have hj : j < vs.length := (List.getElem?_eq_some_iff.1 h).1
  have e : vs[j] = x := by rw [List.getElem?_eq_getElem hj] at h; exact Option.some.inj h
  unfold puts
  rw [List.take_succ_eq_append_getElem hj, e]
  simp

theorem puts_length (vs : List Nat) : (puts vs).length = 2 * vs.length := by
  unfold puts
  induction vs with
  | nil => rfl
  | cons x r ih => rw [List.flatMap_cons, List.length_append, ih, e16_length, List.length_cons]; omega

set_option maxHeartbeats 1000000 in
theorem be16_any (base : Nat) (v : Value) (l : List UInt8) (g : Nat) (vs : List Nat) (n c : Nat) (hn : n = vs.length) (w : World) (hvs : Nums w g vs) (hlt : ∀ x ∈ vs, x < 65536) (hne : v.ownBlock ≠ some g) (hown : Bs w base v l) (hl : l.length + 2 * vs.length ≤ 100000000) (hb : base ≤ w.heap.size) :
    Calls Yba.prog 11 #[v, .slice (some ⟨g, 0, none⟩) n c] w (fun e w' => ∃ v', e = .returned v' ∧ App base w w' v v' (l ++ puts vs)) := by
  have HO := Lib.hid hown
  have HV := Lib.hid hvs
  have HL := Lib.hid hlt
  have HE := Lib.hid hne
  have HN := Lib.hid hn
  have HL2 := Lib.hid hl
  have hn2 : n < 100000000 := by omega
  clear hown hvs hlt hne hn hl
  go_enter Yba.func11, Yba.ntmps11
  go_wp2_with fail
  go_loopw [0, 9] (fun u i wr => ∃ j : Nat, j ≤ n ∧ i = .int .i64 j ∧ Hid (App base w wr v u (l ++ puts (vs.take j)))) (fun _ i _ => n - (RowKit.intOf i).toNat)
  case atStart => exact ⟨0, Nat.zero_le _, rfl, by show App _ _ _ _ _ _; simpa [puts] using App.refl HO.out⟩
  case round =>
    obtain ⟨j, hj, rfl, HA⟩ := hrel
    by_cases hjl : j < n
    case pos =>
      obtain ⟨x, hx⟩ : ∃ x, vs[j]? = some x := ⟨_, List.getElem?_eq_getElem (by have := HN.out; omega)⟩
      have hcell : wr.cell? ⟨g, j, none⟩ = some (.int .u16 (x : Int)) := HA.out.grown.cell (HV.out j x hx) (fun e => HE.out e.symm)
      have hx1 : x < 65536 := HL.out x (List.mem_of_getElem? hx)
      have hx2 := Lib.hid hx
      clear hx
      go_wp2_with fail
      refine (au16_any base u0 (l ++ puts (vs.take j)) x wr hx1 HA.out.own (by rw [List.length_append, puts_length, List.length_take]; have := HL2.out; omega) (Nat.le_trans hb HA.out.size)).mono ?_
      rintro e w2 ⟨v2, rfl, ha2, _⟩
      have HA2 : Hid (App base w w2 v v2 (l ++ puts (vs.take (j + 1)))) := by show App _ _ _ _ _ _; rw [puts_take vs j x hx2.out, ← List.append_assoc]; exact HA.out.trans ha2
      clear ha2 hcell HA
      go_wp2_with fail
      go_roundw
      case rel => exact ⟨j + 1, by omega, by go_num, HA2⟩
      case measure => simp [RowKit.intOf]; omega
    case neg =>
      have ej : j = n := by omega
      subst ej
      have HA2 : Hid (App base w wr v u0 (l ++ puts vs)) := by have := HA.out; rw [HN.out, List.take_length] at this; exact this
      clear HA
      go_wp2_with fail
      go_ret
      exact ⟨u0, rfl, HA2.out⟩
end Go.Proofs.Ybulkajjc
