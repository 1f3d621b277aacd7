/-
  setNumber.
-/
import Derived.Test.YbulkajiaDoorPlain
namespace Go.Proofs.YbulkajiaDoor
open Go.RowKit Go.Maps Go.Lib Go.Sort

theorem tab_below {P : Program} {w w' : World} {name : String} {k : IntKind} {zs : List Int} (h : Lib.TabIs P w name k zs) (hb : Below w.heap.size w w') : Lib.TabIs P w' name k zs := by
  unfold Lib.TabIs World.var? at *
  cases hg : P.globalNamed name with
  | none => simp [hg] at h
  | some g =>
    simp only [hg, Option.bind_some] at h ⊢
    have hlt : g < w.heap.size := by
      rcases Nat.lt_or_ge g w.heap.size with h' | h'
      · exact h'
      · rw [Array.getElem?_eq_none h'] at h; simp at h
    rw [hb.block g hlt]
    exact h

def numSize (f : Fn) (k : List UInt8) (sz u : Nat) : Nat := if 0 < u then grew f k sz else sz

set_option maxHeartbeats 400000 in
theorem setNumber_any (base b n sz : Nat) (f : Fn) (name : ByteArray) (u : Nat) (hu : u < 18446744073709551616) (w : World) (h : Vals w base b n f sz) (hs : name.size ≤ maxLen) (hn : n < maxLen) (hbase : base ≤ w.heap.size) (htab : Lib.TabIs Ybad.prog w tabName .u64 Lib.pow10Tab) :
    Calls Ybad.prog 16 #[.map (some b), .string name, .int .u64 u] w fun e w' => e = .returned (.tuple #[]) ∧ ∃ n', Vals w' base b n' (putIf (decide (0 < u)) f name.data.toList [dec u]) (numSize f name.data.toList sz u) ∧ Below base w w' := by
  by_cases h0 : 0 < u
  · have hne : ((u : Int) != 0) = true := by rw [bne_iff_ne]; omega
    have H : Hid (Vals w base b n f sz) := h
    have HT : Hid (Lib.TabIs Ybad.prog w tabName .u64 Lib.pow10Tab) := htab
    clear h htab
    go_enter Ybad.func16, Ybad.ntmps16
    go_wp2_with fail
    refine (formatUint_any u hu _ HT.out).mono ?_
    rintro e w1 ⟨rfl, hb⟩
    have HB : Hid (Below w.heap.size w w1) := hb
    clear hb
    go_wp2_with fail
    refine (set_any base b n sz f name (dec u) w1 (H.out.later HB.out) hs hn (Nat.le_trans hbase HB.out.size)).mono ?_
    rintro e w2 ⟨rfl, V2, G2⟩
    have F : Hid (∃ n', Vals w2 base b n' (putIf (decide (0 < u)) f name.data.toList [dec u]) (numSize f name.data.toList sz u) ∧ Below base w w2) := by
      refine ⟨n + 1, ?_, (HB.out.mono hbase).grown G2 (Nat.le_trans hbase HB.out.size) (fun k hk => by cases hk; obtain ⟨_, _, hle, _⟩ := H.out; exact hle)⟩
      unfold putIf numSize
      simp only [h0, decide_true, if_true]
      exact V2
    clear V2 G2
    go_wp2
    go_end0
    exact ⟨rfl, F.out⟩
  · obtain rfl : u = 0 := by omega
    have F : Hid (∃ n', Vals w base b n' (putIf (decide (0 < 0)) f name.data.toList [dec 0]) (numSize f name.data.toList sz 0) ∧ Below base w w) := ⟨n, h, Below.refl _ _⟩
    clear h htab
    go_enter Ybad.func16, Ybad.ntmps16
    go_wp2
    go_end0
    exact ⟨rfl, F.out⟩
end Go.Proofs.YbulkajiaDoor
