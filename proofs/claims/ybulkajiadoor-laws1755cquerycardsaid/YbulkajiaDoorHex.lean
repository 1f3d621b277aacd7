/-
  zzs1755chex: the last d of the 40 hexadecimal digits.
-/
import Derived.Test.YbulkajiaDoorLeaf
namespace Go.Proofs.YbulkajiaDoor
open Go.RowKit Go.Maps Go.Lib

/-- The digits as numbers, from place 40 - d on. -/
theorem tail_nums (l : List UInt8) (d : Nat) : strOfNums ((Hx.nums l).drop (40 - d)) = tail l d := by
  unfold strOfNums Hx.nums tail
  rw [← List.map_drop, List.map_map]
  congr 2
  simp only [Int.toNat_natCast]
  conv => rhs; rw [← List.map_id ((Hx.encode l).drop (40 - d))]
  apply List.map_congr_left
  intro b _
  simp

theorem digAt (n : Nat) (h : n < Hx.tab.size) : ((Hx.tab[n]'h).toNat : Int) = ((Hx.digit n).toNat : Int) := by
  unfold Hx.digit
  rw [Pa.at_eq Hx.tab n h]
  rfl

theorem slice_tail (b d : Nat) (hd1 : 1 ≤ d) (hd2 : d ≤ 40) (w : World) :
    (Instr.sliceAt 56 (.pointer (some ⟨b, 0, none⟩)) (some (.int .i64 (40 - (d : Int)))) none none).run Ybad.prog w = .ok (.slice (some ⟨b, 40 - d, none⟩) d d) w := by
  rw [run_sliceAt_array_l w 56 ⟨b, 0, none⟩ Ybad.underlying56 .i64 (40 - (d : Int)) (by omega) (by show _ ≤ ((40 : Nat) : Int); omega)]
  have e0 : Ybad.prog.elem 56 = 5 := by kernel_rfl
  have e1 : Ybad.prog.arrayLen 56 = 40 := by kernel_rfl
  have e2 : (40 - (d : Int)).toNat = 40 - d := by omega
  rw [e0, e1, e2, Ybad.sizeOf5]
  simp only [Result.andThen_ok, slicedAt]
  rw [if_neg (by omega), Addr.add_mid]
  simp only [Nat.zero_add, Nat.mul_one]
  rw [show 40 - (40 - d) = d from by omega]

set_option maxHeartbeats 1000000 in
set_option maxRecDepth 100000 in
theorem chex_any (d : Nat) (hd1 : 1 ≤ d) (hd2 : d ≤ 40) (l : List UInt8) (hl : l.length = 20) (w : World) :
    Calls Ybad.prog 7 #[.agg (bv l).toArray, .int .i64 d] w fun e w' => e = .returned (.string (tail l d)) ∧ Below w.heap.size w w' := by
  have HB : Hid (BytesAt w.heap.size l (w.alloc (.cells (bv l).toArray 30))) := BytesAt.new w l 30
  have HL : Hid (l.length = 20) := hl
  clear hl
  go_enter Ybad.func7, Ybad.ntmps7
  go_wp2
  generalize hw0 : (w.alloc (.cells (bv l).toArray 30)).alloc _ = w0
  have hrow : w0.rowIs (w.heap.size + 1) 56 40 (fun _ => .int .u8 0) := by
    subst hw0
    have := World.rowIs_alloc (w.alloc (.cells (bv l).toArray 30)) (Array.replicate 40 (.int .u8 0)) 56 (fun _ => .int .u8 0) (fun i hi => by simp at hi; simp [hi])
    rw [show (w.alloc (.cells (bv l).toArray 30)).heap.size = w.heap.size + 1 from by simp] at this
    exact this
  have hbelow : Below w.heap.size w w0 := by
    subst hw0; exact ((Below.refl _ _).alloc (Nat.le_refl _) _).alloc (by simp) _
  have HB0 : Hid (BytesAt w.heap.size l w0) := by
    subst hw0; exact HB.out.later ((Below.refl _ _).alloc (Nat.le_refl _) _)
  have HB1 : Hid (Below w.heap.size w w0) := hbelow
  have HR0 : Hid (w0.rowIs (w.heap.size + 1) 56 40 (fun _ => .int .u8 0)) := hrow
  clear hw0 hrow hbelow HB
  go_loopw [6] (fun vi wr => ∃ k : Nat, k ≤ 20 ∧ vi = .int .i64 k ∧ Hid (wr.rowIs (w.heap.size + 1) 56 40 (Hx.row (fun _ => .int .u8 0) 0 l k)) ∧ Hid (w0.grownBy wr (some (w.heap.size + 1)))) (fun vi _ => 20 - (RowKit.intOf vi).toNat)
  case atStart => exact ⟨0, Nat.zero_le _, rfl, HR0.out.congr (fun j _ => Hx.row_zero (fun _ => .int .u8 0) 0 l j), Hx.grownBy_refl _ _⟩
  case round =>
    obtain ⟨k, hk, rfl, hrw, hgr⟩ := hrel
    by_cases hlt : k < 20
    · obtain ⟨x, hxk⟩ : ∃ x, x = l[k]'(by rw [HL.out]; exact hlt) := ⟨_, rfl⟩
      have hcx : wr.cell? ⟨w.heap.size, k, none⟩ = some (.int .u8 (x.toNat : Int)) := by
        have := HB0.out.1 k (by rw [HL.out]; exact hlt)
        rw [hxk]
        rw [Nat.zero_add] at this
        exact hgr.out.cell this (by simp)
      have hx1 : (x.toNat : Int) < 256 := by have := x.toNat_lt; omega
      have HX : Hid (l[k]? = some x) := by rw [hxk]; exact List.getElem?_eq_getElem _
      clear hxk
      have hf1 : wr.frozen? ⟨w.heap.size + 1, 2 * k, none⟩ = false := hrw.out.frozen _
      have hc1 : wr.cell? ⟨w.heap.size + 1, 2 * k, none⟩ = some (Hx.row (fun _ => .int .u8 0) 0 l k (2 * k)) := hrw.out.cell (by omega)
      have hf2 : ∀ v, (wr.setCell ⟨w.heap.size + 1, 2 * k, none⟩ v).frozen? ⟨w.heap.size + 1, 2 * k + 1, none⟩ = false := fun v => (hrw.out.set _ v).frozen _
      have hc2 : ∀ v, (wr.setCell ⟨w.heap.size + 1, 2 * k, none⟩ v).cell? ⟨w.heap.size + 1, 2 * k + 1, none⟩ = some (Hx.row (fun _ => .int .u8 0) 0 l k (2 * k + 1)) := fun v => by
        have := (hrw.out.set (2 * k) v).cell (i := 2 * k + 1) (by omega)
        rwa [if_neg (by omega)] at this
      have hc3 : ∀ v, (wr.setCell ⟨w.heap.size + 1, 2 * k, none⟩ v).cell? ⟨w.heap.size, k, none⟩ = some (.int .u8 (x.toNat : Int)) := fun v => by
        rw [World.cell?_setCell_far _ _ _ _ (by simp)]; exact hcx
      go_wp2
      go_roundw
      case rel =>
        refine ⟨k + 1, by omega, by go_num, ((hrw.out.set _ _).set _ _).congr (fun j _ => ?_), Hx.grownBy_set (Hx.grownBy_set hgr.out _ rfl _) _ rfl _⟩
        have e1 := digAt (x.toNat / 16) (by have := x.toNat_lt; show _ < 16; omega)
        have e2 := digAt (x.toNat % 16) (by show _ < 16; omega)
        have e3 := Hx.row_step (fun _ => .int .u8 0) 0 l k x HX.out j
        rw [← e1, ← e2, Nat.zero_add, Nat.zero_add] at e3
        exact e3
      case measure => simp [RowKit.intOf]; omega
    · obtain rfl : k = 20 := by omega
      have hsl := fun w' => slice_tail (w.heap.size + 1) d hd1 hd2 w'
      have g := run_convert_bytes_arg (P := Ybad.prog) wr 57 5 Ybad.underlying57 Ybad.underlying5 (w.heap.size + 1) (40 - d) d d ((Hx.nums l).drop (40 - d)) (by rw [List.length_drop, Hx.nums_length, HL.out]; omega)
        (fun i hi => by
          rw [hrw.out.cell (by omega), Hx.row_in _ _ _ _ (by omega), List.getD_eq_getElem?_getD, List.getD_eq_getElem?_getD, List.getElem?_drop]) 9 Ybad.underlying9
      rw [tail_nums] at g
      go_wp2
      go_ret
      exact ⟨rfl, HB1.out.grown hgr.out HB1.out.size (fun k hk => by cases hk; omega)⟩
end Go.Proofs.YbulkajiaDoor
