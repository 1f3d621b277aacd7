/-
  zzs1755cdec: the decimal numeral, by hand.
-/
import Derived.Test.YbulkajiaDoorDec
namespace Go.Proofs.YbulkajiaDoor
open Go.RowKit Go.Maps Go.Lib Go.Sort

theorem pow_le_nDigits (u : Nat) : 1 ≤ u → 10 ^ (Lib.nDigits u - 1) ≤ u := by
  induction u using Nat.strongRecOn with
  | _ u ih =>
    intro h1
    by_cases h : u < 10
    · rw [Lib.nDigits_small h]; simpa using h1
    · have hp := Lib.nDigits_pos (u / 10)
      rw [Lib.nDigits_big h, show Lib.nDigits (u / 10) + 1 - 1 = (Lib.nDigits (u / 10) - 1) + 1 from by omega, Nat.pow_succ]
      have := ih (u / 10) (by omega) (by omega)
      omega

theorem digits_lt (u k : Nat) (h : 0 < u / 10 ^ k) : k < Lib.nDigits u := by
  have h1 : 10 ^ k ≤ u := by
    rcases Nat.lt_or_ge u (10 ^ k) with c | c
    · rw [Nat.div_eq_of_lt c] at h; omega
    · exact c
  have h2 := Lib.lt_pow_nDigits u
  exact (Nat.pow_lt_pow_iff_right (a := 10) (by omega)).1 (by omega)

theorem digits_end (u k : Nat) (h1 : 1 ≤ u) (hk : k ≤ Lib.nDigits u) (h : u / 10 ^ k = 0) : k = Lib.nDigits u := by
  have h2 := pow_le_nDigits u h1
  have hp : 0 < 10 ^ k := Nat.pow_pos (by omega)
  have h3 : u < 10 ^ k := by
    rcases Nat.lt_or_ge u (10 ^ k) with c | c
    · exact c
    · have := Nat.div_pos c hp; omega
  have h4 : Lib.nDigits u - 1 < k := (Nat.pow_lt_pow_iff_right (a := 10) (by omega)).1 (by omega)
  have := Lib.nDigits_pos u
  omega

/-- The row behind k rounds. -/
def decRow (u k : Nat) : Nat → Value := fun j => if 20 ≤ j + k then .int .u8 ((Lib.dg u (19 - j)).toNat : Int) else .int .u8 0

theorem decRow_step (u k : Nat) (hk : k < 20) (x : Nat) (hx : x = u / 10 ^ k) (j : Nat) (hj : j < 20) :
    (if j = 20 - k - 1 then Value.int .u8 (48 + (x : Int) % 10) else decRow u k j) = decRow u (k + 1) j := by
  unfold decRow
  by_cases h : j = 20 - k - 1
  · rw [if_pos h, if_pos (by omega), show 19 - j = k from by omega]
    unfold Lib.dg
    rw [← hx]
    congr 1
    rw [UInt8.toNat_ofNat']
    omega
  · rw [if_neg h]
    by_cases h2 : 20 ≤ j + k
    · rw [if_pos h2, if_pos (by omega)]
    · rw [if_neg h2, if_neg (by omega)]

theorem slice_dec (b n : Nat) (hn1 : 1 ≤ n) (hn2 : n ≤ 20) (w : World) :
    (Instr.sliceAt 22 (.pointer (some ⟨b, 0, none⟩)) (some (.int .i64 ((20 - n : Nat) : Int))) none none).run Ybad.prog w = .ok (.slice (some ⟨b, 20 - n, none⟩) n n) w := by
  rw [run_sliceAt_array_l w 22 ⟨b, 0, none⟩ Ybad.underlying22 .i64 ((20 - n : Nat) : Int) (by omega) (by show _ ≤ ((20 : Nat) : Int); omega)]
  have e0 : Ybad.prog.elem 22 = 5 := by kernel_rfl
  have e1 : Ybad.prog.arrayLen 22 = 20 := by kernel_rfl
  rw [e0, e1, Int.toNat_natCast, Ybad.sizeOf5]
  simp only [Result.andThen_ok, slicedAt]
  rw [if_neg (by omega), Addr.add_mid]
  simp only [Nat.zero_add, Nat.mul_one]
  rw [show 20 - (20 - n) = n from by omega]

set_option maxHeartbeats 1000000 in
set_option maxRecDepth 100000 in
theorem cdec_any (u : Nat) (hu64 : u < 18446744073709551616) (w : World) :
    Calls Ybad.prog 9 #[.int .u64 u] w fun e w' => e = .returned (.string (dec u)) ∧ Below w.heap.size w w' := by
  by_cases h0 : u = 0
  · subst h0
    go_enter Ybad.func9, Ybad.ntmps9
    go_wp2
    go_ret
    refine ⟨ret_string ?_, Below.refl _ _⟩
    unfold dec
    rw [Lib.decDigits_one (by omega)]
    rfl
  · have hu1 : 1 ≤ u := by omega
    have hnd20 : Lib.nDigits u ≤ 20 := by have := Lib.numDigits_eq u hu1 hu64; split at this <;> omega
    have hne : ((u : Int) == 0) = false := by rw [beq_eq_false_iff_ne]; omega
    go_enter Ybad.func9, Ybad.ntmps9
    go_wp2
    generalize hw0 : w.alloc _ = w0
    have hrow : w0.rowIs w.heap.size 22 20 (fun _ => .int .u8 0) := by
      subst hw0
      exact World.rowIs_alloc w (Array.replicate 20 (.int .u8 0)) 22 (fun _ => .int .u8 0) (fun i hi => by simp at hi; simp [hi])
    have hbelow : Below w.heap.size w w0 := by
      subst hw0; exact (Below.refl _ _).alloc (Nat.le_refl _) _
    have HB1 : Hid (Below w.heap.size w w0) := hbelow
    have HR0 : Hid (w0.rowIs w.heap.size 22 20 (fun _ => .int .u8 0)) := hrow
    clear hw0 hrow hbelow
    go_loopw [0, 4] (fun vx vi wr => ∃ k x : Nat, k ≤ Lib.nDigits u ∧ vi = .int .i64 ((20 - k : Nat) : Int) ∧ vx = .int .u64 (x : Int) ∧ Hid (x = u / 10 ^ k) ∧ Hid (wr.rowIs w.heap.size 22 20 (decRow u k)) ∧ Hid (w0.grownBy wr (some w.heap.size))) (fun vx _ _ => (RowKit.intOf vx).toNat)
    case atStart => exact ⟨0, u, Nat.zero_le _, rfl, rfl, (by simp : u = u / 10 ^ 0), HR0.out.congr (fun j hj => by unfold decRow; rw [if_neg (by omega)]), Hx.grownBy_refl _ _⟩
    case round =>
      obtain ⟨k, x, hk, rfl, rfl, HX, hrw, hgr⟩ := hrel
      by_cases hlt : 0 < x
      · have hkn : k < Lib.nDigits u := digits_lt u k (by rw [← HX.out]; exact hlt)
        have hf1 : wr.frozen? ⟨w.heap.size, 20 - k - 1, none⟩ = false := hrw.out.frozen _
        have hc1 : wr.cell? ⟨w.heap.size, 20 - k - 1, none⟩ = some (decRow u k (20 - k - 1)) := hrw.out.cell (by omega)
        have hxl : x < 18446744073709551616 := by rw [HX.out]; exact Nat.lt_of_le_of_lt (Nat.div_le_self _ _) hu64
        go_wp2
        go_roundw
        case rel =>
          refine ⟨k + 1, x / 10, by omega, ?_, by go_num, (by rw [HX.out, Nat.pow_succ, Nat.div_div_eq_div_mul] : x / 10 = u / 10 ^ (k + 1)), (hrw.out.set _ _).congr (fun j hj => decRow_step u k (by omega) x HX.out j hj), Hx.grownBy_set hgr.out _ rfl _⟩
          have e : ((20 - k : Nat) : Int) - 1 = ((20 - (k + 1) : Nat) : Int) := by omega
          rw [e]
        case measure => simp [RowKit.intOf]; omega
      · have hkn := digits_end u k hu1 hk (by rw [← HX.out]; omega)
        subst hkn
        have hsl := fun w' => slice_dec w.heap.size (Lib.nDigits u) (Lib.nDigits_pos u) hnd20 w'
        have g := run_convert_bytes_back (P := Ybad.prog) wr 57 9 5 ⟨w.heap.size, 20 - Lib.nDigits u, none⟩ (Lib.nDigits u) (Lib.decDigits u) Ybad.underlying57 Ybad.underlying5 Ybad.underlying9 (fun j hj => by
          have hl : j < Lib.nDigits u := by rw [Lib.decDigits_length] at hj; exact hj
          rw [Lib.add_plain, hrw.out.cell (by omega)]
          unfold decRow
          rw [if_pos (by omega), show 19 - (20 - Lib.nDigits u + j) = Lib.nDigits u - 1 - j from by omega]
          simp only [Lib.decDigits_eq u, List.getElem_map, List.getElem_range])
        rw [Lib.decDigits_length] at g
        go_wp2
        go_ret
        exact ⟨rfl, HB1.out.grown hgr.out HB1.out.size (fun k hk => by cases hk; omega)⟩
end Go.Proofs.YbulkajiaDoor
