/-
  THE WALKS of 'zzs1759apow', 'zzs1759atz' and 'LawS1759AExact' (tierfold), and the plain facts on the wrapped powers.
-/
import Derived.Test.YbulkajkeWalk
import Derived.WalkSmall
namespace Go.Proofs.Ybulkajke
open Go.ChangeShapes Go.WideShapes Go.ChangeAt Go.RowKit

/-- The trailing zero bits of y, looked for in f rounds. -/
def tzF : Nat → Int → Nat
  | 0, _ => 0
  | f + 1, y => if y % 2 = 1 then 0 else tzF f (y / 2) + 1

theorem lim_zero : ∀ j, lim (52 + j) = 0
  | 0 => by decide +kernel
  | j + 1 => by
    show IntKind.u64.wrap (lim (52 + j) * 10) = 0
    rw [lim_zero j]; decide +kernel

theorem lim_ge (n : Nat) (h : 52 ≤ n) : lim n = 0 := by
  obtain ⟨j, rfl⟩ : ∃ j, n = 52 + j := ⟨n - 52, by omega⟩
  exact lim_zero j

theorem lim_mid : ∀ n : Fin 52, 8 ≤ n.val → 0 < lim n.val ∧ lim n.val < 18446744073709551616 ∧ tzF 64 (lim n.val) = 12 + n.val := by decide +kernel

set_option maxHeartbeats 400000 in
theorem tz_walk (x : Int) (h0 : 0 < x) (h1 : x < 18446744073709551616) (w : World) :
    Calls Yba.prog 7 #[.int .u64 x] w fun e w' => e = .returned (.int .i64 (tzF 64 x : Nat)) ∧ w' = w := by
  have hne : (x == 0) = false := by rw [beq_eq_false_iff_ne]; omega
  go_enter Yba.func7, Yba.ntmps7
  go_wp2
  go_loop [0, 3, 4] (fun y n i => ∃ (k : Nat) (z : Int), k ≤ 64 ∧ 0 ≤ z ∧ z ≤ 18446744073709551615 ∧ y = .int .u64 z ∧ n = .int .i64 k ∧ i = .int .i64 k ∧ tzF 64 x = k + tzF (64 - k) z) (fun _ _ i => 64 - (intOf i).toNat)
  case atStart => exact ⟨0, x, by omega, by omega, by omega, rfl, rfl, rfl, by simp⟩
  case round =>
    obtain ⟨k, z, hk, hz0, hz1, rfl, rfl, rfl, ht⟩ := hrel
    have ha := and_one_u64 z hz0 hz1
    have HT : Hid (tzF 64 x = k + tzF (64 - k) z) := ht
    clear ht
    by_cases hlt : k < 64
    · by_cases ho : z % 2 = 1
      · have hb : bits BinOp.and IntKind.u64 z 1 = 1 := by rw [ha]; exact ho
        have HO : Hid (z % 2 = 1) := ho
        clear ha ho
        go_wp2
        go_ret
        have e : tzF 64 x = k := by
          rw [HT.out]
          obtain ⟨f, hf⟩ : ∃ f, 64 - k = f + 1 := ⟨63 - k, by omega⟩
          rw [hf]; simp [tzF, HO.out]
        exact ⟨by rw [e]; rfl, rfl⟩
      · have hb : bits BinOp.and IntKind.u64 z 1 = 0 := by rw [ha]; omega
        have HO : Hid (¬ z % 2 = 1) := ho
        clear ha ho
        go_wp2
        go_round
        case rel =>
          refine ⟨k + 1, z / 2, by omega, by omega, by omega, by go_num, by go_num, by go_num, ?_⟩
          rw [HT.out]
          obtain ⟨f, hf⟩ : ∃ f, 64 - k = f + 1 := ⟨63 - k, by omega⟩
          have hf' : 64 - (k + 1) = f := by omega
          rw [hf, hf']; simp [tzF, HO.out]; omega
        case measure => simp [intOf]; omega
    · obtain rfl : k = 64 := by omega
      have e : tzF 64 x = 64 := by rw [HT.out]; rfl
      have E : Hid (tzF 64 x = 64) := e
      clear e ha
      go_wp2
      go_ret
      exact ⟨by rw [E.out]; rfl, rfl⟩

/-- The table. -/
theorem pow_walk (n : Nat) (h : n < 8) (w : World) :
    Calls Yba.prog 6 #[.int .i64 n] w fun e w' => e = .returned (.int .u64 (lim n)) ∧ w' = w := by
  match n, h with
  | 0, _ => go_enter Yba.func6, Yba.ntmps6; go_wp2; go_ret; exact ⟨rfl, rfl⟩
  | 1, _ => go_enter Yba.func6, Yba.ntmps6; go_wp2; go_ret; exact ⟨rfl, rfl⟩
  | 2, _ => go_enter Yba.func6, Yba.ntmps6; go_wp2; go_ret; exact ⟨rfl, rfl⟩
  | 3, _ => go_enter Yba.func6, Yba.ntmps6; go_wp2; go_ret; exact ⟨rfl, rfl⟩
  | 4, _ => go_enter Yba.func6, Yba.ntmps6; go_wp2; go_ret; exact ⟨rfl, rfl⟩
  | 5, _ => go_enter Yba.func6, Yba.ntmps6; go_wp2; go_ret; exact ⟨rfl, rfl⟩
  | 6, _ => go_enter Yba.func6, Yba.ntmps6; go_wp2; go_ret; exact ⟨rfl, rfl⟩
  | 7, _ => go_enter Yba.func6, Yba.ntmps6; go_wp2; go_ret; exact ⟨rfl, rfl⟩

set_option maxHeartbeats 400000 in
theorem exact_big (d v : Int) (w : World) (h : 4096 < d) :
    Calls Yba.prog 3 #[.int .i64 d, .int .u8 v] w fun e w' => e = .returned (.bool true) ∧ Grown w w' := by
  go_enter Yba.func3, Yba.ntmps3
  go_wp2
  go_ret
  exact ⟨rfl, Grown.refl _⟩

set_option maxHeartbeats 400000 in
/-- On any other venue, or at no decimals: n is 0. -/
theorem exact_on (d v : Int) (w : World) (h : d ≤ 4096) (hv : (v == 2) = false) :
    Calls Yba.prog 3 #[.int .i64 d, .int .u8 v] w fun e w' => e = .returned (.bool true) ∧ Grown w w' := by
  go_enter Yba.func3, Yba.ntmps3
  go_wp2_with fail
  refine (limit_on _ v _ hv).mono ?_
  rintro e w' ⟨rfl, rfl⟩
  go_wp2_with fail
  refine (pow_walk 0 (by omega) _).mono ?_
  rintro e w' ⟨rfl, rfl⟩
  simp only [lim]
  go_wp2
  go_ret
  exact ⟨rfl, by repeat (first | exact Grown.refl _ | apply Grown.drew | apply Grown.alloc)⟩

set_option maxHeartbeats 400000 in
theorem exact_neg (d : Int) (w : World) (h : d ≤ 0) :
    Calls Yba.prog 3 #[.int .i64 d, .int .u8 2] w fun e w' => e = .returned (.bool true) ∧ Grown w w' := by
  have hz : lim d.toNat = 1000000000000 := by
    have e : d.toNat = 0 := by omega
    rw [e]; rfl
  have HZ : Hid (lim d.toNat = 1000000000000) := hz
  clear hz
  go_enter Yba.func3, Yba.ntmps3
  go_wp2_with fail
  refine (limit_off _ d _ (by omega) ?hc).mono ?_
  case hc => simp [go_sem]
  rintro e w' ⟨rfl, rfl⟩
  rw [HZ.out]
  go_wp2_with fail
  refine (pow_walk 0 (by omega) _).mono ?_
  rintro e w' ⟨rfl, rfl⟩
  simp only [lim]
  go_wp2
  go_ret
  exact ⟨rfl, by repeat (first | exact Grown.refl _ | apply Grown.drew | apply Grown.alloc)⟩

set_option maxHeartbeats 400000 in
theorem exact_low (n : Nat) (w : World) (h0 : 0 < n) (h : n < 8) :
    Calls Yba.prog 3 #[.int .i64 n, .int .u8 2] w fun e w' => e = .returned (.bool true) ∧ Grown w w' := by
  go_enter Yba.func3, Yba.ntmps3
  go_wp2_with fail
  refine (limit_off _ n _ (by omega) ?hc).mono ?_
  case hc => simp [go_sem]
  rintro e w' ⟨rfl, rfl⟩
  rw [Int.toNat_natCast]
  go_wp2_with fail
  refine (pow_walk n h _).mono ?_
  rintro e w' ⟨rfl, rfl⟩
  go_wp2
  go_ret
  exact ⟨rfl, by repeat (first | exact Grown.refl _ | apply Grown.drew | apply Grown.alloc)⟩

set_option maxHeartbeats 400000 in
theorem exact_mid (n : Nat) (w : World) (h0 : 8 ≤ n) (h : n < 52) :
    Calls Yba.prog 3 #[.int .i64 n, .int .u8 2] w fun e w' => e = .returned (.bool true) ∧ Grown w w' := by
  obtain ⟨p1, p2, p3⟩ := lim_mid ⟨n, h⟩ h0
  have P1 : Hid (0 < lim n) := p1
  have P2 : Hid (lim n < 18446744073709551616) := p2
  have P3 : Hid (tzF 64 (lim n) = 12 + n) := p3
  clear p1 p2 p3
  go_enter Yba.func3, Yba.ntmps3
  go_wp2_with fail
  refine (limit_off _ n _ (by omega) ?hc).mono ?_
  case hc => simp [go_sem]
  rintro e w' ⟨rfl, rfl⟩
  rw [Int.toNat_natCast]
  go_wp2_with fail
  refine (tz_walk _ P1.out P2.out _).mono ?_
  rintro e w' ⟨rfl, rfl⟩
  rw [P3.out, show ((12 + n : Nat) : Int) = 12 + (n : Int) from by omega]
  go_wp2
  go_ret
  exact ⟨rfl, by repeat (first | exact Grown.refl _ | apply Grown.drew | apply Grown.alloc)⟩

set_option maxHeartbeats 400000 in
theorem exact_high (n : Nat) (w : World) (h0 : 52 ≤ n) (h : n ≤ 4096) :
    Calls Yba.prog 3 #[.int .i64 n, .int .u8 2] w fun e w' => e = .returned (.bool true) ∧ Grown w w' := by
  have HZ : Hid (lim n = 0) := lim_ge n h0
  go_enter Yba.func3, Yba.ntmps3
  go_wp2_with fail
  refine (limit_off _ n _ (by omega) ?hc).mono ?_
  case hc => simp [go_sem]
  rintro e w' ⟨rfl, rfl⟩
  rw [Int.toNat_natCast, HZ.out]
  go_wp2
  go_ret
  exact ⟨rfl, by repeat (first | exact Grown.refl _ | apply Grown.drew | apply Grown.alloc)⟩

theorem exact_walk (d v : Int) (w : World) :
    Calls Yba.prog 3 #[.int .i64 d, .int .u8 v] w fun e w' => e = .returned (.bool true) ∧ Grown w w' := by
  by_cases h : 4096 < d
  · exact exact_big d v w h
  · by_cases hv : v = 2
    · subst hv
      by_cases h0 : d ≤ 0
      · exact exact_neg d w h0
      · obtain ⟨n, rfl⟩ := Int.eq_ofNat_of_zero_le (a := d) (by omega)
        by_cases h8 : n < 8
        · exact exact_low n w (by omega) h8
        · by_cases h52 : n < 52
          · exact exact_mid n w (by omega) h52
          · exact exact_high n w (by omega) (by omega)
    · exact exact_on d v w (by omega) (by rw [beq_eq_false_iff_ne]; exact hv)

end Go.Proofs.Ybulkajke
