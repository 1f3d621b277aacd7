/-
  THE WALKS of 'places' and 'unitLimit' (tierfold).
-/
import Derived.Test.YbulkajkeRows
import Derived.WalkKit
import Derived.ProofKit
import Derived.ShutString
namespace Go.Proofs.Ybulkajke
open Go.ChangeShapes Go.WideShapes Go.ChangeAt Go.RowKit

/-- What 'limit' holds behind k rounds. -/
def lim : Nat → Int
  | 0 => 1000000000000
  | k + 1 => IntKind.u64.wrap (lim k * 10)

theorem places_off (b : Nat) (d : Int) (w : World) (hc : w.cell? ⟨b, 0, none⟩ = some (.int .i64 d)) :
    Calls Yba.prog 8 #[.pointer (some ⟨b, 0, none⟩), .int .u8 2] w fun e w' => e = .returned (.int .i64 d) ∧ w' = w := by
  go_enter Yba.func8, Yba.ntmps8
  go_wp2
  go_ret
  exact ⟨rfl, rfl⟩

theorem places_on (p : Value) (v : Int) (w : World) (hv : (v == 2) = false) :
    Calls Yba.prog 8 #[p, .int .u8 v] w fun e w' => e = .returned (.int .i64 0) ∧ w' = w := by
  go_enter Yba.func8, Yba.ntmps8
  go_wp2
  go_ret
  exact ⟨rfl, rfl⟩

set_option maxHeartbeats 400000 in
theorem limit_off (b : Nat) (d : Int) (w : World) (hd : d ≤ 4096) (hc : w.cell? ⟨b, 0, none⟩ = some (.int .i64 d)) :
    Calls Yba.prog 5 #[.pointer (some ⟨b, 0, none⟩), .int .u8 2] w fun e w' => e = .returned (.int .u64 (lim d.toNat)) ∧ w' = w := by
  go_enter Yba.func5, Yba.ntmps5
  go_wp2_with (go_at_call 8; refine (places_off _ d _ hc).mono ?_; rintro e w' ⟨rfl, rfl⟩)
  go_loop [5, 9] (fun t i => ∃ k : Nat, k ≤ d.toNat ∧ i = .int .i64 k ∧ t = .int .u64 (lim k)) (fun _ i => d.toNat - (intOf i).toNat)
  case atStart => exact ⟨0, Nat.zero_le _, rfl, rfl⟩
  case round =>
    obtain ⟨k, hk, rfl, rfl⟩ := hrel
    by_cases hlt : (k : Int) < d
    · go_wp2
      go_round
      case rel => exact ⟨k + 1, by omega, by go_num, rfl⟩
      case measure => simp [intOf]; omega
    · go_wp2
      go_ret
      have hk : k = d.toNat := by omega
      exact ⟨by rw [hk]; rfl, rfl⟩

set_option maxHeartbeats 400000 in
theorem limit_on (p : Value) (v : Int) (w : World) (hv : (v == 2) = false) :
    Calls Yba.prog 5 #[p, .int .u8 v] w fun e w' => e = .returned (.int .u64 1000000000000) ∧ w' = w := by
  go_enter Yba.func5, Yba.ntmps5
  go_wp2_with (go_at_call 8; refine (places_on _ _ _ hv).mono ?_; rintro e w' ⟨rfl, rfl⟩)
  go_loop [5, 9] (fun t i => i = .int .i64 0 ∧ t = .int .u64 1000000000000) (fun _ _ => 0)
  case atStart => exact ⟨rfl, rfl⟩
  case round =>
    obtain ⟨rfl, rfl⟩ := hrel
    go_wp2
    go_ret
    exact ⟨rfl, rfl⟩

set_option maxHeartbeats 400000 in
theorem step_walk (d : Int) (w0 : (Lit.int .i64 d).wf = true) (w : World) :
    Calls Yba.prog 4 #[.int .i64 d] w fun e w' => e = .returned (.bool true) ∧ Grown w w' := by
  have hb : -9223372036854775808 ≤ d ∧ d ≤ 9223372036854775807 := by
    simp [Lit.wf, IntKind.min, IntKind.max, IntKind.signed, IntKind.bits] at w0; omega
  clear w0
  by_cases h1 : d < 1
  · go_enter Yba.func4, Yba.ntmps4
    go_wp2
    go_ret
    exact ⟨rfl, by repeat (first | exact Grown.refl _ | apply Grown.drew | apply Grown.alloc)⟩
  · by_cases h2 : 4096 < d
    · go_enter Yba.func4, Yba.ntmps4
      go_wp2
      go_ret
      exact ⟨rfl, by repeat (first | exact Grown.refl _ | apply Grown.drew | apply Grown.alloc)⟩
    · have hl : (lim d.toNat != IntKind.u64.wrap (lim (d.toNat - 1) * 10)) = false := by
        have e : d.toNat = (d.toNat - 1) + 1 := by omega
        rw [e]; simp [lim]
      go_enter Yba.func4, Yba.ntmps4
      have Hl : Hid ((lim d.toNat != IntKind.u64.wrap (lim (d.toNat - 1) * 10)) = false) := hl
      clear hl
      go_wp2_with fail
      refine (limit_off _ d _ h2 ?hc).mono ?_
      case hc => simp [go_sem, World.cell?_alloc_past]
      rintro e w' ⟨rfl, rfl⟩
      go_wp2_with fail
      refine (limit_off _ (d - 1) _ (by omega) ?hc).mono ?_
      case hc => simp [go_sem]
      rintro e w' ⟨rfl, rfl⟩
      have hl := Hl.out
      go_wp2_with fail
      refine (limit_on _ 1 _ rfl).mono ?_
      rintro e w' ⟨rfl, rfl⟩
      go_wp2
      go_ret
      exact ⟨rfl, by repeat (first | exact Grown.refl _ | apply Grown.drew | apply Grown.alloc)⟩

end Go.Proofs.Ybulkajke
