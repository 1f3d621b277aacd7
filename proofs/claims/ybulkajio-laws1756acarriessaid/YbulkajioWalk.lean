/-
  THE WALKS of 'sideOf', 'LawS1756AExact', 'LawS1756ACarries', and the rows' steps.
-/
import Derived.Test.YbulkajioRows
import Derived.Test.YbulkajioPlain
import Derived.WalkKit
import Derived.WalkLawsBesides
import Derived.ProofKit
namespace Go.Proofs.Ybulkajio
open Go.ChangeShapes Go.WideShapes Go.ChangeAt Go.RowKit

/-- sideOf: -1 where p is below 0. -/
theorem side_lt (p : Nat) (h : FloatKind.f64.format.order p 0 = some .lt) (w : World) :
    Calls Yba.prog 5 #[.float .f64 p] w fun e w' => e = .returned (.float .f64 13830554455654793216) ∧ w' = w := by
  have hb : (FloatKind.f64.format.order p 0 == some .lt) = true := by rw [h]; rfl
  clear h
  go_enter Yba.func5, Yba.ntmps5
  go_wp2
  go_ret
  exact ⟨rfl, rfl⟩

/-- sideOf: 1 else. -/
theorem side_else (p : Nat) (h : FloatKind.f64.format.order p 0 ≠ some .lt) (w : World) :
    Calls Yba.prog 5 #[.float .f64 p] w fun e w' => e = .returned (.float .f64 4607182418800017408) ∧ w' = w := by
  have hb : (FloatKind.f64.format.order p 0 == some .lt) = false := by simpa using h
  clear h
  go_enter Yba.func5, Yba.ntmps5
  go_wp2
  go_ret
  exact ⟨rfl, rfl⟩


set_option maxHeartbeats 400000 in
theorem exact_walk (p : Nat) (w : World) :
    Calls Yba.prog 3 #[.float .f64 p] w fun e w' => e = .returned (.bool true) ∧ w' = w := by
  have h11 : (FloatKind.f64.format.order 4607182418800017408 4607182418800017408 == some .eq) = true := by rw [oneOne]; rfl
  have hmm : (FloatKind.f64.format.order 13830554455654793216 13830554455654793216 == some .eq) = true := by rw [minusMinus]; rfl
  rcases ho : FloatKind.f64.format.order p 0 with _ | o
  · have hs : (FloatKind.f64.format.order p p == some .eq) = false := by rw [self_of_none p ho]; rfl
    have hl : FloatKind.f64.format.order p 0 ≠ some .lt := by rw [ho]; simp
    have H : Hid (FloatKind.f64.format.order p 0 ≠ some .lt) := hl
    clear ho hl
    go_enter Yba.func3, Yba.ntmps3
    go_wp2_with (go_at_call 5; refine (side_else _ H.out _).mono ?_; rintro e w' ⟨rfl, rfl⟩)
    go_ret
    exact ⟨rfl, rfl⟩
  · have hs : (FloatKind.f64.format.order p p == some .eq) = true := by rw [self_of_some p o ho]; rfl
    cases o with
    | lt =>
      have hg : (FloatKind.f64.format.order p 0 == some .gt) = false := by rw [ho]; rfl
      have he : (FloatKind.f64.format.order p 0 == some .eq) = false := by rw [ho]; rfl
      have H : Hid (FloatKind.f64.format.order p 0 = some .lt) := ho
      clear ho
      go_enter Yba.func3, Yba.ntmps3
      go_wp2_with (go_at_call 5; refine (side_lt _ H.out _).mono ?_; rintro e w' ⟨rfl, rfl⟩)
      go_ret
      exact ⟨rfl, rfl⟩
    | eq =>
      have hg : (FloatKind.f64.format.order p 0 == some .gt) = false := by rw [ho]; rfl
      have he : (FloatKind.f64.format.order p 0 == some .eq) = true := by rw [ho]; rfl
      have hl : FloatKind.f64.format.order p 0 ≠ some .lt := by rw [ho]; simp
      have H : Hid (FloatKind.f64.format.order p 0 ≠ some .lt) := hl
      clear ho hl
      go_enter Yba.func3, Yba.ntmps3
      go_wp2_with (go_at_call 5; refine (side_else _ H.out _).mono ?_; rintro e w' ⟨rfl, rfl⟩)
      go_ret
      exact ⟨rfl, rfl⟩
    | gt =>
      have hg : (FloatKind.f64.format.order p 0 == some .gt) = true := by rw [ho]; rfl
      have hl : FloatKind.f64.format.order p 0 ≠ some .lt := by rw [ho]; simp
      have H : Hid (FloatKind.f64.format.order p 0 ≠ some .lt) := hl
      clear ho hl
      go_enter Yba.func3, Yba.ntmps3
      go_wp2_with (go_at_call 5; refine (side_else _ H.out _).mono ?_; rintro e w' ⟨rfl, rfl⟩)
      go_ret
      exact ⟨rfl, rfl⟩

set_option maxHeartbeats 400000 in
theorem carries_walk (p : Nat) (w : World) :
    Calls Yba.prog 4 #[.float .f64 p] w fun e w' => e = .returned (.bool true) ∧ w' = w := by
  have h11 : (FloatKind.f64.format.order 4607182418800017408 4607182418800017408 == some .eq) = true := by rw [oneOne]; rfl
  have n11 : (FloatKind.f64.format.order 4607182418800017408 4607182418800017408 != some .eq) = false := by rw [oneOne]; rfl
  have nmm : (FloatKind.f64.format.order 13830554455654793216 13830554455654793216 != some .eq) = false := by rw [minusMinus]; rfl
  have nm1 : (FloatKind.f64.format.order 13830554455654793216 4607182418800017408 != some .eq) = true := by rw [minusOne]; rfl
  rcases ho : FloatKind.f64.format.order p 0 with _ | o
  · have hs : (FloatKind.f64.format.order p p != some .eq) = true := by rw [self_of_none p ho]; rfl
    have hl : FloatKind.f64.format.order p 0 ≠ some .lt := by rw [ho]; simp
    have H : Hid (FloatKind.f64.format.order p 0 ≠ some .lt) := hl
    clear ho hl
    go_enter Yba.func4, Yba.ntmps4
    go_wp2_with (go_at_call 5; refine (side_else _ H.out _).mono ?_; rintro e w' ⟨rfl, rfl⟩)
    go_ret
    exact ⟨rfl, rfl⟩
  · have hs : (FloatKind.f64.format.order p p != some .eq) = false := by rw [self_of_some p o ho]; rfl
    by_cases hlt : o = .lt
    · subst hlt
      obtain ⟨r, hr, ha⟩ := carry_minus p ho
      have hrun := fun w => run_float_arith (P := Yba.prog) w .mul 22 .f64 _ p r hr
      have H : Hid (FloatKind.f64.format.order p 0 = some .lt) := ho
      rcases ha with ha | ha
      · have g1 : (FloatKind.f64.format.order r 0 == some .gt) = true := by rw [ha]; rfl
        clear ho hr ha
        go_enter Yba.func4, Yba.ntmps4
        go_wp2_with (go_at_call 5; refine (side_lt _ H.out _).mono ?_; rintro e w' ⟨rfl, rfl⟩)
        go_ret
        exact ⟨rfl, rfl⟩
      · have g1 : (FloatKind.f64.format.order r 0 == some .gt) = false := by rw [ha]; rfl
        have g2 : (FloatKind.f64.format.order r 0 == some .eq) = true := by rw [ha]; rfl
        clear ho hr ha
        go_enter Yba.func4, Yba.ntmps4
        go_wp2_with (go_at_call 5; refine (side_lt _ H.out _).mono ?_; rintro e w' ⟨rfl, rfl⟩)
        go_ret
        exact ⟨rfl, rfl⟩
    · obtain ⟨r, hr, ha⟩ := carry_one p o ho hlt
      have hrun := fun w => run_float_arith (P := Yba.prog) w .mul 22 .f64 _ p r hr
      have hl : FloatKind.f64.format.order p 0 ≠ some .lt := by rw [ho]; simpa using hlt
      have H : Hid (FloatKind.f64.format.order p 0 ≠ some .lt) := hl
      rcases ha with ha | ha
      · have g1 : (FloatKind.f64.format.order r 0 == some .gt) = true := by rw [ha]; rfl
        clear ho hr ha hl hlt
        go_enter Yba.func4, Yba.ntmps4
        go_wp2_with (go_at_call 5; refine (side_else _ H.out _).mono ?_; rintro e w' ⟨rfl, rfl⟩)
        go_ret
        exact ⟨rfl, rfl⟩
      · have g1 : (FloatKind.f64.format.order r 0 == some .gt) = false := by rw [ha]; rfl
        have g2 : (FloatKind.f64.format.order r 0 == some .eq) = true := by rw [ha]; rfl
        clear ho hr ha hl hlt
        go_enter Yba.func4, Yba.ntmps4
        go_wp2_with (go_at_call 5; refine (side_else _ H.out _).mono ?_; rintro e w' ⟨rfl, rfl⟩)
        go_ret
        exact ⟨rfl, rfl⟩

end Go.Proofs.Ybulkajio
