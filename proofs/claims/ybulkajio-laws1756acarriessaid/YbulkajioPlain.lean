/-
  PLAIN FACTS ON float64 (no Go in sight): the order of a word against 0 and against itself; the sign of a product with 1 or with -1.
-/
import Derived.Laws.FloatArith
namespace Go.Proofs.Ybulkajio
open Ieee

theorem ltShift (n k : Nat) : 0 < n → 0 < n <<< k := by
  intro h; rw [Nat.shiftLeft_eq]; exact Nat.mul_pos h (Nat.pow_pos (by omega))

theorem zeroShift (k : Nat) : (0 : Nat) <<< k = 0 := by rw [Nat.shiftLeft_eq]; simp

theorem readZero : double.read 0 = .number false 0 double.leastPlace := by decide +kernel
theorem readOne : double.read 4607182418800017408 = .number false 4503599627370496 (-52) := by decide +kernel
theorem readMinus : double.read 13830554455654793216 = .number true 4503599627370496 (-52) := by decide +kernel

theorem compareSelf (a : Int) : compare a a = .eq := by simp [compare, compareOfLessAndEq]
theorem compareLt (a b : Int) : compare a b = .lt ↔ a < b := by
  simp only [compare, compareOfLessAndEq]; by_cases h : a < b
  · simp [h]
  · by_cases e : a = b <;> simp [h, e]

/-- The order of a datum against the zero of some place. -/
theorem orderZero (d : Datum) (e : Int) : d.order (.number false 0 e) =
    match d with
    | .nan .. => none
    | .infinity s => some (if s then .lt else .gt)
    | .number s m _ => some (if m = 0 then .eq else if s then .lt else .gt) := by
  cases d with
  | nan s f => rfl
  | infinity s => rfl
  | number s m i =>
    simp only [Datum.order, signed, zeroShift]
    by_cases hm : m = 0
    · subst hm; cases s <;> simp
    · have hp := ltShift m (i - min i e).toNat (by omega)
      simp only [hm, if_false]
      generalize m <<< (i - min i e).toNat = q at hp
      cases s
      · simp only [Bool.false_eq_true, if_false, Option.some.injEq]
        simp only [compare, compareOfLessAndEq]
        rw [if_neg (by omega), if_neg (by omega)]
      · simp only [if_true, Bool.false_eq_true, if_false, Option.some.injEq]
        rw [compareLt]; omega

theorem orderSelf (d : Datum) : d.order d =
    match d with
    | .nan .. => none
    | _ => some .eq := by
  cases d with
  | nan s f => rfl
  | infinity s => cases s <;> rfl
  | number s m i => simp [Datum.order]

theorem self_of_none (p : Nat) (h : FloatKind.f64.format.order p 0 = none) : FloatKind.f64.format.order p p = none := by
  have h' : (double.read p).order (double.read 0) = none := h
  show (double.read p).order (double.read p) = none
  rw [readZero, orderZero] at h'
  rw [orderSelf]
  generalize double.read p = d at *
  cases d <;> simp_all

theorem self_of_some (p : Nat) (o : Ordering) (h : FloatKind.f64.format.order p 0 = some o) : FloatKind.f64.format.order p p = some .eq := by
  have h' : (double.read p).order (double.read 0) = some o := h
  show (double.read p).order (double.read p) = some .eq
  rw [readZero, orderZero] at h'
  rw [orderSelf]
  generalize double.read p = d at *
  cases d <;> simp_all

theorem oneOne : FloatKind.f64.format.order 4607182418800017408 4607182418800017408 = some .eq := by decide +kernel
theorem minusMinus : FloatKind.f64.format.order 13830554455654793216 13830554455654793216 = some .eq := by decide +kernel
theorem minusOne : FloatKind.f64.format.order 13830554455654793216 4607182418800017408 = some .lt := by decide +kernel

/-- 'at least 0', as the model says it. -/
def AtLeast (r : Nat) : Prop := FloatKind.f64.format.order r 0 = some .gt ∨ FloatKind.f64.format.order r 0 = some .eq

theorem minusZero : AtLeast (double.word true 0) := Or.inr (by decide +kernel)

theorem atLeast_word (r : Nat) (h : r ≤ double.infRung) : AtLeast (double.word false r) := by
  have hw : double.word false r = r := rfl
  rw [hw]
  have hi : double.infRung = 9218868437227405312 := by decide +kernel
  have hs : double.signWeight = 9223372036854775808 := by decide +kernel
  have hd : r / double.signWeight = 0 := by rw [hs]; omega
  have hm : r % double.signWeight = r := by rw [hs]; omega
  show (double.read r).order (double.read 0) = some .gt ∨ (double.read r).order (double.read 0) = some .eq
  rw [readZero]
  simp only [orderZero]
  unfold Format.read
  simp only [hd, hm]
  by_cases h1 : r < double.binade
  · simp only [h1, if_true]
    by_cases h0 : r = 0 <;> simp [h0]
  · simp only [h1, if_false]
    by_cases h2 : r < double.infRung
    · simp only [h2, if_true]
      have hb : double.binade = 4503599627370496 := by decide +kernel
      left
      simp
      rw [hb]; omega
    · have h3 : r = double.infRung := by omega
      simp [h3]

theorem atLeast_write (m : Nat) (i : Int) : AtLeast (double.write (.number false m i)) := by
  show AtLeast (double.nearest false m i)
  unfold Format.nearest
  split
  · exact atLeast_word 0 (Nat.zero_le _)
  · exact atLeast_word _ (Nat.min_le_right _ _)

/-- The product with the side of p is at least 0. -/
theorem carry_minus (p : Nat) (h : FloatKind.f64.format.order p 0 = some .lt) : ∃ r, floatBits .mul .f64 13830554455654793216 p = some r ∧ AtLeast r := by
  have h' : (double.read p).order (double.read 0) = some .lt := h
  show ∃ r, ((double.read 13830554455654793216).product (double.read p)).map double.write = some r ∧ AtLeast r
  rw [readZero, orderZero] at h'
  rw [readMinus]
  generalize double.read p = d at *
  cases d with
  | nan s f => simp at h'
  | infinity s =>
    cases s
    · simp at h'
    · exact ⟨_, rfl, atLeast_word _ (Nat.le_refl _)⟩
  | number s m i =>
    by_cases hm : m = 0
    · simp [hm] at h'
    · cases s
      · simp [hm] at h'
      · exact ⟨_, rfl, atLeast_write _ _⟩

theorem carry_one (p : Nat) (o : Ordering) (h : FloatKind.f64.format.order p 0 = some o) (ho : o ≠ .lt) : ∃ r, floatBits .mul .f64 4607182418800017408 p = some r ∧ AtLeast r := by
  have h' : (double.read p).order (double.read 0) = some o := h
  show ∃ r, ((double.read 4607182418800017408).product (double.read p)).map double.write = some r ∧ AtLeast r
  rw [readZero, orderZero] at h'
  rw [readOne]
  generalize double.read p = d at *
  cases d with
  | nan s f => simp at h'
  | infinity s =>
    cases s
    · exact ⟨_, rfl, atLeast_word _ (Nat.le_refl _)⟩
    · simp at h'; exact absurd h'.symm ho
  | number s m i =>
    by_cases hm : m = 0
    · subst hm
      cases s
      · exact ⟨_, rfl, atLeast_write _ _⟩
      · refine ⟨double.word true 0, ?_, minusZero⟩
        simp [Datum.product, Format.write, Format.nearest]
    · cases s
      · exact ⟨_, rfl, atLeast_write _ _⟩
      · simp [hm] at h'; exact absurd h'.symm ho

end Go.Proofs.Ybulkajio
