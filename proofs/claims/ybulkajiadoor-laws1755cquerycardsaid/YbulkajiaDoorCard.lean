/-
  THE ROW AND THE CARD OF LawS1755CQuery.
-/
import Derived.Test.YbulkajiaDoorLaw
import Derived.Test.YbulkajiaDoorOpen
import Derived.Test.YbulkajiaDoorTie
import Derived.Test.YbulkajiaDoorCards
import Derived.ProofKit
import Derived.Carry
import Derived.Lay
import Derived.LaidOnce
import Derived.SevenTiedAt
import Derived.Lib.LaidTab
import Derived.Stop.LaidErr
namespace Go.Proofs.YbulkajiaDoor
open Go.ChangeShapes Go.WideShapes Go.ChangeAt Go.RowKit

theorem own : ownKnob Ybad.prog.godebug = none := by kernel_rfl
theorem laidOut : laidOutB Ybad.prog = true := by kernel_rfl

/-- What the row's condition gives the walk: the table of powers of ten. -/
theorem pow10_of_laid {W : World} (h : laidMet Ybad.prog Rows.lawS1755CQueryRow.laid W) : Lib.TabIs Ybad.prog W tabName .u64 Lib.pow10Tab :=
  Lib.tabIs_of_head (g := 0) (t := 70) (e := 24) (n := 20) (by kernel_rfl) (by kernel_rfl) (by kernel_rfl) Ybad.underlying24 (by kernel_rfl) (by kernel_rfl) (laidMet.tail (laidMet.tail h))

/-- One input. -/
def nought : Inp := ⟨0, List.replicate 20 0, List.replicate 20 0, false, .slice none 0 0, false, false, List.replicate 20 0, ⟨#[]⟩, false, List.replicate 20 0, ⟨#[]⟩, 0⟩

set_option maxRecDepth 100000 in
theorem lifted (os : Os) (started : os.Started) (H : Type) (enc : TypeId × Value → H) :
    ReturnsInHanded {} Ybad.checked os 3 .any (fun w args => (Rows.lawS1755CQuerySpec.pre enc Ybad.prog Ybad.f3 [] false w args ∧ laidMetH Ybad.prog Rows.lawS1755CQueryRow.laid w) ∧ sizedMet enc Ybad.prog Ybad.f3 (OpenSpec.ofChange Rows.lawS1755CQuerySpec) false w args)
      (Rows.lawS1755CQuerySpec.post enc Ybad.prog Ybad.f3 false true false false) := by
  refine returnsInHanded_of_change_and (C := Ybad.checked) (X := fun w _ => laidMetH Ybad.prog Rows.lawS1755CQueryRow.laid w) (fun _ _ _ hh h => h.of_heap hh) own started (by kernel_rfl) Ybad.func3
    (ChangeSpec.witness_shaped (enc := enc) (C := Ybad.checked) (os := os) (X := fun w _ => laidMetH Ybad.prog Rows.lawS1755CQueryRow.laid w) false (World.laidAll Ybad.prog os Rows.lawS1755CQueryRow.laid) #[.agg nought.cells] 8 (World.laidAll_os _ _ _)
      (World.shaped_of_ZipB (by kernel_rfl) (by kernel_rfl)) (by kernel_rfl) (by kernel_rfl) (by kernel_rfl)
      (by rw [MakeChecks.laidMetH_plain _ _ _ (by kernel_rfl)]; exact laidMet_laidAll _ (by kernel_rfl) (by kernel_rfl))) ?_
  intro W base args ds gs before hval0 hW _ _ hL _
  have hval : ∀ (j : Nat) t v, Ybad.f3.params[j]? = some t → args[j]? = some v → Value.okWide Ybad.prog W .any base t v := hval0
  have hW' := hW
  obtain ⟨p, q, hA0, hV, rfl, _, _⟩ := hW
  have hA : DataW.TrodAll enc Ybad.prog W 0 (fun _ => true) true Ybad.f3.params.toList args.toList ds p := hA0
  rw [Ybad.params3] at hA hval
  obtain ⟨v0, d0, rfl, rfl, h0⟩ := trodAll_one hA
  obtain ⟨rfl, rfl⟩ := trodVars_none hV
  obtain ⟨cs, rfl, _⟩ := okWide_struct Ybad.underlying26 (hval 0 26 v0 rfl rfl)
  have h0k := h0
  obtain ⟨fuel, hf⟩ := h0
  clear hA0 hval0
  simp only [List.append_nil] at hW'
  have hlt : ∀ x ∈ p, x.block < W.heap.size := fun x hx => by simpa using hW'.lt x hx
  have hargs : ∀ (W' : World), Below W.heap.size W W' → DataW.Trod enc Ybad.prog W' 0 (fun b => decide (b < W.heap.size)) true 26 (.agg cs) d0 p :=
    fun W' hn => Below.trod laidOut (by kernel_rfl) (of_decide_eq_true (by kernel_rfl)) h0k hn hlt
  obtain ⟨x, ok, hcs, B, hB, hB2, ka, kc, ks, hkin, hks⟩ := open_in hf
  have ecs : cs = x.cells := by
    have : (Value.agg cs).cells = cs := rfl
    rw [this] at hcs
    exact Array.toList_inj.1 hcs
  subst ecs
  rw [MakeChecks.laidMetH_plain _ _ _ (by kernel_rfl)] at hL
  refine (law_true x ok B hB hB2 ka kc ks hkin W hks (pow10_of_laid hL)).mono fun e W' ⟨he, hb⟩ => ?_
  subst he
  exact ⟨_, rfl, _, _, _, [], _, [], hW', trodAll_mk1 (shut_bool Ybad.underlying4 _), trodAll_mk1 (hargs W' hb), rfl, hb.frame _, fun h => by cases h⟩

theorem holds : Rows.lawS1755CQueryRow.holds Ybad.pinned (OpenSpec.ofChange Rows.lawS1755CQuerySpec) :=
  OpenClaim.holds_of_wide 3 Ybad.f3 rfl rfl rfl rfl rfl rfl rfl ⟨rfl, rfl, rfl, rfl, rfl⟩ rfl rfl rfl rfl rfl (by kernel_rfl) Ybad.func3 (by kernel_rfl)
    (of_decide_eq_true (by kernel_rfl)) (by unfold Func.isWrapper; first | (rw [if_pos (by decide +kernel)]; kernel_rfl) | (rw [if_neg (by decide +kernel)]; exact ⟨rfl, rfl⟩))
    (fun os started H enc _ => lifted os started H enc)

/-- THE STATEMENT. -/
theorem proved : Rows.LawS1755CQueryCardSaid :=
  Claim7.holds_tied_plain_at .later [] [.data, .data, .data] true (true, "ec71b4bb37369cca783a0e98c629bdb06c42f722cda14257c5b5b4a0a4ee061d") false holds (fun _ h => by cases h) (by kernel_rfl) (fun _ h => by cases h) lawS1755CQuery_row_tie rfl ⟨rfl, rfl⟩ (by kernel_rfl) rfl
    (fun f fn hf hfn => by
      obtain rfl : f = 3 := Option.some.inj ((show Ybad.prog.funcNamed Rows.lawS1755CQueryRow.func = some 3 by kernel_rfl).symm.trans hf) |>.symm
      obtain rfl : fn = Ybad.f3 := (Option.some.inj (Ybad.func3.symm.trans hfn)).symm
      exact ⟨by kernel_rfl, fun j t ht => by
        rw [Ybad.params3] at ht
        have h3 : t = 26 := by
          rcases j with _ | j
          · simpa using ht.symm
          · simp at ht
        subst h3
        exact (show Ybad.prog.wantsStandIn 26 = false by kernel_rfl)⟩)
    (by kernel_rfl)
end Go.Proofs.YbulkajiaDoor
