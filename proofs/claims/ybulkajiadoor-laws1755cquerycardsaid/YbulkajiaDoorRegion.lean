/-
  A REGION THAT DRAWS ITS ORDER, BY AN INVARIANT OVER WHAT HAS COME UP: one step proof an operation, whatever the order.
-/
import Derived.Test.YbulkajiaDoorWorld
import Derived.RegionTactic
import Derived.OrdersHeld
import Derived.Deep.RegionHeld
namespace Go.Proofs.YbulkajiaDoor

/-- Every operation waits only for operations ahead of it in the text. -/
def Ahead (ops : Array Oper) : Bool := (List.range ops.size).all (fun i => ((ops[i]?).map (fun o => o.after.all (fun e => decide (e.on < i)))).getD true)

theorem Ahead_lt {ops : Array Oper} (h : Ahead ops = true) {i : Nat} {o : Oper} (ho : ops[i]? = some o) {e : Edge} (he : e ∈ o.after) : e.on < i := by
  have hi : i < ops.size := (Array.getElem?_eq_some_iff.1 ho).1
  have := List.all_eq_true.1 h i (List.mem_range.2 hi)
  rw [ho] at this
  simp only [Option.map_some, Option.getD_some] at this
  have := Array.all_eq_true_iff_forall_mem.1 this e he
  simpa using this

theorem all_listed {md : Region.Mode} {ops : Array Oper} {listed : Array Bool} (ha : Ahead ops = true) (hr : Region.ready md ops listed = []) : ∀ i, i < ops.size → listed.getD i true = true := by
  intro i
  induction i using Nat.strongRecOn with
  | _ i ih =>
    intro hi
    cases hl : listed.getD i true with
    | true => rfl
    | false =>
      exfalso
      have hmem : i ∈ Region.ready md ops listed := by
        rw [mem_ready]
        refine ⟨hl, ops[i], Array.getElem?_eq_getElem hi, fun e he _ => ?_⟩
        have hlt := Ahead_lt ha (Array.getElem?_eq_getElem hi) he
        have := ih e.on hlt (by omega)
        have hsz : i < listed.size := by
          rcases Nat.lt_or_ge i listed.size with c | c
          · exact c
          · rw [Array.getD_eq_getD_getElem?, Array.getElem?_eq_none c] at hl; cases hl
        rw [Array.getD_eq_getD_getElem?, Array.getElem?_eq_getElem (by omega)] at this ⊢
        exact this
      rw [hr] at hmem
      cases hmem

theorem count_set_true {listed : Array Bool} {i : Nat} (h : listed.getD i true = false) : (listed.setIfInBounds i true).toList.count false + 1 = listed.toList.count false := by
  have hsz : i < listed.size := by
    rcases Nat.lt_or_ge i listed.size with c | c
    · exact c
    · rw [Array.getD_eq_getD_getElem?, Array.getElem?_eq_none c] at h; cases h
  rw [Array.getD_eq_getD_getElem?, Array.getElem?_eq_getElem hsz] at h
  simp only [Option.getD_some] at h
  have hl : i < listed.toList.length := by simpa using hsz
  have he : listed.toList[i] = false := by simpa using h
  rw [Array.toList_setIfInBounds, List.count_set hl, he]
  have hpos : 0 < listed.toList.count false := List.count_pos_iff.2 (by rw [← he]; exact List.getElem_mem hl)
  simp only [beq_self_eq_true, if_true]
  rw [if_neg (by decide)]
  omega

theorem wpAny_inv {P : Program} {ops : Array Oper} {Q : Exit → Act → World → Prop} (ha : Ahead ops = true) (Inv : Array Bool → Act → World → Prop)
    (hstep : ∀ i o listed a w, ops[i]? = some o → listed.getD i true = false → (∀ e ∈ o.after, Region.binds .any e = true → listed.getD e.on false = true) → Inv listed a w → wpOp P ops Q i (fun a' w' => Inv (listed.setIfInBounds i true) a' w') a w)
    (hend : ∀ listed a w, (∀ i, i < ops.size → listed.getD i true = true) → Inv listed a w → Q .normal a w) :
    ∀ fuel listed a w, listed.toList.count false ≤ fuel → Inv listed a w → wpAny P .any ops Q fuel listed a w := by
  intro fuel
  induction fuel with
  | zero =>
    intro listed a w hf hI
    have hr : Region.ready .any ops listed = [] := by
      cases hc : Region.ready .any ops listed with
      | nil => rfl
      | cons i r =>
        exfalso
        have hi : i ∈ Region.ready .any ops listed := by rw [hc]; simp
        have := count_set_true (mem_ready.1 hi).1
        omega
    exact ⟨hr, hend listed a w (all_listed ha hr) hI⟩
  | succ fuel ih =>
    intro listed a w hf hI
    refine ⟨fun hr => hend listed a w (all_listed ha hr) hI, fun i hi => ?_⟩
    obtain ⟨hl, o, ho, hd⟩ := mem_ready.1 hi
    refine wpOp_mono (fun a' w' h' => ih _ a' w' ?_ h') (hstep i o listed a w ho hl hd hI)
    have := count_set_true hl
    omega

/-- THE LAW. -/
theorem wp_region_inv {P : Program} {id : Nat} {ops : Array Oper} {Q : Exit → Act → World → Prop} {a : Act} {w : World} (hm : P.follows .mixedOrders = true) (ha : Ahead ops = true) (Inv : Act → Array Bool → Act → World → Prop)
    (h0 : Inv a (Array.replicate ops.size false) a w.drew)
    (hstep : ∀ i o listed a' w', ops[i]? = some o → listed.getD i true = false → (∀ e ∈ o.after, Region.binds .any e = true → listed.getD e.on false = true) → Inv a listed a' w' → wpOp P ops Q i (fun a'' w'' => Inv a (listed.setIfInBounds i true) a'' w'') a' w')
    (hend : ∀ listed a' w', (∀ i, i < ops.size → listed.getD i true = true) → Inv a listed a' w' → Q .normal a' w') : (Code.region id ops true).wp P Q a w :=
  wp_region_any hm (wpAny_inv ha (Inv a) hstep hend _ _ _ _ (by simp) h0)

/-- Has operation j come up? -/
def On (listed : Array Bool) (j : Nat) : Prop := listed.getD j false = true

theorem On.set {listed : Array Bool} {i j : Nat} (h : On (listed.setIfInBounds i true) j) : j = i ∨ On listed j := by
  unfold On at *
  by_cases e : j = i
  · exact .inl e
  · refine .inr ?_
    rw [Array.getD_eq_getD_getElem?, Array.getElem?_setIfInBounds_ne (by omega)] at h
    rw [Array.getD_eq_getD_getElem?]
    exact h

theorem On.not_replicate {n j : Nat} (h : On (Array.replicate n false) j) : False := by
  unfold On at h
  rw [Array.getD_eq_getD_getElem?, Array.getElem?_replicate] at h
  split at h <;> cases h

theorem On.of_listed {listed : Array Bool} {j : Nat} (hs : j < listed.size) (h : listed.getD j true = true) : On listed j := by
  unfold On
  rw [Array.getD_eq_getD_getElem?, Array.getElem?_eq_getElem hs] at h ⊢
  exact h

theorem On.not {listed : Array Bool} {j : Nat} (h : listed.getD j true = false) : ¬ On listed j := by
  unfold On
  intro h'
  rcases Nat.lt_or_ge j listed.size with c | c
  · rw [Array.getD_eq_getD_getElem?, Array.getElem?_eq_getElem c] at h h'
    simp only [Option.getD_some] at h h'
    rw [h] at h'; cases h'
  · rw [Array.getD_eq_getD_getElem?, Array.getElem?_eq_none c] at h; cases h

/-- One operation, the way back kept shut. -/
theorem wpOp_stepS {P : Program} {ops : Array Oper} {Q : Exit → Act → World → Prop} {i : Nat} {o : Oper} {K : Act → World → Prop} {a : Act} {w : World} (ho : ops[i]? = some o)
    (h : ∀ K' : Act → World → Prop, Shut (∀ a w, K a w → K' a w) → if Region.wanted o (yielded ops a.tmps) = true then Oper.wp P o a w K' Q else K' (a.put o.dst undef) w) : wpOp P ops Q i K a w :=
  wpOp_step ho (fun K' hK => h K' hK)
end Go.Proofs.YbulkajiaDoor
