/-
  WHAT THE QUERY HOLDS, as a plain function of the input.
-/
import Derived.Test.YbulkajiaDoorCdec
namespace Go.Proofs.YbulkajiaDoor
open Go.RowKit Go.Maps Go.Lib Go.Sort

abbrev Fn : Type := List UInt8 → Option (List ByteArray)

def cFrom : List UInt8 := [102, 114, 111, 109]
def cTo : List UInt8 := [116, 111]
def cOpen : List UInt8 := [111, 112, 101, 110]
def cKept : List UInt8 := [107, 101, 112, 116]
def cOrphans : List UInt8 := [111, 114, 112, 104, 97, 110, 115]
def cKeeper : List UInt8 := [107, 101, 101, 112, 101, 114]
def cKeeperAddr : List UInt8 := [107, 101, 101, 112, 101, 114, 95, 97, 100, 100, 114]
def cBefore : List UInt8 := [98, 101, 102, 111, 114, 101]
def cBeforeAddr : List UInt8 := [98, 101, 102, 111, 114, 101, 95, 97, 100, 100, 114]
def cClock : List UInt8 := [99, 108, 111, 99, 107]
def vTrue : ByteArray := ⟨#[116, 114, 117, 101]⟩

def one (b : Bool) : Nat := if b then 1 else 0

/-- A store, if. -/
def putIf (c : Bool) (f : Fn) (k : List UInt8) (v : List ByteArray) : Fn := if c then putL f k v else f

/-- A node that may be named: its block, its identifier, its address. -/
abbrev Node : Type := Option (Nat × List UInt8 × ByteArray)

def Node.value : Node → Value
  | none => .pointer none
  | some (b, _, _) => .pointer (some ⟨b, 0, none⟩)

def putNode (d : Int) (p : Node) (f : Fn) (k ka : List UInt8) : Fn :=
  match p with
  | none => f
  | some (_, l, a) => putL (putL f k [tail l d]) ka [a]

def twoIf (p : Node) : Nat := match p with | none => 0 | some _ => 2

section
variable (d : Int) (lf lt : List UInt8) (op : Bool) (ks : List (List UInt8)) (orph : Bool) (ko bo : Node) (u : Nat)
def f1 : Fn := putL (putL (fun _ => none) cFrom [tail lf d]) cTo [tail lt d]
def f2 : Fn := putIf op (f1 d lf lt) cOpen [vTrue]
def f3 (j : Nat) : Fn := putIf (decide (0 < j)) (f2 d lf lt op) cKept ((ks.take j).map fun l => tail l d)
def f4 : Fn := putIf orph (f3 d lf lt op ks ks.length) cOrphans [vTrue]
def f5 : Fn := putNode d ko (f4 d lf lt op ks orph) cKeeper cKeeperAddr
def f6 : Fn := putNode d bo (f5 d lf lt op ks orph ko) cBefore cBeforeAddr
def f7 : Fn := putIf (decide (0 < u)) (f6 d lf lt op ks orph ko bo) cClock [dec u]
end

theorem putIf_ne (c : Bool) (f : Fn) (k k' : List UInt8) (v : List ByteArray) (h : k' ≠ k) : putIf c f k v k' = f k' := by
  unfold putIf; split
  · exact putL_other f k k' v h
  · rfl
theorem putNode_ne (d : Int) (p : Node) (f : Fn) (k ka k' : List UInt8) (h1 : k' ≠ k) (h2 : k' ≠ ka) : putNode d p f k ka k' = f k' := by
  unfold putNode; split
  · rfl
  · rw [putL_other _ _ _ _ h2, putL_other _ _ _ _ h1]
theorem putIf_yes (f : Fn) (k : List UInt8) (v : List ByteArray) : putIf true f k v k = some v := by simp [putIf, putL_same]
theorem putIf_no (f : Fn) (k : List UInt8) (v : List ByteArray) : putIf false f k v = f := rfl

section
variable {d : Int} {lf lt : List UInt8} {op : Bool} {ks : List (List UInt8)} {orph : Bool} {ko bo : Node} {u : Nat}
theorem f1_none (k : List UInt8) (h1 : k ≠ cFrom) (h2 : k ≠ cTo) : f1 d lf lt k = none := by
  unfold f1; rw [putL_other _ _ _ _ h2, putL_other _ _ _ _ h1]
theorem f2_open : f1 d lf lt cOpen = none := f1_none _ (by decide) (by decide)
theorem f2_none (k : List UInt8) (h1 : k ≠ cFrom) (h2 : k ≠ cTo) (h3 : k ≠ cOpen) : f2 d lf lt op k = none := by
  unfold f2; rw [putIf_ne _ _ _ _ _ h3, f1_none k h1 h2]
theorem f3_at (j : Nat) : (f3 d lf lt op ks j cKept).getD [] = (ks.take j).map fun l => tail l d := by
  unfold f3
  cases j with
  | zero => simp [putIf, f2_none cKept (by decide) (by decide) (by decide)]
  | succ j => simp [putIf, putL_same]
theorem f3_some (j : Nat) : (f3 d lf lt op ks j cKept).isSome = decide (0 < j) := by
  unfold f3
  cases j with
  | zero => simp [putIf, f2_none cKept (by decide) (by decide) (by decide)]
  | succ j => simp [putIf, putL_same]
theorem putL_putL (f : Fn) (k : List UInt8) (v v' : List ByteArray) : putL (putL f k v) k v' = putL f k v' := by
  funext t; unfold putL; split <;> rfl
theorem f3_step (j : Nat) (l : List UInt8) (h : ks[j]? = some l) : putL (f3 d lf lt op ks j) cKept (((ks.take j).map fun l => tail l d) ++ [tail l d]) = f3 d lf lt op ks (j + 1) := by
  have hj : j < ks.length := (List.getElem?_eq_some_iff.1 h).1
  have e : (ks.take (j + 1)).map (fun l => tail l d) = ((ks.take j).map fun l => tail l d) ++ [tail l d] := by
    rw [List.take_succ_eq_append_getElem hj, List.map_append]
    have : ks[j] = l := by rw [List.getElem?_eq_getElem hj] at h; exact Option.some.inj h
    rw [this]; rfl
  unfold f3
  rw [e]
  cases j with
  | zero => simp [putIf]
  | succ j => simp [putIf, putL_putL]
theorem f3_none (j : Nat) (k : List UInt8) (h1 : k ≠ cFrom) (h2 : k ≠ cTo) (h3 : k ≠ cOpen) (h4 : k ≠ cKept) : f3 d lf lt op ks j k = none := by
  unfold f3; rw [putIf_ne _ _ _ _ _ h4, f2_none k h1 h2 h3]
theorem f4_none (k : List UInt8) (h1 : k ≠ cFrom) (h2 : k ≠ cTo) (h3 : k ≠ cOpen) (h4 : k ≠ cKept) (h5 : k ≠ cOrphans) : f4 d lf lt op ks orph k = none := by
  unfold f4; rw [putIf_ne _ _ _ _ _ h5, f3_none _ k h1 h2 h3 h4]
theorem f5_none (k : List UInt8) (h1 : k ≠ cFrom) (h2 : k ≠ cTo) (h3 : k ≠ cOpen) (h4 : k ≠ cKept) (h5 : k ≠ cOrphans) (h6 : k ≠ cKeeper) (h7 : k ≠ cKeeperAddr) : f5 d lf lt op ks orph ko k = none := by
  unfold f5; rw [putNode_ne _ _ _ _ _ _ h6 h7, f4_none k h1 h2 h3 h4 h5]
theorem f6_none (k : List UInt8) (h1 : k ≠ cFrom) (h2 : k ≠ cTo) (h3 : k ≠ cOpen) (h4 : k ≠ cKept) (h5 : k ≠ cOrphans) (h6 : k ≠ cKeeper) (h7 : k ≠ cKeeperAddr) (h8 : k ≠ cBefore) (h9 : k ≠ cBeforeAddr) : f6 d lf lt op ks orph ko bo k = none := by
  unfold f6; rw [putNode_ne _ _ _ _ _ _ h8 h9, f5_none k h1 h2 h3 h4 h5 h6 h7]

theorem grew_none (f : Fn) (k : List UInt8) (n : Nat) (h : f k = none) : grew f k n = n + 1 := by simp [grew, h]
theorem grew_some (f : Fn) (k : List UInt8) (n : Nat) (h : (f k).isSome = true) : grew f k n = n := by simp [grew, h]

/-! ### what stands at each key in the end -/
theorem at_from : f7 d lf lt op ks orph ko bo u cFrom = some [tail lf d] := by
  unfold f7 f6 f5 f4 f3 f2 f1
  rw [putIf_ne _ _ _ _ _ (by decide), putNode_ne _ _ _ _ _ _ (by decide) (by decide), putNode_ne _ _ _ _ _ _ (by decide) (by decide), putIf_ne _ _ _ _ _ (by decide), putIf_ne _ _ _ _ _ (by decide), putIf_ne _ _ _ _ _ (by decide), putL_other _ _ _ _ (by decide), putL_same]
theorem at_to : f7 d lf lt op ks orph ko bo u cTo = some [tail lt d] := by
  unfold f7 f6 f5 f4 f3 f2 f1
  rw [putIf_ne _ _ _ _ _ (by decide), putNode_ne _ _ _ _ _ _ (by decide) (by decide), putNode_ne _ _ _ _ _ _ (by decide) (by decide), putIf_ne _ _ _ _ _ (by decide), putIf_ne _ _ _ _ _ (by decide), putIf_ne _ _ _ _ _ (by decide), putL_same]
theorem at_open : f7 d lf lt op ks orph ko bo u cOpen = if op then some [vTrue] else none := by
  unfold f7 f6 f5 f4 f3
  rw [putIf_ne _ _ _ _ _ (by decide), putNode_ne _ _ _ _ _ _ (by decide) (by decide), putNode_ne _ _ _ _ _ _ (by decide) (by decide), putIf_ne _ _ _ _ _ (by decide), putIf_ne _ _ _ _ _ (by decide)]
  unfold f2
  cases op
  · exact f2_open (d := d) (lf := lf) (lt := lt)
  · exact putIf_yes _ _ _
theorem at_kept : f7 d lf lt op ks orph ko bo u cKept = if ks = [] then none else some (ks.map fun l => tail l d) := by
  unfold f7 f6 f5 f4
  rw [putIf_ne _ _ _ _ _ (by decide), putNode_ne _ _ _ _ _ _ (by decide) (by decide), putNode_ne _ _ _ _ _ _ (by decide) (by decide), putIf_ne _ _ _ _ _ (by decide)]
  unfold f3
  cases ks with
  | nil => exact f2_none _ (by decide) (by decide) (by decide)
  | cons a r => simp [putIf, putL_same]
theorem at_orphans : f7 d lf lt op ks orph ko bo u cOrphans = if orph then some [vTrue] else none := by
  unfold f7 f6 f5
  rw [putIf_ne _ _ _ _ _ (by decide), putNode_ne _ _ _ _ _ _ (by decide) (by decide), putNode_ne _ _ _ _ _ _ (by decide) (by decide)]
  unfold f4
  cases orph
  · exact f3_none _ _ (by decide) (by decide) (by decide) (by decide)
  · exact putIf_yes _ _ _
theorem at_keeper : f7 d lf lt op ks orph ko bo u cKeeper = match ko with | none => none | some (_, l, _) => some [tail l d] := by
  unfold f7 f6
  rw [putIf_ne _ _ _ _ _ (by decide), putNode_ne _ _ _ _ _ _ (by decide) (by decide)]
  unfold f5 putNode
  cases ko with
  | none => exact f4_none _ (by decide) (by decide) (by decide) (by decide) (by decide)
  | some p =>
    obtain ⟨b, l, a⟩ := p
    exact (putL_other _ cKeeperAddr cKeeper _ (by decide)).trans (putL_same _ _ _)
theorem at_keeperAddr : f7 d lf lt op ks orph ko bo u cKeeperAddr = match ko with | none => none | some (_, _, a) => some [a] := by
  unfold f7 f6
  rw [putIf_ne _ _ _ _ _ (by decide), putNode_ne _ _ _ _ _ _ (by decide) (by decide)]
  unfold f5 putNode
  cases ko with
  | none => exact f4_none _ (by decide) (by decide) (by decide) (by decide) (by decide)
  | some p =>
    obtain ⟨b, l, a⟩ := p
    exact putL_same _ _ _
theorem at_before : f7 d lf lt op ks orph ko bo u cBefore = match bo with | none => none | some (_, l, _) => some [tail l d] := by
  unfold f7
  rw [putIf_ne _ _ _ _ _ (by decide)]
  unfold f6 putNode
  cases bo with
  | none => exact f5_none _ (by decide) (by decide) (by decide) (by decide) (by decide) (by decide) (by decide)
  | some p =>
    obtain ⟨b, l, a⟩ := p
    exact (putL_other _ cBeforeAddr cBefore _ (by decide)).trans (putL_same _ _ _)
theorem at_beforeAddr : f7 d lf lt op ks orph ko bo u cBeforeAddr = match bo with | none => none | some (_, _, a) => some [a] := by
  unfold f7
  rw [putIf_ne _ _ _ _ _ (by decide)]
  unfold f6 putNode
  cases bo with
  | none => exact f5_none _ (by decide) (by decide) (by decide) (by decide) (by decide) (by decide) (by decide)
  | some p =>
    obtain ⟨b, l, a⟩ := p
    exact putL_same _ _ _
theorem at_clock : f7 d lf lt op ks orph ko bo u cClock = if 0 < u then some [dec u] else none := by
  unfold f7
  by_cases h : 0 < u
  · simp [putIf, putL_same, h]
  · simp only [h, decide_false, if_false]
    exact f6_none _ (by decide) (by decide) (by decide) (by decide) (by decide) (by decide) (by decide) (by decide) (by decide)
end
end Go.Proofs.YbulkajiaDoor
