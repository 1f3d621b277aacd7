/-
  THE SMALL FUNCTIONS: Space.Bits, Space.Digits, Space.Format.
-/
import Derived.Test.YbulkajiaDoorRows
import Derived.Test.YbulkajiaDoorShelf
import Derived.Test.YbulkajiaDoorWorld
import Derived.WalkLawsBesides
import Derived.Deep.RegionHeld3
import Derived.Deep.DeepFit
import Derived.Lib.IndexBytes
namespace Go.Proofs.YbulkajiaDoor
open Go.RowKit Go.Maps Go.Lib

theorem ret_int {k : IntKind} {a b : Int} (h : a = b) : Ending.returned (.int k a) = .returned (.int k b) := by rw [h]
theorem ret_string {a b : ByteArray} (h : a = b) : Ending.returned (.string a) = .returned (.string b) := by rw [h]

theorem bits_any (m : Int) (h1 : 1 ≤ m) (h2 : m ≤ 160) (w : World) :
    Calls Ybad.prog 22 #[.agg #[.int .u64 (160 - m)]] w fun e w' => e = .returned (.int .i64 m) ∧ Below w.heap.size w w' := by
  go_enter Ybad.func22, Ybad.ntmps22
  go_wp2
  go_ret
  exact ⟨ret_int (by omega), (Below.refl _ _).alloc (Nat.le_refl _) _⟩

theorem digits_any (m : Int) (h1 : 1 ≤ m) (h2 : m ≤ 160) (w : World) :
    Calls Ybad.prog 18 #[.agg #[.int .u64 (160 - m)]] w fun e w' => e = .returned (.int .i64 ((m + 3) / 4)) ∧ Below w.heap.size w w' := by
  go_enter Ybad.func18, Ybad.ntmps18
  go_wp2_with fail
  refine (bits_any m h1 h2 _).mono ?_
  rintro e w' ⟨rfl, hb⟩
  go_wp2
  go_ret
  refine ⟨rfl, ((Below.refl _ _).alloc (Nat.le_refl _) _).trans (hb.mono (by simp))⟩

/-- An array of bytes as cells. -/
def bv (l : List UInt8) : List Value := l.map fun b => .int .u8 (b.toNat : Int)

/-- The bytes of an array lie in block b. -/
def BytesAt (b : Nat) (l : List UInt8) (w : World) : Prop := (∀ i (h : i < l.length), w.cell? ⟨b, 0 + i, none⟩ = some (.int .u8 ((l[i]'h).toNat : Int))) ∧ b < w.heap.size

theorem BytesAt.later {b : Nat} {l : List UInt8} {w w' : World} (h : BytesAt b l w) (hb : Below w.heap.size w w') : BytesAt b l w' :=
  ⟨fun i hi => (hb.cell (p := ⟨b, 0 + i, none⟩) h.2).trans (h.1 i hi), Nat.lt_of_lt_of_le h.2 hb.size⟩

theorem BytesAt.drew {b : Nat} {l : List UInt8} {w : World} (h : BytesAt b l w) : BytesAt b l w.drew := h

theorem BytesAt.new (w : World) (l : List UInt8) (t : TypeId) : BytesAt w.heap.size l (w.alloc (.cells (bv l).toArray t)) := by
  refine ⟨fun i h => ?_, by simp⟩
  rw [Nat.zero_add, cell_of_row _ w.heap.size i (bv l).toArray t (0, 0) (heap_alloc_new w _)]
  simp [bv, h]

theorem cell_later {w w' : World} {b o : Nat} {v : Value} (h : w.cell? ⟨b, o, none⟩ = some v) (hb : Below w.heap.size w w') : w'.cell? ⟨b, o, none⟩ = some v :=
  (hb.cell (p := ⟨b, o, none⟩) (World.block_lt_of_cell? w _ h)).trans h

theorem encode_length (l : List UInt8) : (Hx.encode l).length = 2 * l.length := by
  unfold Hx.encode
  induction l with
  | nil => rfl
  | cons x r ih => simp only [List.flatMap_cons, List.length_append, ih, List.length_cons, List.length_nil]; omega

theorem enc20 (b : Nat) (l : List UInt8) (hl : l.length = 20) (w : World) (h : BytesAt b l w) :
    Calls Ybad.prog 17 #[.slice (some ⟨b, 0, none⟩) 20 20] w fun e w' => e = .returned (.string ⟨(Hx.encode l).toArray⟩) ∧ Below w.heap.size w w' := by
  have := Ybad.hex_EncodeToString_bytes b 0 20 l w h.1 h.2 (by omega)
  rw [hl] at this
  exact this

theorem ba_ext {a b : ByteArray} (h : a.data.toList = b.data.toList) : a = b := by
  obtain ⟨⟨x⟩⟩ := a
  obtain ⟨⟨y⟩⟩ := b
  simp only at h
  rw [h]

theorem wrap_small (x : Int) (h0 : -1000000 ≤ x) (h1 : x ≤ 1000000) : IntKind.i64.wrap x = x := by
  simp only [IntKind.wrap_i64]; omega

/-- The last d digits of the 40. -/
def tail (l : List UInt8) (d : Int) : ByteArray := ⟨((Hx.encode l).drop (40 - d.toNat)).toArray⟩

theorem tail_run (l : List UInt8) (hl : l.length = 20) (d : Int) (h0 : 0 ≤ d) (h1 : d ≤ 40) : ∀ wx : World, (Instr.slice 9 (.string ⟨(Hx.encode l).toArray⟩) (some (.int .i64 (40 - d))) none none).run Ybad.prog wx = .ok (.string (tail l d)) wx := by
  intro wx
  have hsz : (Hx.encode l).length = 40 := by rw [encode_length, hl]
  have := Go.run_slice_string_l (P := Ybad.prog) wx 9 ⟨(Hx.encode l).toArray⟩ Ybad.underlying9 .i64 (40 - d) (by omega) (by show 40 - d ≤ (((Hx.encode l).toArray.size : Nat) : Int); simp [hsz]; omega)
  rw [this]
  have e : (⟨(Hx.encode l).toArray⟩ : ByteArray).extract (40 - d).toNat (ByteArray.size ⟨(Hx.encode l).toArray⟩) = tail l d := by
    have e1 := Lib.extract_to_end ⟨(Hx.encode l).toArray⟩ (40 - d).toNat
    have e3 : (40 - d).toNat = 40 - d.toNat := by omega
    unfold tail
    rw [e3] at e1 ⊢
    refine ba_ext ?_
    rw [e1]
  rw [e]

set_option maxHeartbeats 400000 in
theorem format_any (m : Int) (h1 : 1 ≤ m) (h2 : m ≤ 160) (l : List UInt8) (hl : l.length = 20) (w : World) :
    Calls Ybad.prog 12 #[.agg #[.int .u64 (160 - m)], .agg (bv l).toArray] w fun e w' => e = .returned (.string (tail l ((m + 3) / 4))) ∧ Below w.heap.size w w' := by
  have hsl := tail_run l hl ((m + 3) / 4) (by omega) (by omega)
  have hwr : IntKind.i64.wrap (40 - (m + 3) / 4) = 40 - (m + 3) / 4 := wrap_small _ (by omega) (by omega)
  go_enter Ybad.func12, Ybad.ntmps12
  go_wp2
  have hs0 : ((w.alloc (.cells #[.int .u64 (160 - m)] 29)).alloc (.cells (bv l).toArray 30)).drew.cell? ⟨w.heap.size, 0, none⟩ = some (.int .u64 (160 - m)) := by simp [go_sem]
  have hs1 : BytesAt (w.heap.size + 1) l ((w.alloc (.cells #[.int .u64 (160 - m)] 29)).alloc (.cells (bv l).toArray 30)).drew := BytesAt.drew (by simpa using BytesAt.new (w.alloc (.cells #[.int .u64 (160 - m)] 29)) l 30)
  have hs2 : Below w.heap.size w ((w.alloc (.cells #[.int .u64 (160 - m)] 29)).alloc (.cells (bv l).toArray 30)).drew := (((Below.refl _ _).alloc (Nat.le_refl _) _).alloc (by simp) _).drew
  go_region_held3 (fun w' => w'.cell? ⟨w.heap.size, 0, none⟩ = some (.int .u64 (160 - m)) ∧ BytesAt (w.heap.size + 1) l w' ∧ Below w.heap.size w w')
    (first | exact ⟨hs0, hs1, hs2⟩ | exact ⟨cell_later hS.1 hb, hS.2.1.later hb, hS.2.2.trans (hb.mono hS.2.2.size)⟩)
    (first | (go_at_call 17; rename_i hS _ _; refine (enc20 _ l hl _ hS.2.1).mono ?_; rintro e w' ⟨rfl, hb⟩) | (go_at_call 18; rename_i hS _ _; refine (digits_any m h1 h2 _).mono ?_; rintro e w' ⟨rfl, hb⟩))
  rename_i hF
  go_wp2
  go_ret
  exact ⟨rfl, hF.2.2⟩
end Go.Proofs.YbulkajiaDoor
