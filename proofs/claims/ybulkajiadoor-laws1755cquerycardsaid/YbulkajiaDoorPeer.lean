/-
  setPeer.
-/
import Derived.Test.YbulkajiaDoorVals
namespace Go.Proofs.YbulkajiaDoor
open Go.RowKit Go.Maps Go.Lib

theorem bv_length (l : List UInt8) : (bv l).length = l.length := by simp [bv]

theorem info30 (l : List UInt8) (hl : l.length = 20) : (Ybad.prog.info? 30).map (·.size) = some (bv l).length := by
  rw [bv_length, hl]; kernel_rfl

theorem info22 (l : List UInt8) (hl : l.length = 20) : (Ybad.prog.info? 22).map (·.size) = some (bv l).length := by
  rw [bv_length, hl]; kernel_rfl

/-- The cells of a part of a new block. -/
theorem range_new (w : World) (pre l post : List Value) (t : TypeId) : (w.alloc (.cells (pre ++ l ++ post).toArray t)).rangeAt w.heap.size pre.length l := by
  intro j v hv
  rw [cell_of_row _ w.heap.size (pre.length + j) _ t (0, 0) (heap_alloc_new w _)]
  have hj : j < l.length := (List.getElem?_eq_some_iff.1 hv).1
  simp only [List.getElem?_toArray]
  rw [List.append_assoc, List.getElem?_append_right (by omega), List.getElem?_append_left (by omega)]
  rw [show pre.length + j - pre.length = j from by omega]
  exact hv

theorem rangeAt_later {w w' : World} {b o : Nat} {cs : List Value} (h : w.rangeAt b o cs) (hb : Below w.heap.size w w') : w'.rangeAt b o cs := fun j v hv => cell_later (h j v hv) hb

/-- The cells of a Peer. -/
def peerCells (l : List UInt8) (addr : ByteArray) : Array Value := (bv l ++ [Value.string addr]).toArray

theorem peer_range (w : World) (l : List UInt8) (addr : ByteArray) : (w.alloc (.cells (peerCells l addr) 51)).rangeAt w.heap.size 0 (bv l) := by
  unfold peerCells; simpa using range_new w [] (bv l) [.string addr] 51
theorem peer_addr (w : World) (l : List UInt8) (hl : l.length = 20) (addr : ByteArray) : (w.alloc (.cells (peerCells l addr) 51)).cell? ⟨w.heap.size, 20, none⟩ = some (.string addr) := by
  have := range_new w (bv l) [.string addr] [] 51 0 (.string addr) rfl
  rw [bv_length, hl] at this
  unfold peerCells; simpa using this

set_option maxHeartbeats 400000 in
theorem setPeer_any (m : Int) (h1 : 1 ≤ m) (h2 : m ≤ 160) (base b n sz : Nat) (f : List UInt8 → Option (List ByteArray)) (name addr : ByteArray) (l : List UInt8) (hl : l.length = 20) (w : World) (h : Vals w base b n f sz) (hs : name.size ≤ 1000) (hn : n < 100000) (hbase : base ≤ w.heap.size) :
    Calls Ybad.prog 15 #[.agg #[.int .u64 (160 - m)], .map (some b), .string name, .agg (peerCells l addr)] w fun e w' => e = .returned (.tuple #[]) ∧
      Vals w' base b (n + 2) (putL (putL f name.data.toList [tail l ((m + 3) / 4)]) (name ++ (⟨#[95, 97, 100, 100, 114]⟩ : ByteArray)).data.toList [addr]) (grew (putL f name.data.toList [tail l ((m + 3) / 4)]) (name ++ (⟨#[95, 97, 100, 100, 114]⟩ : ByteArray)).data.toList (grew f name.data.toList sz)) ∧ Below base w w' := by
  have R0 : Hid (∀ w : World, (w.alloc (.cells (peerCells l addr) 51)).rangeAt w.heap.size 0 (bv l)) := fun w => peer_range w l addr
  have hr := R0.out (w.alloc (.cells #[.int .u64 (160 - m)] 29))
  rw [show (w.alloc (.cells #[.int .u64 (160 - m)] 29)).heap.size = w.heap.size + 1 from by simp] at hr
  have HR : Hid (((w.alloc (.cells #[.int .u64 (160 - m)] 29)).alloc (.cells (peerCells l addr) 51)).rangeAt (w.heap.size + 1) 0 (bv l)) := hr
  have HI : Hid ((Ybad.prog.info? 30).map (·.size) = some (bv l).length) := info30 l hl
  clear hr
  go_enter Ybad.func15, Ybad.ntmps15
  go_wp2_with (refine wpList_load_mid rfl 30 _ rfl (w.heap.size + 1) 0 rfl (bv l) _ HR.out Ybad.underlying30 rfl HI.out ?_)
  refine (format_any m h1 h2 l hl _).mono ?_
  rintro e w1 ⟨rfl, hb1⟩
  have hW : Below w.heap.size w ((w.alloc (.cells #[.int .u64 (160 - m)] 29)).alloc (.cells (peerCells l addr) 51)) := ((Below.refl _ _).alloc (Nat.le_refl _) _).alloc (by simp) _
  have hB1 : Below w.heap.size w w1 := hW.trans (hb1.mono hW.size)
  have V1 := h.later hB1
  have hc1 : w1.cell? ⟨w.heap.size + 1, 20, none⟩ = some (.string addr) := cell_later (by have := peer_addr (w.alloc (.cells #[.int .u64 (160 - m)] 29)) l hl addr; rwa [show (w.alloc (.cells #[.int .u64 (160 - m)] 29)).heap.size = w.heap.size + 1 from by simp] at this) hb1
  have hlt1 := h.lt
  go_wp2_with fail
  refine (set_any base b n sz f name _ w1 V1 (by unfold maxLen; omega) (by unfold maxLen; omega) (Nat.le_trans hbase hB1.size)).mono ?_
  rintro e w2 ⟨rfl, V2, hg2⟩
  have hc2 : w2.cell? ⟨w.heap.size + 1, 20, none⟩ = some (.string addr) := hg2.cell hc1 (by simp; omega)
  have V : Hid (Vals w2 base b (n + 1) (putL f name.data.toList [tail l ((m + 3) / 4)]) (grew f name.data.toList sz)) := V2
  have G : Hid (w1.grownBy w2 (some b)) := hg2
  have B1 : Hid (Below w.heap.size w w1) := hB1
  have LT : Hid (base ≤ b) := by obtain ⟨_, _, h2, _⟩ := h; exact h2
  clear V1 V2 hg2 hc1 hB1 hW hb1 HR R0 HI h
  go_wp2_with fail
  refine (set_any base b (n + 1) _ _ (name ++ (⟨#[95, 97, 100, 100, 114]⟩ : ByteArray)) addr w2 V.out (by rw [ByteArray.size_append]; show _ + 5 ≤ _; unfold maxLen; omega) (by unfold maxLen; omega) (Nat.le_trans hbase (Nat.le_trans B1.out.size G.out.size))).mono ?_
  rintro e w3 ⟨rfl, V3, hg3⟩
  have F : Hid (Vals w3 base b (n + 2) (putL (putL f name.data.toList [tail l ((m + 3) / 4)]) (name ++ (⟨#[95, 97, 100, 100, 114]⟩ : ByteArray)).data.toList [addr]) (grew (putL f name.data.toList [tail l ((m + 3) / 4)]) (name ++ (⟨#[95, 97, 100, 100, 114]⟩ : ByteArray)).data.toList (grew f name.data.toList sz)) ∧ Below base w w3) :=
    ⟨V3, ((B1.out.mono hbase).grown G.out (Nat.le_trans hbase B1.out.size) (fun k hk => by cases hk; exact LT.out)).grown hg3 (Nat.le_trans hbase (Nat.le_trans B1.out.size G.out.size)) (fun k hk => by cases hk; exact LT.out)⟩
  clear V3 hg3
  go_wp2
  go_end0
  exact ⟨rfl, F.out⟩
end Go.Proofs.YbulkajiaDoor
