/-
  strconv.FormatUint at base 10 and zzs1755cdec: both give the decimal numeral.
-/
import Derived.Test.YbulkajiaDoorPeer
import Derived.Lib.ItoaMem
namespace Go.Proofs.YbulkajiaDoor
open Go.RowKit Go.Maps Go.Lib Go.Sort

theorem holds0 (w : World) (T : TypeId) (nd : Nat) (hs : nd ≤ 24) : Holds (fun (b : UInt8) => Value.int .u8 (b.toNat : Int)) (w.alloc (.cells Lib.zeros24 T)) w.heap.size 0 (Array.replicate nd (0 : UInt8)) := fun j hj => by
  have hj' : j < nd := by simpa using hj
  refine ⟨?_, World.frozen?_alloc_new _ _ _ _⟩
  rw [World.cell?_alloc_new, Lib.zeros24_at _ (by omega), getElem!_pos _ j hj]
  simp

theorem below_put (w : World) (o : Obj) (dk : Array UInt8) (k : Nat) : Below w.heap.size w ((putRow (fun (b : UInt8) => Value.int .u8 (b.toNat : Int)) (w.alloc o) w.heap.size 0 dk).drewN k) := by
  obtain ⟨os', _, e⟩ := putRow_grow_new (fun (b : UInt8) => Value.int .u8 (b.toNat : Int)) w #[o] w.heap.size 0 dk (Nat.le_refl _)
  rw [alloc_eq_grow, e]
  refine ⟨rfl, rfl, rfl, by show _ ≤ (w.heap ++ os').size; simp, fun j hj => ?_⟩
  show (w.heap ++ os')[j]? = _
  rw [Array.getElem?_append_left hj]

/-- The decimal numeral. -/
def dec (u : Nat) : ByteArray := ⟨(Lib.decDigits u).toArray⟩

set_option maxHeartbeats 2000000 in
set_option maxRecDepth 100000 in
theorem formatUint_in (u : Nat) (hu64 : u < 18446744073709551616) (w : World) (htab : Lib.TabIs Ybad.prog w tabName .u64 Lib.pow10Tab) :
    Calls Ybad.prog 23 #[.int .u64 u, .int .i64 10] w fun e w' => e = .returned (.string (dec u)) ∧ Below w.heap.size w w' := by
  by_cases hs : u < 100
  · go_enter Ybad.func23, Ybad.ntmps23
    go_wp2_with (go_at_call 24; refine (Ybad.internal_strconv_small u hs _).mono ?_; rintro e w' ⟨rfl, rfl⟩)
    go_ret
    exact ⟨rfl, Below.refl _ _⟩
  · have hu1 : 1 ≤ u := by omega
    have hnd20 : Lib.nDigits u ≤ 20 := by have := Lib.numDigits_eq u hu1 hu64; split at this <;> omega
    have hsl1 : ∀ W, (Instr.sliceAt 64 (.pointer (some ⟨w.heap.size, 0, none⟩)) none (some (.int .i64 (Lib.nDigits u : Int))) none).run Ybad.prog W = .ok (.slice (some ⟨w.heap.size, 0, none⟩) (Lib.nDigits u) 24) W := fun W => by
      have e1 : Ybad.prog.arrayLen 64 = 24 := by kernel_rfl
      have e0 : Ybad.prog.elem 64 = 5 := by kernel_rfl
      rw [run_sliceAt_array_h W 64 ⟨w.heap.size, 0, none⟩ Ybad.underlying64 .i64 (Lib.nDigits u : Int) (by omega) (by rw [e1]; omega), e0, Ybad.sizeOf5, e1]
      simp only [Result.andThen_ok, slicedAt, Int.toNat_natCast, Nat.sub_zero, Nat.zero_mul, Addr.add_mid, Nat.add_zero]
      simp
    have hH0 := holds0 w 64 (Lib.nDigits u) (by omega)
    have hfmt := Ybad.internal_strconv_formatBase10 w.heap.size 0 24 u (Array.replicate (Lib.nDigits u) 0) (w.alloc (.cells Lib.zeros24 64)) hH0 (by rw [Array.size_replicate]; exact Lib.lt_pow_nDigits u) hu64 (by rw [Array.size_replicate]; omega)
    rw [Array.size_replicate] at hfmt
    have HH0 := Lib.hid hH0
    clear hH0
    have HF := Lib.hid hfmt
    clear hfmt
    go_enter Ybad.func23, Ybad.ntmps23
    go_wp2_with (go_at_call 25; refine (Ybad.internal_strconv_numDigits u hu1 hu64 _ (Lib.tabIs_alloc htab _)).mono ?_; rintro e w' ⟨rfl, rfl⟩)
    refine HF.out.mono ?_
    rintro e w' ⟨rfl, k, v', dk, rfl, hF⟩
    have hcv : (convert 57 9 (.slice (some ⟨w.heap.size, 0, none⟩) (Lib.nDigits u) 24)).run Ybad.prog ((putRow (fun (b : UInt8) => Value.int .u8 (b.toNat : Int)) (w.alloc (.cells Lib.zeros24 64)) w.heap.size 0 dk).drewN k) = .ok (.string (dec u)) ((putRow (fun (b : UInt8) => Value.int .u8 (b.toNat : Int)) (w.alloc (.cells Lib.zeros24 64)) w.heap.size 0 dk).drewN k) := by
      have h := run_convert_bytes_back (P := Ybad.prog) ((putRow (fun (b : UInt8) => Value.int .u8 (b.toNat : Int)) (w.alloc (.cells Lib.zeros24 64)) w.heap.size 0 dk).drewN k) 57 9 5 ⟨w.heap.size, 0, none⟩ 24 (Lib.decDigits u) Ybad.underlying57 Ybad.underlying5 Ybad.underlying9 (fun j hj => by
        rw [Lib.row_is_numeral hF j hj, Lib.add_plain, World.cell?_drewN]
        exact cell?_putRow (fun (b : UInt8) => Value.int .u8 (b.toNat : Int)) _ w.heap.size 0 _ dk HH0.out (by rw [hF.size, Array.size_replicate]) j (by rw [hF.size]; rw [Lib.decDigits_length] at hj; exact hj))
      rw [Lib.decDigits_length] at h
      exact h
    go_wp2
    go_ret
    exact ⟨rfl, below_put w _ dk k⟩

theorem formatUint_any (u : Nat) (hu64 : u < 18446744073709551616) (w : World) (htab : Lib.TabIs Ybad.prog w tabName .u64 Lib.pow10Tab) :
    Calls Ybad.prog 19 #[.int .u64 u, .int .i64 10] w fun e w' => e = .returned (.string (dec u)) ∧ Below w.heap.size w w' := by
  go_enter Ybad.func19, Ybad.ntmps19
  go_wp2_with fail
  refine (formatUint_in u hu64 _ htab).mono ?_
  rintro e w' ⟨rfl, hb⟩
  go_wp2
  go_ret
  exact ⟨rfl, hb⟩
end Go.Proofs.YbulkajiaDoor
