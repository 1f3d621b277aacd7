/-
  THE SMALL WRITERS: put16, put32, AppendUint16, AppendUint32.
-/
import Derived.Test.YbulkajjcWorld
namespace Go.Proofs.Ybulkajjc
open Go.RowKit Go.Maps Go.Lib

/-- Two bytes, the greater one first. -/
def e16 (n : Nat) : List UInt8 := [UInt8.ofNat (n / 256), UInt8.ofNat n]
/-- Four bytes. -/
def e32 (n : Nat) : List UInt8 := [UInt8.ofNat (n / 16777216), UInt8.ofNat (n / 65536), UInt8.ofNat (n / 256), UInt8.ofNat n]

theorem e16_length (n : Nat) : (e16 n).length = 2 := rfl
theorem e32_length (n : Nat) : (e32 n).length = 4 := rfl

theorem byte_cast (n : Nat) : ((UInt8.ofNat n).toNat : Int) = (n : Int) % 256 := by
  rw [UInt8.toNat_ofNat']; omega

theorem e16_cells (n : Nat) (hn : n < 65536) : (bv (e16 n)).toArray = #[.int .u8 ((n : Int) / 256), .int .u8 ((n : Int) % 256)] := by
  have h1 : ((n / 256 : Nat) : Int) % 256 = (n : Int) / 256 := by omega
  simp only [bv, e16, List.map_cons, List.map_nil, byte_cast, h1]

theorem e32_cells (n : Nat) (hn : n < 4294967296) : (bv (e32 n)).toArray = #[.int .u8 ((n : Int) / 16777216), .int .u8 ((n : Int) / 65536 % 256), .int .u8 ((n : Int) / 256 % 256), .int .u8 ((n : Int) % 256)] := by
  have h1 : ((n / 16777216 : Nat) : Int) % 256 = (n : Int) / 16777216 := by omega
  have h2 : ((n / 65536 : Nat) : Int) % 256 = (n : Int) / 65536 % 256 := by omega
  have h3 : ((n / 256 : Nat) : Int) % 256 = (n : Int) / 256 % 256 := by omega
  simp only [bv, e32, List.map_cons, List.map_nil, byte_cast, h1, h2, h3]

/-- What a writer does. -/
def Puts (base : Nat) (w : World) (v : Value) (l : List UInt8) (e : Ending) (w' : World) : Prop := ∃ v', e = .returned v' ∧ App base w w' v v' l ∧ v' ≠ .slice none 0 0

/-- append of a literal's bytes. -/
theorem app_lit (base : Nat) (v : Value) (l m : List UInt8) (cs : Array Value) (w : World) (hc : (bv m).toArray = cs) (k : Nat) (hk : k = m.length) (hm : m ≠ []) (hown : Bs w base v l) (hl : l.length + m.length ≤ 1000000000) (hb : base ≤ w.heap.size) :
    ∃ v' w', (Builtin.append_ #[23, 23] 23 #[v, .slice (some ⟨w.heap.size, 0, none⟩) k k]).run Yba.prog (w.alloc (.cells cs 5)) = .ok v' w' ∧ App base w w' v v' (l ++ m) ∧ v' ≠ .slice none 0 0 := by
  subst hc
  have hB : Below w.heap.size w (w.alloc (.cells (bv m).toArray 5)) := (Below.refl _ _).alloc (Nat.le_refl _) _
  obtain ⟨v', w', hr, ha, hn⟩ := app_rd 23 (hown.later hB) (rd_new w m k hk) hl (Nat.le_trans hb hB.size)
  exact ⟨v', w', hr, App.pre hB ha, hn (.inr hm)⟩

theorem put16_any (base : Nat) (v : Value) (l : List UInt8) (n : Nat) (w : World) (hn : n < 65536) (hown : Bs w base v l) (hl : l.length ≤ 100000000) (hb : base ≤ w.heap.size) :
    Calls Yba.prog 8 #[v, .int .u16 (n : Int)] w (Puts base w v (l ++ e16 n)) := by
  obtain ⟨v', w', hr, F⟩ := app_lit base v l (e16 n) _ w (e16_cells n hn) 2 rfl (by simp [e16]) hown (by rw [e16_length]; omega) hb
  have HF : Hid (App base w w' v v' (l ++ e16 n) ∧ v' ≠ .slice none 0 0) := F
  clear F hown
  go_enter Yba.func8, Yba.ntmps8
  go_wp2_with (first | (at_builtin; refine wpList_app rfl _ _ _ _ rfl _ _ rfl rfl hr ?_))
  go_ret
  exact ⟨v', rfl, HF.out⟩

theorem put32_any (base : Nat) (v : Value) (l : List UInt8) (n : Nat) (w : World) (hn : n < 4294967296) (hown : Bs w base v l) (hl : l.length ≤ 100000000) (hb : base ≤ w.heap.size) :
    Calls Yba.prog 9 #[v, .int .u32 (n : Int)] w (Puts base w v (l ++ e32 n)) := by
  obtain ⟨v', w', hr, F⟩ := app_lit base v l (e32 n) _ w (e32_cells n hn) 4 rfl (by simp [e32]) hown (by rw [e32_length]; omega) hb
  have HF : Hid (App base w w' v v' (l ++ e32 n) ∧ v' ≠ .slice none 0 0) := F
  clear F hown
  go_enter Yba.func9, Yba.ntmps9
  go_wp2_with (first | (at_builtin; refine wpList_app rfl _ _ _ _ rfl _ _ rfl rfl hr ?_))
  go_ret
  exact ⟨v', rfl, HF.out⟩

theorem alloc_below (w : World) (o : Obj) : Below w.heap.size w (w.alloc o) := (Below.refl _ _).alloc (Nat.le_refl _) _

theorem au16_any (base : Nat) (v : Value) (l : List UInt8) (n : Nat) (w : World) (hn : n < 65536) (hown : Bs w base v l) (hl : l.length ≤ 100000000) (hb : base ≤ w.heap.size) :
    Calls Yba.prog 14 #[.agg #[], v, .int .u16 (n : Int)] w (Puts base w v (l ++ e16 n)) := by
  have hB := alloc_below w (.cells #[] 54)
  obtain ⟨v', w', hr, F⟩ := app_lit base v l (e16 n) _ (w.alloc (.cells #[] 54)) (e16_cells n hn) 2 rfl (by simp [e16]) (hown.later hB) (by rw [e16_length]; omega) (Nat.le_trans hb hB.size)
  rw [show (w.alloc (.cells #[] 54)).heap.size = w.heap.size + 1 from by simp] at hr
  have HF : Hid (App base w w' v v' (l ++ e16 n) ∧ v' ≠ .slice none 0 0) := ⟨App.pre hB F.1, F.2⟩
  clear F hown hB
  go_enter Yba.func14, Yba.ntmps14
  go_wp2_with (first | (at_builtin; refine wpList_app rfl _ _ _ _ rfl _ _ rfl rfl hr ?_))
  go_ret
  exact ⟨v', rfl, HF.out⟩

theorem au32_any (base : Nat) (v : Value) (l : List UInt8) (n : Nat) (w : World) (hn : n < 4294967296) (hown : Bs w base v l) (hl : l.length ≤ 100000000) (hb : base ≤ w.heap.size) :
    Calls Yba.prog 12 #[.agg #[], v, .int .u32 (n : Int)] w (Puts base w v (l ++ e32 n)) := by
  have hB := alloc_below w (.cells #[] 54)
  obtain ⟨v', w', hr, F⟩ := app_lit base v l (e32 n) _ (w.alloc (.cells #[] 54)) (e32_cells n hn) 4 rfl (by simp [e32]) (hown.later hB) (by rw [e32_length]; omega) (Nat.le_trans hb hB.size)
  rw [show (w.alloc (.cells #[] 54)).heap.size = w.heap.size + 1 from by simp] at hr
  have HF : Hid (App base w w' v v' (l ++ e32 n) ∧ v' ≠ .slice none 0 0) := ⟨App.pre hB F.1, F.2⟩
  clear F hown hB
  go_enter Yba.func12, Yba.ntmps12
  go_wp2_with (first | (at_builtin; refine wpList_app rfl _ _ _ _ rfl _ _ rfl rfl hr ?_))
  go_ret
  exact ⟨v', rfl, HF.out⟩
end Go.Proofs.Ybulkajjc
