/-
  THE ARGUMENTS, and zzs1757atoobig.
-/
import Derived.Test.YbulkajjcEqual
import Derived.Deep.MidRow
namespace Go.Proofs.Ybulkajjc
open Go.RowKit Go.Maps Go.Lib

/-- A handler of the argument. -/
structure Hm where
  s : Nat
  e : Nat
  h : Nat
  has : Bool
  cv : Value
  c : List UInt8

/-- An attribute of the argument. -/
structure Am where
  name : ByteArray
  iv : Value
  info : List UInt8

def Hm.cells (x : Hm) : List Value := [.int .u16 (x.s : Int), .int .u16 (x.e : Int), .int .u16 (x.h : Int), .bool x.has, x.cv]
def Am.cells (x : Am) : List Value := [.string x.name, x.iv]

/-- One handler lies at an address; its bytes may be read. -/
structure HAt (w : World) (b o : Nat) (x : Hm) : Prop where
  range : w.rangeAt b o x.cells
  rd : Rd w x.cv x.c
  hs : x.s < 65536
  he : x.e < 65536
  hh : x.h < 65536

structure AAt (w : World) (b o : Nat) (x : Am) : Prop where
  range : w.rangeAt b o x.cells
  rd : Rd w x.iv x.info
  hn : x.name.size ≤ maxLen

def HIn (ha : Option Addr) (hs : List Hm) (w : World) : Prop := ∀ (j : Nat) (x : Hm), hs[j]? = some x → ∃ b o, ha = some ⟨b, o, none⟩ ∧ HAt w b (o + j * 5) x
def AIn (aa : Option Addr) (ats : List Am) (w : World) : Prop := ∀ (j : Nat) (x : Am), ats[j]? = some x → ∃ b o, aa = some ⟨b, o, none⟩ ∧ AAt w b (o + j * 2) x

theorem range_below {w w' : World} {b o : Nat} {cs : List Value} (h : w.rangeAt b o cs) (hb : Below w.heap.size w w') : w'.rangeAt b o cs := fun j v hv =>
  (hb.cell (World.block_lt_of_cell? w _ (h j v hv))).trans (h j v hv)

theorem HAt.below {w w' : World} {b o : Nat} {x : Hm} (h : HAt w b o x) (hb : Below w.heap.size w w') : HAt w' b o x := ⟨range_below h.range hb, h.rd.below hb, h.hs, h.he, h.hh⟩
theorem AAt.below {w w' : World} {b o : Nat} {x : Am} (h : AAt w b o x) (hb : Below w.heap.size w w') : AAt w' b o x := ⟨range_below h.range hb, h.rd.below hb, h.hn⟩
theorem HIn.below {w w' : World} {ha : Option Addr} {hs : List Hm} (h : HIn ha hs w) (hb : Below w.heap.size w w') : HIn ha hs w' := fun j x hx => by
  obtain ⟨b, o, e, h⟩ := h j x hx
  exact ⟨b, o, e, h.below hb⟩
theorem AIn.below {w w' : World} {ha : Option Addr} {hs : List Am} (h : AIn ha hs w) (hb : Below w.heap.size w w') : AIn ha hs w' := fun j x hx => by
  obtain ⟨b, o, e, h⟩ := h j x hx
  exact ⟨b, o, e, h.below hb⟩

theorem info46 : (Yba.prog.info? 46).map (·.size) = some 5 := by kernel_rfl
theorem info47 : (Yba.prog.info? 47).map (·.size) = some 2 := by kernel_rfl

theorem take_next {α : Type} {l : List α} {j : Nat} {x : α} (h : l[j]? = some x) : l.take (j + 1) = l.take j ++ [x] := by
  have hj : j < l.length := (List.getElem?_eq_some_iff.1 h).1
  have e : l[j] = x := by rw [List.getElem?_eq_getElem hj] at h; exact Option.some.inj h
  rw [List.take_succ_eq_append_getElem hj, e]

/-- What the bound says. -/
structure Small (code : List UInt8) (hs : List Hm) (ats : List Am) : Prop where
  lc : code.length ≤ 1024
  lh : hs.length ≤ 1024
  la : ats.length ≤ 1024
  ch : ∀ x ∈ hs, x.c.length ≤ 1024
  nm : ∀ x ∈ ats, x.name.size ≤ 1024
  inf : ∀ x ∈ ats, x.info.length ≤ 1024

set_option maxHeartbeats 1000000 in
theorem toobig_any (ca : Option Addr) (cc : Nat) (code : List UInt8) (ha : Option Addr) (hc : Nat) (hs : List Hm) (aa : Option Addr) (ac : Nat) (ats : List Am) (w : World) (h1 : HIn ha hs w) (h2 : AIn aa ats w) :
    Calls Yba.prog 5 #[.slice ca code.length cc, .slice ha hs.length hc, .slice aa ats.length ac] w fun e w' => Below w.heap.size w w' ∧ (e = .returned (.bool true) ∨ e = .returned (.bool false) ∧ Small code hs ats) := by
  have H1 := Lib.hid h1
  have H2 := Lib.hid h2
  clear h1 h2
  obtain ⟨n, hn⟩ : ∃ n, code.length = n := ⟨_, rfl⟩
  obtain ⟨hl, hhl⟩ : ∃ n, hs.length = n := ⟨_, rfl⟩
  obtain ⟨al, hal⟩ : ∃ n, ats.length = n := ⟨_, rfl⟩
  rw [hn, hhl, hal]
  have HN := Lib.hid (And.intro hn (And.intro hhl hal))
  clear hn hhl hal
  by_cases c1 : (1024 : Int) < (n : Int)
  case pos =>
    go_enter Yba.func5, Yba.ntmps5
    go_wp2_with fail
    go_ret
    exact ⟨(Below.refl _ _), .inl rfl⟩
  case neg =>
    by_cases c2 : (1024 : Int) < (hl : Int)
    case pos =>
      go_enter Yba.func5, Yba.ntmps5
      go_wp2_with fail
      go_ret
      exact ⟨(Below.refl _ _), .inl rfl⟩
    case neg =>
      by_cases c3 : (1024 : Int) < (al : Int)
      case pos =>
        go_enter Yba.func5, Yba.ntmps5
        go_wp2_with fail
        go_ret
        exact ⟨(Below.refl _ _), .inl rfl⟩
      case neg =>
        go_enter Yba.func5, Yba.ntmps5
        go_wp2_with fail
        go_loopw [26] (fun i wr => ∃ j : Nat, j ≤ hl ∧ i = .int .i64 j ∧ Hid (Below w.heap.size w wr) ∧ Hid (∀ x ∈ hs.take j, x.c.length ≤ 1024)) (fun i _ => hl - (RowKit.intOf i).toNat)
        case atStart => exact ⟨0, Nat.zero_le _, rfl, Below.refl _ _, by show ∀ x ∈ _, _; simp⟩
        case round =>
          obtain ⟨j, hj, rfl, HB, HS⟩ := hrel
          by_cases hjl : j < hl
          case pos =>
            obtain ⟨x, hx⟩ : ∃ x, hs[j]? = some x := ⟨_, List.getElem?_eq_getElem (by have := HN.out.2.1; omega)⟩
            obtain ⟨b, o, rfl, hat⟩ := H1.out.below HB.out j x hx
            obtain ⟨a1, c1', hcv⟩ := hat.rd.len
            have hr := hat.range
            unfold Hm.cells at hr
            rw [hcv] at hr
            have HR := Lib.hid hr
            have HX := Lib.hid hx
            clear hr hx hat hcv
            by_cases hcl : (1024 : Int) < (x.c.length : Int)
            case pos =>
              go_wp2_with (first | refine wpList_load_mid rfl 46 _ rfl b (o + j * 5) rfl _ _ HR.out Yba.underlying46 rfl info46 ?_)
              go_ret
              exact ⟨HB.out.alloc HB.out.size _, .inl rfl⟩
            case neg =>
              have HB2 := Lib.hid (HB.out.alloc HB.out.size (.cells #[Value.int IntKind.u16 x.s, Value.int IntKind.u16 x.e, Value.int IntKind.u16 x.h, Value.bool x.has, Value.slice a1 x.c.length c1'] 46))
              have HS2 : Hid (∀ x ∈ hs.take (j + 1), x.c.length ≤ 1024) := by
                intro y hy
                rw [take_next HX.out] at hy
                rcases List.mem_append.1 hy with h | h
                · exact HS.out y h
                · rw [List.mem_singleton.1 h]; omega
              go_wp2_with (first | refine wpList_load_mid rfl 46 _ rfl b (o + j * 5) rfl _ _ HR.out Yba.underlying46 rfl info46 ?_)
              go_roundw
              case rel => exact ⟨j + 1, by omega, by go_num, HB2, HS2⟩
              case measure => simp [RowKit.intOf]; omega
          case neg =>
            have ej : j = hl := by omega
            subst ej
            have HS2 : Hid (∀ x ∈ hs, x.c.length ≤ 1024) := by have := HS.out; rw [← HN.out.2.1, List.take_length] at this; exact this
            clear HS
            go_wp2_with fail
            go_loopw [37] (fun i wr => ∃ k : Nat, k ≤ al ∧ i = .int .i64 k ∧ Hid (Below w.heap.size w wr) ∧ Hid (∀ x ∈ ats.take k, x.name.size ≤ 1024 ∧ x.info.length ≤ 1024)) (fun i _ => al - (RowKit.intOf i).toNat)
            case atStart => exact ⟨0, Nat.zero_le _, rfl, HB, by show ∀ x ∈ _, _; simp⟩
            case round =>
              clear HB
              obtain ⟨k, hk, rfl, HB, HA⟩ := hrel
              by_cases hkl : k < al
              case pos =>
                obtain ⟨x, hx⟩ : ∃ x, ats[k]? = some x := ⟨_, List.getElem?_eq_getElem (by have := HN.out.2.2; omega)⟩
                obtain ⟨b, o, rfl, hat⟩ := H2.out.below HB.out k x hx
                obtain ⟨a1, c1', hcv⟩ := hat.rd.len
                have hr := hat.range
                unfold Am.cells at hr
                rw [hcv] at hr
                have HR := Lib.hid hr
                have HX := Lib.hid hx
                clear hr hx hat hcv
                by_cases hnl : (1024 : Int) < (x.name.size : Int)
                case pos =>
                  go_wp2_with (first | refine wpList_load_mid rfl 47 _ rfl b (o + k * 2) rfl _ _ HR.out Yba.underlying47 rfl info47 ?_)
                  go_ret
                  exact ⟨HB.out.alloc HB.out.size _, .inl rfl⟩
                case neg =>
                  by_cases hcl : (1024 : Int) < (x.info.length : Int)
                  case pos =>
                    go_wp2_with (first | refine wpList_load_mid rfl 47 _ rfl b (o + k * 2) rfl _ _ HR.out Yba.underlying47 rfl info47 ?_)
                    go_ret
                    exact ⟨HB.out.alloc HB.out.size _, .inl rfl⟩
                  case neg =>
                    have HB2 := Lib.hid (HB.out.alloc HB.out.size (.cells #[Value.string x.name, Value.slice a1 x.info.length c1'] 47))
                    have HA2 : Hid (∀ x ∈ ats.take (k + 1), x.name.size ≤ 1024 ∧ x.info.length ≤ 1024) := by
                      intro y hy
                      rw [take_next HX.out] at hy
                      rcases List.mem_append.1 hy with h | h
                      · exact HA.out y h
                      · rw [List.mem_singleton.1 h]; omega
                    go_wp2_with (first | refine wpList_load_mid rfl 47 _ rfl b (o + k * 2) rfl _ _ HR.out Yba.underlying47 rfl info47 ?_)
                    go_roundw
                    case rel => exact ⟨k + 1, by omega, by go_num, HB2, HA2⟩
                    case measure => simp [RowKit.intOf]; omega
              case neg =>
                have ek : k = al := by omega
                subst ek
                have HA2 : Hid (∀ x ∈ ats, x.name.size ≤ 1024 ∧ x.info.length ≤ 1024) := by have := HA.out; rw [← HN.out.2.2, List.take_length] at this; exact this
                clear HA
                go_wp2_with fail
                go_ret
                exact ⟨HB.out, .inr ⟨rfl, by have := HN.out.1; omega, by have := HN.out.2.1; omega, by have := HN.out.2.2; omega, HS2.out, fun x hx => (HA2.out x hx).1, fun x hx => (HA2.out x hx).2⟩⟩
end Go.Proofs.Ybulkajjc
