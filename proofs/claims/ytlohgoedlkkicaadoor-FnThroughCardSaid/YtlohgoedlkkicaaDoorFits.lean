/- The walks of the two functions that bound sizes. -/
import Derived.Test.YtlohgoedlkkicaaDoorMem
import Derived.Test.YtlohgoedlkkicaaDoorWordWalks
import Derived.Deep.LoopGhost
namespace Go.Proofs.YtlohgoedlkkicaaDoor
open Go.RowKit

def SomeBool (P : Bool → Prop) (w : World) (e : Ending) (w' : World) : Prop := ∃ r : Bool, e = .returned (.bool r) ∧ P r ∧ Below w.heap.size w w'

def FitsOne (x : BaseD) : Prop := x.file.size ≤ 2147483647 ∧ x.abs.size ≤ 2147483647
def FitsAll (bs : List BaseD) : Prop := bs.length ≤ 2147483647 ∧ ∀ (i : Nat) (x : BaseD), bs[i]? = some x → FitsOne x

set_option maxHeartbeats 1000000 in
theorem fits2_any (x : BaseD) (w : World) :
    Calls Tryd.prog 17 #[.agg #[.string x.file, .string x.abs, .int .i64 x.pos.base, .int .u64 x.pos.line, .int .u64 x.pos.col, .int .u64 x.line, .int .u64 x.col]] w (SomeBool (fun r => r = true → FitsOne x) w) := by
  obtain ⟨f, a, ⟨p, q, s⟩, l, c⟩ := x
  simp only
  by_cases h1 : f.size ≤ 2147483647
  · by_cases h2 : a.size ≤ 2147483647
    · go_enter Tryd.func17, Tryd.ntmps17
      go_wp2
      go_ret
      exact ⟨true, rfl, fun _ => ⟨h1, h2⟩, (Below.refl _ _).alloc (Nat.le_refl _) _⟩
    · go_enter Tryd.func17, Tryd.ntmps17
      go_wp2
      go_ret
      exact ⟨false, rfl, fun h => absurd h (by decide), (Below.refl _ _).alloc (Nat.le_refl _) _⟩
  · go_enter Tryd.func17, Tryd.ntmps17
    go_wp2
    go_ret
    exact ⟨false, rfl, fun h => absurd h (by decide), (Below.refl _ _).alloc (Nat.le_refl _) _⟩

def FitsTo (bs : List BaseD) (j : Nat) : Prop := ∀ (i : Nat) (x : BaseD), i < j → bs[i]? = some x → FitsOne x
def FitsRel (w : World) (bs : List BaseD) (n k : Nat) (i : Value) (wr : World) : Prop := ∃ j : Nat, i = .int .i64 j ∧ j + k = n ∧ Below w.heap.size w wr ∧ FitsTo bs j

theorem fits_step {bs : List BaseD} {j : Nat} {x : BaseD} (h : FitsTo bs j) (hx : bs[j]? = some x) (hf : FitsOne x) : FitsTo bs (j + 1) := by
  intro i y hi hy
  by_cases e : i = j
  · subst e; rw [hx] at hy; cases hy; exact hf
  · exact h i y (by omega) hy

set_option maxHeartbeats 1000000 in
theorem fits1_any (A : Option Addr) (n c : Nat) (bs : List BaseD) (w : World) (h : Bases w A n c bs) :
    Calls Tryd.prog 9 #[.slice A n c] w (SomeBool (fun r => r = true → FitsAll bs) w) := by
  have hl := h.len
  have hcap := h.cap
  have hbig := h.big
  by_cases hn : n ≤ 2147483647
  · go_enter Tryd.func9, Tryd.ntmps9
    go_wp2
    go_loopg [10] n (fun k i wr => FitsRel w bs n k i wr)
    case atStart => exact ⟨0, rfl, by omega, Below.refl _ _, fun i x hi => absurd hi (by omega)⟩
    case round =>
      obtain ⟨j, rfl, hj, hb, hto⟩ := hrel
      by_cases hlt : j < n
      · obtain ⟨b, o, rfl, hx⟩ := h.lies (by omega)
        obtain ⟨x, hxe⟩ : ∃ x, bs[j]? = some x := ⟨bs[j], List.getElem?_eq_getElem (by omega)⟩
        have HX := Lib.hid hxe
        obtain ⟨d0, d1, d2, d3, d4, d5, d6⟩ := (hx j x hxe).keep hb
        have HO := Lib.hid hto
        clear hx hxe hto h
        go_wp2_with fail
        refine (fits2_any x _).mono ?_
        rintro e w1 ⟨r, rfl, hr, hb1⟩
        have HR := Lib.hid hr
        have HB := Lib.hid (below_call hb hb1)
        clear hr hb hb1 d0 d1 d2 d3 d4 d5 d6
        cases r with
        | false =>
          go_wp2
          go_ret
          exact ⟨false, rfl, fun h => absurd h (by decide), HB.out⟩
        | true =>
          go_wp2
          go_roundg (gk - 1)
          case measure => omega
          case rel => exact ⟨j + 1, by go_num, by omega, HB.out, fits_step HO.out HX.out (HR.out (by trivial))⟩
      · go_wp2
        go_ret
        exact ⟨true, rfl, fun _ => ⟨by omega, fun i x hi => hto i x (by have := (List.getElem?_eq_some_iff.1 hi).1; omega) hi⟩, hb⟩
  · go_enter Tryd.func9, Tryd.ntmps9
    go_wp2
    go_ret
    exact ⟨false, rfl, fun h => absurd h (by decide), Below.refl _ _⟩
end Go.Proofs.YtlohgoedlkkicaaDoor
