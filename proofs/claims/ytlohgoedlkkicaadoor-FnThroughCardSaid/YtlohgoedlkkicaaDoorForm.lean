/- What Tell answers, as a form; one position in a slice. -/
import Derived.Test.YtlohgoedlkkicaaDoorTell
import Derived.Test.YtlohgoedlkkicaaDoorLaid
import Derived.Test.YtlohgoedlkkicaaDoorOpen
import Derived.Test.YtlohgoedlkkicaaDoorValid
import Derived.Test.YtlohgoedlkkicaaDoorFits
namespace Go.Proofs.YtlohgoedlkkicaaDoor
open Go.RowKit Go.Proofs.YtlohgoedlkkicaaDoor.Bits

theorem within_any (n m r : Int) (w : World) (h0 : 0 ≤ n) (h1 : n < 18446744073709551616) (h2 : 0 ≤ m) (h3 : m < 1000000000) (hr : n % (m + 1) = r) :
    Calls Tryd.prog 12 #[.int .u64 n, .int .u64 m] w fun e w' => e = .returned (.int .u64 r) ∧ w = w' := by
  have HR := Lib.hid hr
  clear hr
  go_enter Tryd.func12, Tryd.ntmps12
  go_wp2_with fail
  go_ret
  exact ⟨ret_int HR.out, rfl⟩
theorem works_below (w : World) : Calls Tryd.prog 15 #[] w fun e w' => e = .returned (.bool true) ∧ Below w.heap.size w w' :=
  (works_any w).mono fun _ _ ⟨he, hw⟩ => ⟨he, by subst hw; exact Below.refl _ _⟩
theorem poss_1 {W : World} {g : Nat} {x : PosD} (hk : Blk W g 25 #[.int .i64 x.base, .int .u64 x.line, .int .u64 x.col]) (h1 : PosIn x) : Poss W (some ⟨g, 0, none⟩) 1 [x] := by
  refine ⟨rfl, by decide, fun _ => ⟨g, 0, rfl, fun i x hx => ?_⟩, fun i x hx => ?_⟩
  · match i, hx with
    | 0, hx => cases hx; exact ⟨hk.cell 0, hk.cell 1, hk.cell 2⟩
  · match i, hx with
    | 0, hx => cases hx; exact h1
/-- The name and the absolute name of a base. -/
def rfileB (bs : List BaseD) (p : Int) : ByteArray := if p < 0 then ⟨#[]⟩ else match bs[p.toNat]? with
  | none => ⟨#[]⟩
  | some x => x.file
def absB (bs : List BaseD) (p : Int) : ByteArray := if p < 0 then ⟨#[]⟩ else match bs[p.toNat]? with
  | none => ⟨#[]⟩
  | some x => x.abs
def knownB (p q : Int) : Bool := decide (0 ≤ p) || decide (0 < q)
theorem tell_form {bs : List BaseD} {p q s : Int} (hp : p < bs.length) (hq0 : 0 ≤ q) (hq1 : q ≤ 1000000) (hs0 : 0 ≤ s) (hs1 : s ≤ 250) :
    ∃ (v3 v4 : Int) (v8 v9 v10 v11 : ByteArray), v3 = (posF bs p (wordOf q s)).rline ∧ v4 = (posF bs p (wordOf q s)).rcol ∧ tellV bs p q s = .agg #[.bool (knownB p q), .int .u64 q, .int .u64 s, .int .u64 v3, .int .u64 v4, .string (fileB bs p), .string (rfileB bs p), .string (absB bs p), .string v8, .string v9, .string v10, .string v11] := by
  have eq_ : (q.toNat : Int) = q := by omega
  have es : (s.toNat : Int) = s := by omega
  have hw := word_parts hq0 hq1 hs0 hs1
  unfold tellV factsV
  rw [eq_, es]
  have h1 : (posF bs p (wordOf q s)).known = knownB p q ∧ (posF bs p (wordOf q s)).file = fileB bs p ∧ (posF bs p (wordOf q s)).rfile = rfileB bs p ∧ (posF bs p (wordOf q s)).abs = absB bs p := by
    by_cases h0 : p < 0
    · rw [posF_none h0, fileB_none h0]
      unfold rfileB absB knownB nilF
      rw [if_pos h0, if_pos h0]
      refine ⟨?_, rfl, rfl, rfl⟩
      show (wordOf q s / 4096 != 0) = _
      rw [hw.1, eq_]
      have e0 : decide (0 ≤ p) = false := decide_eq_false (by omega)
      rw [e0, Bool.false_or]
      by_cases hz : q = 0
      · subst hz; rfl
      · have : decide (0 < q) = true := decide_eq_true (by omega)
        rw [this]
        exact bne_iff_ne.2 hz
    · obtain ⟨m, rfl⟩ : ∃ m : Nat, p = m := ⟨p.toNat, by omega⟩
      obtain ⟨x, hx⟩ : ∃ x, bs[m]? = some x := ⟨bs[m]'(by omega), List.getElem?_eq_getElem _⟩
      have er : rfileB bs (m : Int) = x.file := by unfold rfileB; rw [if_neg h0, Int.toNat_natCast, hx]
      have ea : absB bs (m : Int) = x.abs := by unfold absB; rw [if_neg h0, Int.toNat_natCast, hx]
      have ek : knownB (m : Int) q = true := by unfold knownB; rw [decide_eq_true (by omega), Bool.true_or]
      rw [er, ea, ek]
      by_cases hb : x.pos.base < 0
      · rw [posF_file hx hb, fileB_file hx hb]
        exact ⟨rfl, rfl, rfl, rfl⟩
      · rw [posF_line hx hb]
        exact ⟨rfl, rfl, rfl, rfl⟩
  rw [h1.1, h1.2.1, h1.2.2.1, h1.2.2.2]
  exact ⟨_, _, _, _, _, _, rfl, rfl, rfl⟩

end Go.Proofs.YtlohgoedlkkicaaDoor
