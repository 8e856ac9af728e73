/- posOf over what build has left. -/
import Derived.Test.YtlohgoedlkkicaaDoorBuild
namespace Go.Proofs.YtlohgoedlkkicaaDoor
open Go.RowKit Go.Proofs.YtlohgoedlkkicaaDoor.Bits

def ptrA (gs : List Nat) (b : Int) : Option Addr := if b < 0 then none else some ⟨gs.getD b.toNat 0, 0, none⟩
theorem ptrOf_eq (gs : List Nat) (b : Int) : ptrOf gs b = .pointer (ptrA gs b) := by unfold ptrOf ptrA; split <;> rfl

/-- posOf over what build has left. -/
theorem posOf_built {w0 w : World} {bs : List BaseD} {n : Nat} {v : Value} {gs : List Nat} (hB : Built w0 w bs n v gs) (p q s r : Int) (hp : p < n) (hq : 0 ≤ q) (hs0 : 0 ≤ s) (hs1 : s ≤ 250) (hr : wordOf q s = r) (W : World) (hW : Below w.heap.size w W) :
    Calls Tryd.prog 20 #[v, .agg #[.int .i64 p, .int .u64 q, .int .u64 s]] W fun e w' => e = .returned (.agg #[.pointer (ptrA gs p), .int .u32 r]) ∧ Below W.heap.size W w' := by
  by_cases h0 : p < 0
  · have e : ptrA gs p = none := by unfold ptrA; rw [if_pos h0]
    rw [e]
    exact posOf_none v p q s r W h0 hq hs0 (by omega) hr
  · obtain ⟨m, rfl⟩ : ∃ m : Nat, p = m := ⟨p.toNat, by omega⟩
    obtain ⟨gb, cap, rfl, _, _⟩ := hB.own.form (by omega)
    have hl := hB.len
    obtain ⟨g, hg⟩ : ∃ g, gs[m]? = some g := ⟨gs[m]'(by omega), List.getElem?_eq_getElem _⟩
    have e : ptrA gs (m : Int) = some ⟨g, 0, none⟩ := by unfold ptrA; rw [if_neg h0, Int.toNat_natCast]; simp [List.getD, hg]
    have hc : w.cell? ⟨gb, m, none⟩ = some (.pointer (some ⟨g, 0, none⟩)) := by
      have := hB.own.cells (g := gb) rfl m (.pointer (some ⟨g, 0, none⟩)) (by simp [ptrs, hg])
      rwa [show (⟨gb, 0, none⟩ : Addr).add m = ⟨gb, m, none⟩ by unfold Addr.add; split <;> simp_all] at this
    rw [e]
    exact posOf_some gb n cap m g q s r W (by omega) (cell_keep hW hc) hq hs0 (by omega) hr

end Go.Proofs.YtlohgoedlkkicaaDoor
