/- The walk of PosFine. -/
import Derived.Test.YtlohgoedlkkicaaDoorMem
import Derived.Test.YtlohgoedlkkicaaDoorWordWalks
import Derived.Deep.LoopGhost
namespace Go.Proofs.YtlohgoedlkkicaaDoor
open Go.RowKit

/-- Whether a position is one of n bases. -/
def posFineB (n : Nat) (x : PosD) : Bool := decide (-1 ≤ x.base) && decide (x.base < n) && decide (x.line ≤ 1000000) && decide (x.col ≤ 250)
theorem posFine_yes {n : Nat} {x : PosD} (h0 : -1 ≤ x.base) (h1 : x.base < n) (h2 : x.line ≤ 1000000) (h3 : x.col ≤ 250) : posFineB n x = true := by simp [posFineB, h0, h1, h2, h3]
theorem posFine_spec {n : Nat} {x : PosD} (h : posFineB n x = true) : -1 ≤ x.base ∧ x.base < n ∧ x.line ≤ 1000000 ∧ x.col ≤ 250 := by
  simpa [posFineB, and_assoc] using h
theorem posFine_no0 {n : Nat} {x : PosD} (h : ¬ -1 ≤ x.base) : posFineB n x = false := by simp [posFineB, h]
theorem posFine_no1 {n : Nat} {x : PosD} (h : ¬ x.base < n) : posFineB n x = false := by simp [posFineB, h]
theorem posFine_no2 {n : Nat} {x : PosD} (h : ¬ x.line ≤ 1000000) : posFineB n x = false := by simp [posFineB, h]
theorem posFine_no3 {n : Nat} {x : PosD} (h : ¬ x.col ≤ 250) : posFineB n x = false := by simp [posFineB, h]

set_option maxHeartbeats 1000000 in
theorem fine_any (A : Option Addr) (n c : Nat) (p q s : Int) (w : World) (r : Bool) (hr : posFineB n ⟨p, q, s⟩ = r) :
    Calls Tryd.prog 18 #[.slice A n c, .agg #[.int .i64 p, .int .u64 q, .int .u64 s]] w fun e w' => e = .returned (.bool r) ∧ Below w.heap.size w w' := by
  by_cases h0 : -1 ≤ p
  · by_cases h1 : p < n
    · by_cases h2 : q ≤ 1000000
      · by_cases h3 : s ≤ 250
        · obtain rfl : true = r := (posFine_yes h0 h1 h2 h3).symm.trans hr
          clear hr
          go_enter Tryd.func18, Tryd.ntmps18
          go_wp2
          go_ret
          exact ⟨rfl, below_new _ _⟩
        · obtain rfl : false = r := (posFine_no3 h3).symm.trans hr
          clear hr
          go_enter Tryd.func18, Tryd.ntmps18
          go_wp2
          go_ret
          exact ⟨rfl, below_new _ _⟩
      · obtain rfl : false = r := (posFine_no2 h2).symm.trans hr
        clear hr
        go_enter Tryd.func18, Tryd.ntmps18
        go_wp2
        go_ret
        exact ⟨rfl, below_new _ _⟩
    · obtain rfl : false = r := (posFine_no1 h1).symm.trans hr
      clear hr
      go_enter Tryd.func18, Tryd.ntmps18
      go_wp2
      go_ret
      exact ⟨rfl, below_new _ _⟩
  · obtain rfl : false = r := (posFine_no0 h0).symm.trans hr
    clear hr
    go_enter Tryd.func18, Tryd.ntmps18
    go_wp2
    go_ret
    exact ⟨rfl, below_new _ _⟩
end Go.Proofs.YtlohgoedlkkicaaDoor
