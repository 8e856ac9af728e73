/- What the listed tables give; a start in which they lie as the program's text lays them. -/
import Derived.Test.YtlohgoedlkkicaaDoorRows
import Derived.Test.YtlohgoedlkkicaaDoorWriteA
import Derived.Stop.LaidErr
import Derived.Stop.Joined
import Derived.Lib.LaidTab
import Derived.LaidMore
import Derived.ProofKit
import Derived.OpenShut
namespace Go.Proofs.YtlohgoedlkkicaaDoor
open Go.RowKit

abbrev laid3 : List (String × DataW Unit) := [("math/bits.deBruijn32tab", Rows.laid_math_bits_deBruijn32tab), ("math/bits.deBruijn64tab", Rows.laid_math_bits_deBruijn64tab), ("internal/strconv.uint64pow10", Rows.laid_internal_strconv_uint64pow10)]

theorem pow_of_laid {W : World} (h : laidMetH Tryd.prog laid3 W) : Pow10 W := by
  rw [MakeChecks.laidMetH_plain _ _ _ (by kernel_rfl)] at h
  have h2 := h.tail.tail
  exact Lib.tabIs_of_head (g := 0) (by kernel_rfl) (by kernel_rfl) Tryd.underlying110 Tryd.underlying101 (by kernel_rfl) (by kernel_rfl) h2

/-- The door's own heap meets the condition. -/
theorem door_met (os : Os) (args : Array Value) : laidMetH Tryd.prog laid3 ((World.doorLaid Tryd.prog 43 os).forCall (fun _ _ => 0) ⟨#[], args, []⟩).memory :=
  laidMetH_of_parts3 (fuel := 8) (laidMet_of_run' 8 (by kernel_rfl) (by kernel_rfl)) (by kernel_rfl) (by kernel_rfl)
end Go.Proofs.YtlohgoedlkkicaaDoor
