/- strconv.FormatUint at base 10: the decimal numeral, for every number of 64 bits. -/
import Derived.Test.YtlohgoedlkkicaaDoorShelf
import Derived.Test.YtlohgoedlkkicaaDoorMem
import Derived.Lib.Walk
import Derived.Lib.ItoaMem
import Derived.Lib.AppendIntMem
import Derived.WalkKit
namespace Go.Proofs.YtlohgoedlkkicaaDoor
open Go.Shelf Go.RowKit Go.Sort Go.Lib

/-- The table of powers of ten as the library lays it. -/
abbrev Pow10 (w : World) : Prop := Lib.TabIs Tryd.prog w "internal/strconv.uint64pow10" .u64 Lib.pow10Tab
theorem below_grow {w w' : World} (h : ∃ k os, w' = grow (w.drewN k) os) : Below w.heap.size w w' := by
  obtain ⟨k, os, rfl⟩ := h
  exact ⟨rfl, rfl, rfl, by simp [grow, World.drewN], fun i hi => by simp [grow, World.drewN, Array.getElem?_append, hi]⟩

set_option maxHeartbeats 4000000 in
set_option maxRecDepth 100000 in
theorem formatUint_inner (u : Nat) (hu64 : u < 18446744073709551616) (w : World) (htab : Pow10 w) :
    Calls Tryd.prog 55 #[.int .u64 u, .int .i64 10] w fun e w' => e = .returned (.string ⟨(Lib.decDigits u).toArray⟩) ∧ Below w.heap.size w w' := by
  by_cases hs : u < 100
  · have hsi : (u : Int) < 100 := by omega
    go_enter Tryd.func55, Tryd.ntmps55
    go_wp2_with fail
    refine (Tryd.internal_strconv_small u hs _).mono ?_
    rintro e w' ⟨rfl, rfl⟩
    go_wp2
    go_ret
    exact ⟨rfl, Below.refl _ _⟩
  · have hu1 : 1 ≤ u := by omega
    have hui : (100 : Int) ≤ (u : Int) := by omega
    have hnd20 : Lib.nDigits u ≤ 20 := by have := Lib.numDigits_eq u hu1 hu64; split at this <;> omega
    have hal : Tryd.prog.arrayLen 103 = 24 := by simp [Program.arrayLen, Tryd.underlying103]
    have hsl : ∀ W, (Instr.sliceAt 103 (.pointer (some ⟨w.heap.size, 0, none⟩)) none (some (.int .i64 (Lib.nDigits u : Int))) none).run Tryd.prog W = .ok (.slice (some ⟨w.heap.size, 0, none⟩) (Lib.nDigits u) 24) W := fun W => by
      rw [run_sliceAt_array_h W 103 ⟨w.heap.size, 0, none⟩ (by simp [Program.arrayLen, Program.elem, Tryd.underlying103]) .i64 (Lib.nDigits u : Int) (by omega) (by rw [hal]; omega)]
      go_simp
    have hH0 := Lib.holds_zero0 w 103 (Lib.nDigits u) (by omega)
    have hfmt := Tryd.internal_strconv_formatBase10 w.heap.size 0 24 u (Array.replicate (Lib.nDigits u) 0) (w.alloc (.cells Lib.zeros24 103)) hH0 (by rw [Array.size_replicate]; exact Lib.lt_pow_nDigits u) hu64 (by rw [Array.size_replicate]; omega)
    rw [Array.size_replicate] at hfmt
    have HH0 := Lib.hid hH0
    clear hH0 hal
    go_enter Tryd.func55, Tryd.ntmps55
    go_wp2_with fail
    refine (Tryd.internal_strconv_numDigits u hu1 hu64 _ (Lib.tabIs_alloc htab _)).mono ?_
    rintro e w' ⟨rfl, rfl⟩
    go_wp2_with fail
    refine hfmt.mono ?_
    rintro e w' ⟨rfl, k, v', dk, rfl, hF⟩
    obtain ⟨M, hM⟩ : ∃ M, M = (putRow (fun (b : UInt8) => Value.int .u8 (b.toNat : Int)) (w.alloc (.cells Lib.zeros24 103)) w.heap.size 0 dk).drewN k := ⟨_, rfl⟩
    rw [← hM]
    have hcv : (convert 54 9 (.slice (some ⟨w.heap.size, 0, none⟩) (Lib.nDigits u) 24)).run Tryd.prog M = .ok (.string ⟨(Lib.decDigits u).toArray⟩) M := by
      have h := run_convert_bytes_back (P := Tryd.prog) M 54 9 5 ⟨w.heap.size, 0, none⟩ 24 (Lib.decDigits u) Tryd.underlying54 Tryd.underlying5 Tryd.underlying9 (fun j hj => by
        rw [hM, Lib.row_is_numeral hF j hj, Lib.add_plain, World.cell?_drewN]
        exact cell?_putRow (fun (b : UInt8) => Value.int .u8 (b.toNat : Int)) _ w.heap.size 0 _ dk HH0.out (by rw [hF.size, Array.size_replicate]) j (by rw [hF.size]; rw [Lib.decDigits_length] at hj; exact hj))
      rw [Lib.decDigits_length] at h
      exact h
    have hbM : Hid (RowKit.Below w.heap.size w M) := Lib.hid (by
      obtain ⟨os, eo⟩ := Lib.fin_at w (.cells Lib.zeros24 103) dk k 0
      rw [hM]
      exact below_grow ⟨k, os, eo⟩)
    clear hM hfmt htab
    go_wp2
    go_ret
    exact ⟨rfl, hbM.out⟩

set_option maxHeartbeats 400000 in
/-- strconv.FormatUint(u, 10). -/
theorem FormatUint_any (u : Nat) (hu64 : u < 18446744073709551616) (w : World) (htab : Pow10 w) :
    Calls Tryd.prog 54 #[.int .u64 u, .int .i64 10] w fun e w' => e = .returned (.string ⟨(Lib.decDigits u).toArray⟩) ∧ RowKit.Below w.heap.size w w' := by
  go_enter Tryd.func54, Tryd.ntmps54
  go_wp2_with fail
  refine (formatUint_inner u hu64 _ htab).mono ?_
  rintro e w' ⟨rfl, hb⟩
  go_wp2
  go_ret
  exact ⟨rfl, hb⟩
end Go.Proofs.YtlohgoedlkkicaaDoor
