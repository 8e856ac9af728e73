/- The walks of the functions that tell a position's file name. -/
import Derived.Test.YtlohgoedlkkicaaDoorMake
namespace Go.Proofs.YtlohgoedlkkicaaDoor
open Go.RowKit Go.Proofs.YtlohgoedlkkicaaDoor.Bits

set_option maxHeartbeats 1000000 in
theorem BasePos_none (w : World) :
    Calls Tryd.prog 42 #[.pointer none] w fun e w' => e = .returned (.pointer (some ⟨w.heap.size, 0, none⟩)) ∧ Below w.heap.size w w' ∧ Blk w' w.heap.size 50 #[.pointer none, .int .u32 0] := by
  go_enter Tryd.func42, Tryd.ntmps42
  go_wp2
  go_ret
  exact ⟨rfl, below_new _ _, Blk.new _ _ _⟩

set_option maxHeartbeats 1000000 in
theorem BasePos_some (g : Nat) (w : World) :
    Calls Tryd.prog 42 #[.pointer (some ⟨g, 0, none⟩)] w fun e w' => e = .returned (.pointer (some ⟨g, 0, none⟩)) ∧ w = w' := by
  go_enter Tryd.func42, Tryd.ntmps42
  go_wp2
  go_ret
  exact ⟨rfl, rfl⟩

set_option maxHeartbeats 1000000 in
theorem BaseName_none (w : World) :
    Calls Tryd.prog 44 #[.pointer none] w fun e w' => e = .returned (.string ⟨#[]⟩) ∧ w = w' := by
  go_enter Tryd.func44, Tryd.ntmps44
  go_wp2
  go_ret
  exact ⟨rfl, rfl⟩

set_option maxHeartbeats 1000000 in
theorem BaseName_some (g : Nat) (f : ByteArray) (w : World) (h : w.cell? ⟨g, 2, none⟩ = some (.string f)) :
    Calls Tryd.prog 44 #[.pointer (some ⟨g, 0, none⟩)] w fun e w' => e = .returned (.string f) ∧ w = w' := by
  go_enter Tryd.func44, Tryd.ntmps44
  go_wp2
  go_ret
  exact ⟨rfl, rfl⟩

set_option maxHeartbeats 1000000 in
theorem RelName_none (r : Int) (w : World) :
    Calls Tryd.prog 32 #[.agg #[.pointer none, .int .u32 r]] w fun e w' => e = .returned (.string ⟨#[]⟩) ∧ Below w.heap.size w w' := by
  go_enter Tryd.func32, Tryd.ntmps32
  go_wp2_with fail
  refine (BaseName_none _).mono ?_
  rintro e w' ⟨rfl, rfl⟩
  go_wp2_with fail
  go_ret
  exact ⟨rfl, below_new _ _⟩

set_option maxHeartbeats 1000000 in
theorem RelName_some (g : Nat) (r : Int) (f : ByteArray) (w : World) (h : w.cell? ⟨g, 2, none⟩ = some (.string f)) :
    Calls Tryd.prog 32 #[.agg #[.pointer (some ⟨g, 0, none⟩), .int .u32 r]] w fun e w' => e = .returned (.string f) ∧ Below w.heap.size w w' := by
  have h1 := Lib.hid (cell_keep (below_new w (.cells #[.pointer (some ⟨g, 0, none⟩), .int .u32 r] 50)) h)
  clear h
  go_enter Tryd.func32, Tryd.ntmps32
  go_wp2_with fail
  refine (BaseName_some g f _ h1.out).mono ?_
  rintro e w' ⟨rfl, rfl⟩
  go_wp2_with fail
  go_ret
  exact ⟨rfl, below_new _ _⟩

set_option maxHeartbeats 1000000 in
theorem Name_none (r : Int) (w : World) :
    Calls Tryd.prog 31 #[.agg #[.pointer none, .int .u32 r]] w fun e w' => e = .returned (.string ⟨#[]⟩) ∧ Below w.heap.size w w' := by
  go_enter Tryd.func31, Tryd.ntmps31
  go_wp2_with fail
  refine (BasePos_none _).mono ?_
  rintro e w1 ⟨rfl, hb, hk⟩
  have c0 := hk.cell 0
  have c1 := hk.cell 1
  simp only [List.getElem?_toArray, List.getElem?_cons_zero, List.getElem?_cons_succ, World.size_alloc] at c0 c1
  have HB := Lib.hid ((below_new w _).trans (hb.mono (by simp)))
  clear hb hk
  go_wp2_with fail
  refine (RelName_none 0 _).mono ?_
  rintro e w2 ⟨rfl, hb2⟩
  have HB2 := Lib.hid (below_then HB.out HB.out.size hb2)
  clear hb2 c0 c1
  go_wp2_with fail
  go_ret
  exact ⟨rfl, HB2.out⟩

set_option maxHeartbeats 1000000 in
theorem Name_some (g g2 : Nat) (r r2 : Int) (f : ByteArray) (w : World) (h0 : w.cell? ⟨g, 0, none⟩ = some (.pointer (some ⟨g2, 0, none⟩))) (h1 : w.cell? ⟨g, 1, none⟩ = some (.int .u32 r2)) (h2 : w.cell? ⟨g2, 2, none⟩ = some (.string f)) :
    Calls Tryd.prog 31 #[.agg #[.pointer (some ⟨g, 0, none⟩), .int .u32 r]] w fun e w' => e = .returned (.string f) ∧ Below w.heap.size w w' := by
  have k0 := cell_keep (below_new w (.cells #[.pointer (some ⟨g, 0, none⟩), .int .u32 r] 50)) h0
  have k1 := cell_keep (below_new w (.cells #[.pointer (some ⟨g, 0, none⟩), .int .u32 r] 50)) h1
  have k2 := Lib.hid (cell_keep (below_new w (.cells #[.pointer (some ⟨g, 0, none⟩), .int .u32 r] 50)) h2)
  clear h0 h1 h2
  go_enter Tryd.func31, Tryd.ntmps31
  go_wp2_with fail
  refine (BasePos_some g _).mono ?_
  rintro e w1 ⟨rfl, rfl⟩
  go_wp2_with fail
  refine (RelName_some g2 r2 f _ k2.out).mono ?_
  rintro e w2 ⟨rfl, hb2⟩
  have HB2 := Lib.hid (below_then (below_new w _) (by simp) hb2)
  clear hb2 k0 k1
  go_wp2_with fail
  go_ret
  exact ⟨rfl, HB2.out⟩
end Go.Proofs.YtlohgoedlkkicaaDoor
