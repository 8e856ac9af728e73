/- The walk of posOf. -/
import Derived.Test.YtlohgoedlkkicaaDoorMake
import Derived.Deep.RegionHeld3
namespace Go.Proofs.YtlohgoedlkkicaaDoor
open Go.RowKit Go.Proofs.YtlohgoedlkkicaaDoor.Bits

theorem drew_below {W w1 : World} (hb : Below W.drew.heap.size W.drew w1) : Below W.heap.size W w1 := ⟨hb.os, hb.tape, hb.output, hb.size, hb.block⟩

set_option maxHeartbeats 1000000 in
theorem posOf_none (V : Value) (p l c r : Int) (w : World) (hp : p < 0) (h0 : 0 ≤ l) (h2 : 0 ≤ c) (h4 : c < 18446744073709551616) (hr : wordOf l c = r) :
    Calls Tryd.prog 20 #[V, .agg #[.int .i64 p, .int .u64 l, .int .u64 c]] w fun e w' => e = .returned (.agg #[.pointer none, .int .u32 r]) ∧ Below w.heap.size w w' := by
  have HR := Lib.hid hr
  clear hr
  go_enter Tryd.func20, Tryd.ntmps20
  go_wp2_with fail
  refine (MakePos_any _ l c r _ h0 h2 h4 HR.out).mono ?_
  rintro e w1 ⟨rfl, hb⟩
  have hB := (Blk.new _ _ _).keep hb
  rw [World.size_alloc] at hB
  have c0 := hB.cell 0
  have c1 := hB.cell 1
  have z0 := hB.frozen 0
  have z1 := hB.frozen 1
  simp only [List.getElem?_toArray, List.getElem?_cons_zero, List.getElem?_cons_succ] at c0 c1
  have HK := Lib.hid ((hB.set_ 0 (.pointer none)).set_ 1 (.int .u32 r))
  have HB := Lib.hid (((below_new w _).trans ((below_new _ _).mono (by simp))).trans (hb.mono (by simp; omega)))
  clear hb hB
  go_wp2
  have e0 := HK.out.cell 0
  have e1 := HK.out.cell 1
  simp only [List.setIfInBounds_toArray, List.set_cons_zero, List.set_cons_succ, List.getElem?_toArray, List.getElem?_cons_zero, List.getElem?_cons_succ] at e0 e1
  exact bodyPost_ret (v := .agg #[.pointer none, .int .u32 r]) (by simp [results, Tryd.results20, go_sem, e0, e1]) rfl ⟨rfl, (HB.out.setCell (by simp) _).setCell (by simp) _⟩

set_option maxHeartbeats 4000000 in
theorem posOf_some (gb k cap m g : Nat) (l c r : Int) (w : World) (hm : m < k) (hc : w.cell? ⟨gb, m, none⟩ = some (.pointer (some ⟨g, 0, none⟩))) (h0 : 0 ≤ l) (h2 : 0 ≤ c) (h4 : c < 18446744073709551616) (hr : wordOf l c = r) :
    Calls Tryd.prog 20 #[.slice (some ⟨gb, 0, none⟩) k cap, .agg #[.int .i64 m, .int .u64 l, .int .u64 c]] w fun e w' => e = .returned (.agg #[.pointer (some ⟨g, 0, none⟩), .int .u32 r]) ∧ Below w.heap.size w w' := by
  have HR := Lib.hid hr
  clear hr
  have hm' : (m : Int) < (k : Int) := by omega
  have hm0 : (0 : Int) ≤ (m : Int) := by omega
  obtain ⟨W, hW⟩ : ∃ W, W = (w.alloc (.cells #[.int .i64 m, .int .u64 l, .int .u64 c] 25)).alloc (.cells #[.pointer none, .int .u32 0] 50) := ⟨_, rfl⟩
  have hbW : Below w.heap.size w W := by rw [hW]; exact (below_new w _).trans ((below_new _ _).mono (by simp))
  have hX : Blk W w.heap.size 25 #[.int .i64 m, .int .u64 l, .int .u64 c] := by rw [hW]; exact (Blk.new _ _ _).alloc _
  have hY : Blk W (w.heap.size + 1) 50 #[.pointer none, .int .u32 0] := by rw [hW]; have := Blk.new (w.alloc (.cells #[.int .i64 m, .int .u64 l, .int .u64 c] 25)) 50 #[.pointer none, .int .u32 0]; rwa [World.size_alloc] at this
  have e0 := hX.cell 0
  have e1 := hX.cell 1
  have e2 := hX.cell 2
  simp only [List.getElem?_toArray, List.getElem?_cons_zero, List.getElem?_cons_succ] at e0 e1 e2
  have e3 := cell_keep hbW hc
  have HY := Lib.hid hY
  have HBW := Lib.hid hbW
  have hgb0 : gb < w.heap.size := World.block_lt_of_cell? w ⟨gb, m, none⟩ hc
  have hgb : ¬ w.heap.size + 1 = gb := by omega
  clear hX hY hc
  go_enter Tryd.func20, Tryd.ntmps20
  go_wp2_with fail
  rw [← hW]
  clear hW
  go_region_held3 (fun w' => w'.cell? ⟨w.heap.size, 0, none⟩ = some (.int .i64 m) ∧ w'.cell? ⟨w.heap.size, 1, none⟩ = some (.int .u64 l) ∧ w'.cell? ⟨w.heap.size, 2, none⟩ = some (.int .u64 c) ∧ w'.cell? ⟨gb, m, none⟩ = some (.pointer (some ⟨g, 0, none⟩)))
    (first
      | (go_keep; done)
      | exact ⟨cell_keep hb' e0, cell_keep hb' e1, cell_keep hb' e2, cell_keep hb' e3⟩
      | ((try dsimp only); refine ⟨?_, ?_, ?_, ?_⟩ <;> (go_keep; done)))
    (first
      | (go_at_call 35
         refine (MakePos_any _ l c r _ h0 h2 h4 HR.out).mono ?_
         rintro e w1 ⟨rfl, hb⟩
         have hb' := drew_below hb
         have hB := HY.out.keep hb'
         have c0 := hB.cell 0
         have c1 := hB.cell 1
         have z0 := hB.frozen 0
         have z1 := hB.frozen 1
         simp only [List.getElem?_toArray, List.getElem?_cons_zero, List.getElem?_cons_succ] at c0 c1
         have HK := Lib.hid ((hB.set_ 0 (.pointer (some ⟨g, 0, none⟩))).set_ 1 (.int .u32 r))
         have HB := Lib.hid (below_then HBW.out HBW.out.size hb')
         clear hb hB))
  clear e0 e1 e2 e3 c0 c1 z0 z1
  go_wp2
  have f0 := HK.out.cell 0
  have f1 := HK.out.cell 1
  simp only [List.setIfInBounds_toArray, List.set_cons_zero, List.set_cons_succ, List.getElem?_toArray, List.getElem?_cons_zero, List.getElem?_cons_succ] at f0 f1
  exact bodyPost_ret (v := .agg #[.pointer (some ⟨g, 0, none⟩), .int .u32 r]) (by simp [results, Tryd.results20, go_sem, f0, f1]) rfl ⟨rfl, (HB.out.setCell (by simp) _).setCell (by simp) _⟩
end Go.Proofs.YtlohgoedlkkicaaDoor
