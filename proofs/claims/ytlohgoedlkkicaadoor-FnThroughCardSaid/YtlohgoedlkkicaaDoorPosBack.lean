/- The walk of PosTable.Pos: a compact position that is in the table comes back. -/
import Derived.Test.YtlohgoedlkkicaaDoorCompact
import Derived.Test.YtlohgoedlkkicaaDoorTail
import Derived.Lib.QuietBelow
import Derived.BigQuiet
namespace Go.Proofs.YtlohgoedlkkicaaDoor
open Go.RowKit Go.Proofs.YtlohgoedlkkicaaDoor.Bits

set_option maxRecDepth 100000 in
set_option maxHeartbeats 4000000 in
theorem PosBack_any {w0 w : World} {bs : List BaseD} {V : Value} {gs : List Nat} {tb : Nat} {reg : List Nat} {ns : List ByteArray} (hT : Tab w0 w bs V gs tb reg ns) (p r : Int) (hp : 0 ≤ p → p.toNat ∈ reg) :
    Calls Tryd.prog 25 #[ptrV tb, .agg #[.int .i32 (xIdx reg p), .int .u32 r]] w fun e w' => e = .returned (.agg #[.pointer (ptrA gs p), .int .u32 r]) ∧ Below w.heap.size w w' := by
  obtain ⟨i, hi⟩ : ∃ i : Int, i = xIdx reg p := ⟨_, rfl⟩
  rw [← hi]
  obtain ⟨W, hW⟩ : ∃ W, W = (w.alloc (.cells #[.int .i32 i, .int .u32 r] 63)).alloc (.cells #[.pointer none, .int .u32 0] 50) := ⟨_, rfl⟩
  have hbW : Below w.heap.size w W := by rw [hW]; exact (below_new w _).trans ((below_new _ _).mono (by simp))
  have hX : Blk W w.heap.size 63 #[.int .i32 i, .int .u32 r] := by rw [hW]; exact (Blk.new _ _ _).alloc _
  have hY : Blk W (w.heap.size + 1) 50 #[.pointer none, .int .u32 0] := by rw [hW]; have := Blk.new (w.alloc (.cells #[.int .i32 i, .int .u32 r] 63)) 50 #[.pointer none, .int .u32 0]; rwa [World.size_alloc] at this
  have x0 := hX.cell 0
  have x1 := hX.cell 1
  simp only [List.getElem?_toArray, List.getElem?_cons_zero, List.getElem?_cons_succ] at x0 x1
  have HBW := Lib.hid hbW
  have HX := Lib.hid hX
  have HY := Lib.hid hY
  have HT := Lib.hid (hT.keep hbW)
  clear hT
  by_cases h0 : p < 0
  · have e : ptrA gs p = none := by unfold ptrA; rw [if_pos h0]
    have ei : i = 0 := by rw [hi]; unfold xIdx; rw [if_pos h0]; rfl
    rw [e]
    subst ei
    clear hbW hX hY hi e
    go_enter Tryd.func25, Tryd.ntmps25
    go_wp2
    exact bodyPost_ret (v := .agg #[.pointer none, .int .u32 r]) (by simp [results, Tryd.results25, go_sem]) rfl ⟨rfl, (below_new w _).trans ((below_new _ _).mono (by simp))⟩
  · obtain ⟨m, rfl⟩ : ∃ m : Nat, p = m := ⟨p.toNat, by omega⟩
    have hm : m ∈ reg := by have := hp (by omega); rwa [Int.toNat_natCast] at this
    have hlt : reg.idxOf m < reg.length := List.idxOf_lt_length_of_mem hm
    have ei : i = ((reg.idxOf m + 1 : Nat) : Int) := by rw [hi]; unfold xIdx; rw [if_neg h0, Int.toNat_natCast]
    have e : ptrA gs (m : Int) = some ⟨gOf gs m, 0, none⟩ := by unfold ptrA gOf; rw [if_neg h0, Int.toNat_natCast]
    rw [e]
    rcases HT.out.tab with ⟨rfl, _⟩ | ⟨_, v, b1, b2, D, hB, hO, _⟩
    · simp at hm
    obtain ⟨g, cap, rfl, _, hglt⟩ := hO.form (by omega)
    have q0 := hB.cell 0
    have q1 := hO.cellAt (reg.idxOf m + 1) (by omega)
    have eq1 : (Value.pointer none :: reg.map fun i => ptrV (gOf gs i))[reg.idxOf m + 1]? = some (ptrV (gOf gs m)) := by
      rw [List.getElem?_cons_succ, List.getElem?_map, List.getElem?_eq_getElem hlt, Option.map_some, List.getElem_idxOf hlt]
    rw [eq1] at q1
    simp only [List.getElem?_toArray, List.getElem?_cons_zero] at q0
    obtain ⟨k, hk⟩ : ∃ k : Nat, k = reg.idxOf m + 1 := ⟨_, rfl⟩
    rw [← hk] at q1 ei
    subst ei
    have hk1 : ((k : Int) != 0) = true := by rw [bne_iff_ne]; omega
    have hk2 : (k : Int) < ((reg.length + 1 : Nat) : Int) := by omega
    have hk3 : k < reg.length + 1 := by omega
    have hk0 : (0 : Int) ≤ (k : Int) := by omega
    clear hbW hX hY hi e hB hO hm hlt hk eq1 hp h0
    have k0 := cell_regrown x0
    have k1 := cell_regrown x1
    have k2 := cell_regrown q0
    have k3 := cell_regrown q1
    go_enter Tryd.func25, Tryd.ntmps25
    go_wp2_with fail
    rw [← hW]
    clear hW
    go_wp2_with fail
    refine wp_region_quiet_below (by kernel_rfl) (by kernel_rfl) ?_
    repeat (go_big_quiet_step (fail))
    refine wpQuiet_nil ?_
    intro _ hw'
    obtain ⟨⟨dq, osq⟩, hw''⟩ := hw'
    subst hw''
    have hR := HY.out.keep (below_regrown W dq osq)
    have hXr := HX.out.keep (below_regrown W dq osq)
    have HBr := Lib.hid (below_then HBW.out HBW.out.size (below_regrown W dq osq))
    have c0 := hR.cell 0
    have c1 := hR.cell 1
    have z0 := hR.frozen 0
    have z1 := hR.frozen 1
    have y1 := hXr.cell 1
    simp only [List.getElem?_toArray, List.getElem?_cons_zero, List.getElem?_cons_succ] at c0 c1 y1
    have HK := Lib.hid ((hR.set_ 0 (.pointer (some ⟨gOf gs m, 0, none⟩))).set_ 1 (.int .u32 r))
    clear hR hXr k0 k1 k2 k3 x0 x1 q0 q1
    go_wp2
    have f0 := HK.out.cell 0
    have f1 := HK.out.cell 1
    simp only [List.setIfInBounds_toArray, List.set_cons_zero, List.set_cons_succ, List.getElem?_toArray, List.getElem?_cons_zero, List.getElem?_cons_succ] at f0 f1
    exact bodyPost_ret (v := .agg #[.pointer (some ⟨gOf gs m, 0, none⟩), .int .u32 r]) (by simp [results, Tryd.results25, go_sem, f0, f1]) rfl ⟨rfl, (HBr.out.setCell (by simp) _).setCell (by simp) _⟩
end Go.Proofs.YtlohgoedlkkicaaDoor
