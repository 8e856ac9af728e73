/- The walks of the methods of compact positions. -/
import Derived.Test.YtlohgoedlkkicaaCmp
namespace Go.Proofs.Ytlohgoedlkkicaa
open Go.RowKit Go.Proofs.Ytlohgoedlkkicaa.Bits

def xLt (a1 l1 a2 l2 : Int) : Bool := decide (a1 < a2) || (decide (a1 = a2) && decide (l1 < l2))

set_option maxRecDepth 100000 in
set_option maxHeartbeats 4000000 in
theorem XBefore_any (a1 l1 a2 l2 : Int) (w : World) :
    Calls Try.prog 27 #[.agg #[.int .i32 a1, .int .u32 l1], .agg #[.int .i32 a2, .int .u32 l2]] w fun e w' => e = .returned (.bool (xLt a1 l1 a2 l2)) ∧ Below w.heap.size w w' := by
  obtain ⟨W, hW⟩ : ∃ W, W = (w.alloc (.cells #[.int .i32 a1, .int .u32 l1] 63)).alloc (.cells #[.int .i32 a2, .int .u32 l2] 63) := ⟨_, rfl⟩
  have hbW : Below w.heap.size w W := by rw [hW]; exact (below_new w _).trans ((below_new _ _).mono (by simp))
  have hX : Blk W w.heap.size 63 #[.int .i32 a1, .int .u32 l1] := by rw [hW]; exact (Blk.new _ _ _).alloc _
  have hY : Blk W (w.heap.size + 1) 63 #[.int .i32 a2, .int .u32 l2] := by rw [hW]; have := Blk.new (w.alloc (.cells #[.int .i32 a1, .int .u32 l1] 63)) 63 #[.int .i32 a2, .int .u32 l2]; rwa [World.size_alloc] at this
  have x0 := hX.cell 0
  have x1 := hX.cell 1
  have y0 := hY.cell 0
  have y1 := hY.cell 1
  simp only [List.getElem?_toArray, List.getElem?_cons_zero, List.getElem?_cons_succ] at x0 x1 y0 y1
  have k0 := cell_regrown x0
  have k1 := cell_regrown x1
  have k2 := cell_regrown y0
  have k3 := cell_regrown y1
  have HBW := Lib.hid hbW
  clear x0 x1 y0 y1 hX hY hbW
  by_cases h1 : a1 < a2
  · have HV : Hid (true = xLt a1 l1 a2 l2) := by show true = xLt a1 l1 a2 l2; unfold xLt; simp [h1]
    have d1 : decide (a1 < a2) = true := decide_eq_true h1
    clear h1
    go_enter Try.func27, Try.ntmps27
    go_wp2_with fail
    rw [← hW]
    clear hW
    refine wp_region_quiet_below (by kernel_rfl) (by kernel_rfl) ?_
    repeat (go_big_quiet_step (fail))
    refine wpQuiet_nil ?_
    intro _ hw'
    obtain ⟨⟨dq, osq⟩, hw''⟩ := hw'
    subst hw''
    go_wp2
    go_ret
    exact ⟨ret_bool HV.out, below_then HBW.out HBW.out.size (below_regrown _ _ _)⟩
  · have d1 : decide (a1 < a2) = false := decide_eq_false h1
    by_cases h2 : a1 = a2
    · subst h2
      have HV : Hid (decide (l1 < l2) = xLt a1 l1 a1 l2) := by show decide (l1 < l2) = xLt a1 l1 a1 l2; unfold xLt; simp
      clear h1
      go_enter Try.func27, Try.ntmps27
      go_wp2_with fail
      rw [← hW]
      clear hW
      refine wp_region_quiet_below (by kernel_rfl) (by kernel_rfl) ?_
      repeat (go_big_quiet_step (fail))
      refine wpQuiet_nil ?_
      intro _ hw'
      obtain ⟨⟨dq, osq⟩, hw''⟩ := hw'
      subst hw''
      go_wp2
      go_ret
      exact ⟨ret_bool HV.out, below_then HBW.out HBW.out.size (below_regrown _ _ _)⟩
    · have d2 : (a1 == a2) = false := by rw [beq_eq_false_iff_ne]; exact h2
      have HV : Hid (false = xLt a1 l1 a2 l2) := by show false = xLt a1 l1 a2 l2; unfold xLt; simp; omega
      clear h1 h2
      go_enter Try.func27, Try.ntmps27
      go_wp2_with fail
      rw [← hW]
      clear hW
      refine wp_region_quiet_below (by kernel_rfl) (by kernel_rfl) ?_
      repeat (go_big_quiet_step (fail))
      refine wpQuiet_nil ?_
      intro _ hw'
      obtain ⟨⟨dq, osq⟩, hw''⟩ := hw'
      subst hw''
      go_wp2
      go_ret
      exact ⟨ret_bool HV.out, below_then HBW.out HBW.out.size (below_regrown _ _ _)⟩
set_option maxRecDepth 100000 in
set_option maxHeartbeats 4000000 in
theorem XAfter_any (a1 l1 a2 l2 : Int) (w : World) :
    Calls Try.prog 28 #[.agg #[.int .i32 a1, .int .u32 l1], .agg #[.int .i32 a2, .int .u32 l2]] w fun e w' => e = .returned (.bool (xLt a2 l2 a1 l1)) ∧ Below w.heap.size w w' := by
  obtain ⟨W, hW⟩ : ∃ W, W = (w.alloc (.cells #[.int .i32 a1, .int .u32 l1] 63)).alloc (.cells #[.int .i32 a2, .int .u32 l2] 63) := ⟨_, rfl⟩
  have hbW : Below w.heap.size w W := by rw [hW]; exact (below_new w _).trans ((below_new _ _).mono (by simp))
  have hX : Blk W w.heap.size 63 #[.int .i32 a1, .int .u32 l1] := by rw [hW]; exact (Blk.new _ _ _).alloc _
  have hY : Blk W (w.heap.size + 1) 63 #[.int .i32 a2, .int .u32 l2] := by rw [hW]; have := Blk.new (w.alloc (.cells #[.int .i32 a1, .int .u32 l1] 63)) 63 #[.int .i32 a2, .int .u32 l2]; rwa [World.size_alloc] at this
  have x0 := hX.cell 0
  have x1 := hX.cell 1
  have y0 := hY.cell 0
  have y1 := hY.cell 1
  simp only [List.getElem?_toArray, List.getElem?_cons_zero, List.getElem?_cons_succ] at x0 x1 y0 y1
  have k0 := cell_regrown x0
  have k1 := cell_regrown x1
  have k2 := cell_regrown y0
  have k3 := cell_regrown y1
  have HBW := Lib.hid hbW
  clear x0 x1 y0 y1 hX hY hbW
  by_cases h1 : a2 < a1
  · have HV : Hid (true = xLt a2 l2 a1 l1) := by show true = xLt a2 l2 a1 l1; unfold xLt; simp [h1]
    have d1 : decide (a2 < a1) = true := decide_eq_true h1
    clear h1
    go_enter Try.func28, Try.ntmps28
    go_wp2_with fail
    rw [← hW]
    clear hW
    refine wp_region_quiet_below (by kernel_rfl) (by kernel_rfl) ?_
    repeat (go_big_quiet_step (fail))
    refine wpQuiet_nil ?_
    intro _ hw'
    obtain ⟨⟨dq, osq⟩, hw''⟩ := hw'
    subst hw''
    go_wp2
    go_ret
    exact ⟨ret_bool HV.out, below_then HBW.out HBW.out.size (below_regrown _ _ _)⟩
  · have d1 : decide (a2 < a1) = false := decide_eq_false h1
    by_cases h2 : a1 = a2
    · subst h2
      have HV : Hid (decide (l2 < l1) = xLt a1 l2 a1 l1) := by show decide (l2 < l1) = xLt a1 l2 a1 l1; unfold xLt; simp
      clear h1
      go_enter Try.func28, Try.ntmps28
      go_wp2_with fail
      rw [← hW]
      clear hW
      refine wp_region_quiet_below (by kernel_rfl) (by kernel_rfl) ?_
      repeat (go_big_quiet_step (fail))
      refine wpQuiet_nil ?_
      intro _ hw'
      obtain ⟨⟨dq, osq⟩, hw''⟩ := hw'
      subst hw''
      go_wp2
      go_ret
      exact ⟨ret_bool HV.out, below_then HBW.out HBW.out.size (below_regrown _ _ _)⟩
    · have d2 : (a1 == a2) = false := by rw [beq_eq_false_iff_ne]; exact h2
      have HV : Hid (false = xLt a2 l2 a1 l1) := by show false = xLt a2 l2 a1 l1; unfold xLt; simp; omega
      clear h1 h2
      go_enter Try.func28, Try.ntmps28
      go_wp2_with fail
      rw [← hW]
      clear hW
      refine wp_region_quiet_below (by kernel_rfl) (by kernel_rfl) ?_
      repeat (go_big_quiet_step (fail))
      refine wpQuiet_nil ?_
      intro _ hw'
      obtain ⟨⟨dq, osq⟩, hw''⟩ := hw'
      subst hw''
      go_wp2
      go_ret
      exact ⟨ret_bool HV.out, below_then HBW.out HBW.out.size (below_regrown _ _ _)⟩

/-- A word's line is a number of 20 bits. -/
theorem XLine_any (a r : Int) (w : World) (h0 : 0 ≤ a) (h1 : a < 4294967296) (hr : a / 4096 = r) : Calls Try.prog 29 #[.int .u32 a] w fun e w' => e = .returned (.int .u64 r) ∧ Below w.heap.size w w' := by
  refine (line_any a r w h0 h1 hr).mono ?_
  rintro e w' ⟨rfl, rfl⟩
  exact ⟨rfl, Below.refl _ _⟩

set_option maxHeartbeats 400000 in
theorem sameL_any (a b : Int) (w : World) (h0 : 0 ≤ a) (h1 : a < 4294967296) (h2 : 0 ≤ b) (h3 : b < 4294967296) :
    Calls Try.prog 39 #[.int .u32 a, .int .u32 b] w fun e w' => e = .returned (.bool (sameLineB a b)) ∧ w = w' := by
  go_enter Try.func39, Try.ntmps39
  go_wp2_with fail
  go_ret
  exact ⟨ret_bool (same_line a b h0 h1 h2 h3), rfl⟩

set_option maxHeartbeats 2000000 in
theorem XSame_any (a1 l1 a2 l2 : Int) (h0 : 0 ≤ l1) (h1 : l1 < 4294967296) (h2 : 0 ≤ l2) (h3 : l2 < 4294967296) : ∃ r : Bool, ∀ w, Calls Try.prog 30 #[.agg #[.int .i32 a1, .int .u32 l1], .agg #[.int .i32 a2, .int .u32 l2]] w fun e w' => e = .returned (.bool r) ∧ Below w.heap.size w w' := by
  by_cases h : a1 = a2
  · refine ⟨sameLineB l1 l2, fun w => ?_⟩
    subst h
    go_enter Try.func30, Try.ntmps30
    go_wp2_with fail
    refine (sameL_any l1 l2 _ h0 h1 h2 h3).mono ?_
    rintro e w1 ⟨rfl, rfl⟩
    go_wp2
    go_ret
    exact ⟨rfl, (below_new w _).trans ((below_new _ _).mono (by simp))⟩
  · refine ⟨false, fun w => ?_⟩
    have h' : (a1 == a2) = false := by rw [beq_eq_false_iff_ne]; exact h
    clear h
    go_enter Try.func30, Try.ntmps30
    go_wp2
    go_ret
    exact ⟨rfl, (below_new w _).trans ((below_new _ _).mono (by simp))⟩

set_option maxHeartbeats 2000000 in
theorem XKnown_any (a l : Int) (r : Bool) (w : World) (h0 : 0 ≤ l) (h1 : l < 4294967296) (hr : (a != 0 || (l / 4096 != 0)) = r) : Calls Try.prog 31 #[.agg #[.int .i32 a, .int .u32 l]] w fun e w' => e = .returned (.bool r) ∧ Below w.heap.size w w' := by
  by_cases h : a = 0
  · subst h
    have HR := Lib.hid hr
    clear hr
    go_enter Try.func31, Try.ntmps31
    go_wp2_with fail
    refine (line_any l (l / 4096) _ h0 h1 rfl).mono ?_
    rintro e w1 ⟨rfl, rfl⟩
    go_wp2
    go_ret
    exact ⟨ret_bool (by have := HR.out; simpa using this), below_new w _⟩
  · have h' : (a != 0) = true := by rw [bne_iff_ne]; exact h
    rw [h'] at hr
    have HR := Lib.hid hr
    clear hr h
    go_enter Try.func31, Try.ntmps31
    go_wp2
    go_ret
    exact ⟨ret_bool (by simpa using HR.out), below_new w _⟩
end Go.Proofs.Ytlohgoedlkkicaa
