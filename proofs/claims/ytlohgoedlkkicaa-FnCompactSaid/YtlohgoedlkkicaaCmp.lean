/- The walks of Before and After of two positions. -/
import Derived.Test.YtlohgoedlkkicaaName
import Derived.Lib.QuietBelow
import Derived.BigQuiet
namespace Go.Proofs.Ytlohgoedlkkicaa
open Go.RowKit Go.Proofs.Ytlohgoedlkkicaa.Bits

/-- In every later world the value's Filename is f. -/
def Named (w : World) (v : Value) (f : ByteArray) : Prop :=
  ∀ W, Below w.heap.size w W → Calls Try.prog 35 #[v] W fun e w' => e = .returned (.string f) ∧ Below W.heap.size W w'
theorem Named.keep {w w' : World} {v : Value} {f : ByteArray} (h : Named w v f) (hb : Below w.heap.size w w') : Named w' v f :=
  fun _ hW => h _ (below_then hb hb.size hW)
theorem named_none (w : World) (r : Int) : Named w (.agg #[.pointer none, .int .u32 r]) ⟨#[]⟩ := fun W _ => Name_none r W
theorem named_some {w : World} {g g2 : Nat} {r2 : Int} {f : ByteArray} (r : Int) (h0 : w.cell? ⟨g, 0, none⟩ = some (.pointer (some ⟨g2, 0, none⟩))) (h1 : w.cell? ⟨g, 1, none⟩ = some (.int .u32 r2)) (h2 : w.cell? ⟨g2, 2, none⟩ = some (.string f)) :
    Named w (.agg #[.pointer (some ⟨g, 0, none⟩), .int .u32 r]) f :=
  fun W hW => Name_some g g2 r r2 f W (cell_keep hW h0) (cell_keep hW h1) (cell_keep hW h2)

def strLt (a b : ByteArray) : Bool := Op.bytesLess a.toList b.toList
def strEq (a b : ByteArray) : Bool := a.toList == b.toList
def posLt (a b : ByteArray) (l m : Int) : Bool := strLt a b || (strEq a b && decide (l < m))
def posGt (a b : ByteArray) (l m : Int) : Bool := !(strLt a b || strEq a b) || (strEq a b && decide (m < l))

set_option maxRecDepth 100000 in
set_option maxHeartbeats 4000000 in
theorem PosBefore_any (P1 P2 : Option Addr) (r1 r2 : Int) (f1 f2 : ByteArray) (w : World) (hN1 : Named w (.agg #[.pointer P1, .int .u32 r1]) f1) (hN2 : Named w (.agg #[.pointer P2, .int .u32 r2]) f2) :
    Calls Try.prog 20 #[.agg #[.pointer P1, .int .u32 r1], .agg #[.pointer P2, .int .u32 r2]] w fun e w' => e = .returned (.bool (posLt f1 f2 r1 r2)) ∧ Below w.heap.size w w' := by
  obtain ⟨W, hW⟩ : ∃ W, W = (w.alloc (.cells #[.pointer P1, .int .u32 r1] 50)).alloc (.cells #[.pointer P2, .int .u32 r2] 50) := ⟨_, rfl⟩
  have hbW : Below w.heap.size w W := by rw [hW]; exact (below_new w _).trans ((below_new _ _).mono (by simp))
  have hX : Blk W w.heap.size 50 #[.pointer P1, .int .u32 r1] := by rw [hW]; exact (Blk.new _ _ _).alloc _
  have hY : Blk W (w.heap.size + 1) 50 #[.pointer P2, .int .u32 r2] := by rw [hW]; have := Blk.new (w.alloc (.cells #[.pointer P1, .int .u32 r1] 50)) 50 #[.pointer P2, .int .u32 r2]; rwa [World.size_alloc] at this
  have x0 := hX.cell 0
  have x1 := hX.cell 1
  have y0 := hY.cell 0
  have y1 := hY.cell 1
  simp only [List.getElem?_toArray, List.getElem?_cons_zero, List.getElem?_cons_succ] at x0 x1 y0 y1
  have k0 := cell_regrown x0
  have k1 := cell_regrown x1
  have k2 := cell_regrown y0
  have k3 := cell_regrown y1
  have HBW := Lib.hid hbW
  have cN1 : ∀ d os, Calls Try.prog 35 #[.agg #[.pointer P1, .int .u32 r1]] (Go.Sort.grow (redrawn W d) os) fun e w'' => e = .returned (.string f1) ∧ ∃ p : Regrown, w'' = Go.Sort.grow (redrawn W p.d) p.os := fun d os => Calls.regrown_of (hN1 _ (below_then HBW.out HBW.out.size (below_regrown W d os)))
  have cN2 : ∀ d os, Calls Try.prog 35 #[.agg #[.pointer P2, .int .u32 r2]] (Go.Sort.grow (redrawn W d) os) fun e w'' => e = .returned (.string f2) ∧ ∃ p : Regrown, w'' = Go.Sort.grow (redrawn W p.d) p.os := fun d os => Calls.regrown_of (hN2 _ (below_then HBW.out HBW.out.size (below_regrown W d os)))
  clear x0 x1 y0 y1 hX hY hbW hN1 hN2
  cases h1 : Op.bytesLess f1.toList f2.toList with
  | true =>
    have HV : Hid (true = posLt f1 f2 r1 r2) := by show true = posLt f1 f2 r1 r2; unfold posLt strLt; rw [h1]; rfl
    go_enter Try.func20, Try.ntmps20
    go_wp2_with fail
    rw [← hW]
    clear hW
    refine wp_region_quiet_below (by kernel_rfl) (by kernel_rfl) ?_
    repeat (go_big_quiet_step (first | with_reducible exact cN1 _ _ | with_reducible exact cN2 _ _))
    refine wpQuiet_nil ?_
    intro _ hw'
    obtain ⟨⟨dq, osq⟩, hw''⟩ := hw'
    subst hw''
    go_wp2
    go_ret
    exact ⟨ret_bool HV.out, below_then HBW.out HBW.out.size (below_regrown _ _ _)⟩
  | false =>
    cases h2 : (f1.toList == f2.toList) with
    | true =>
      have HV : Hid (decide (r1 < r2) = posLt f1 f2 r1 r2) := by show decide (r1 < r2) = posLt f1 f2 r1 r2; unfold posLt strLt strEq; rw [h1, h2]; rfl
      go_enter Try.func20, Try.ntmps20
      go_wp2_with fail
      rw [← hW]
      clear hW
      refine wp_region_quiet_below (by kernel_rfl) (by kernel_rfl) ?_
      repeat (go_big_quiet_step (first | with_reducible exact cN1 _ _ | with_reducible exact cN2 _ _))
      refine wpQuiet_nil ?_
      intro _ hw'
      obtain ⟨⟨dq, osq⟩, hw''⟩ := hw'
      subst hw''
      go_wp2
      go_ret
      exact ⟨ret_bool HV.out, below_then HBW.out HBW.out.size (below_regrown _ _ _)⟩
    | false =>
      have HV : Hid (false = posLt f1 f2 r1 r2) := by show false = posLt f1 f2 r1 r2; unfold posLt strLt strEq; rw [h1, h2]; rfl
      go_enter Try.func20, Try.ntmps20
      go_wp2_with fail
      rw [← hW]
      clear hW
      refine wp_region_quiet_below (by kernel_rfl) (by kernel_rfl) ?_
      repeat (go_big_quiet_step (first | with_reducible exact cN1 _ _ | with_reducible exact cN2 _ _))
      refine wpQuiet_nil ?_
      intro _ hw'
      obtain ⟨⟨dq, osq⟩, hw''⟩ := hw'
      subst hw''
      go_wp2
      go_ret
      exact ⟨ret_bool HV.out, below_then HBW.out HBW.out.size (below_regrown _ _ _)⟩

set_option maxRecDepth 100000 in
set_option maxHeartbeats 4000000 in
theorem PosAfter_any (P1 P2 : Option Addr) (r1 r2 : Int) (f1 f2 : ByteArray) (w : World) (hN1 : Named w (.agg #[.pointer P1, .int .u32 r1]) f1) (hN2 : Named w (.agg #[.pointer P2, .int .u32 r2]) f2) :
    Calls Try.prog 22 #[.agg #[.pointer P1, .int .u32 r1], .agg #[.pointer P2, .int .u32 r2]] w fun e w' => e = .returned (.bool (posGt f1 f2 r1 r2)) ∧ Below w.heap.size w w' := by
  obtain ⟨W, hW⟩ : ∃ W, W = (w.alloc (.cells #[.pointer P1, .int .u32 r1] 50)).alloc (.cells #[.pointer P2, .int .u32 r2] 50) := ⟨_, rfl⟩
  have hbW : Below w.heap.size w W := by rw [hW]; exact (below_new w _).trans ((below_new _ _).mono (by simp))
  have hX : Blk W w.heap.size 50 #[.pointer P1, .int .u32 r1] := by rw [hW]; exact (Blk.new _ _ _).alloc _
  have hY : Blk W (w.heap.size + 1) 50 #[.pointer P2, .int .u32 r2] := by rw [hW]; have := Blk.new (w.alloc (.cells #[.pointer P1, .int .u32 r1] 50)) 50 #[.pointer P2, .int .u32 r2]; rwa [World.size_alloc] at this
  have x0 := hX.cell 0
  have x1 := hX.cell 1
  have y0 := hY.cell 0
  have y1 := hY.cell 1
  simp only [List.getElem?_toArray, List.getElem?_cons_zero, List.getElem?_cons_succ] at x0 x1 y0 y1
  have k0 := cell_regrown x0
  have k1 := cell_regrown x1
  have k2 := cell_regrown y0
  have k3 := cell_regrown y1
  have HBW := Lib.hid hbW
  have cN1 : ∀ d os, Calls Try.prog 35 #[.agg #[.pointer P1, .int .u32 r1]] (Go.Sort.grow (redrawn W d) os) fun e w'' => e = .returned (.string f1) ∧ ∃ p : Regrown, w'' = Go.Sort.grow (redrawn W p.d) p.os := fun d os => Calls.regrown_of (hN1 _ (below_then HBW.out HBW.out.size (below_regrown W d os)))
  have cN2 : ∀ d os, Calls Try.prog 35 #[.agg #[.pointer P2, .int .u32 r2]] (Go.Sort.grow (redrawn W d) os) fun e w'' => e = .returned (.string f2) ∧ ∃ p : Regrown, w'' = Go.Sort.grow (redrawn W p.d) p.os := fun d os => Calls.regrown_of (hN2 _ (below_then HBW.out HBW.out.size (below_regrown W d os)))
  clear x0 x1 y0 y1 hX hY hbW hN1 hN2
  cases h1 : Op.bytesLess f1.toList f2.toList with
  | true =>
    have h3 : (!(Op.bytesLess f1.toList f2.toList || f1.toList == f2.toList)) = false := by rw [h1]; rfl
    cases h2 : (f1.toList == f2.toList) with
    | true =>
      have HV : Hid (decide (r2 < r1) = posGt f1 f2 r1 r2) := by show decide (r2 < r1) = posGt f1 f2 r1 r2; unfold posGt strLt strEq; rw [h1, h2]; rfl
      go_enter Try.func22, Try.ntmps22
      go_wp2_with fail
      rw [← hW]
      clear hW
      refine wp_region_quiet_below (by kernel_rfl) (by kernel_rfl) ?_
      repeat (go_big_quiet_step (first | with_reducible exact cN1 _ _ | with_reducible exact cN2 _ _))
      refine wpQuiet_nil ?_
      intro _ hw'
      obtain ⟨⟨dq, osq⟩, hw''⟩ := hw'
      subst hw''
      go_wp2
      go_ret
      exact ⟨ret_bool HV.out, below_then HBW.out HBW.out.size (below_regrown _ _ _)⟩
    | false =>
      have HV : Hid (false = posGt f1 f2 r1 r2) := by show false = posGt f1 f2 r1 r2; unfold posGt strLt strEq; rw [h1, h2]; rfl
      go_enter Try.func22, Try.ntmps22
      go_wp2_with fail
      rw [← hW]
      clear hW
      refine wp_region_quiet_below (by kernel_rfl) (by kernel_rfl) ?_
      repeat (go_big_quiet_step (first | with_reducible exact cN1 _ _ | with_reducible exact cN2 _ _))
      refine wpQuiet_nil ?_
      intro _ hw'
      obtain ⟨⟨dq, osq⟩, hw''⟩ := hw'
      subst hw''
      go_wp2
      go_ret
      exact ⟨ret_bool HV.out, below_then HBW.out HBW.out.size (below_regrown _ _ _)⟩
  | false =>
    cases h2 : (f1.toList == f2.toList) with
    | true =>
      have HV : Hid (decide (r2 < r1) = posGt f1 f2 r1 r2) := by show decide (r2 < r1) = posGt f1 f2 r1 r2; unfold posGt strLt strEq; rw [h1, h2]; rfl
      go_enter Try.func22, Try.ntmps22
      go_wp2_with fail
      rw [← hW]
      clear hW
      refine wp_region_quiet_below (by kernel_rfl) (by kernel_rfl) ?_
      repeat (go_big_quiet_step (first | with_reducible exact cN1 _ _ | with_reducible exact cN2 _ _))
      refine wpQuiet_nil ?_
      intro _ hw'
      obtain ⟨⟨dq, osq⟩, hw''⟩ := hw'
      subst hw''
      go_wp2
      go_ret
      exact ⟨ret_bool HV.out, below_then HBW.out HBW.out.size (below_regrown _ _ _)⟩
    | false =>
      have HV : Hid (true = posGt f1 f2 r1 r2) := by show true = posGt f1 f2 r1 r2; unfold posGt strLt strEq; rw [h1, h2]; rfl
      go_enter Try.func22, Try.ntmps22
      go_wp2_with fail
      rw [← hW]
      clear hW
      refine wp_region_quiet_below (by kernel_rfl) (by kernel_rfl) ?_
      repeat (go_big_quiet_step (first | with_reducible exact cN1 _ _ | with_reducible exact cN2 _ _))
      refine wpQuiet_nil ?_
      intro _ hw'
      obtain ⟨⟨dq, osq⟩, hw''⟩ := hw'
      subst hw''
      go_wp2
      go_ret
      exact ⟨ret_bool HV.out, below_then HBW.out HBW.out.size (below_regrown _ _ _)⟩

end Go.Proofs.Ytlohgoedlkkicaa
