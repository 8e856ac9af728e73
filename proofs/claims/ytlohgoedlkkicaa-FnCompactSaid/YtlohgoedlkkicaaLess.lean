/- The walk of the reference's Less. -/
import Derived.Test.YtlohgoedlkkicaaFile
import Derived.Test.YtlohgoedlkkicaaCmp
namespace Go.Proofs.Ytlohgoedlkkicaa
open Go.RowKit

def lessB (f g : ByteArray) (q1 q2 s1 s2 : Int) : Bool := if strEq f g then (if q1 = q2 then decide (s1 < s2) else decide (q1 < q2)) else strLt f g

set_option maxRecDepth 100000 in
set_option maxHeartbeats 4000000 in
theorem Less_any (A : Option Addr) (n c : Nat) (bs : List BaseD) (p1 q1 s1 p2 q2 s2 : Int) (w : World) (h : Bases w A n c bs) (hok : ∀ (i : Nat) (x : BaseD), bs[i]? = some x → BaseOk bs i x) (hp1 : p1 < n) (hp2 : p2 < n) (r : Bool) (hr : lessB (fileB bs p1) (fileB bs p2) q1 q2 s1 s2 = r) :
    Calls Try.prog 11 #[.slice A n c, .agg #[.int .i64 p1, .int .u64 q1, .int .u64 s1], .agg #[.int .i64 p2, .int .u64 q2, .int .u64 s2]] w fun e w' => e = .returned (.bool r) ∧ Below w.heap.size w w' := by
  obtain ⟨f1, hf1⟩ : ∃ f, fileB bs p1 = f := ⟨_, rfl⟩
  obtain ⟨f2, hf2⟩ : ∃ f, fileB bs p2 = f := ⟨_, rfl⟩
  obtain ⟨W, hW⟩ : ∃ W, W = (w.alloc (.cells #[.int .i64 p1, .int .u64 q1, .int .u64 s1] 25)).alloc (.cells #[.int .i64 p2, .int .u64 q2, .int .u64 s2] 25) := ⟨_, rfl⟩
  have hbW : Below w.heap.size w W := by rw [hW]; exact (below_new w _).trans ((below_new _ _).mono (by simp))
  have hX : Blk W w.heap.size 25 #[.int .i64 p1, .int .u64 q1, .int .u64 s1] := by rw [hW]; exact (Blk.new _ _ _).alloc _
  have hY : Blk W (w.heap.size + 1) 25 #[.int .i64 p2, .int .u64 q2, .int .u64 s2] := by rw [hW]; have := Blk.new (w.alloc (.cells #[.int .i64 p1, .int .u64 q1, .int .u64 s1] 25)) 25 #[.int .i64 p2, .int .u64 q2, .int .u64 s2]; rwa [World.size_alloc] at this
  have x0 := hX.cell 0
  have x1 := hX.cell 1
  have x2 := hX.cell 2
  have y0 := hY.cell 0
  have y1 := hY.cell 1
  have y2 := hY.cell 2
  simp only [List.getElem?_toArray, List.getElem?_cons_zero, List.getElem?_cons_succ] at x0 x1 x2 y0 y1 y2
  have k0 := cell_regrown x0
  have k1 := cell_regrown x1
  have k2 := cell_regrown x2
  have k3 := cell_regrown y0
  have k4 := cell_regrown y1
  have k5 := cell_regrown y2
  have HBW := Lib.hid hbW
  have cN1 : ∀ d os, Calls Try.prog 21 #[.slice A n c, .agg #[.int .i64 p1, .int .u64 q1, .int .u64 s1]] (Go.Sort.grow (redrawn W d) os) fun e w'' => e = .returned (.string f1) ∧ ∃ p : Regrown, w'' = Go.Sort.grow (redrawn W p.d) p.os := fun d os => Calls.regrown_of (File_any A n c bs p1 q1 s1 _ (h.keep (below_then HBW.out HBW.out.size (below_regrown W d os))) hok hp1 f1 hf1)
  have cN2 : ∀ d os, Calls Try.prog 21 #[.slice A n c, .agg #[.int .i64 p2, .int .u64 q2, .int .u64 s2]] (Go.Sort.grow (redrawn W d) os) fun e w'' => e = .returned (.string f2) ∧ ∃ p : Regrown, w'' = Go.Sort.grow (redrawn W p.d) p.os := fun d os => Calls.regrown_of (File_any A n c bs p2 q2 s2 _ (h.keep (below_then HBW.out HBW.out.size (below_regrown W d os))) hok hp2 f2 hf2)
  rw [hf1, hf2] at hr
  clear x0 x1 x2 y0 y1 y2 hX hY hbW h hok hf1 hf2 hp1 hp2
  cases h2 : (f1.toList == f2.toList) with
  | true =>
    by_cases h3 : q1 = q2
    · have h4 : (q1 != q2) = false := by rw [h3]; simp
      have HV : Hid (decide (s1 < s2) = r) := by
        show decide (s1 < s2) = r
        rw [← hr]; unfold lessB strEq; rw [h2, if_pos rfl, if_pos h3]
      clear h3 hr
      go_enter Try.func11, Try.ntmps11
      go_wp2_with fail
      rw [← hW]
      clear hW
      refine wp_region_quiet_below (by kernel_rfl) (by kernel_rfl) ?_
      repeat (go_big_quiet_step (first | with_reducible exact cN1 _ _ | with_reducible exact cN2 _ _))
      refine wpQuiet_nil ?_
      intro _ hw'
      obtain ⟨⟨dq, osq⟩, hw''⟩ := hw'
      subst hw''
      go_wp2
      go_ret
      exact ⟨ret_bool HV.out, below_then HBW.out HBW.out.size (below_regrown _ _ _)⟩
    · have h4 : (q1 != q2) = true := by rw [bne_iff_ne]; exact h3
      have HV : Hid (decide (q1 < q2) = r) := by
        show decide (q1 < q2) = r
        rw [← hr]; unfold lessB strEq; rw [h2, if_pos rfl, if_neg h3]
      clear h3 hr
      go_enter Try.func11, Try.ntmps11
      go_wp2_with fail
      rw [← hW]
      clear hW
      refine wp_region_quiet_below (by kernel_rfl) (by kernel_rfl) ?_
      repeat (go_big_quiet_step (first | with_reducible exact cN1 _ _ | with_reducible exact cN2 _ _))
      refine wpQuiet_nil ?_
      intro _ hw'
      obtain ⟨⟨dq, osq⟩, hw''⟩ := hw'
      subst hw''
      go_wp2
      go_ret
      exact ⟨ret_bool HV.out, below_then HBW.out HBW.out.size (below_regrown _ _ _)⟩
  | false =>
    have HV : Hid (Op.bytesLess f1.toList f2.toList = r) := by
      show Op.bytesLess f1.toList f2.toList = r
      rw [← hr]; unfold lessB strEq; rw [h2]; rfl
    clear hr
    go_enter Try.func11, Try.ntmps11
    go_wp2_with fail
    rw [← hW]
    clear hW
    refine wp_region_quiet_below (by kernel_rfl) (by kernel_rfl) ?_
    repeat (go_big_quiet_step (first | with_reducible exact cN1 _ _ | with_reducible exact cN2 _ _))
    refine wpQuiet_nil ?_
    intro _ hw'
    obtain ⟨⟨dq, osq⟩, hw''⟩ := hw'
    subst hw''
    go_wp2
    go_ret
    exact ⟨ret_bool HV.out, below_then HBW.out HBW.out.size (below_regrown _ _ _)⟩
end Go.Proofs.Ytlohgoedlkkicaa
