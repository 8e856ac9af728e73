/- What a position tells of its line and column: the walks of PosBase.Line, Col, AbsFilename and Pos.IsKnown. -/
import Derived.Test.YtlohgoedlkkicaaDoorPtr
import Derived.Test.YtlohgoedlkkicaaDoorName
import Derived.Lib.QuietBelow
import Derived.BigQuiet
namespace Go.Proofs.YtlohgoedlkkicaaDoor
open Go.RowKit Go.Proofs.YtlohgoedlkkicaaDoor.Bits

set_option maxHeartbeats 400000 in
theorem BaseLine_nil (w : World) : Calls Tryd.prog 41 #[.pointer none] w fun e w' => e = .returned (.int .u64 0) ∧ w' = w := by
  go_enter Tryd.func41, Tryd.ntmps41
  go_wp2
  go_ret
  exact ⟨rfl, rfl⟩
set_option maxHeartbeats 400000 in
theorem BaseLine_some (g : Nat) (l : Int) (w : World) (h : w.cell? ⟨g, 4, none⟩ = some (.int .u64 l)) : Calls Tryd.prog 41 #[.pointer (some ⟨g, 0, none⟩)] w fun e w' => e = .returned (.int .u64 l) ∧ w' = w := by
  go_enter Tryd.func41, Tryd.ntmps41
  go_wp2
  go_ret
  exact ⟨rfl, rfl⟩
set_option maxHeartbeats 400000 in
theorem BaseCol_nil (w : World) : Calls Tryd.prog 43 #[.pointer none] w fun e w' => e = .returned (.int .u64 0) ∧ w' = w := by
  go_enter Tryd.func43, Tryd.ntmps43
  go_wp2
  go_ret
  exact ⟨rfl, rfl⟩
set_option maxHeartbeats 400000 in
theorem BaseCol_some (g : Nat) (l : Int) (w : World) (h : w.cell? ⟨g, 5, none⟩ = some (.int .u64 l)) : Calls Tryd.prog 43 #[.pointer (some ⟨g, 0, none⟩)] w fun e w' => e = .returned (.int .u64 l) ∧ w' = w := by
  go_enter Tryd.func43, Tryd.ntmps43
  go_wp2
  go_ret
  exact ⟨rfl, rfl⟩

set_option maxHeartbeats 2000000 in
theorem IsKnown_any (p : Option Addr) (l : Int) (r : Bool) (w : World) (h0 : 0 ≤ l) (h1 : l < 4294967296) (hr : (p.isSome || (l / 4096 != 0)) = r) : Calls Tryd.prog 26 #[.agg #[.pointer p, .int .u32 l]] w fun e w' => e = .returned (.bool r) ∧ Below w.heap.size w w' := by
  cases p with
  | none =>
    have HR := Lib.hid hr
    clear hr
    go_enter Tryd.func26, Tryd.ntmps26
    go_wp2_with fail
    refine (line_any l (l / 4096) _ h0 h1 rfl).mono ?_
    rintro e w1 ⟨rfl, rfl⟩
    go_wp2
    go_ret
    exact ⟨ret_bool (by have := HR.out; simpa using this), below_new w _⟩
  | some a =>
    have HR := Lib.hid hr
    clear hr
    go_enter Tryd.func26, Tryd.ntmps26
    go_wp2
    go_ret
    exact ⟨ret_bool (by have := HR.out; simpa using this), below_new w _⟩

set_option maxHeartbeats 2000000 in
theorem RelLine_nil (l : Int) (w : World) : Calls Tryd.prog 29 #[.agg #[.pointer none, .int .u32 l]] w fun e w' => e = .returned (.int .u64 0) ∧ Below w.heap.size w w' := by
  go_enter Tryd.func29, Tryd.ntmps29
  go_wp2_with fail
  refine (BaseLine_nil _).mono ?_
  rintro e w1 ⟨rfl, rfl⟩
  go_wp2
  go_ret
  exact ⟨rfl, below_new w _⟩

set_option maxRecDepth 100000 in
set_option maxHeartbeats 4000000 in
theorem RelLine_some (g : Nat) (l l0 bl r : Int) (w : World) (h1 : w.cell? ⟨g, 1, none⟩ = some (.int .u32 l0)) (h4 : w.cell? ⟨g, 4, none⟩ = some (.int .u64 bl)) (a0 : 0 ≤ l) (a1 : l < 4294967296) (b0 : 0 ≤ l0) (b1 : l0 < 4294967296) (hbl : bl ≠ 0)
    (hr : IntKind.u64.wrap (bl + IntKind.u64.wrap (l / 4096 - l0 / 4096)) = r) : Calls Tryd.prog 29 #[.agg #[.pointer (some ⟨g, 0, none⟩), .int .u32 l]] w fun e w' => e = .returned (.int .u64 r) ∧ Below w.heap.size w w' := by
  obtain ⟨W, hW⟩ : ∃ W, W = w.alloc (.cells #[.pointer (some ⟨g, 0, none⟩), .int .u32 l] 50) := ⟨_, rfl⟩
  have hbW : Below w.heap.size w W := by rw [hW]; exact below_new w _
  have hX : Blk W w.heap.size 50 #[.pointer (some ⟨g, 0, none⟩), .int .u32 l] := by rw [hW]; exact Blk.new _ _ _
  have x0 := hX.cell 0
  have x1 := hX.cell 1
  simp only [List.getElem?_toArray, List.getElem?_cons_zero, List.getElem?_cons_succ] at x0 x1
  have e1 := cell_keep hbW h1
  have e4 := cell_keep hbW h4
  have k1 := cell_regrown x1
  have k2 := cell_regrown e1
  have HBW := Lib.hid hbW
  have HR := Lib.hid hr
  have hbl' : (bl == 0) = false := by rw [beq_eq_false_iff_ne]; exact hbl
  have cL : ∀ d os, Calls Tryd.prog 41 #[.pointer (some ⟨g, 0, none⟩)] (Go.Sort.grow (redrawn W d) os) fun e w'' => e = .returned (.int .u64 bl) ∧ ∃ p : Regrown, w'' = Go.Sort.grow (redrawn W p.d) p.os := fun d os => Calls.regrown_of ((BaseLine_some g bl _ (cell_regrown e4 d os)).mono (by rintro e w' ⟨rfl, rfl⟩; exact ⟨rfl, Below.refl _ _⟩))
  have cP : ∀ d os, Calls Tryd.prog 42 #[.pointer (some ⟨g, 0, none⟩)] (Go.Sort.grow (redrawn W d) os) fun e w'' => e = .returned (.pointer (some ⟨g, 0, none⟩)) ∧ ∃ p : Regrown, w'' = Go.Sort.grow (redrawn W p.d) p.os := fun d os => Calls.regrown_of ((BasePos_some g _).mono (by rintro e w' ⟨rfl, rfl⟩; exact ⟨rfl, Below.refl _ _⟩))
  have c1 : ∀ d os, Calls Tryd.prog 27 #[.int .u32 l] (Go.Sort.grow (redrawn W d) os) fun e w'' => e = .returned (.int .u64 (l / 4096)) ∧ ∃ p : Regrown, w'' = Go.Sort.grow (redrawn W p.d) p.os := fun d os => Calls.regrown_of ((line_any l (l / 4096) _ a0 a1 rfl).mono (by rintro e w' ⟨rfl, rfl⟩; exact ⟨rfl, Below.refl _ _⟩))
  have c2 : ∀ d os, Calls Tryd.prog 27 #[.int .u32 l0] (Go.Sort.grow (redrawn W d) os) fun e w'' => e = .returned (.int .u64 (l0 / 4096)) ∧ ∃ p : Regrown, w'' = Go.Sort.grow (redrawn W p.d) p.os := fun d os => Calls.regrown_of ((line_any l0 (l0 / 4096) _ b0 b1 rfl).mono (by rintro e w' ⟨rfl, rfl⟩; exact ⟨rfl, Below.refl _ _⟩))
  clear hr hbW hX h1 h4 e1 x1 a0 a1 b0 b1 hbl
  go_enter Tryd.func29, Tryd.ntmps29
  go_wp2_with fail
  rw [← hW]
  clear hW
  refine (BaseLine_some g bl _ e4).mono ?_
  rintro e w1 ⟨rfl, rfl⟩
  clear e4 x0
  go_wp2_with fail
  refine wp_region_quiet_below (by kernel_rfl) (by kernel_rfl) ?_
  repeat (go_big_quiet_step (first | with_reducible exact cL _ _ | with_reducible exact cP _ _ | with_reducible exact c1 _ _ | with_reducible exact c2 _ _))
  refine wpQuiet_nil ?_
  intro _ hw'
  obtain ⟨⟨dq, osq⟩, hw''⟩ := hw'
  subst hw''
  go_wp2
  go_ret
  exact ⟨ret_int HR.out, below_then HBW.out HBW.out.size (below_regrown _ _ _)⟩

set_option maxHeartbeats 2000000 in
theorem RelCol_nil (l : Int) (w : World) : Calls Tryd.prog 30 #[.agg #[.pointer none, .int .u32 l]] w fun e w' => e = .returned (.int .u64 0) ∧ Below w.heap.size w w' := by
  go_enter Tryd.func30, Tryd.ntmps30
  go_wp2_with fail
  refine (BaseCol_nil _).mono ?_
  rintro e w1 ⟨rfl, rfl⟩
  go_wp2
  go_ret
  exact ⟨rfl, below_new w _⟩
set_option maxHeartbeats 2000000 in
/-- The base tells no column. -/
theorem RelCol_zero (g : Nat) (l : Int) (w : World) (h5 : w.cell? ⟨g, 5, none⟩ = some (.int .u64 0)) : Calls Tryd.prog 30 #[.agg #[.pointer (some ⟨g, 0, none⟩), .int .u32 l]] w fun e w' => e = .returned (.int .u64 0) ∧ Below w.heap.size w w' := by
  have e5 := cell_keep (below_new w (.cells #[.pointer (some ⟨g, 0, none⟩), .int .u32 l] 50)) h5
  go_enter Tryd.func30, Tryd.ntmps30
  go_wp2_with fail
  refine (BaseCol_some g 0 _ e5).mono ?_
  rintro e w1 ⟨rfl, rfl⟩
  go_wp2
  go_ret
  exact ⟨rfl, below_new w _⟩

set_option maxRecDepth 100000 in
set_option maxHeartbeats 4000000 in
/-- On another line than the base's. -/
theorem RelCol_off (g : Nat) (l l0 bc r : Int) (w : World) (h1 : w.cell? ⟨g, 1, none⟩ = some (.int .u32 l0)) (h5 : w.cell? ⟨g, 5, none⟩ = some (.int .u64 bc)) (a0 : 0 ≤ l) (a1 : l < 4294967296) (b0 : 0 ≤ l0) (b1 : l0 < 4294967296) (hbc : bc ≠ 0) (hne : l / 4096 ≠ l0 / 4096) (hr : l / 16 % 256 = r) : Calls Tryd.prog 30 #[.agg #[.pointer (some ⟨g, 0, none⟩), .int .u32 l]] w fun e w' => e = .returned (.int .u64 r) ∧ Below w.heap.size w w' := by
  obtain ⟨W, hW⟩ : ∃ W, W = w.alloc (.cells #[.pointer (some ⟨g, 0, none⟩), .int .u32 l] 50) := ⟨_, rfl⟩
  have hbW : Below w.heap.size w W := by rw [hW]; exact below_new w _
  have hX : Blk W w.heap.size 50 #[.pointer (some ⟨g, 0, none⟩), .int .u32 l] := by rw [hW]; exact Blk.new _ _ _
  have x0 := hX.cell 0
  have x1 := hX.cell 1
  simp only [List.getElem?_toArray, List.getElem?_cons_zero, List.getElem?_cons_succ] at x0 x1
  have e1 := cell_keep hbW h1
  have e5 := cell_keep hbW h5
  have HBW := Lib.hid hbW
  have HR := Lib.hid hr
  have hbc' : (bc == 0) = false := by rw [beq_eq_false_iff_ne]; exact hbc
  have hne' : (l / 4096 == l0 / 4096) = false := by rw [beq_eq_false_iff_ne]; exact hne
  clear hr hbW hX h1 h5 hbc hne
  go_enter Tryd.func30, Tryd.ntmps30
  go_wp2_with fail
  rw [← hW]
  clear hW
  refine (BaseCol_some g bc _ e5).mono ?_
  rintro e w1 ⟨rfl, rfl⟩
  go_wp2_with fail
  refine (line_any l (l / 4096) _ a0 a1 rfl).mono ?_
  rintro e w1 ⟨rfl, rfl⟩
  go_wp2_with fail
  refine (BasePos_some g _).mono ?_
  rintro e w1 ⟨rfl, rfl⟩
  go_wp2_with fail
  refine (line_any l0 (l0 / 4096) _ b0 b1 rfl).mono ?_
  rintro e w1 ⟨rfl, rfl⟩
  go_wp2_with fail
  refine (col_any l (l / 16 % 256) _ a0 a1 rfl).mono ?_
  rintro e w1 ⟨rfl, rfl⟩
  go_wp2
  go_ret
  exact ⟨ret_int HR.out, HBW.out⟩

set_option maxRecDepth 100000 in
set_option maxHeartbeats 4000000 in
/-- On the base's own line. -/
theorem RelCol_on (g : Nat) (l l0 bc r : Int) (w : World) (h1 : w.cell? ⟨g, 1, none⟩ = some (.int .u32 l0)) (h5 : w.cell? ⟨g, 5, none⟩ = some (.int .u64 bc)) (a0 : 0 ≤ l) (a1 : l < 4294967296) (b0 : 0 ≤ l0) (b1 : l0 < 4294967296) (hbc : bc ≠ 0) (heq : l / 4096 = l0 / 4096) (hr : IntKind.u64.wrap (bc + IntKind.u64.wrap (l / 16 % 256 - l0 / 16 % 256)) = r) : Calls Tryd.prog 30 #[.agg #[.pointer (some ⟨g, 0, none⟩), .int .u32 l]] w fun e w' => e = .returned (.int .u64 r) ∧ Below w.heap.size w w' := by
  obtain ⟨W, hW⟩ : ∃ W, W = w.alloc (.cells #[.pointer (some ⟨g, 0, none⟩), .int .u32 l] 50) := ⟨_, rfl⟩
  have hbW : Below w.heap.size w W := by rw [hW]; exact below_new w _
  have hX : Blk W w.heap.size 50 #[.pointer (some ⟨g, 0, none⟩), .int .u32 l] := by rw [hW]; exact Blk.new _ _ _
  have x0 := hX.cell 0
  have x1 := hX.cell 1
  simp only [List.getElem?_toArray, List.getElem?_cons_zero, List.getElem?_cons_succ] at x0 x1
  have e1 := cell_keep hbW h1
  have e5 := cell_keep hbW h5
  have HBW := Lib.hid hbW
  have HR := Lib.hid hr
  have hbc' : (bc == 0) = false := by rw [beq_eq_false_iff_ne]; exact hbc
  have heq' : (l / 4096 == l0 / 4096) = true := by rw [beq_iff_eq]; exact heq
  have k1 := cell_regrown x1
  have k2 := cell_regrown e1
  have cL : ∀ d os, Calls Tryd.prog 43 #[.pointer (some ⟨g, 0, none⟩)] (Go.Sort.grow (redrawn W d) os) fun e w'' => e = .returned (.int .u64 bc) ∧ ∃ p : Regrown, w'' = Go.Sort.grow (redrawn W p.d) p.os := fun d os => Calls.regrown_of ((BaseCol_some g bc _ (cell_regrown e5 d os)).mono (by rintro e w' ⟨rfl, rfl⟩; exact ⟨rfl, Below.refl _ _⟩))
  have cP : ∀ d os, Calls Tryd.prog 42 #[.pointer (some ⟨g, 0, none⟩)] (Go.Sort.grow (redrawn W d) os) fun e w'' => e = .returned (.pointer (some ⟨g, 0, none⟩)) ∧ ∃ p : Regrown, w'' = Go.Sort.grow (redrawn W p.d) p.os := fun d os => Calls.regrown_of ((BasePos_some g _).mono (by rintro e w' ⟨rfl, rfl⟩; exact ⟨rfl, Below.refl _ _⟩))
  have c1 : ∀ d os, Calls Tryd.prog 28 #[.int .u32 l] (Go.Sort.grow (redrawn W d) os) fun e w'' => e = .returned (.int .u64 (l / 16 % 256)) ∧ ∃ p : Regrown, w'' = Go.Sort.grow (redrawn W p.d) p.os := fun d os => Calls.regrown_of ((col_any l (l / 16 % 256) _ a0 a1 rfl).mono (by rintro e w' ⟨rfl, rfl⟩; exact ⟨rfl, Below.refl _ _⟩))
  have c2 : ∀ d os, Calls Tryd.prog 28 #[.int .u32 l0] (Go.Sort.grow (redrawn W d) os) fun e w'' => e = .returned (.int .u64 (l0 / 16 % 256)) ∧ ∃ p : Regrown, w'' = Go.Sort.grow (redrawn W p.d) p.os := fun d os => Calls.regrown_of ((col_any l0 (l0 / 16 % 256) _ b0 b1 rfl).mono (by rintro e w' ⟨rfl, rfl⟩; exact ⟨rfl, Below.refl _ _⟩))
  clear hr hbW hX h1 h5 hbc heq
  go_enter Tryd.func30, Tryd.ntmps30
  go_wp2_with fail
  rw [← hW]
  clear hW
  refine (BaseCol_some g bc _ e5).mono ?_
  rintro e w1 ⟨rfl, rfl⟩
  go_wp2_with fail
  refine (line_any l (l / 4096) _ a0 a1 rfl).mono ?_
  rintro e w1 ⟨rfl, rfl⟩
  go_wp2_with fail
  refine (BasePos_some g _).mono ?_
  rintro e w1 ⟨rfl, rfl⟩
  go_wp2_with fail
  refine (line_any l0 (l0 / 4096) _ b0 b1 rfl).mono ?_
  rintro e w1 ⟨rfl, rfl⟩
  clear e5 e1 x0 x1 a0 a1 b0 b1
  go_wp2_with fail
  refine wp_region_quiet_below (by kernel_rfl) (by kernel_rfl) ?_
  repeat (go_big_quiet_step (first | with_reducible exact cL _ _ | with_reducible exact cP _ _ | with_reducible exact c1 _ _ | with_reducible exact c2 _ _))
  refine wpQuiet_nil ?_
  intro _ hw'
  obtain ⟨⟨dq, osq⟩, hw''⟩ := hw'
  subst hw''
  go_wp2
  go_ret
  exact ⟨ret_int HR.out, below_then HBW.out HBW.out.size (below_regrown _ _ _)⟩
end Go.Proofs.YtlohgoedlkkicaaDoor
