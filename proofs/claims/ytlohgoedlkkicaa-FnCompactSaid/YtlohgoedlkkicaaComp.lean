/- The walk of Compact. -/
import Derived.Test.YtlohgoedlkkicaaCompact
import Derived.Test.YtlohgoedlkkicaaXMeth
import Derived.Test.YtlohgoedlkkicaaTail
namespace Go.Proofs.Ytlohgoedlkkicaa
open Go.RowKit Go.Proofs.Ytlohgoedlkkicaa.Bits

def orderV (a1 l1 a2 l2 : Int) (b : Bool) : Value := .agg #[.bool (xLt a1 l1 a2 l2), .bool (xLt a2 l2 a1 l1), .bool (l1 / 4096 == l2 / 4096), .bool b, .bool (a1 != 0 || (l1 / 4096 != 0)), .bool (a2 != 0 || (l2 / 4096 != 0))]
def CompPost (w : World) (p1 p2 : PosD) (e : Ending) (w' : World) : Prop :=
  ∃ (reg : List Nat) (b : Bool), e = .returned (orderV (xIdx reg p1.base) (wordOf p1.line p1.col) (xIdx reg p2.base) (wordOf p2.line p2.col) b) ∧ (0 ≤ p1.base → p1.base.toNat ∈ reg) ∧ (0 ≤ p2.base → p2.base.toNat ∈ reg) ∧ Below w.heap.size w w'

theorem flat_at {reg : List Nat} : ∀ {ps : List PosD} {i : Nat} {p : PosD}, ps[i]? = some p → (flat reg ps)[i * 2]? = some (.int .i32 (xIdx reg p.base)) ∧ (flat reg ps)[i * 2 + 1]? = some (.int .u32 (wordOf p.line p.col))
  | [], i, p, h => by simp at h
  | x :: xs, 0, p, h => by
    have e : x = p := by simpa using h
    subst e
    exact ⟨rfl, rfl⟩
  | x :: xs, i + 1, p, h => by
    have ih := flat_at (reg := reg) (ps := xs) (i := i) (p := p) (by simpa using h)
    have e : flat reg (x :: xs) = xval reg x ++ flat reg xs := by unfold flat; rw [List.flatMap_cons]
    rw [e, show (i + 1) * 2 = i * 2 + 2 by omega]
    exact ih

set_option maxRecDepth 100000 in
set_option maxHeartbeats 8000000 in
theorem Compact_any (A : Option Addr) (n c : Nat) (bs : List BaseD) (A2 : Option Addr) (m c2 : Nat) (ps : List PosD) (i k : Nat) (p1 p2 : PosD) (w : World) (h : Bases w A n c bs) (h2 : Poss w A2 m ps) (hn : n ≤ 2147483647) (hm : m ≤ 2147483647) (hok : Okay bs ps) (hi : ps[i]? = some p1) (hk : ps[k]? = some p2) :
    Calls Try.prog 15 #[.slice A n c, .slice A2 m c2, .int .i64 i, .int .i64 k] w (CompPost w p1 p2) := by
  have hl2 := h2.len
  have him : i < m := by have := (List.getElem?_eq_some_iff.1 hi).1; omega
  have hkm : k < m := by have := (List.getElem?_eq_some_iff.1 hk).1; omega
  have f1 := posFine_spec (hok.2 i p1 hi)
  have f2 := posFine_spec (hok.2 k p2 hk)
  have g1 := h2.good i p1 hi
  have g2 := h2.good k p2 hk
  obtain ⟨l1, hl1⟩ : ∃ l, l = wordOf p1.line p1.col := ⟨_, rfl⟩
  obtain ⟨l2, hl2'⟩ : ∃ l, l = wordOf p2.line p2.col := ⟨_, rfl⟩
  have b1 := wordOf_in p1.line p1.col g1.l0 g1.c0
  have b2 := wordOf_in p2.line p2.col g2.l0 g2.c0
  rw [← hl1] at b1
  rw [← hl2'] at b2
  obtain ⟨b10, b11⟩ := b1
  obtain ⟨b20, b21⟩ := b2
  have HI := Lib.hid hi
  have HK := Lib.hid hk
  have HL1 := Lib.hid hl1
  have HL2 := Lib.hid hl2'
  obtain ⟨W, hW⟩ : ∃ W, W = w.alloc (.cells #[.bool false, .bool false, .bool false, .bool false, .bool false, .bool false] 39) := ⟨_, rfl⟩
  have hbW : Below w.heap.size w W := by rw [hW]; exact below_new _ _
  have hX : Blk W w.heap.size 39 #[.bool false, .bool false, .bool false, .bool false, .bool false, .bool false] := by rw [hW]; exact Blk.new _ _ _
  have HX := Lib.hid hX
  have HBW := Lib.hid hbW
  have H := Lib.hid h
  have H2 := Lib.hid h2
  have HOK := Lib.hid hok
  clear hi hk f1 f2 g1 g2 hl1 hl2' hX hbW h h2 hok
  go_enter Try.func15, Try.ntmps15
  go_wp2_with fail
  rw [← hW]
  clear hW
  refine (compact_any A n c bs A2 m c2 ps _ (H.out.keep HBW.out) (H2.out.keep HBW.out) hn hm HOK.out).mono ?_
  rintro e w1 ⟨V, vo, gs, tb, reg, ns, rfl, hT, hmem, hO⟩
  obtain ⟨g, cap, rfl, _, hglt⟩ := hO.form (by omega)
  have q1 := hO.cellAt (i * 2) (by omega)
  have q2 := hO.cellAt (i * 2 + 1) (by omega)
  have q3 := hO.cellAt (k * 2) (by omega)
  have q4 := hO.cellAt (k * 2 + 1) (by omega)
  rw [(flat_at HI.out).1] at q1
  rw [(flat_at HI.out).2] at q2
  rw [(flat_at HK.out).1] at q3
  rw [(flat_at HK.out).2] at q4
  have HM1 : Hid (0 ≤ p1.base → p1.base.toNat ∈ reg) := Lib.hid (fun h0 => hmem p1 (List.mem_of_getElem? HI.out) h0)
  have HM2 : Hid (0 ≤ p2.base → p2.base.toNat ∈ reg) := Lib.hid (fun h0 => hmem p2 (List.mem_of_getElem? HK.out) h0)
  obtain ⟨a1, ha1⟩ : ∃ a : Int, a = xIdx reg p1.base := ⟨_, rfl⟩
  obtain ⟨a2, ha2⟩ : ∃ a : Int, a = xIdx reg p2.base := ⟨_, rfl⟩
  rw [← ha1] at q1
  rw [← HL1.out] at q2
  rw [← ha2] at q3
  rw [← HL2.out] at q4
  have HA1 := Lib.hid ha1
  have HA2 := Lib.hid ha2
  have HT := Lib.hid hT.below
  have hX1 := HX.out.keep hT.below
  have HX1 := Lib.hid hX1
  clear hT hmem hO ha1 ha2 hX1
  have him' : (i : Int) < (m : Int) := by omega
  have hkm' : (k : Int) < (m : Int) := by omega
  go_wp2_with fail
  have n1 : ¬ w1.heap.size = g := by omega
  have n2 : ¬ w1.heap.size + 1 = g := by omega
  go_region_held3 (fun w' => w'.cell? ⟨g, i * 2, none⟩ = some (.int .i32 a1) ∧ w'.cell? ⟨g, i * 2 + 1, none⟩ = some (.int .u32 l1) ∧ w'.cell? ⟨g, k * 2, none⟩ = some (.int .i32 a2) ∧ w'.cell? ⟨g, k * 2 + 1, none⟩ = some (.int .u32 l2))
    (first
      | (go_keep; done)
      | fail)
    (first
      | fail)
  · obtain ⟨M, hM⟩ : ∃ M, M = ((w1.alloc (.cells #[.int .i32 a1, .int .u32 l1] 63)).alloc (.cells #[.int .i32 a2, .int .u32 l2] 63)).drew := ⟨_, rfl⟩
    rw [← hM]
    have hbM : Below w1.heap.size w1 M := by rw [hM]; exact (below_new w1 _).trans (((below_new _ _).mono (by simp)).trans ⟨rfl, rfl, rfl, Nat.le_refl _, fun _ _ => rfl⟩)
    have bX : Blk M (w1.heap.size) 63 #[.int .i32 a1, .int .u32 l1] := by rw [hM]; exact Blk.drew ((Blk.new w1 63 #[.int .i32 a1, .int .u32 l1]).alloc _)
    have bY : Blk M (w1.heap.size + 1) 63 #[.int .i32 a2, .int .u32 l2] := by rw [hM]; have := Blk.new (w1.alloc (.cells #[.int .i32 a1, .int .u32 l1] 63)) 63 #[.int .i32 a2, .int .u32 l2]; rw [World.size_alloc] at this; exact Blk.drew this
    have bR := HX1.out.keep hbM
    have x0 := bX.cell 0
    have x1 := bX.cell 1
    have y0 := bY.cell 0
    have y1 := bY.cell 1
    simp only [List.getElem?_toArray, List.getElem?_cons_zero, List.getElem?_cons_succ] at x0 x1 y0 y1
    have k0 := cell_regrown x0
    have k1 := cell_regrown x1
    have k2 := cell_regrown y0
    have k3 := cell_regrown y1
    have HR := Lib.hid bR
    have HBM := Lib.hid (below_then HBW.out HBW.out.size (below_then HT.out HT.out.size hbM))
    obtain ⟨bb, hbb⟩ := XSame_any a1 l1 a2 l2 b10 b11 b20 b21
    have cB : ∀ d os, Calls Try.prog 27 #[.agg #[.int .i32 a1, .int .u32 l1], .agg #[.int .i32 a2, .int .u32 l2]] (Go.Sort.grow (redrawn M d) os) fun e w'' => e = .returned (.bool (xLt a1 l1 a2 l2)) ∧ ∃ p : Regrown, w'' = Go.Sort.grow (redrawn M p.d) p.os := fun d os => Calls.regrown_of (XBefore_any a1 l1 a2 l2 _)
    have cA : ∀ d os, Calls Try.prog 28 #[.agg #[.int .i32 a1, .int .u32 l1], .agg #[.int .i32 a2, .int .u32 l2]] (Go.Sort.grow (redrawn M d) os) fun e w'' => e = .returned (.bool (xLt a2 l2 a1 l1)) ∧ ∃ p : Regrown, w'' = Go.Sort.grow (redrawn M p.d) p.os := fun d os => Calls.regrown_of (XAfter_any a1 l1 a2 l2 _)
    have cL1 : ∀ d os, Calls Try.prog 29 #[.int .u32 l1] (Go.Sort.grow (redrawn M d) os) fun e w'' => e = .returned (.int .u64 (l1 / 4096)) ∧ ∃ p : Regrown, w'' = Go.Sort.grow (redrawn M p.d) p.os := fun d os => Calls.regrown_of (XLine_any l1 _ _ b10 b11 rfl)
    have cL2 : ∀ d os, Calls Try.prog 29 #[.int .u32 l2] (Go.Sort.grow (redrawn M d) os) fun e w'' => e = .returned (.int .u64 (l2 / 4096)) ∧ ∃ p : Regrown, w'' = Go.Sort.grow (redrawn M p.d) p.os := fun d os => Calls.regrown_of (XLine_any l2 _ _ b20 b21 rfl)
    have cS : ∀ d os, Calls Try.prog 30 #[.agg #[.int .i32 a1, .int .u32 l1], .agg #[.int .i32 a2, .int .u32 l2]] (Go.Sort.grow (redrawn M d) os) fun e w'' => e = .returned (.bool bb) ∧ ∃ p : Regrown, w'' = Go.Sort.grow (redrawn M p.d) p.os := fun d os => Calls.regrown_of (hbb _)
    have cK1 : ∀ d os, Calls Try.prog 31 #[.agg #[.int .i32 a1, .int .u32 l1]] (Go.Sort.grow (redrawn M d) os) fun e w'' => e = .returned (.bool (a1 != 0 || (l1 / 4096 != 0))) ∧ ∃ p : Regrown, w'' = Go.Sort.grow (redrawn M p.d) p.os := fun d os => Calls.regrown_of (XKnown_any a1 l1 _ _ b10 b11 rfl)
    have cK2 : ∀ d os, Calls Try.prog 31 #[.agg #[.int .i32 a2, .int .u32 l2]] (Go.Sort.grow (redrawn M d) os) fun e w'' => e = .returned (.bool (a2 != 0 || (l2 / 4096 != 0))) ∧ ∃ p : Regrown, w'' = Go.Sort.grow (redrawn M p.d) p.os := fun d os => Calls.regrown_of (XKnown_any a2 l2 _ _ b20 b21 rfl)
    clear hM bX bY bR hbM q1 q2 q3 q4 n1 n2 hglt hbb x0 x1 y0 y1 b10 b11 b20 b21
    go_wp2_with fail
    refine region_below_last 22 (by kernel_rfl) (by kernel_rfl) ?_
    simp only [List.take_succ_cons, List.take_zero, List.drop_succ_cons, List.drop_zero]
    repeat (go_big_quiet_step (first | with_reducible exact cB _ _ | with_reducible exact cA _ _ | with_reducible exact cL1 _ _ | with_reducible exact cL2 _ _ | with_reducible exact cS _ _ | with_reducible exact cK1 _ _ | with_reducible exact cK2 _ _))
    refine wpQuiet_nil ?_
    intro _ hw'
    obtain ⟨⟨dq, osq⟩, hw''⟩ := hw'
    subst hw''
    have hR := HR.out.keep (below_regrown M dq osq)
    have r0 := hR.cell 0
    have r1 := hR.cell 1
    have r2 := hR.cell 2
    have r3 := hR.cell 3
    have r4 := hR.cell 4
    have r5 := hR.cell 5
    have z0 := hR.frozen 0
    have z1 := hR.frozen 1
    have z2 := hR.frozen 2
    have z3 := hR.frozen 3
    have z4 := hR.frozen 4
    have z5 := hR.frozen 5
    simp only [List.getElem?_toArray, List.getElem?_cons_zero, List.getElem?_cons_succ] at r0 r1 r2 r3 r4 r5
    have HRR := Lib.hid hR
    have HBB := Lib.hid (below_then HBM.out HBM.out.size (below_regrown M dq osq))
    clear hR cB cA cL1 cL2 cS cK1 cK2 k0 k1 k2 k3
    go_wp2
    have hK := (((((HRR.out.set_ 0 (.bool (xLt a1 l1 a2 l2))).set_ 1 (.bool (xLt a2 l2 a1 l1))).set_ 2 (.bool (l1 / 4096 == l2 / 4096))).set_ 3 (.bool bb)).set_ 4 (.bool (a1 != 0 || (l1 / 4096 != 0)))).set_ 5 (.bool (a2 != 0 || (l2 / 4096 != 0)))
    have f0 := hK.cell 0
    have f1 := hK.cell 1
    have f2 := hK.cell 2
    have f3 := hK.cell 3
    have f4 := hK.cell 4
    have f5 := hK.cell 5
    simp only [List.setIfInBounds_toArray, List.set_cons_zero, List.set_cons_succ, List.getElem?_toArray, List.getElem?_cons_zero, List.getElem?_cons_succ] at f0 f1 f2 f3 f4 f5
    refine bodyPost_ret (v := orderV a1 l1 a2 l2 bb) (by simp [results, Try.results15, go_sem, orderV, f0, f1, f2, f3, f4, f5]) rfl ⟨reg, bb, by rw [← HL1.out, ← HL2.out, ← HA1.out, ← HA2.out], HM1.out, HM2.out, ?_⟩
    exact (((((HBB.out.setCell (by simp) _).setCell (by simp) _).setCell (by simp) _).setCell (by simp) _).setCell (by simp) _).setCell (by simp) _
  · obtain ⟨M, hM⟩ : ∃ M, M = ((w1.alloc (.cells #[.int .i32 a2, .int .u32 l2] 63)).alloc (.cells #[.int .i32 a1, .int .u32 l1] 63)).drew := ⟨_, rfl⟩
    rw [← hM]
    have hbM : Below w1.heap.size w1 M := by rw [hM]; exact (below_new w1 _).trans (((below_new _ _).mono (by simp)).trans ⟨rfl, rfl, rfl, Nat.le_refl _, fun _ _ => rfl⟩)
    have bX : Blk M (w1.heap.size + 1) 63 #[.int .i32 a1, .int .u32 l1] := by rw [hM]; have := Blk.new (w1.alloc (.cells #[.int .i32 a2, .int .u32 l2] 63)) 63 #[.int .i32 a1, .int .u32 l1]; rw [World.size_alloc] at this; exact Blk.drew this
    have bY : Blk M (w1.heap.size) 63 #[.int .i32 a2, .int .u32 l2] := by rw [hM]; exact Blk.drew ((Blk.new w1 63 #[.int .i32 a2, .int .u32 l2]).alloc _)
    have bR := HX1.out.keep hbM
    have x0 := bX.cell 0
    have x1 := bX.cell 1
    have y0 := bY.cell 0
    have y1 := bY.cell 1
    simp only [List.getElem?_toArray, List.getElem?_cons_zero, List.getElem?_cons_succ] at x0 x1 y0 y1
    have k0 := cell_regrown x0
    have k1 := cell_regrown x1
    have k2 := cell_regrown y0
    have k3 := cell_regrown y1
    have HR := Lib.hid bR
    have HBM := Lib.hid (below_then HBW.out HBW.out.size (below_then HT.out HT.out.size hbM))
    obtain ⟨bb, hbb⟩ := XSame_any a1 l1 a2 l2 b10 b11 b20 b21
    have cB : ∀ d os, Calls Try.prog 27 #[.agg #[.int .i32 a1, .int .u32 l1], .agg #[.int .i32 a2, .int .u32 l2]] (Go.Sort.grow (redrawn M d) os) fun e w'' => e = .returned (.bool (xLt a1 l1 a2 l2)) ∧ ∃ p : Regrown, w'' = Go.Sort.grow (redrawn M p.d) p.os := fun d os => Calls.regrown_of (XBefore_any a1 l1 a2 l2 _)
    have cA : ∀ d os, Calls Try.prog 28 #[.agg #[.int .i32 a1, .int .u32 l1], .agg #[.int .i32 a2, .int .u32 l2]] (Go.Sort.grow (redrawn M d) os) fun e w'' => e = .returned (.bool (xLt a2 l2 a1 l1)) ∧ ∃ p : Regrown, w'' = Go.Sort.grow (redrawn M p.d) p.os := fun d os => Calls.regrown_of (XAfter_any a1 l1 a2 l2 _)
    have cL1 : ∀ d os, Calls Try.prog 29 #[.int .u32 l1] (Go.Sort.grow (redrawn M d) os) fun e w'' => e = .returned (.int .u64 (l1 / 4096)) ∧ ∃ p : Regrown, w'' = Go.Sort.grow (redrawn M p.d) p.os := fun d os => Calls.regrown_of (XLine_any l1 _ _ b10 b11 rfl)
    have cL2 : ∀ d os, Calls Try.prog 29 #[.int .u32 l2] (Go.Sort.grow (redrawn M d) os) fun e w'' => e = .returned (.int .u64 (l2 / 4096)) ∧ ∃ p : Regrown, w'' = Go.Sort.grow (redrawn M p.d) p.os := fun d os => Calls.regrown_of (XLine_any l2 _ _ b20 b21 rfl)
    have cS : ∀ d os, Calls Try.prog 30 #[.agg #[.int .i32 a1, .int .u32 l1], .agg #[.int .i32 a2, .int .u32 l2]] (Go.Sort.grow (redrawn M d) os) fun e w'' => e = .returned (.bool bb) ∧ ∃ p : Regrown, w'' = Go.Sort.grow (redrawn M p.d) p.os := fun d os => Calls.regrown_of (hbb _)
    have cK1 : ∀ d os, Calls Try.prog 31 #[.agg #[.int .i32 a1, .int .u32 l1]] (Go.Sort.grow (redrawn M d) os) fun e w'' => e = .returned (.bool (a1 != 0 || (l1 / 4096 != 0))) ∧ ∃ p : Regrown, w'' = Go.Sort.grow (redrawn M p.d) p.os := fun d os => Calls.regrown_of (XKnown_any a1 l1 _ _ b10 b11 rfl)
    have cK2 : ∀ d os, Calls Try.prog 31 #[.agg #[.int .i32 a2, .int .u32 l2]] (Go.Sort.grow (redrawn M d) os) fun e w'' => e = .returned (.bool (a2 != 0 || (l2 / 4096 != 0))) ∧ ∃ p : Regrown, w'' = Go.Sort.grow (redrawn M p.d) p.os := fun d os => Calls.regrown_of (XKnown_any a2 l2 _ _ b20 b21 rfl)
    clear hM bX bY bR hbM q1 q2 q3 q4 n1 n2 hglt hbb x0 x1 y0 y1 b10 b11 b20 b21
    go_wp2_with fail
    refine region_below_last 22 (by kernel_rfl) (by kernel_rfl) ?_
    simp only [List.take_succ_cons, List.take_zero, List.drop_succ_cons, List.drop_zero]
    repeat (go_big_quiet_step (first | with_reducible exact cB _ _ | with_reducible exact cA _ _ | with_reducible exact cL1 _ _ | with_reducible exact cL2 _ _ | with_reducible exact cS _ _ | with_reducible exact cK1 _ _ | with_reducible exact cK2 _ _))
    refine wpQuiet_nil ?_
    intro _ hw'
    obtain ⟨⟨dq, osq⟩, hw''⟩ := hw'
    subst hw''
    have hR := HR.out.keep (below_regrown M dq osq)
    have r0 := hR.cell 0
    have r1 := hR.cell 1
    have r2 := hR.cell 2
    have r3 := hR.cell 3
    have r4 := hR.cell 4
    have r5 := hR.cell 5
    have z0 := hR.frozen 0
    have z1 := hR.frozen 1
    have z2 := hR.frozen 2
    have z3 := hR.frozen 3
    have z4 := hR.frozen 4
    have z5 := hR.frozen 5
    simp only [List.getElem?_toArray, List.getElem?_cons_zero, List.getElem?_cons_succ] at r0 r1 r2 r3 r4 r5
    have HRR := Lib.hid hR
    have HBB := Lib.hid (below_then HBM.out HBM.out.size (below_regrown M dq osq))
    clear hR cB cA cL1 cL2 cS cK1 cK2 k0 k1 k2 k3
    go_wp2
    have hK := (((((HRR.out.set_ 0 (.bool (xLt a1 l1 a2 l2))).set_ 1 (.bool (xLt a2 l2 a1 l1))).set_ 2 (.bool (l1 / 4096 == l2 / 4096))).set_ 3 (.bool bb)).set_ 4 (.bool (a1 != 0 || (l1 / 4096 != 0)))).set_ 5 (.bool (a2 != 0 || (l2 / 4096 != 0)))
    have f0 := hK.cell 0
    have f1 := hK.cell 1
    have f2 := hK.cell 2
    have f3 := hK.cell 3
    have f4 := hK.cell 4
    have f5 := hK.cell 5
    simp only [List.setIfInBounds_toArray, List.set_cons_zero, List.set_cons_succ, List.getElem?_toArray, List.getElem?_cons_zero, List.getElem?_cons_succ] at f0 f1 f2 f3 f4 f5
    refine bodyPost_ret (v := orderV a1 l1 a2 l2 bb) (by simp [results, Try.results15, go_sem, orderV, f0, f1, f2, f3, f4, f5]) rfl ⟨reg, bb, by rw [← HL1.out, ← HL2.out, ← HA1.out, ← HA2.out], HM1.out, HM2.out, ?_⟩
    exact (((((HBB.out.setCell (by simp) _).setCell (by simp) _).setCell (by simp) _).setCell (by simp) _).setCell (by simp) _).setCell (by simp) _
end Go.Proofs.Ytlohgoedlkkicaa
