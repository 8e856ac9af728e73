/- For all bases and positions that the reference calls valid: compact positions of one base come before one another as the positions do, have the same line as these have, and are known if these are; no condition. -/
import Derived.Test.YtlohgoedlkkicaaRows
import Derived.Test.YtlohgoedlkkicaaComp
import Derived.Test.YtlohgoedlkkicaaOrder
import Derived.Test.YtlohgoedlkkicaaFits
import Derived.Test.YtlohgoedlkkicaaValid
import Derived.Test.YtlohgoedlkkicaaOpen
import Derived.WalkKit
import Derived.ProofKit
import Derived.OpenShut
import Derived.ShutString
import Derived.ChangeOld
import Derived.Below
import Derived.SizedLaws
namespace Go.Proofs.Ytlohgoedlkkicaa
open Go.RowKit Go.Proofs.Ytlohgoedlkkicaa.Bits

/-- A comparison whose run is known, in a region that is quiet in a class of worlds. -/
theorem quiet_bin {P : Program} {ops : Array Oper} {C : World → Prop} {Q : Act → Prop} {rest : List Oper} {o : Oper} {a : Act} {op : BinOp} {t t' : TypeId} {l r : Operand} (x y z : Value) (hw : Region.wanted o (yielded ops a.tmps) = true) (hop : o.op = Op.binOp op t l r t') (hl : a.eval l = x) (hr : a.eval r = y)
    (hg : ∀ w, (eqGuard op t l r x y).run P w = .ok () w) (hrun : ∀ w, (binOp op t x y).run P w = .ok z w) (h : wpQuiet P ops C Q rest (a.put o.dst z)) : wpQuiet P ops C Q (o :: rest) a := by
  show if Region.wanted o (yielded ops a.tmps) then o.quiet P a C (wpQuiet P ops C Q rest) else wpQuiet P ops C Q rest (a.put o.dst undef)
  rw [if_pos hw]
  refine ⟨z, fun w _ => ?_, h⟩
  unfold Oper.quietAt
  have e : (execOp a.eval o).run P w = .ok (.value z) w := by simp [execOp, hop, hl, hr, hg, hrun, Result.andThen]
  rw [e]
  exact ⟨rfl, rfl⟩
theorem eqArr (x y : Bool) (w : World) : (binOp .eql 37 (.agg #[.bool x, .bool y]) (.agg #[.bool x, .bool y])).run Try.prog w = .ok (.bool true) w := by
  cases x <;> cases y <;> kernel_rfl
theorem compact_less {p : Int} {q1 s1 q2 s2 : Int} (bs : List BaseD) (a : Int) (h1 : 0 ≤ q1) (h2 : q1 ≤ 1000000) (h3 : 0 ≤ s1) (h4 : s1 ≤ 250) (g1 : 0 ≤ q2) (g2 : q2 ≤ 1000000) (g3 : 0 ≤ s2) (g4 : s2 ≤ 250) :
    xLt a (wordOf q1 s1) a (wordOf q2 s2) = lessB (fileB bs p) (fileB bs p) q1 q2 s1 s2 := by
  rw [wordOf_plain q1 s1 (by omega) (by omega), wordOf_plain q2 s2 (by omega) (by omega)]
  unfold xLt lessB strEq
  rw [if_pos (by simp)]
  simp only [Int.lt_irrefl, decide_false, Bool.false_or, decide_true, Bool.true_and]
  by_cases h : q1 = q2
  · rw [if_pos h]
    exact decide_eq_decide.2 (by omega)
  · rw [if_neg h]
    exact decide_eq_decide.2 (by omega)
theorem compact_line {q1 s1 q2 s2 : Int} (h1 : 0 ≤ q1) (h2 : q1 ≤ 1000000) (h3 : 0 ≤ s1) (h4 : s1 ≤ 250) (g1 : 0 ≤ q2) (g2 : q2 ≤ 1000000) (g3 : 0 ≤ s2) (g4 : s2 ≤ 250) :
    (wordOf q1 s1 / 4096 == wordOf q2 s2 / 4096) = (q1 == q2) := by
  rw [wordOf_plain q1 s1 (by omega) (by omega), wordOf_plain q2 s2 (by omega) (by omega)]
  rw [Bool.eq_iff_iff, beq_iff_eq, beq_iff_eq]
  omega
theorem compact_known {reg : List Nat} {p q s : Int} (h1 : 0 ≤ q) (h2 : q ≤ 1000000) (h3 : 0 ≤ s) (h4 : s ≤ 250) :
    ((xIdx reg p : Int) != 0 || (wordOf q s / 4096 != 0)) = (decide (0 ≤ p) || decide (0 < q)) := by
  rw [wordOf_plain q s (by omega) (by omega)]
  have e : (q * 4096 + s * 16) / 4096 = q := by omega
  rw [e]
  unfold xIdx
  by_cases hp : p < 0
  · rw [if_pos hp]
    have hp2 : decide (0 ≤ p) = false := decide_eq_false (by omega)
    rw [hp2]
    rw [Bool.eq_iff_iff]
    simp
    omega
  · rw [if_neg hp]
    have hp2 : decide (0 ≤ p) = true := decide_eq_true (by omega)
    rw [hp2]
    rw [Bool.eq_iff_iff]
    simp
    omega

set_option maxRecDepth 100000 in
set_option maxHeartbeats 8000000 in
theorem fnCompact_any (A : Option Addr) (n c : Nat) (bs : List BaseD) (A2 : Option Addr) (m c2 : Nat) (ps : List PosD) (i k : Int) (w : World) (h : Bases w A n c bs) (h2 : Poss w A2 m ps) (_ : -9223372036854775808 ≤ i) (_ : i ≤ 9223372036854775807) (_ : -9223372036854775808 ≤ k) (_ : k ≤ 9223372036854775807) :
    Calls Try.prog 6 #[.slice A n c, .slice A2 m c2, .int .i64 i, .int .i64 k] w fun e w' => e = .returned (.bool true) ∧ Below w.heap.size w w' := by
  have H := Lib.hid h
  have H2 := Lib.hid h2
  have hl := h.len
  have hl2 := h2.len
  clear h h2
  go_enter Try.func6, Try.ntmps6
  go_wp2_with fail
  refine (fits1_any A n c bs _ H.out).mono ?_
  rintro e w1 ⟨r, rfl, hr, hb1⟩
  have HR1 := Lib.hid hr
  have HB1 := Lib.hid hb1
  clear hr hb1
  cases r with
  | false =>
    go_wp2
    go_ret
    exact ⟨rfl, HB1.out⟩
  | true =>
    have hfit : Hid (FitsAll bs) := HR1.out rfl
    have hn : n ≤ 2147483647 := by have := hfit.out.1; rw [hl] at this; exact this
    clear HR1
    by_cases hm : m ≤ 2147483647
    · have hm' : decide ((2147483647 : Int) < (m : Int)) = false := decide_eq_false (by omega)
      obtain ⟨vb, hvb⟩ : ∃ b : Bool, (b = true ↔ Okay bs ps) := by
        by_cases ho : Okay bs ps
        · exact ⟨true, iff_of_true rfl ho⟩
        · exact ⟨false, iff_of_false (by decide) ho⟩
      have cV : ∀ d os, Calls Try.prog 9 #[.slice A n c, .slice A2 m c2] (Go.Sort.grow (redrawn w1 d) os) fun e w'' => e = .returned (.bool vb) ∧ ∃ p : Regrown, w'' = Go.Sort.grow (redrawn w1 p.d) p.os := fun d os => by
        refine Calls.regrown_of ((valid_iff A n c bs A2 m c2 ps _ ((H.out.keep HB1.out).keep (below_regrown w1 d os)) ((H2.out.keep HB1.out).keep (below_regrown w1 d os))).mono ?_)
        rintro e w2 ⟨r, rfl, hr, hb⟩
        have e : r = vb := by rw [Bool.eq_iff_iff, hr, hvb]
        rw [e]
        exact ⟨rfl, hb⟩
      have HVB := Lib.hid hvb
      clear hvb
      go_wp2_with fail
      by_cases h1 : i < 0
      · have d1 : decide (i < 0) = true := decide_eq_true h1
        clear h1
        go_wp2_with fail
        refine wp_region_quiet_below (by kernel_rfl) (by kernel_rfl) ?_
        repeat (go_big_quiet_step (first | with_reducible exact cV _ _))
        refine wpQuiet_nil ?_
        intro _ hw'
        obtain ⟨⟨dq, osq⟩, hw''⟩ := hw'
        subst hw''
        go_wp2
        go_ret
        exact ⟨rfl, below_then HB1.out HB1.out.size (below_regrown _ _ _)⟩
      · have d1 : decide (i < 0) = false := decide_eq_false h1
        by_cases h2 : k < 0
        · have d2 : decide (k < 0) = true := decide_eq_true h2
          clear h1 h2
          go_wp2_with fail
          refine wp_region_quiet_below (by kernel_rfl) (by kernel_rfl) ?_
          repeat (go_big_quiet_step (first | with_reducible exact cV _ _))
          refine wpQuiet_nil ?_
          intro _ hw'
          obtain ⟨⟨dq, osq⟩, hw''⟩ := hw'
          subst hw''
          go_wp2
          go_ret
          exact ⟨rfl, below_then HB1.out HB1.out.size (below_regrown _ _ _)⟩
        · have d2 : decide (k < 0) = false := decide_eq_false h2
          by_cases h3 : (m : Int) ≤ i
          · have d3 : decide ((m : Int) ≤ i) = true := decide_eq_true h3
            clear h1 h2 h3
            go_wp2_with fail
            refine wp_region_quiet_below (by kernel_rfl) (by kernel_rfl) ?_
            repeat (go_big_quiet_step (first | with_reducible exact cV _ _))
            refine wpQuiet_nil ?_
            intro _ hw'
            obtain ⟨⟨dq, osq⟩, hw''⟩ := hw'
            subst hw''
            go_wp2
            go_ret
            exact ⟨rfl, below_then HB1.out HB1.out.size (below_regrown _ _ _)⟩
          · have d3 : decide ((m : Int) ≤ i) = false := decide_eq_false h3
            by_cases h4 : (m : Int) ≤ k
            · have d4 : decide ((m : Int) ≤ k) = true := decide_eq_true h4
              clear h1 h2 h3 h4
              go_wp2_with fail
              refine wp_region_quiet_below (by kernel_rfl) (by kernel_rfl) ?_
              repeat (go_big_quiet_step (first | with_reducible exact cV _ _))
              refine wpQuiet_nil ?_
              intro _ hw'
              obtain ⟨⟨dq, osq⟩, hw''⟩ := hw'
              subst hw''
              go_wp2
              go_ret
              exact ⟨rfl, below_then HB1.out HB1.out.size (below_regrown _ _ _)⟩
            · have d4 : decide ((m : Int) ≤ k) = false := decide_eq_false h4
              cases vb with
              | false =>
                clear h1 h2 h3 h4
                go_wp2_with fail
                refine wp_region_quiet_below (by kernel_rfl) (by kernel_rfl) ?_
                repeat (go_big_quiet_step (first | with_reducible exact cV _ _))
                refine wpQuiet_nil ?_
                intro _ hw'
                obtain ⟨⟨dq, osq⟩, hw''⟩ := hw'
                subst hw''
                go_wp2
                go_ret
                exact ⟨rfl, below_then HB1.out HB1.out.size (below_regrown _ _ _)⟩
              | true =>
                have HOK := Lib.hid (HVB.out.1 rfl)
                obtain ⟨i, rfl⟩ : ∃ i' : Nat, i = i' := ⟨i.toNat, by omega⟩
                obtain ⟨k, rfl⟩ : ∃ k' : Nat, k = k' := ⟨k.toNat, by omega⟩
                have hi : i < m := by omega
                have hk : k < m := by omega
                have hi' : (i : Int) < (m : Int) := by omega
                have hk' : (k : Int) < (m : Int) := by omega
                have hi0 : (0 : Int) ≤ (i : Int) := by omega
                have hk0 : (0 : Int) ≤ (k : Int) := by omega
                have d3n : decide (m ≤ i) = false := decide_eq_false (by omega)
                have d4n : decide (m ≤ k) = false := decide_eq_false (by omega)
                clear h1 h2 h3 h4
                obtain ⟨b, o, rfl, hx⟩ := H2.out.lies (by omega)
                obtain ⟨x1, hxi⟩ : ∃ x, ps[i]? = some x := ⟨ps[i], List.getElem?_eq_getElem (by omega)⟩
                obtain ⟨x2, hxk⟩ : ∃ x, ps[k]? = some x := ⟨ps[k], List.getElem?_eq_getElem (by omega)⟩
                obtain ⟨d10, d11, d12⟩ := (hx i x1 hxi).keep HB1.out
                obtain ⟨d20, d21, d22⟩ := (hx k x2 hxk).keep HB1.out
                have HF1 := Lib.hid (posFine_spec (HOK.out.2 i x1 hxi))
                have HF2 := Lib.hid (posFine_spec (HOK.out.2 k x2 hxk))
                have HG1 := Lib.hid (H2.out.good i x1 hxi)
                have HG2 := Lib.hid (H2.out.good k x2 hxk)
                have HXI := Lib.hid hxi
                have HXK := Lib.hid hxk
                clear hxi hxk hx
                obtain ⟨p1, q1, s1⟩ := x1
                obtain ⟨p2, q2, s2⟩ := x2
                simp only at d10 d11 d12 d20 d21 d22
                have k10 := cell_regrown d10
                have k20 := cell_regrown d20
                by_cases hp : p1 = p2
                · subst hp
                  go_wp2_with fail
                  refine wp_region_quiet_below (by kernel_rfl) (by kernel_rfl) ?_
                  repeat (go_big_quiet_step (first | with_reducible exact cV _ _))
                  refine wpQuiet_nil ?_
                  intro _ hw'
                  obtain ⟨⟨dq, osq⟩, hw''⟩ := hw'
                  subst hw''
                  clear k10 k20 cV
                  have HBq := Lib.hid (below_then HB1.out HB1.out.size (below_regrown w1 dq osq))
                  have D1 := cell_keep (below_regrown w1 dq osq) d10
                  have D2 := cell_keep (below_regrown w1 dq osq) d11
                  have D3 := cell_keep (below_regrown w1 dq osq) d12
                  have D4 := cell_keep (below_regrown w1 dq osq) d20
                  have D5 := cell_keep (below_regrown w1 dq osq) d21
                  have D6 := cell_keep (below_regrown w1 dq osq) d22
                  generalize Go.Sort.grow (redrawn w1 dq) osq = w2 at *
                  clear d10 d11 d12 d20 d21 d22
                  have n1 : ¬ w2.heap.size = b := fun e => by have := World.block_lt_of_cell? w2 _ D1; simp only at this; omega
                  have n2 : ¬ w2.heap.size + 1 = b := fun e => by have := World.block_lt_of_cell? w2 _ D1; simp only at this; omega
                  go_wp2_with fail
                  go_region_held3 (fun w' => w'.cell? ⟨b, o + i * 3, none⟩ = some (.int .i64 p1) ∧ w'.cell? ⟨b, o + i * 3 + 1, none⟩ = some (.int .u64 q1) ∧ w'.cell? ⟨b, o + i * 3 + 2, none⟩ = some (.int .u64 s1) ∧ w'.cell? ⟨b, o + k * 3, none⟩ = some (.int .i64 p1) ∧ w'.cell? ⟨b, o + k * 3 + 1, none⟩ = some (.int .u64 q2) ∧ w'.cell? ⟨b, o + k * 3 + 2, none⟩ = some (.int .u64 s2))
                    (first
                      | (go_keep; done)
                      | fail)
                    (first
                      | fail)
                  all_goals clear D1 D2 D3 D4 D5 D6 n1 n2
                  · obtain ⟨M, hM⟩ : ∃ M, M = ((w2.alloc (.cells #[.int .i64 p1, .int .u64 q1, .int .u64 s1] 25)).alloc (.cells #[.int .i64 p1, .int .u64 q2, .int .u64 s2] 25)).drew := ⟨_, rfl⟩
                    rw [← hM]
                    have hbM : Below w2.heap.size w2 M := by rw [hM]; exact (below_new w2 _).trans (((below_new _ _).mono (by simp)).trans ⟨rfl, rfl, rfl, Nat.le_refl _, fun _ _ => rfl⟩)
                    have bX : Blk M (w2.heap.size) 25 #[.int .i64 p1, .int .u64 q1, .int .u64 s1] := by rw [hM]; exact Blk.drew ((Blk.new w2 25 #[.int .i64 p1, .int .u64 q1, .int .u64 s1]).alloc _)
                    have bY : Blk M (w2.heap.size + 1) 25 #[.int .i64 p1, .int .u64 q2, .int .u64 s2] := by rw [hM]; have := Blk.new (w2.alloc (.cells #[.int .i64 p1, .int .u64 q1, .int .u64 s1] 25)) 25 #[.int .i64 p1, .int .u64 q2, .int .u64 s2]; rw [World.size_alloc] at this; exact Blk.drew this
                    have BX := Lib.hid bX
                    have BY := Lib.hid bY
                    have HBM := Lib.hid (below_then HBq.out HBq.out.size hbM)
                    clear hM bX bY hbM
                    go_wp2_with fail
                    refine (Compact_any A n c bs _ m c2 ps i k _ _ _ (H.out.keep HBM.out) (H2.out.keep HBM.out) hn hm HOK.out HXI.out HXK.out).mono ?_
                    rintro e w3 ⟨reg, bb, rfl, hm1, hm2, hb3⟩
                    unfold orderV
                    simp only
                    obtain ⟨g10, g11, g12, g13⟩ : 0 ≤ q1 ∧ q1 ≤ 1000000 ∧ 0 ≤ s1 ∧ s1 ≤ 250 := ⟨HG1.out.l0, HF1.out.2.2.1, HG1.out.c0, HF1.out.2.2.2⟩
                    obtain ⟨g20, g21, g22, g23⟩ : 0 ≤ q2 ∧ q2 ≤ 1000000 ∧ 0 ≤ s2 ∧ s2 ≤ 250 := ⟨HG2.out.l0, HF2.out.2.2.1, HG2.out.c0, HF2.out.2.2.2⟩
                    have hs1 : p1 < n := by rw [← hl]; exact HF1.out.2.1
                    rw [compact_less (p := p1) bs (xIdx reg p1) g10 g11 g12 g13 g20 g21 g22 g23, compact_less (p := p1) bs (xIdx reg p1) g20 g21 g22 g23 g10 g11 g12 g13, compact_line g10 g11 g12 g13 g20 g21 g22 g23, compact_known (reg := reg) (p := p1) g10 g11 g12 g13, compact_known (reg := reg) (p := p1) g20 g21 g22 g23]
                    obtain ⟨k1v, hk1v⟩ : ∃ z, z = (decide (0 ≤ p1) || decide (0 < q1)) := ⟨_, rfl⟩
                    obtain ⟨k2v, hk2v⟩ : ∃ z, z = (decide (0 ≤ p1) || decide (0 < q2)) := ⟨_, rfl⟩
                    rw [← hk1v, ← hk2v]
                    obtain ⟨r1, hr1⟩ : ∃ z, lessB (fileB bs p1) (fileB bs p1) q1 q2 s1 s2 = z := ⟨_, rfl⟩
                    obtain ⟨r2, hr2⟩ : ∃ z, lessB (fileB bs p1) (fileB bs p1) q2 q1 s2 s1 = z := ⟨_, rfl⟩
                    rw [hr1, hr2]
                    have HKV1 := Lib.hid hk1v
                    have HKV2 := Lib.hid hk2v
                    have HLESS1 := Lib.hid hr1
                    have HLESS2 := Lib.hid hr2
                    obtain ⟨M2, hM2⟩ : ∃ M2, M2 = w3.alloc (.cells #[.bool r1, .bool r2, .bool (q1 == q2), .bool bb, .bool k1v, .bool k2v] 39) := ⟨_, rfl⟩
                    have hb32 : Below w3.heap.size w3 M2 := by rw [hM2]; exact below_new _ _
                    have bZ : Blk M2 w3.heap.size 39 #[.bool r1, .bool r2, .bool (q1 == q2), .bool bb, .bool k1v, .bool k2v] := by rw [hM2]; exact Blk.new _ _ _
                    have bX2 := (BX.out.keep hb3).keep hb32
                    have bY2 := (BY.out.keep hb3).keep hb32
                    have x0 := cell_regrown (bX2.cell 0)
                    have x1 := cell_regrown (bX2.cell 1)
                    have x2 := cell_regrown (bX2.cell 2)
                    have y0 := cell_regrown (bY2.cell 0)
                    have y1 := cell_regrown (bY2.cell 1)
                    have y2 := cell_regrown (bY2.cell 2)
                    have z0 := cell_regrown (bZ.cell 0)
                    have z1 := cell_regrown (bZ.cell 1)
                    have z2 := cell_regrown (bZ.cell 2)
                    have z4 := cell_regrown (bZ.cell 4)
                    have z5 := cell_regrown (bZ.cell 5)
                    have HB4 := Lib.hid (below_then (below_then HBM.out HBM.out.size hb3) (below_then HBM.out HBM.out.size hb3).size hb32)
                    have H4 := Lib.hid (H.out.keep HB4.out)
                    have cL1 : ∀ d os, Calls Try.prog 11 #[.slice A n c, .agg #[.int .i64 p1, .int .u64 q1, .int .u64 s1], .agg #[.int .i64 p1, .int .u64 q2, .int .u64 s2]] (Go.Sort.grow (redrawn M2 d) os) fun e w'' => e = .returned (.bool r1) ∧ ∃ p : Regrown, w'' = Go.Sort.grow (redrawn M2 p.d) p.os := fun d os => Calls.regrown_of (Less_any A n c bs p1 q1 s1 p1 q2 s2 _ (H4.out.keep (below_regrown M2 d os)) HOK.out.1 hs1 hs1 r1 HLESS1.out)
                    have cL2 : ∀ d os, Calls Try.prog 11 #[.slice A n c, .agg #[.int .i64 p1, .int .u64 q2, .int .u64 s2], .agg #[.int .i64 p1, .int .u64 q1, .int .u64 s1]] (Go.Sort.grow (redrawn M2 d) os) fun e w'' => e = .returned (.bool r2) ∧ ∃ p : Regrown, w'' = Go.Sort.grow (redrawn M2 p.d) p.os := fun d os => Calls.regrown_of (Less_any A n c bs p1 q2 s2 p1 q1 s1 _ (H4.out.keep (below_regrown M2 d os)) HOK.out.1 hs1 hs1 r2 HLESS2.out)
                    have cW : ∀ d os, Calls Try.prog 13 #[] (Go.Sort.grow (redrawn M2 d) os) fun e w'' => e = .returned (.bool true) ∧ ∃ p : Regrown, w'' = Go.Sort.grow (redrawn M2 p.d) p.os := fun d os => Calls.regrown_of (works_below _)
                    clear hm1 hm2 hb3 hb32 bZ bX2 bY2 hk1v hk2v hr1 hr2
                    go_wp2_with fail
                    rw [← hM2]
                    clear hM2
                    by_cases hb0 : 0 ≤ p1
                    · have e1 : decide (0 ≤ p1) = true := decide_eq_true hb0
                      have HKN1 : k1v = true := by rw [HKV1.out, e1]; rfl
                      have HKN2 : k2v = true := by rw [HKV2.out, e1]; rfl
                      subst HKN1
                      subst HKN2
                      clear hb0
                      go_wp2_with fail
                      refine wp_region_quiet_below (by kernel_rfl) (by kernel_rfl) ?_
                      repeat (go_big_quiet_step (first | with_reducible exact cL1 _ _ | with_reducible exact cL2 _ _ | with_reducible exact cW _ _))
                      refine quiet_bin (.agg #[.bool true, .bool true]) (.agg #[.bool true, .bool true]) (.bool true) (by rfl) rfl rfl rfl (fun w => run_eqGuard_agg w _ _ _ _ _ _ (by kernel_rfl)) (eqArr _ _) ?_
                      go_frame
                      repeat (go_big_quiet_step (first | with_reducible exact cL1 _ _ | with_reducible exact cL2 _ _ | with_reducible exact cW _ _))
                      refine wpQuiet_nil ?_
                      intro _ hw'
                      obtain ⟨⟨dq2, osq2⟩, hw''⟩ := hw'
                      subst hw''
                      go_wp2
                      go_ret
                      exact ⟨rfl, below_then HB4.out HB4.out.size (below_regrown _ _ _)⟩
                    · have e1 : decide (0 ≤ p1) = false := decide_eq_false hb0
                      rw [e1] at HKV1 HKV2
                      clear hb0
                      by_cases h5 : 0 < q1
                      · have e2 : decide (0 < q1) = true := decide_eq_true h5
                        have HKN1 : k1v = true := by rw [HKV1.out, e2]; rfl
                        subst HKN1
                        clear h5
                        by_cases h6 : 0 < q2
                        · have e3 : decide (0 < q2) = true := decide_eq_true h6
                          have HKN2 : k2v = true := by rw [HKV2.out, e3]; rfl
                          subst HKN2
                          clear h6
                          go_wp2_with fail
                          refine wp_region_quiet_below (by kernel_rfl) (by kernel_rfl) ?_
                          repeat (go_big_quiet_step (first | with_reducible exact cL1 _ _ | with_reducible exact cL2 _ _ | with_reducible exact cW _ _))
                          refine quiet_bin (.agg #[.bool true, .bool true]) (.agg #[.bool true, .bool true]) (.bool true) (by rfl) rfl rfl rfl (fun w => run_eqGuard_agg w _ _ _ _ _ _ (by kernel_rfl)) (eqArr _ _) ?_
                          go_frame
                          repeat (go_big_quiet_step (first | with_reducible exact cL1 _ _ | with_reducible exact cL2 _ _ | with_reducible exact cW _ _))
                          refine wpQuiet_nil ?_
                          intro _ hw'
                          obtain ⟨⟨dq2, osq2⟩, hw''⟩ := hw'
                          subst hw''
                          go_wp2
                          go_ret
                          exact ⟨rfl, below_then HB4.out HB4.out.size (below_regrown _ _ _)⟩
                        · have e3 : decide (0 < q2) = false := decide_eq_false h6
                          have HKN2 : k2v = false := by rw [HKV2.out, e3]; rfl
                          subst HKN2
                          clear h6
                          go_wp2_with fail
                          refine wp_region_quiet_below (by kernel_rfl) (by kernel_rfl) ?_
                          repeat (go_big_quiet_step (first | with_reducible exact cL1 _ _ | with_reducible exact cL2 _ _ | with_reducible exact cW _ _))
                          refine quiet_bin (.agg #[.bool true, .bool false]) (.agg #[.bool true, .bool false]) (.bool true) (by rfl) rfl rfl rfl (fun w => run_eqGuard_agg w _ _ _ _ _ _ (by kernel_rfl)) (eqArr _ _) ?_
                          go_frame
                          repeat (go_big_quiet_step (first | with_reducible exact cL1 _ _ | with_reducible exact cL2 _ _ | with_reducible exact cW _ _))
                          refine wpQuiet_nil ?_
                          intro _ hw'
                          obtain ⟨⟨dq2, osq2⟩, hw''⟩ := hw'
                          subst hw''
                          go_wp2
                          go_ret
                          exact ⟨rfl, below_then HB4.out HB4.out.size (below_regrown _ _ _)⟩
                      · have e2 : decide (0 < q1) = false := decide_eq_false h5
                        have HKN1 : k1v = false := by rw [HKV1.out, e2]; rfl
                        subst HKN1
                        clear h5
                        by_cases h6 : 0 < q2
                        · have e3 : decide (0 < q2) = true := decide_eq_true h6
                          have HKN2 : k2v = true := by rw [HKV2.out, e3]; rfl
                          subst HKN2
                          clear h6
                          go_wp2_with fail
                          refine wp_region_quiet_below (by kernel_rfl) (by kernel_rfl) ?_
                          repeat (go_big_quiet_step (first | with_reducible exact cL1 _ _ | with_reducible exact cL2 _ _ | with_reducible exact cW _ _))
                          refine quiet_bin (.agg #[.bool false, .bool true]) (.agg #[.bool false, .bool true]) (.bool true) (by rfl) rfl rfl rfl (fun w => run_eqGuard_agg w _ _ _ _ _ _ (by kernel_rfl)) (eqArr _ _) ?_
                          go_frame
                          repeat (go_big_quiet_step (first | with_reducible exact cL1 _ _ | with_reducible exact cL2 _ _ | with_reducible exact cW _ _))
                          refine wpQuiet_nil ?_
                          intro _ hw'
                          obtain ⟨⟨dq2, osq2⟩, hw''⟩ := hw'
                          subst hw''
                          go_wp2
                          go_ret
                          exact ⟨rfl, below_then HB4.out HB4.out.size (below_regrown _ _ _)⟩
                        · have e3 : decide (0 < q2) = false := decide_eq_false h6
                          have HKN2 : k2v = false := by rw [HKV2.out, e3]; rfl
                          subst HKN2
                          clear h6
                          go_wp2_with fail
                          refine wp_region_quiet_below (by kernel_rfl) (by kernel_rfl) ?_
                          repeat (go_big_quiet_step (first | with_reducible exact cL1 _ _ | with_reducible exact cL2 _ _ | with_reducible exact cW _ _))
                          refine quiet_bin (.agg #[.bool false, .bool false]) (.agg #[.bool false, .bool false]) (.bool true) (by rfl) rfl rfl rfl (fun w => run_eqGuard_agg w _ _ _ _ _ _ (by kernel_rfl)) (eqArr _ _) ?_
                          go_frame
                          repeat (go_big_quiet_step (first | with_reducible exact cL1 _ _ | with_reducible exact cL2 _ _ | with_reducible exact cW _ _))
                          refine wpQuiet_nil ?_
                          intro _ hw'
                          obtain ⟨⟨dq2, osq2⟩, hw''⟩ := hw'
                          subst hw''
                          go_wp2
                          go_ret
                          exact ⟨rfl, below_then HB4.out HB4.out.size (below_regrown _ _ _)⟩
                  · obtain ⟨M, hM⟩ : ∃ M, M = ((w2.alloc (.cells #[.int .i64 p1, .int .u64 q2, .int .u64 s2] 25)).alloc (.cells #[.int .i64 p1, .int .u64 q1, .int .u64 s1] 25)).drew := ⟨_, rfl⟩
                    rw [← hM]
                    have hbM : Below w2.heap.size w2 M := by rw [hM]; exact (below_new w2 _).trans (((below_new _ _).mono (by simp)).trans ⟨rfl, rfl, rfl, Nat.le_refl _, fun _ _ => rfl⟩)
                    have bX : Blk M (w2.heap.size + 1) 25 #[.int .i64 p1, .int .u64 q1, .int .u64 s1] := by rw [hM]; have := Blk.new (w2.alloc (.cells #[.int .i64 p1, .int .u64 q2, .int .u64 s2] 25)) 25 #[.int .i64 p1, .int .u64 q1, .int .u64 s1]; rw [World.size_alloc] at this; exact Blk.drew this
                    have bY : Blk M (w2.heap.size) 25 #[.int .i64 p1, .int .u64 q2, .int .u64 s2] := by rw [hM]; exact Blk.drew ((Blk.new w2 25 #[.int .i64 p1, .int .u64 q2, .int .u64 s2]).alloc _)
                    have BX := Lib.hid bX
                    have BY := Lib.hid bY
                    have HBM := Lib.hid (below_then HBq.out HBq.out.size hbM)
                    clear hM bX bY hbM
                    go_wp2_with fail
                    refine (Compact_any A n c bs _ m c2 ps i k _ _ _ (H.out.keep HBM.out) (H2.out.keep HBM.out) hn hm HOK.out HXI.out HXK.out).mono ?_
                    rintro e w3 ⟨reg, bb, rfl, hm1, hm2, hb3⟩
                    unfold orderV
                    simp only
                    obtain ⟨g10, g11, g12, g13⟩ : 0 ≤ q1 ∧ q1 ≤ 1000000 ∧ 0 ≤ s1 ∧ s1 ≤ 250 := ⟨HG1.out.l0, HF1.out.2.2.1, HG1.out.c0, HF1.out.2.2.2⟩
                    obtain ⟨g20, g21, g22, g23⟩ : 0 ≤ q2 ∧ q2 ≤ 1000000 ∧ 0 ≤ s2 ∧ s2 ≤ 250 := ⟨HG2.out.l0, HF2.out.2.2.1, HG2.out.c0, HF2.out.2.2.2⟩
                    have hs1 : p1 < n := by rw [← hl]; exact HF1.out.2.1
                    rw [compact_less (p := p1) bs (xIdx reg p1) g10 g11 g12 g13 g20 g21 g22 g23, compact_less (p := p1) bs (xIdx reg p1) g20 g21 g22 g23 g10 g11 g12 g13, compact_line g10 g11 g12 g13 g20 g21 g22 g23, compact_known (reg := reg) (p := p1) g10 g11 g12 g13, compact_known (reg := reg) (p := p1) g20 g21 g22 g23]
                    obtain ⟨k1v, hk1v⟩ : ∃ z, z = (decide (0 ≤ p1) || decide (0 < q1)) := ⟨_, rfl⟩
                    obtain ⟨k2v, hk2v⟩ : ∃ z, z = (decide (0 ≤ p1) || decide (0 < q2)) := ⟨_, rfl⟩
                    rw [← hk1v, ← hk2v]
                    obtain ⟨r1, hr1⟩ : ∃ z, lessB (fileB bs p1) (fileB bs p1) q1 q2 s1 s2 = z := ⟨_, rfl⟩
                    obtain ⟨r2, hr2⟩ : ∃ z, lessB (fileB bs p1) (fileB bs p1) q2 q1 s2 s1 = z := ⟨_, rfl⟩
                    rw [hr1, hr2]
                    have HKV1 := Lib.hid hk1v
                    have HKV2 := Lib.hid hk2v
                    have HLESS1 := Lib.hid hr1
                    have HLESS2 := Lib.hid hr2
                    obtain ⟨M2, hM2⟩ : ∃ M2, M2 = w3.alloc (.cells #[.bool r1, .bool r2, .bool (q1 == q2), .bool bb, .bool k1v, .bool k2v] 39) := ⟨_, rfl⟩
                    have hb32 : Below w3.heap.size w3 M2 := by rw [hM2]; exact below_new _ _
                    have bZ : Blk M2 w3.heap.size 39 #[.bool r1, .bool r2, .bool (q1 == q2), .bool bb, .bool k1v, .bool k2v] := by rw [hM2]; exact Blk.new _ _ _
                    have bX2 := (BX.out.keep hb3).keep hb32
                    have bY2 := (BY.out.keep hb3).keep hb32
                    have x0 := cell_regrown (bX2.cell 0)
                    have x1 := cell_regrown (bX2.cell 1)
                    have x2 := cell_regrown (bX2.cell 2)
                    have y0 := cell_regrown (bY2.cell 0)
                    have y1 := cell_regrown (bY2.cell 1)
                    have y2 := cell_regrown (bY2.cell 2)
                    have z0 := cell_regrown (bZ.cell 0)
                    have z1 := cell_regrown (bZ.cell 1)
                    have z2 := cell_regrown (bZ.cell 2)
                    have z4 := cell_regrown (bZ.cell 4)
                    have z5 := cell_regrown (bZ.cell 5)
                    have HB4 := Lib.hid (below_then (below_then HBM.out HBM.out.size hb3) (below_then HBM.out HBM.out.size hb3).size hb32)
                    have H4 := Lib.hid (H.out.keep HB4.out)
                    have cL1 : ∀ d os, Calls Try.prog 11 #[.slice A n c, .agg #[.int .i64 p1, .int .u64 q1, .int .u64 s1], .agg #[.int .i64 p1, .int .u64 q2, .int .u64 s2]] (Go.Sort.grow (redrawn M2 d) os) fun e w'' => e = .returned (.bool r1) ∧ ∃ p : Regrown, w'' = Go.Sort.grow (redrawn M2 p.d) p.os := fun d os => Calls.regrown_of (Less_any A n c bs p1 q1 s1 p1 q2 s2 _ (H4.out.keep (below_regrown M2 d os)) HOK.out.1 hs1 hs1 r1 HLESS1.out)
                    have cL2 : ∀ d os, Calls Try.prog 11 #[.slice A n c, .agg #[.int .i64 p1, .int .u64 q2, .int .u64 s2], .agg #[.int .i64 p1, .int .u64 q1, .int .u64 s1]] (Go.Sort.grow (redrawn M2 d) os) fun e w'' => e = .returned (.bool r2) ∧ ∃ p : Regrown, w'' = Go.Sort.grow (redrawn M2 p.d) p.os := fun d os => Calls.regrown_of (Less_any A n c bs p1 q2 s2 p1 q1 s1 _ (H4.out.keep (below_regrown M2 d os)) HOK.out.1 hs1 hs1 r2 HLESS2.out)
                    have cW : ∀ d os, Calls Try.prog 13 #[] (Go.Sort.grow (redrawn M2 d) os) fun e w'' => e = .returned (.bool true) ∧ ∃ p : Regrown, w'' = Go.Sort.grow (redrawn M2 p.d) p.os := fun d os => Calls.regrown_of (works_below _)
                    clear hm1 hm2 hb3 hb32 bZ bX2 bY2 hk1v hk2v hr1 hr2
                    go_wp2_with fail
                    rw [← hM2]
                    clear hM2
                    by_cases hb0 : 0 ≤ p1
                    · have e1 : decide (0 ≤ p1) = true := decide_eq_true hb0
                      have HKN1 : k1v = true := by rw [HKV1.out, e1]; rfl
                      have HKN2 : k2v = true := by rw [HKV2.out, e1]; rfl
                      subst HKN1
                      subst HKN2
                      clear hb0
                      go_wp2_with fail
                      refine wp_region_quiet_below (by kernel_rfl) (by kernel_rfl) ?_
                      repeat (go_big_quiet_step (first | with_reducible exact cL1 _ _ | with_reducible exact cL2 _ _ | with_reducible exact cW _ _))
                      refine quiet_bin (.agg #[.bool true, .bool true]) (.agg #[.bool true, .bool true]) (.bool true) (by rfl) rfl rfl rfl (fun w => run_eqGuard_agg w _ _ _ _ _ _ (by kernel_rfl)) (eqArr _ _) ?_
                      go_frame
                      repeat (go_big_quiet_step (first | with_reducible exact cL1 _ _ | with_reducible exact cL2 _ _ | with_reducible exact cW _ _))
                      refine wpQuiet_nil ?_
                      intro _ hw'
                      obtain ⟨⟨dq2, osq2⟩, hw''⟩ := hw'
                      subst hw''
                      go_wp2
                      go_ret
                      exact ⟨rfl, below_then HB4.out HB4.out.size (below_regrown _ _ _)⟩
                    · have e1 : decide (0 ≤ p1) = false := decide_eq_false hb0
                      rw [e1] at HKV1 HKV2
                      clear hb0
                      by_cases h5 : 0 < q1
                      · have e2 : decide (0 < q1) = true := decide_eq_true h5
                        have HKN1 : k1v = true := by rw [HKV1.out, e2]; rfl
                        subst HKN1
                        clear h5
                        by_cases h6 : 0 < q2
                        · have e3 : decide (0 < q2) = true := decide_eq_true h6
                          have HKN2 : k2v = true := by rw [HKV2.out, e3]; rfl
                          subst HKN2
                          clear h6
                          go_wp2_with fail
                          refine wp_region_quiet_below (by kernel_rfl) (by kernel_rfl) ?_
                          repeat (go_big_quiet_step (first | with_reducible exact cL1 _ _ | with_reducible exact cL2 _ _ | with_reducible exact cW _ _))
                          refine quiet_bin (.agg #[.bool true, .bool true]) (.agg #[.bool true, .bool true]) (.bool true) (by rfl) rfl rfl rfl (fun w => run_eqGuard_agg w _ _ _ _ _ _ (by kernel_rfl)) (eqArr _ _) ?_
                          go_frame
                          repeat (go_big_quiet_step (first | with_reducible exact cL1 _ _ | with_reducible exact cL2 _ _ | with_reducible exact cW _ _))
                          refine wpQuiet_nil ?_
                          intro _ hw'
                          obtain ⟨⟨dq2, osq2⟩, hw''⟩ := hw'
                          subst hw''
                          go_wp2
                          go_ret
                          exact ⟨rfl, below_then HB4.out HB4.out.size (below_regrown _ _ _)⟩
                        · have e3 : decide (0 < q2) = false := decide_eq_false h6
                          have HKN2 : k2v = false := by rw [HKV2.out, e3]; rfl
                          subst HKN2
                          clear h6
                          go_wp2_with fail
                          refine wp_region_quiet_below (by kernel_rfl) (by kernel_rfl) ?_
                          repeat (go_big_quiet_step (first | with_reducible exact cL1 _ _ | with_reducible exact cL2 _ _ | with_reducible exact cW _ _))
                          refine quiet_bin (.agg #[.bool true, .bool false]) (.agg #[.bool true, .bool false]) (.bool true) (by rfl) rfl rfl rfl (fun w => run_eqGuard_agg w _ _ _ _ _ _ (by kernel_rfl)) (eqArr _ _) ?_
                          go_frame
                          repeat (go_big_quiet_step (first | with_reducible exact cL1 _ _ | with_reducible exact cL2 _ _ | with_reducible exact cW _ _))
                          refine wpQuiet_nil ?_
                          intro _ hw'
                          obtain ⟨⟨dq2, osq2⟩, hw''⟩ := hw'
                          subst hw''
                          go_wp2
                          go_ret
                          exact ⟨rfl, below_then HB4.out HB4.out.size (below_regrown _ _ _)⟩
                      · have e2 : decide (0 < q1) = false := decide_eq_false h5
                        have HKN1 : k1v = false := by rw [HKV1.out, e2]; rfl
                        subst HKN1
                        clear h5
                        by_cases h6 : 0 < q2
                        · have e3 : decide (0 < q2) = true := decide_eq_true h6
                          have HKN2 : k2v = true := by rw [HKV2.out, e3]; rfl
                          subst HKN2
                          clear h6
                          go_wp2_with fail
                          refine wp_region_quiet_below (by kernel_rfl) (by kernel_rfl) ?_
                          repeat (go_big_quiet_step (first | with_reducible exact cL1 _ _ | with_reducible exact cL2 _ _ | with_reducible exact cW _ _))
                          refine quiet_bin (.agg #[.bool false, .bool true]) (.agg #[.bool false, .bool true]) (.bool true) (by rfl) rfl rfl rfl (fun w => run_eqGuard_agg w _ _ _ _ _ _ (by kernel_rfl)) (eqArr _ _) ?_
                          go_frame
                          repeat (go_big_quiet_step (first | with_reducible exact cL1 _ _ | with_reducible exact cL2 _ _ | with_reducible exact cW _ _))
                          refine wpQuiet_nil ?_
                          intro _ hw'
                          obtain ⟨⟨dq2, osq2⟩, hw''⟩ := hw'
                          subst hw''
                          go_wp2
                          go_ret
                          exact ⟨rfl, below_then HB4.out HB4.out.size (below_regrown _ _ _)⟩
                        · have e3 : decide (0 < q2) = false := decide_eq_false h6
                          have HKN2 : k2v = false := by rw [HKV2.out, e3]; rfl
                          subst HKN2
                          clear h6
                          go_wp2_with fail
                          refine wp_region_quiet_below (by kernel_rfl) (by kernel_rfl) ?_
                          repeat (go_big_quiet_step (first | with_reducible exact cL1 _ _ | with_reducible exact cL2 _ _ | with_reducible exact cW _ _))
                          refine quiet_bin (.agg #[.bool false, .bool false]) (.agg #[.bool false, .bool false]) (.bool true) (by rfl) rfl rfl rfl (fun w => run_eqGuard_agg w _ _ _ _ _ _ (by kernel_rfl)) (eqArr _ _) ?_
                          go_frame
                          repeat (go_big_quiet_step (first | with_reducible exact cL1 _ _ | with_reducible exact cL2 _ _ | with_reducible exact cW _ _))
                          refine wpQuiet_nil ?_
                          intro _ hw'
                          obtain ⟨⟨dq2, osq2⟩, hw''⟩ := hw'
                          subst hw''
                          go_wp2
                          go_ret
                          exact ⟨rfl, below_then HB4.out HB4.out.size (below_regrown _ _ _)⟩
                · have hpe : (p1 != p2) = true := by rw [bne_iff_ne]; exact hp
                  clear hp
                  go_wp2_with fail
                  refine wp_region_quiet_below (by kernel_rfl) (by kernel_rfl) ?_
                  repeat (go_big_quiet_step (first | with_reducible exact cV _ _))
                  refine wpQuiet_nil ?_
                  intro _ hw'
                  obtain ⟨⟨dq, osq⟩, hw''⟩ := hw'
                  subst hw''
                  go_wp2
                  go_ret
                  exact ⟨rfl, below_then HB1.out HB1.out.size (below_regrown _ _ _)⟩
    · have hm' : decide ((2147483647 : Int) < (m : Int)) = true := decide_eq_true (by omega)
      go_wp2
      go_ret
      exact ⟨rfl, HB1.out⟩

namespace fnCompact
open Go.ChangeShapes Go.WideShapes Go.ChangeAt Go.RowKit
theorem own : ownKnob Try.prog.godebug = none := by kernel_rfl
theorem laidOut : laidOutB Try.prog = true := by kernel_rfl
set_option maxRecDepth 100000 in
theorem lifted (os : Os) (started : os.Started) (H : Type) (enc : TypeId × Value → H) :
    ReturnsInHanded {} Try.checked os 6 .any (Rows.fnCompactSpec.pre6 enc Try.prog Try.f6 Rows.fnCompactRow.domain false) (Rows.fnCompactSpec.post enc Try.prog Try.f6 false true false false) := by
  refine returnsInHanded_of_change_sized (C := Try.checked) own started (by kernel_rfl) Try.func6
    (ChangeSpec.witness6 (enc := enc) (C := Try.checked) false ⟨#[], #[.slice none 0 0, .slice none 0 0, .int .i64 0, .int .i64 0], []⟩ 8 (by kernel_rfl) (by kernel_rfl) (by kernel_rfl) (by kernel_rfl)) ?_
  intro W base args ds gs before hval0 hW hcnd hsz0 _
  have hval : ∀ (j : Nat) t v, Try.f6.params[j]? = some t → args[j]? = some v → Value.okWide Try.prog W .any base t v := hval0
  have hW' := hW
  obtain ⟨p, q, hA0, hV, rfl, hfz, hnd⟩ := hW
  have hA : DataW.TrodAll enc Try.prog W 0 (fun _ => true) true Try.f6.params.toList args.toList ds p := hA0
  rw [Try.params6] at hA hval
  obtain ⟨v0, vs0, d0, ds0, p0, q0, hargs, rfl, rfl, h0, r0⟩ := trodAll_cons hA
  obtain ⟨v1, vs1, d1, ds1, p1, q1, rfl, rfl, rfl, h1, r1⟩ := trodAll_cons r0
  obtain ⟨v2, vs2, d2, ds2, p2, q2, rfl, rfl, rfl, h2, r2⟩ := trodAll_cons r1
  obtain ⟨v3, vs3, d3, ds3, p3, q3, rfl, rfl, rfl, h3, r3⟩ := trodAll_cons r2
  obtain ⟨rfl, rfl, rfl⟩ := trodAll_nil r3
  obtain rfl : args = #[v0, v1, v2, v3] := by cases args; simp_all
  obtain ⟨rfl, rfl⟩ := trodVars_none hV
  have k0 := h0
  have k1 := h1
  have k2 := h2
  have k3 := h3
  obtain ⟨A0, n0, c0, bs0, rfl, g0⟩ := open_bases (hval 0 22 v0 rfl rfl) h0
  obtain ⟨A1, n1, c1, ps1, rfl, g1⟩ := open_poss (hval 1 31 v1 rfl rfl) h1
  obtain ⟨a2, rfl, rfl, rfl, w2⟩ := open_int Try.underlying3 (hval 2 3 v2 rfl rfl) h2
  have b2 := bounds_i64 w2
  obtain ⟨a3, rfl, rfl, rfl, w3⟩ := open_int Try.underlying3 (hval 3 3 v3 rfl rfl) h3
  have b3 := bounds_i64 w3
  have hlt : ∀ x ∈ p0 ++ (p1 ++ (([] : List MemPlace) ++ (([] : List MemPlace) ++ []))), x.block < W.heap.size := fun x hx => by simpa using hW'.lt x (by simpa using hx)
  have hargs2 : ∀ (t : TypeId) (v : Value) (d : DataW H) (ps : List MemPlace) (W' : World), Try.prog.readableRec t = true → t < Try.prog.types.size → DataW.Trod enc Try.prog W 0 (fun _ => true) true t v d ps → Below W.heap.size W W' → (∀ x ∈ ps, x.block < W.heap.size) → DataW.Trod enc Try.prog W' 0 (fun b => decide (b < W.heap.size)) true t v d ps :=
    fun t v d ps W' h1 h2 h3 h4 h5 => Below.trod laidOut h1 h2 h3 h4 h5
  clear hA0 hval0 hsz0
  refine (fnCompact_any A0 n0 c0 bs0 A1 n1 c1 ps1 a2 a3 W g0 g1 (by omega) (by omega) (by omega) (by omega)).mono fun e W' ⟨he, hw⟩ => ?_
  subst he
  exact ⟨_, rfl, _, _, _, [], _, [], hW', trodAll_mk1 (shut_bool Try.underlying4 _), (trodAll_cons_mk (hargs2 22 _ _ _ _ (by kernel_rfl) (of_decide_eq_true (by kernel_rfl)) k0 hw (fun x hx => hlt x (by simp [hx]))) (trodAll_cons_mk (hargs2 31 _ _ _ _ (by kernel_rfl) (of_decide_eq_true (by kernel_rfl)) k1 hw (fun x hx => hlt x (by simp [hx]))) (trodAll_cons_mk (hargs2 3 _ _ _ _ (by kernel_rfl) (of_decide_eq_true (by kernel_rfl)) k2 hw (fun x hx => absurd hx (by simp))) (trodAll_cons_mk (hargs2 3 _ _ _ _ (by kernel_rfl) (of_decide_eq_true (by kernel_rfl)) k3 hw (fun x hx => absurd hx (by simp))) trodAll_mk0)))), rfl, hw.frame _, fun h => by cases h⟩
theorem over : Rows.fnCompactRow.holds Try.pinned (OpenSpec.ofChange Rows.fnCompactSpec) :=
  OpenClaim.holds_of_wide 6 Try.f6 rfl rfl rfl rfl rfl rfl rfl ⟨rfl, rfl, rfl, rfl, rfl⟩ rfl rfl rfl rfl rfl (by kernel_rfl) Try.func6 (by kernel_rfl)
    (of_decide_eq_true (by kernel_rfl)) (by unfold Func.isWrapper; rw [if_neg (of_decide_eq_false (by kernel_rfl))]; exact ⟨rfl, rfl⟩)
    (fun os started H enc _ => lifted os started H enc)
end fnCompact
/-- The statement. -/
theorem fnCompact_holds : Rows.FnCompactSaid := fnCompact.over
#print axioms fnCompact_holds
end Go.Proofs.Ytlohgoedlkkicaa
