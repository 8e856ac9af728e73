/- For all bases and positions that the reference calls valid: the order of positions is transitive, never holds both ways, and After is Before the other way round; no condition. -/
import Derived.Test.YtlohgoedlkkicaaRows
import Derived.Test.YtlohgoedlkkicaaOrder
import Derived.Test.YtlohgoedlkkicaaFits
import Derived.Test.YtlohgoedlkkicaaValid
import Derived.Test.YtlohgoedlkkicaaOpen
import Derived.WalkKit
import Derived.ProofKit
import Derived.OpenShut
import Derived.ShutString
import Derived.ChangeOld
import Derived.Below
import Derived.SizedLaws
namespace Go.Proofs.Ytlohgoedlkkicaa
open Go.RowKit Go.Proofs.Ytlohgoedlkkicaa.Bits

theorem poss_3 {W : World} {g : Nat} {x1 x2 x3 : PosD} (hk : Blk W g 25 #[.int .i64 x1.base, .int .u64 x1.line, .int .u64 x1.col, .int .i64 x2.base, .int .u64 x2.line, .int .u64 x2.col, .int .i64 x3.base, .int .u64 x3.line, .int .u64 x3.col]) (h1 : PosIn x1) (h2 : PosIn x2) (h3 : PosIn x3) : Poss W (some ⟨g, 0, none⟩) 3 [x1, x2, x3] := by
  refine ⟨rfl, by decide, fun _ => ⟨g, 0, rfl, fun i x hx => ?_⟩, fun i x hx => ?_⟩
  · match i, hx with
    | 0, hx => cases hx; exact ⟨hk.cell 0, hk.cell 1, hk.cell 2⟩
    | 1, hx => cases hx; exact ⟨hk.cell 3, hk.cell 4, hk.cell 5⟩
    | 2, hx => cases hx; exact ⟨hk.cell 6, hk.cell 7, hk.cell 8⟩
  · match i, hx with
    | 0, hx => cases hx; exact h1
    | 1, hx => cases hx; exact h2
    | 2, hx => cases hx; exact h3

set_option maxRecDepth 100000 in
set_option maxHeartbeats 8000000 in
theorem fnBeforeOrder_any (A : Option Addr) (n c : Nat) (bs : List BaseD) (x1 x2 x3 : PosD) (w : World) (h : Bases w A n c bs) (g1 : PosIn x1) (g2 : PosIn x2) (g3 : PosIn x3) :
    Calls Try.prog 4 #[.slice A n c, x1.val, x2.val, x3.val] w fun e w' => e = .returned (.bool true) ∧ Below w.heap.size w w' := by
  obtain ⟨p1, q1, s1⟩ := x1
  obtain ⟨p2, q2, s2⟩ := x2
  obtain ⟨p3, q3, s3⟩ := x3
  obtain ⟨W, hW⟩ : ∃ W, W = (((w.alloc (.cells #[.int .i64 p1, .int .u64 q1, .int .u64 s1] 25)).alloc (.cells #[.int .i64 p2, .int .u64 q2, .int .u64 s2] 25)).alloc (.cells #[.int .i64 p3, .int .u64 q3, .int .u64 s3] 25)) := ⟨_, rfl⟩
  have hbW : Below w.heap.size w W := by rw [hW]; exact ((below_new w _).trans ((below_new _ _).mono (by simp))).trans ((below_new _ _).mono (by simp; try omega))
  have hX1 : Blk W (w.heap.size) 25 #[.int .i64 p1, .int .u64 q1, .int .u64 s1] := by
    rw [hW]
    have := Blk.new w 25 #[.int .i64 p1, .int .u64 q1, .int .u64 s1]
    exact ((this).alloc _).alloc _
  have hX2 : Blk W (w.heap.size + 1) 25 #[.int .i64 p2, .int .u64 q2, .int .u64 s2] := by
    rw [hW]
    have := Blk.new (w.alloc (.cells #[.int .i64 p1, .int .u64 q1, .int .u64 s1] 25)) 25 #[.int .i64 p2, .int .u64 q2, .int .u64 s2]
    simp only [World.size_alloc] at this
    exact (this).alloc _
  have hX3 : Blk W (w.heap.size + 2) 25 #[.int .i64 p3, .int .u64 q3, .int .u64 s3] := by
    rw [hW]
    have := Blk.new ((w.alloc (.cells #[.int .i64 p1, .int .u64 q1, .int .u64 s1] 25)).alloc (.cells #[.int .i64 p2, .int .u64 q2, .int .u64 s2] 25)) 25 #[.int .i64 p3, .int .u64 q3, .int .u64 s3]
    simp only [World.size_alloc] at this
    exact this
  have HBW := Lib.hid hbW
  have H := Lib.hid h
  have hl := Lib.hid h.len
  have HX1 := Lib.hid hX1
  have G1 := Lib.hid g1
  have HX2 := Lib.hid hX2
  have G2 := Lib.hid g2
  have HX3 := Lib.hid hX3
  have G3 := Lib.hid g3
  clear hbW h hX1 g1 hX2 g2 hX3 g3
  go_enter Try.func4, Try.ntmps4
  go_wp2_with fail
  rw [← hW]
  clear hW
  refine (fits1_any A n c bs _ (H.out.keep HBW.out)).mono ?_
  rintro e w1 ⟨r, rfl, hr, hb1⟩
  have HR1 := Lib.hid hr
  have HB1 := Lib.hid hb1
  have HBa := Lib.hid (below_then HBW.out HBW.out.size hb1)
  clear hr hb1
  cases r with
  | false =>
    go_wp2
    go_ret
    exact ⟨rfl, HBa.out⟩
  | true =>
    have hfit : Hid (FitsAll bs) := HR1.out rfl
    clear HR1
    have y10 := (HX1.out.keep HB1.out).cell 0
    have y11 := (HX1.out.keep HB1.out).cell 1
    have y12 := (HX1.out.keep HB1.out).cell 2
    have y20 := (HX2.out.keep HB1.out).cell 0
    have y21 := (HX2.out.keep HB1.out).cell 1
    have y22 := (HX2.out.keep HB1.out).cell 2
    have y30 := (HX3.out.keep HB1.out).cell 0
    have y31 := (HX3.out.keep HB1.out).cell 1
    have y32 := (HX3.out.keep HB1.out).cell 2
    simp only [List.getElem?_toArray, List.getElem?_cons_zero, List.getElem?_cons_succ] at y10 y11 y12 y20 y21 y22 y30 y31 y32
    obtain ⟨W2, hW2⟩ : ∃ W2, W2 = w1.alloc (.cells #[.int .i64 p1, .int .u64 q1, .int .u64 s1, .int .i64 p2, .int .u64 q2, .int .u64 s2, .int .i64 p3, .int .u64 q3, .int .u64 s3] 25) := ⟨_, rfl⟩
    have hbW2 := Lib.hid (show Below w1.heap.size w1 W2 by rw [hW2]; exact below_new _ _)
    have hS := Lib.hid (show Blk W2 w1.heap.size 25 #[.int .i64 p1, .int .u64 q1, .int .u64 s1, .int .i64 p2, .int .u64 q2, .int .u64 s2, .int .i64 p3, .int .u64 q3, .int .u64 s3] by rw [hW2]; exact Blk.new _ _ _)
    go_wp2_with fail
    rw [← hW2]
    clear hW2 y10 y11 y12 y20 y21 y22 y30 y31 y32
    refine (valid_any A n c bs _ 3 _ [⟨p1, q1, s1⟩, ⟨p2, q2, s2⟩, ⟨p3, q3, s3⟩] _ (H.out.keep (below_then HBa.out HBa.out.size hbW2.out)) (poss_3 hS.out G1.out G2.out G3.out)).mono ?_
    rintro e w2 ⟨r, rfl, hr, hb2⟩
    have HR2 := Lib.hid hr
    have HB2 := Lib.hid (below_then hbW2.out hbW2.out.size hb2)
    have HBb := Lib.hid (below_then HBa.out HBa.out.size HB2.out)
    clear hr hb2 hbW2 hS
    cases r with
    | false =>
      go_wp2
      go_ret
      exact ⟨rfl, HBb.out⟩
    | true =>
      have HOK := Lib.hid (HR2.out rfl)
      clear HR2
      have F1 := Lib.hid (show FineP n p1 q1 s1 from fineP_of (x := ⟨p1, q1, s1⟩) (by have := HOK.out.2 0 _ rfl; rw [hl.out] at this; exact this) G1.out)
      have F2 := Lib.hid (show FineP n p2 q2 s2 from fineP_of (x := ⟨p2, q2, s2⟩) (by have := HOK.out.2 1 _ rfl; rw [hl.out] at this; exact this) G2.out)
      have F3 := Lib.hid (show FineP n p3 q3 s3 from fineP_of (x := ⟨p3, q3, s3⟩) (by have := HOK.out.2 2 _ rfl; rw [hl.out] at this; exact this) G3.out)
      have HOB := Lib.hid HOK.out.1
      have hn : n ≤ 2147483647 := by have := hfit.out.1; rw [hl.out] at this; exact this
      have H2 := Lib.hid (H.out.keep HBb.out)
      have Z1 := Lib.hid ((HX1.out.keep HB1.out).keep HB2.out)
      have Z2 := Lib.hid ((HX2.out.keep HB1.out).keep HB2.out)
      have Z3 := Lib.hid ((HX3.out.keep HB1.out).keep HB2.out)
      clear HX1 HB1 HB2 HBa HOK HX2 HX3
      cases ha : lessB (fileB bs p1) (fileB bs p2) q1 q2 s1 s2 with
      | false =>
        obtain ⟨b, hb⟩ : ∃ b, lessB (fileB bs p2) (fileB bs p3) q2 q3 s2 s3 = b := ⟨_, rfl⟩
        have y10 := (Z1.out).cell 0
        have y11 := (Z1.out).cell 1
        have y12 := (Z1.out).cell 2
        have y20 := (Z2.out).cell 0
        have y21 := (Z2.out).cell 1
        have y22 := (Z2.out).cell 2
        have y30 := (Z3.out).cell 0
        have y31 := (Z3.out).cell 1
        have y32 := (Z3.out).cell 2
        simp only [List.getElem?_toArray, List.getElem?_cons_zero, List.getElem?_cons_succ] at y10 y11 y12 y20 y21 y22 y30 y31 y32
        have k10 := cell_regrown y10
        have k11 := cell_regrown y11
        have k12 := cell_regrown y12
        have k20 := cell_regrown y20
        have k21 := cell_regrown y21
        have k22 := cell_regrown y22
        have k30 := cell_regrown y30
        have k31 := cell_regrown y31
        have k32 := cell_regrown y32
        have hr := below_regrown w2
        have cB1 : ∀ d os, Calls Try.prog 10 #[.slice A n c, .agg #[.int .i64 p1, .int .u64 q1, .int .u64 s1], .agg #[.int .i64 p2, .int .u64 q2, .int .u64 s2]] (Go.Sort.grow (redrawn w2 d) os) fun e w'' => e = .returned (.bool false) ∧ ∃ p : Regrown, w'' = Go.Sort.grow (redrawn w2 p.d) p.os := fun d os => Calls.regrown_of (Before_less A n c bs p1 q1 s1 p2 q2 s2 _ (H2.out.keep (hr d os)) hn HOB.out F1.out F2.out false ha)
        have cB2 : ∀ d os, Calls Try.prog 10 #[.slice A n c, .agg #[.int .i64 p2, .int .u64 q2, .int .u64 s2], .agg #[.int .i64 p3, .int .u64 q3, .int .u64 s3]] (Go.Sort.grow (redrawn w2 d) os) fun e w'' => e = .returned (.bool b) ∧ ∃ p : Regrown, w'' = Go.Sort.grow (redrawn w2 p.d) p.os := fun d os => Calls.regrown_of (Before_less A n c bs p2 q2 s2 p3 q3 s3 _ (H2.out.keep (hr d os)) hn HOB.out F2.out F3.out b hb)
        have HA := Lib.hid ha
        clear ha hb y10 y11 y12 y20 y21 y22 y30 y31 y32 hr
        go_wp2_with fail
        refine wp_region_quiet_below (by kernel_rfl) (by kernel_rfl) ?_
        repeat (go_big_quiet_step (first | with_reducible exact cB1 _ _ | with_reducible exact cB2 _ _))
        refine wpQuiet_nil ?_
        intro w3 hw3
        have hb3 : Below w2.heap.size w2 w3 := by obtain ⟨⟨dq, osq⟩, rfl⟩ := hw3; exact below_regrown _ _ _
        have B3 := Lib.hid hb3
        clear hw3 hb3 cB1 cB2 k10 k11 k12 k20 k21 k22 k30 k31 k32
        have y10 := (Z1.out.keep B3.out).cell 0
        have y11 := (Z1.out.keep B3.out).cell 1
        have y12 := (Z1.out.keep B3.out).cell 2
        have y20 := (Z2.out.keep B3.out).cell 0
        have y21 := (Z2.out.keep B3.out).cell 1
        have y22 := (Z2.out.keep B3.out).cell 2
        have y30 := (Z3.out.keep B3.out).cell 0
        have y31 := (Z3.out.keep B3.out).cell 1
        have y32 := (Z3.out.keep B3.out).cell 2
        simp only [List.getElem?_toArray, List.getElem?_cons_zero, List.getElem?_cons_succ] at y10 y11 y12 y20 y21 y22 y30 y31 y32
        go_wp2_with fail
        clear y10 y11 y12 y20 y21 y22 y30 y31 y32
        refine (After_less A n c bs p2 q2 s2 p1 q1 s1 _ (H2.out.keep B3.out) hn HOB.out F2.out F1.out false HA.out).mono ?_
        rintro e w4 ⟨rfl, hb4⟩
        have B4 := Lib.hid (below_then B3.out B3.out.size hb4)
        clear hb4
        have y10 := (Z1.out.keep B4.out).cell 0
        have y11 := (Z1.out.keep B4.out).cell 1
        have y12 := (Z1.out.keep B4.out).cell 2
        have y20 := (Z2.out.keep B4.out).cell 0
        have y21 := (Z2.out.keep B4.out).cell 1
        have y22 := (Z2.out.keep B4.out).cell 2
        have y30 := (Z3.out.keep B4.out).cell 0
        have y31 := (Z3.out.keep B4.out).cell 1
        have y32 := (Z3.out.keep B4.out).cell 2
        simp only [List.getElem?_toArray, List.getElem?_cons_zero, List.getElem?_cons_succ] at y10 y11 y12 y20 y21 y22 y30 y31 y32
        go_wp2_with fail
        clear y10 y11 y12 y20 y21 y22 y30 y31 y32
        refine (works_below _).mono ?_
        rintro e w5 ⟨rfl, hb5⟩
        have B5 := Lib.hid (below_then B4.out B4.out.size hb5)
        clear hb5
        go_wp2_with fail
        go_ret
        exact ⟨rfl, below_then HBb.out HBb.out.size B5.out⟩
      | true =>
        have HD := Lib.hid (lessB_asymm ha)
        cases hb : lessB (fileB bs p2) (fileB bs p3) q2 q3 s2 s3 with
        | false =>
          have y10 := (Z1.out).cell 0
          have y11 := (Z1.out).cell 1
          have y12 := (Z1.out).cell 2
          have y20 := (Z2.out).cell 0
          have y21 := (Z2.out).cell 1
          have y22 := (Z2.out).cell 2
          have y30 := (Z3.out).cell 0
          have y31 := (Z3.out).cell 1
          have y32 := (Z3.out).cell 2
          simp only [List.getElem?_toArray, List.getElem?_cons_zero, List.getElem?_cons_succ] at y10 y11 y12 y20 y21 y22 y30 y31 y32
          have k10 := cell_regrown y10
          have k11 := cell_regrown y11
          have k12 := cell_regrown y12
          have k20 := cell_regrown y20
          have k21 := cell_regrown y21
          have k22 := cell_regrown y22
          have k30 := cell_regrown y30
          have k31 := cell_regrown y31
          have k32 := cell_regrown y32
          have hr := below_regrown w2
          have cB1 : ∀ d os, Calls Try.prog 10 #[.slice A n c, .agg #[.int .i64 p1, .int .u64 q1, .int .u64 s1], .agg #[.int .i64 p2, .int .u64 q2, .int .u64 s2]] (Go.Sort.grow (redrawn w2 d) os) fun e w'' => e = .returned (.bool true) ∧ ∃ p : Regrown, w'' = Go.Sort.grow (redrawn w2 p.d) p.os := fun d os => Calls.regrown_of (Before_less A n c bs p1 q1 s1 p2 q2 s2 _ (H2.out.keep (hr d os)) hn HOB.out F1.out F2.out true ha)
          have cB2 : ∀ d os, Calls Try.prog 10 #[.slice A n c, .agg #[.int .i64 p2, .int .u64 q2, .int .u64 s2], .agg #[.int .i64 p3, .int .u64 q3, .int .u64 s3]] (Go.Sort.grow (redrawn w2 d) os) fun e w'' => e = .returned (.bool false) ∧ ∃ p : Regrown, w'' = Go.Sort.grow (redrawn w2 p.d) p.os := fun d os => Calls.regrown_of (Before_less A n c bs p2 q2 s2 p3 q3 s3 _ (H2.out.keep (hr d os)) hn HOB.out F2.out F3.out false hb)
          have HA := Lib.hid ha
          clear ha hb y10 y11 y12 y20 y21 y22 y30 y31 y32 hr
          go_wp2_with fail
          refine wp_region_quiet_below (by kernel_rfl) (by kernel_rfl) ?_
          repeat (go_big_quiet_step (first | with_reducible exact cB1 _ _ | with_reducible exact cB2 _ _))
          refine wpQuiet_nil ?_
          intro w3 hw3
          have hb3 : Below w2.heap.size w2 w3 := by obtain ⟨⟨dq, osq⟩, rfl⟩ := hw3; exact below_regrown _ _ _
          have B3 := Lib.hid hb3
          clear hw3 hb3 cB1 cB2 k10 k11 k12 k20 k21 k22 k30 k31 k32
          have y10 := (Z1.out.keep B3.out).cell 0
          have y11 := (Z1.out.keep B3.out).cell 1
          have y12 := (Z1.out.keep B3.out).cell 2
          have y20 := (Z2.out.keep B3.out).cell 0
          have y21 := (Z2.out.keep B3.out).cell 1
          have y22 := (Z2.out.keep B3.out).cell 2
          have y30 := (Z3.out.keep B3.out).cell 0
          have y31 := (Z3.out.keep B3.out).cell 1
          have y32 := (Z3.out.keep B3.out).cell 2
          simp only [List.getElem?_toArray, List.getElem?_cons_zero, List.getElem?_cons_succ] at y10 y11 y12 y20 y21 y22 y30 y31 y32
          go_wp2_with fail
          clear y10 y11 y12 y20 y21 y22 y30 y31 y32
          refine (Before_less A n c bs p2 q2 s2 p1 q1 s1 _ (H2.out.keep B3.out) hn HOB.out F2.out F1.out false HD.out).mono ?_
          rintro e w4 ⟨rfl, hb4⟩
          have B4 := Lib.hid (below_then B3.out B3.out.size hb4)
          clear hb4
          have y10 := (Z1.out.keep B4.out).cell 0
          have y11 := (Z1.out.keep B4.out).cell 1
          have y12 := (Z1.out.keep B4.out).cell 2
          have y20 := (Z2.out.keep B4.out).cell 0
          have y21 := (Z2.out.keep B4.out).cell 1
          have y22 := (Z2.out.keep B4.out).cell 2
          have y30 := (Z3.out.keep B4.out).cell 0
          have y31 := (Z3.out.keep B4.out).cell 1
          have y32 := (Z3.out.keep B4.out).cell 2
          simp only [List.getElem?_toArray, List.getElem?_cons_zero, List.getElem?_cons_succ] at y10 y11 y12 y20 y21 y22 y30 y31 y32
          go_wp2_with fail
          clear y10 y11 y12 y20 y21 y22 y30 y31 y32
          refine (After_less A n c bs p2 q2 s2 p1 q1 s1 _ (H2.out.keep B4.out) hn HOB.out F2.out F1.out true HA.out).mono ?_
          rintro e w5 ⟨rfl, hb5⟩
          have B5 := Lib.hid (below_then B4.out B4.out.size hb5)
          clear hb5
          have y10 := (Z1.out.keep B5.out).cell 0
          have y11 := (Z1.out.keep B5.out).cell 1
          have y12 := (Z1.out.keep B5.out).cell 2
          have y20 := (Z2.out.keep B5.out).cell 0
          have y21 := (Z2.out.keep B5.out).cell 1
          have y22 := (Z2.out.keep B5.out).cell 2
          have y30 := (Z3.out.keep B5.out).cell 0
          have y31 := (Z3.out.keep B5.out).cell 1
          have y32 := (Z3.out.keep B5.out).cell 2
          simp only [List.getElem?_toArray, List.getElem?_cons_zero, List.getElem?_cons_succ] at y10 y11 y12 y20 y21 y22 y30 y31 y32
          go_wp2_with fail
          clear y10 y11 y12 y20 y21 y22 y30 y31 y32
          refine (works_below _).mono ?_
          rintro e w6 ⟨rfl, hb6⟩
          have B6 := Lib.hid (below_then B5.out B5.out.size hb6)
          clear hb6
          go_wp2_with fail
          go_ret
          exact ⟨rfl, below_then HBb.out HBb.out.size B6.out⟩
        | true =>
          have HT := Lib.hid (lessB_trans ha hb)
          have y10 := (Z1.out).cell 0
          have y11 := (Z1.out).cell 1
          have y12 := (Z1.out).cell 2
          have y20 := (Z2.out).cell 0
          have y21 := (Z2.out).cell 1
          have y22 := (Z2.out).cell 2
          have y30 := (Z3.out).cell 0
          have y31 := (Z3.out).cell 1
          have y32 := (Z3.out).cell 2
          simp only [List.getElem?_toArray, List.getElem?_cons_zero, List.getElem?_cons_succ] at y10 y11 y12 y20 y21 y22 y30 y31 y32
          have k10 := cell_regrown y10
          have k11 := cell_regrown y11
          have k12 := cell_regrown y12
          have k20 := cell_regrown y20
          have k21 := cell_regrown y21
          have k22 := cell_regrown y22
          have k30 := cell_regrown y30
          have k31 := cell_regrown y31
          have k32 := cell_regrown y32
          have hr := below_regrown w2
          have cB1 : ∀ d os, Calls Try.prog 10 #[.slice A n c, .agg #[.int .i64 p1, .int .u64 q1, .int .u64 s1], .agg #[.int .i64 p2, .int .u64 q2, .int .u64 s2]] (Go.Sort.grow (redrawn w2 d) os) fun e w'' => e = .returned (.bool true) ∧ ∃ p : Regrown, w'' = Go.Sort.grow (redrawn w2 p.d) p.os := fun d os => Calls.regrown_of (Before_less A n c bs p1 q1 s1 p2 q2 s2 _ (H2.out.keep (hr d os)) hn HOB.out F1.out F2.out true ha)
          have cB2 : ∀ d os, Calls Try.prog 10 #[.slice A n c, .agg #[.int .i64 p2, .int .u64 q2, .int .u64 s2], .agg #[.int .i64 p3, .int .u64 q3, .int .u64 s3]] (Go.Sort.grow (redrawn w2 d) os) fun e w'' => e = .returned (.bool true) ∧ ∃ p : Regrown, w'' = Go.Sort.grow (redrawn w2 p.d) p.os := fun d os => Calls.regrown_of (Before_less A n c bs p2 q2 s2 p3 q3 s3 _ (H2.out.keep (hr d os)) hn HOB.out F2.out F3.out true hb)
          have HA := Lib.hid ha
          clear ha hb y10 y11 y12 y20 y21 y22 y30 y31 y32 hr
          go_wp2_with fail
          refine wp_region_quiet_below (by kernel_rfl) (by kernel_rfl) ?_
          repeat (go_big_quiet_step (first | with_reducible exact cB1 _ _ | with_reducible exact cB2 _ _))
          refine wpQuiet_nil ?_
          intro w3 hw3
          have hb3 : Below w2.heap.size w2 w3 := by obtain ⟨⟨dq, osq⟩, rfl⟩ := hw3; exact below_regrown _ _ _
          have B3 := Lib.hid hb3
          clear hw3 hb3 cB1 cB2 k10 k11 k12 k20 k21 k22 k30 k31 k32
          have y10 := (Z1.out.keep B3.out).cell 0
          have y11 := (Z1.out.keep B3.out).cell 1
          have y12 := (Z1.out.keep B3.out).cell 2
          have y20 := (Z2.out.keep B3.out).cell 0
          have y21 := (Z2.out.keep B3.out).cell 1
          have y22 := (Z2.out.keep B3.out).cell 2
          have y30 := (Z3.out.keep B3.out).cell 0
          have y31 := (Z3.out.keep B3.out).cell 1
          have y32 := (Z3.out.keep B3.out).cell 2
          simp only [List.getElem?_toArray, List.getElem?_cons_zero, List.getElem?_cons_succ] at y10 y11 y12 y20 y21 y22 y30 y31 y32
          go_wp2_with fail
          clear y10 y11 y12 y20 y21 y22 y30 y31 y32
          refine (Before_less A n c bs p1 q1 s1 p3 q3 s3 _ (H2.out.keep B3.out) hn HOB.out F1.out F3.out true HT.out).mono ?_
          rintro e w4 ⟨rfl, hb4⟩
          have B4 := Lib.hid (below_then B3.out B3.out.size hb4)
          clear hb4
          have y10 := (Z1.out.keep B4.out).cell 0
          have y11 := (Z1.out.keep B4.out).cell 1
          have y12 := (Z1.out.keep B4.out).cell 2
          have y20 := (Z2.out.keep B4.out).cell 0
          have y21 := (Z2.out.keep B4.out).cell 1
          have y22 := (Z2.out.keep B4.out).cell 2
          have y30 := (Z3.out.keep B4.out).cell 0
          have y31 := (Z3.out.keep B4.out).cell 1
          have y32 := (Z3.out.keep B4.out).cell 2
          simp only [List.getElem?_toArray, List.getElem?_cons_zero, List.getElem?_cons_succ] at y10 y11 y12 y20 y21 y22 y30 y31 y32
          go_wp2_with fail
          clear y10 y11 y12 y20 y21 y22 y30 y31 y32
          refine (Before_less A n c bs p2 q2 s2 p1 q1 s1 _ (H2.out.keep B4.out) hn HOB.out F2.out F1.out false HD.out).mono ?_
          rintro e w5 ⟨rfl, hb5⟩
          have B5 := Lib.hid (below_then B4.out B4.out.size hb5)
          clear hb5
          have y10 := (Z1.out.keep B5.out).cell 0
          have y11 := (Z1.out.keep B5.out).cell 1
          have y12 := (Z1.out.keep B5.out).cell 2
          have y20 := (Z2.out.keep B5.out).cell 0
          have y21 := (Z2.out.keep B5.out).cell 1
          have y22 := (Z2.out.keep B5.out).cell 2
          have y30 := (Z3.out.keep B5.out).cell 0
          have y31 := (Z3.out.keep B5.out).cell 1
          have y32 := (Z3.out.keep B5.out).cell 2
          simp only [List.getElem?_toArray, List.getElem?_cons_zero, List.getElem?_cons_succ] at y10 y11 y12 y20 y21 y22 y30 y31 y32
          go_wp2_with fail
          clear y10 y11 y12 y20 y21 y22 y30 y31 y32
          refine (After_less A n c bs p2 q2 s2 p1 q1 s1 _ (H2.out.keep B5.out) hn HOB.out F2.out F1.out true HA.out).mono ?_
          rintro e w6 ⟨rfl, hb6⟩
          have B6 := Lib.hid (below_then B5.out B5.out.size hb6)
          clear hb6
          have y10 := (Z1.out.keep B6.out).cell 0
          have y11 := (Z1.out.keep B6.out).cell 1
          have y12 := (Z1.out.keep B6.out).cell 2
          have y20 := (Z2.out.keep B6.out).cell 0
          have y21 := (Z2.out.keep B6.out).cell 1
          have y22 := (Z2.out.keep B6.out).cell 2
          have y30 := (Z3.out.keep B6.out).cell 0
          have y31 := (Z3.out.keep B6.out).cell 1
          have y32 := (Z3.out.keep B6.out).cell 2
          simp only [List.getElem?_toArray, List.getElem?_cons_zero, List.getElem?_cons_succ] at y10 y11 y12 y20 y21 y22 y30 y31 y32
          go_wp2_with fail
          clear y10 y11 y12 y20 y21 y22 y30 y31 y32
          refine (works_below _).mono ?_
          rintro e w7 ⟨rfl, hb7⟩
          have B7 := Lib.hid (below_then B6.out B6.out.size hb7)
          clear hb7
          go_wp2_with fail
          go_ret
          exact ⟨rfl, below_then HBb.out HBb.out.size B7.out⟩

namespace fnBeforeOrder
open Go.ChangeShapes Go.WideShapes Go.ChangeAt Go.RowKit
theorem own : ownKnob Try.prog.godebug = none := by kernel_rfl
theorem laidOut : laidOutB Try.prog = true := by kernel_rfl
set_option maxRecDepth 100000 in
theorem lifted (os : Os) (started : os.Started) (H : Type) (enc : TypeId × Value → H) :
    ReturnsInHanded {} Try.checked os 4 .any (Rows.fnBeforeOrderSpec.pre6 enc Try.prog Try.f4 Rows.fnBeforeOrderRow.domain false) (Rows.fnBeforeOrderSpec.post enc Try.prog Try.f4 false true false false) := by
  refine returnsInHanded_of_change_sized (C := Try.checked) own started (by kernel_rfl) Try.func4
    (ChangeSpec.witness6 (enc := enc) (C := Try.checked) false ⟨#[], #[.slice none 0 0, .agg #[.int .i64 0, .int .u64 0, .int .u64 0], .agg #[.int .i64 0, .int .u64 0, .int .u64 0], .agg #[.int .i64 0, .int .u64 0, .int .u64 0]], []⟩ 8 (by kernel_rfl) (by kernel_rfl) (by kernel_rfl) (by kernel_rfl)) ?_
  intro W base args ds gs before hval0 hW hcnd hsz0 _
  have hval : ∀ (j : Nat) t v, Try.f4.params[j]? = some t → args[j]? = some v → Value.okWide Try.prog W .any base t v := hval0
  have hW' := hW
  obtain ⟨p, q, hA0, hV, rfl, hfz, hnd⟩ := hW
  have hA : DataW.TrodAll enc Try.prog W 0 (fun _ => true) true Try.f4.params.toList args.toList ds p := hA0
  rw [Try.params4] at hA hval
  obtain ⟨v0, vs0, d0, ds0, p0, q0, hargs, rfl, rfl, h0, r0⟩ := trodAll_cons hA
  obtain ⟨v1, vs1, d1, ds1, p1, q1, rfl, rfl, rfl, h1, r1⟩ := trodAll_cons r0
  obtain ⟨v2, vs2, d2, ds2, p2, q2, rfl, rfl, rfl, h2, r2⟩ := trodAll_cons r1
  obtain ⟨v3, vs3, d3, ds3, p3, q3, rfl, rfl, rfl, h3, r3⟩ := trodAll_cons r2
  obtain ⟨rfl, rfl, rfl⟩ := trodAll_nil r3
  obtain rfl : args = #[v0, v1, v2, v3] := by cases args; simp_all
  obtain ⟨rfl, rfl⟩ := trodVars_none hV
  have k0 := h0
  have k1 := h1
  have k2 := h2
  have k3 := h3
  obtain ⟨A0, n0, c0, bs0, rfl, g0⟩ := open_bases (hval 0 22 v0 rfl rfl) h0
  obtain ⟨x1, rfl, g1⟩ := open_pos (hval 1 25 v1 rfl rfl) h1
  obtain ⟨x2, rfl, g2⟩ := open_pos (hval 2 25 v2 rfl rfl) h2
  obtain ⟨x3, rfl, g3⟩ := open_pos (hval 3 25 v3 rfl rfl) h3
  have hlt : ∀ x ∈ p0 ++ (p1 ++ (p2 ++ (p3 ++ []))), x.block < W.heap.size := fun x hx => by simpa using hW'.lt x (by simpa using hx)
  have hargs2 : ∀ (t : TypeId) (v : Value) (d : DataW H) (ps : List MemPlace) (W' : World), Try.prog.readableRec t = true → t < Try.prog.types.size → DataW.Trod enc Try.prog W 0 (fun _ => true) true t v d ps → Below W.heap.size W W' → (∀ x ∈ ps, x.block < W.heap.size) → DataW.Trod enc Try.prog W' 0 (fun b => decide (b < W.heap.size)) true t v d ps :=
    fun t v d ps W' h1 h2 h3 h4 h5 => Below.trod laidOut h1 h2 h3 h4 h5
  clear hA0 hval0 hsz0
  refine (fnBeforeOrder_any A0 n0 c0 bs0 x1 x2 x3 W g0 g1 g2 g3).mono fun e W' ⟨he, hw⟩ => ?_
  subst he
  exact ⟨_, rfl, _, _, _, [], _, [], hW', trodAll_mk1 (shut_bool Try.underlying4 _), (trodAll_cons_mk (hargs2 22 _ _ _ _ (by kernel_rfl) (of_decide_eq_true (by kernel_rfl)) k0 hw (fun x hx => hlt x (by simp [hx]))) (trodAll_cons_mk (hargs2 25 _ _ _ _ (by kernel_rfl) (of_decide_eq_true (by kernel_rfl)) k1 hw (fun x hx => hlt x (by simp [hx]))) (trodAll_cons_mk (hargs2 25 _ _ _ _ (by kernel_rfl) (of_decide_eq_true (by kernel_rfl)) k2 hw (fun x hx => hlt x (by simp [hx]))) (trodAll_cons_mk (hargs2 25 _ _ _ _ (by kernel_rfl) (of_decide_eq_true (by kernel_rfl)) k3 hw (fun x hx => hlt x (by simp [hx]))) trodAll_mk0)))), rfl, hw.frame _, fun h => by cases h⟩
theorem over : Rows.fnBeforeOrderRow.holds Try.pinned (OpenSpec.ofChange Rows.fnBeforeOrderSpec) :=
  OpenClaim.holds_of_wide 4 Try.f4 rfl rfl rfl rfl rfl rfl rfl ⟨rfl, rfl, rfl, rfl, rfl⟩ rfl rfl rfl rfl rfl (by kernel_rfl) Try.func4 (by kernel_rfl)
    (of_decide_eq_true (by kernel_rfl)) (by unfold Func.isWrapper; rw [if_neg (of_decide_eq_false (by kernel_rfl))]; exact ⟨rfl, rfl⟩)
    (fun os started H enc _ => lifted os started H enc)
end fnBeforeOrder
/-- The statement. -/
theorem fnBeforeOrder_holds : Rows.FnBeforeOrderSaid := fnBeforeOrder.over
#print axioms fnBeforeOrder_holds
end Go.Proofs.Ytlohgoedlkkicaa
