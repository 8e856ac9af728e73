/- For all bases and positions that the reference calls valid: of two compact positions of different bases exactly one comes before the other; no condition. -/
import Derived.Test.YtlohgoedlkkicaaRows
import Derived.Test.YtlohgoedlkkicaaComp
import Derived.Test.YtlohgoedlkkicaaOrder
import Derived.Test.YtlohgoedlkkicaaFits
import Derived.Test.YtlohgoedlkkicaaValid
import Derived.Test.YtlohgoedlkkicaaOpen
import Derived.WalkKit
import Derived.ProofKit
import Derived.OpenShut
import Derived.ShutString
import Derived.ChangeOld
import Derived.Below
import Derived.SizedLaws
namespace Go.Proofs.Ytlohgoedlkkicaa
open Go.RowKit Go.Proofs.Ytlohgoedlkkicaa.Bits

theorem xIdx_ne {reg : List Nat} {p q : Int} (hp : 0 ≤ p → p.toNat ∈ reg) (hq : 0 ≤ q → q.toNat ∈ reg) (p0 : -1 ≤ p) (q0 : -1 ≤ q) (hne : p ≠ q) : (xIdx reg p : Int) ≠ xIdx reg q := by
  unfold xIdx
  by_cases h1 : p < 0
  · by_cases h2 : q < 0
    · omega
    · rw [if_pos h1, if_neg h2]; omega
  · by_cases h2 : q < 0
    · rw [if_neg h1, if_pos h2]; omega
    · rw [if_neg h1, if_neg h2]
      intro e
      have e2 : reg.idxOf p.toNat = reg.idxOf q.toNat := by omega
      have l1 := List.idxOf_lt_length_iff.2 (hp (by omega))
      have g1 : reg[reg.idxOf p.toNat]? = some p.toNat := by rw [List.getElem?_eq_getElem l1]; simp
      have l2 := List.idxOf_lt_length_iff.2 (hq (by omega))
      have g2 : reg[reg.idxOf q.toNat]? = some q.toNat := by rw [List.getElem?_eq_getElem l2]; simp
      rw [e2, g2] at g1
      have := Option.some.inj g1
      omega
theorem xLt_one {a1 l1 a2 l2 : Int} (h : a1 ≠ a2) : (xLt a1 l1 a2 l2 != xLt a2 l2 a1 l1) = true := by
  unfold xLt
  by_cases h1 : a1 < a2
  · have h2 : ¬ a2 < a1 := by omega
    have h3 : ¬ a2 = a1 := by omega
    simp [h1, h2, h3]
  · have h2 : a2 < a1 := by omega
    simp [h1, h2, h]

set_option maxRecDepth 100000 in
set_option maxHeartbeats 8000000 in
theorem fnCompactOrder_any (A : Option Addr) (n c : Nat) (bs : List BaseD) (A2 : Option Addr) (m c2 : Nat) (ps : List PosD) (i k : Int) (w : World) (h : Bases w A n c bs) (h2 : Poss w A2 m ps) (_ : -9223372036854775808 ≤ i) (_ : i ≤ 9223372036854775807) (_ : -9223372036854775808 ≤ k) (_ : k ≤ 9223372036854775807) :
    Calls Try.prog 7 #[.slice A n c, .slice A2 m c2, .int .i64 i, .int .i64 k] w fun e w' => e = .returned (.bool true) ∧ Below w.heap.size w w' := by
  have H := Lib.hid h
  have H2 := Lib.hid h2
  have hl := h.len
  have hl2 := h2.len
  clear h h2
  go_enter Try.func7, Try.ntmps7
  go_wp2_with fail
  refine (fits1_any A n c bs _ H.out).mono ?_
  rintro e w1 ⟨r, rfl, hr, hb1⟩
  have HR1 := Lib.hid hr
  have HB1 := Lib.hid hb1
  clear hr hb1
  cases r with
  | false =>
    go_wp2
    go_ret
    exact ⟨rfl, HB1.out⟩
  | true =>
    have hfit : Hid (FitsAll bs) := HR1.out rfl
    have hn : n ≤ 2147483647 := by have := hfit.out.1; rw [hl] at this; exact this
    clear HR1
    by_cases hm : m ≤ 2147483647
    · have hm' : decide ((2147483647 : Int) < (m : Int)) = false := decide_eq_false (by omega)
      obtain ⟨vb, hvb⟩ : ∃ b : Bool, (b = true ↔ Okay bs ps) := by
        by_cases ho : Okay bs ps
        · exact ⟨true, iff_of_true rfl ho⟩
        · exact ⟨false, iff_of_false (by decide) ho⟩
      have cV : ∀ d os, Calls Try.prog 9 #[.slice A n c, .slice A2 m c2] (Go.Sort.grow (redrawn w1 d) os) fun e w'' => e = .returned (.bool vb) ∧ ∃ p : Regrown, w'' = Go.Sort.grow (redrawn w1 p.d) p.os := fun d os => by
        refine Calls.regrown_of ((valid_iff A n c bs A2 m c2 ps _ ((H.out.keep HB1.out).keep (below_regrown w1 d os)) ((H2.out.keep HB1.out).keep (below_regrown w1 d os))).mono ?_)
        rintro e w2 ⟨r, rfl, hr, hb⟩
        have e : r = vb := by rw [Bool.eq_iff_iff, hr, hvb]
        rw [e]
        exact ⟨rfl, hb⟩
      have HVB := Lib.hid hvb
      clear hvb
      go_wp2_with fail
      by_cases h1 : i < 0
      · have d1 : decide (i < 0) = true := decide_eq_true h1
        clear h1
        go_wp2_with fail
        refine wp_region_quiet_below (by kernel_rfl) (by kernel_rfl) ?_
        repeat (go_big_quiet_step (first | with_reducible exact cV _ _))
        refine wpQuiet_nil ?_
        intro _ hw'
        obtain ⟨⟨dq, osq⟩, hw''⟩ := hw'
        subst hw''
        go_wp2
        go_ret
        exact ⟨rfl, below_then HB1.out HB1.out.size (below_regrown _ _ _)⟩
      · have d1 : decide (i < 0) = false := decide_eq_false h1
        by_cases h2 : k < 0
        · have d2 : decide (k < 0) = true := decide_eq_true h2
          clear h1 h2
          go_wp2_with fail
          refine wp_region_quiet_below (by kernel_rfl) (by kernel_rfl) ?_
          repeat (go_big_quiet_step (first | with_reducible exact cV _ _))
          refine wpQuiet_nil ?_
          intro _ hw'
          obtain ⟨⟨dq, osq⟩, hw''⟩ := hw'
          subst hw''
          go_wp2
          go_ret
          exact ⟨rfl, below_then HB1.out HB1.out.size (below_regrown _ _ _)⟩
        · have d2 : decide (k < 0) = false := decide_eq_false h2
          by_cases h3 : (m : Int) ≤ i
          · have d3 : decide ((m : Int) ≤ i) = true := decide_eq_true h3
            clear h1 h2 h3
            go_wp2_with fail
            refine wp_region_quiet_below (by kernel_rfl) (by kernel_rfl) ?_
            repeat (go_big_quiet_step (first | with_reducible exact cV _ _))
            refine wpQuiet_nil ?_
            intro _ hw'
            obtain ⟨⟨dq, osq⟩, hw''⟩ := hw'
            subst hw''
            go_wp2
            go_ret
            exact ⟨rfl, below_then HB1.out HB1.out.size (below_regrown _ _ _)⟩
          · have d3 : decide ((m : Int) ≤ i) = false := decide_eq_false h3
            by_cases h4 : (m : Int) ≤ k
            · have d4 : decide ((m : Int) ≤ k) = true := decide_eq_true h4
              clear h1 h2 h3 h4
              go_wp2_with fail
              refine wp_region_quiet_below (by kernel_rfl) (by kernel_rfl) ?_
              repeat (go_big_quiet_step (first | with_reducible exact cV _ _))
              refine wpQuiet_nil ?_
              intro _ hw'
              obtain ⟨⟨dq, osq⟩, hw''⟩ := hw'
              subst hw''
              go_wp2
              go_ret
              exact ⟨rfl, below_then HB1.out HB1.out.size (below_regrown _ _ _)⟩
            · have d4 : decide ((m : Int) ≤ k) = false := decide_eq_false h4
              cases vb with
              | false =>
                clear h1 h2 h3 h4
                go_wp2_with fail
                refine wp_region_quiet_below (by kernel_rfl) (by kernel_rfl) ?_
                repeat (go_big_quiet_step (first | with_reducible exact cV _ _))
                refine wpQuiet_nil ?_
                intro _ hw'
                obtain ⟨⟨dq, osq⟩, hw''⟩ := hw'
                subst hw''
                go_wp2
                go_ret
                exact ⟨rfl, below_then HB1.out HB1.out.size (below_regrown _ _ _)⟩
              | true =>
                have HOK := Lib.hid (HVB.out.1 rfl)
                obtain ⟨i, rfl⟩ : ∃ i' : Nat, i = i' := ⟨i.toNat, by omega⟩
                obtain ⟨k, rfl⟩ : ∃ k' : Nat, k = k' := ⟨k.toNat, by omega⟩
                have hi : i < m := by omega
                have hk : k < m := by omega
                have hi' : (i : Int) < (m : Int) := by omega
                have hk' : (k : Int) < (m : Int) := by omega
                have hi0 : (0 : Int) ≤ (i : Int) := by omega
                have hk0 : (0 : Int) ≤ (k : Int) := by omega
                have d3n : decide (m ≤ i) = false := decide_eq_false (by omega)
                have d4n : decide (m ≤ k) = false := decide_eq_false (by omega)
                clear h1 h2 h3 h4
                obtain ⟨b, o, rfl, hx⟩ := H2.out.lies (by omega)
                obtain ⟨x1, hxi⟩ : ∃ x, ps[i]? = some x := ⟨ps[i], List.getElem?_eq_getElem (by omega)⟩
                obtain ⟨x2, hxk⟩ : ∃ x, ps[k]? = some x := ⟨ps[k], List.getElem?_eq_getElem (by omega)⟩
                obtain ⟨d10, d11, d12⟩ := (hx i x1 hxi).keep HB1.out
                obtain ⟨d20, d21, d22⟩ := (hx k x2 hxk).keep HB1.out
                have HF1 := Lib.hid (posFine_spec (HOK.out.2 i x1 hxi))
                have HF2 := Lib.hid (posFine_spec (HOK.out.2 k x2 hxk))
                have HG1 := Lib.hid (H2.out.good i x1 hxi)
                have HG2 := Lib.hid (H2.out.good k x2 hxk)
                have HXI := Lib.hid hxi
                have HXK := Lib.hid hxk
                clear hxi hxk hx
                obtain ⟨p1, q1, s1⟩ := x1
                obtain ⟨p2, q2, s2⟩ := x2
                simp only at d10 d11 d12 d20 d21 d22
                have k10 := cell_regrown d10
                have k20 := cell_regrown d20
                by_cases hp : p1 = p2
                · subst hp
                  go_wp2_with fail
                  refine wp_region_quiet_below (by kernel_rfl) (by kernel_rfl) ?_
                  repeat (go_big_quiet_step (first | with_reducible exact cV _ _))
                  refine wpQuiet_nil ?_
                  intro _ hw'
                  obtain ⟨⟨dq, osq⟩, hw''⟩ := hw'
                  subst hw''
                  go_wp2
                  go_ret
                  exact ⟨rfl, below_then HB1.out HB1.out.size (below_regrown _ _ _)⟩
                · have hpe : (p1 == p2) = false := by rw [beq_eq_false_iff_ne]; exact hp
                  have HP := Lib.hid hp
                  clear hp
                  go_wp2_with fail
                  refine wp_region_quiet_below (by kernel_rfl) (by kernel_rfl) ?_
                  repeat (go_big_quiet_step (first | with_reducible exact cV _ _))
                  refine wpQuiet_nil ?_
                  intro _ hw'
                  obtain ⟨⟨dq, osq⟩, hw''⟩ := hw'
                  subst hw''
                  clear k10 k20 cV
                  have HBq := Lib.hid (below_then HB1.out HB1.out.size (below_regrown w1 dq osq))
                  generalize Go.Sort.grow (redrawn w1 dq) osq = w2 at *
                  go_wp2_with fail
                  refine (Compact_any A n c bs _ m c2 ps i k _ _ _ (H.out.keep HBq.out) (H2.out.keep HBq.out) hn hm HOK.out HXI.out HXK.out).mono ?_
                  rintro e w3 ⟨reg, bb, rfl, hm1, hm2, hb3⟩
                  have hx := xLt_one (l1 := wordOf q1 s1) (l2 := wordOf q2 s2) (xIdx_ne hm1 hm2 HF1.out.1 HF2.out.1 HP.out)
                  simp only at hx
                  unfold orderV
                  simp only
                  generalize xLt (xIdx reg p1) (wordOf q1 s1) (xIdx reg p2) (wordOf q2 s2) = o1 at *
                  generalize xLt (xIdx reg p2) (wordOf q2 s2) (xIdx reg p1) (wordOf q1 s1) = o2 at *
                  generalize (wordOf q1 s1 / 4096 == wordOf q2 s2 / 4096) = o3 at *
                  generalize ((xIdx reg p1 : Int) != 0 || wordOf q1 s1 / 4096 != 0) = o4 at *
                  generalize ((xIdx reg p2 : Int) != 0 || wordOf q2 s2 / 4096 != 0) = o5 at *
                  have HB3 := Lib.hid (below_then HBq.out HBq.out.size hb3)
                  clear hm1 hm2 hb3
                  cases o1 with
                  | false =>
                    obtain rfl : o2 = true := by cases o2 <;> simp_all
                    clear hx
                    go_wp2_with fail
                    refine (works_below _).mono ?_
                    rintro e w4 ⟨rfl, hb4⟩
                    have HB4 := Lib.hid (below_call HB3.out hb4)
                    clear hb4
                    go_wp2
                    go_ret
                    exact ⟨rfl, HB4.out⟩
                  | true =>
                    obtain rfl : o2 = false := by cases o2 <;> simp_all
                    clear hx
                    go_wp2_with fail
                    refine (works_below _).mono ?_
                    rintro e w4 ⟨rfl, hb4⟩
                    have HB4 := Lib.hid (below_call HB3.out hb4)
                    clear hb4
                    go_wp2
                    go_ret
                    exact ⟨rfl, HB4.out⟩
    · have hm' : decide ((2147483647 : Int) < (m : Int)) = true := decide_eq_true (by omega)
      go_wp2
      go_ret
      exact ⟨rfl, HB1.out⟩

namespace fnCompactOrder
open Go.ChangeShapes Go.WideShapes Go.ChangeAt Go.RowKit
theorem own : ownKnob Try.prog.godebug = none := by kernel_rfl
theorem laidOut : laidOutB Try.prog = true := by kernel_rfl
set_option maxRecDepth 100000 in
theorem lifted (os : Os) (started : os.Started) (H : Type) (enc : TypeId × Value → H) :
    ReturnsInHanded {} Try.checked os 7 .any (Rows.fnCompactOrderSpec.pre6 enc Try.prog Try.f7 Rows.fnCompactOrderRow.domain false) (Rows.fnCompactOrderSpec.post enc Try.prog Try.f7 false true false false) := by
  refine returnsInHanded_of_change_sized (C := Try.checked) own started (by kernel_rfl) Try.func7
    (ChangeSpec.witness6 (enc := enc) (C := Try.checked) false ⟨#[], #[.slice none 0 0, .slice none 0 0, .int .i64 0, .int .i64 0], []⟩ 8 (by kernel_rfl) (by kernel_rfl) (by kernel_rfl) (by kernel_rfl)) ?_
  intro W base args ds gs before hval0 hW hcnd hsz0 _
  have hval : ∀ (j : Nat) t v, Try.f7.params[j]? = some t → args[j]? = some v → Value.okWide Try.prog W .any base t v := hval0
  have hW' := hW
  obtain ⟨p, q, hA0, hV, rfl, hfz, hnd⟩ := hW
  have hA : DataW.TrodAll enc Try.prog W 0 (fun _ => true) true Try.f7.params.toList args.toList ds p := hA0
  rw [Try.params7] at hA hval
  obtain ⟨v0, vs0, d0, ds0, p0, q0, hargs, rfl, rfl, h0, r0⟩ := trodAll_cons hA
  obtain ⟨v1, vs1, d1, ds1, p1, q1, rfl, rfl, rfl, h1, r1⟩ := trodAll_cons r0
  obtain ⟨v2, vs2, d2, ds2, p2, q2, rfl, rfl, rfl, h2, r2⟩ := trodAll_cons r1
  obtain ⟨v3, vs3, d3, ds3, p3, q3, rfl, rfl, rfl, h3, r3⟩ := trodAll_cons r2
  obtain ⟨rfl, rfl, rfl⟩ := trodAll_nil r3
  obtain rfl : args = #[v0, v1, v2, v3] := by cases args; simp_all
  obtain ⟨rfl, rfl⟩ := trodVars_none hV
  have k0 := h0
  have k1 := h1
  have k2 := h2
  have k3 := h3
  obtain ⟨A0, n0, c0, bs0, rfl, g0⟩ := open_bases (hval 0 22 v0 rfl rfl) h0
  obtain ⟨A1, n1, c1, ps1, rfl, g1⟩ := open_poss (hval 1 31 v1 rfl rfl) h1
  obtain ⟨a2, rfl, rfl, rfl, w2⟩ := open_int Try.underlying3 (hval 2 3 v2 rfl rfl) h2
  have b2 := bounds_i64 w2
  obtain ⟨a3, rfl, rfl, rfl, w3⟩ := open_int Try.underlying3 (hval 3 3 v3 rfl rfl) h3
  have b3 := bounds_i64 w3
  have hlt : ∀ x ∈ p0 ++ (p1 ++ (([] : List MemPlace) ++ (([] : List MemPlace) ++ []))), x.block < W.heap.size := fun x hx => by simpa using hW'.lt x (by simpa using hx)
  have hargs2 : ∀ (t : TypeId) (v : Value) (d : DataW H) (ps : List MemPlace) (W' : World), Try.prog.readableRec t = true → t < Try.prog.types.size → DataW.Trod enc Try.prog W 0 (fun _ => true) true t v d ps → Below W.heap.size W W' → (∀ x ∈ ps, x.block < W.heap.size) → DataW.Trod enc Try.prog W' 0 (fun b => decide (b < W.heap.size)) true t v d ps :=
    fun t v d ps W' h1 h2 h3 h4 h5 => Below.trod laidOut h1 h2 h3 h4 h5
  clear hA0 hval0 hsz0
  refine (fnCompactOrder_any A0 n0 c0 bs0 A1 n1 c1 ps1 a2 a3 W g0 g1 (by omega) (by omega) (by omega) (by omega)).mono fun e W' ⟨he, hw⟩ => ?_
  subst he
  exact ⟨_, rfl, _, _, _, [], _, [], hW', trodAll_mk1 (shut_bool Try.underlying4 _), (trodAll_cons_mk (hargs2 22 _ _ _ _ (by kernel_rfl) (of_decide_eq_true (by kernel_rfl)) k0 hw (fun x hx => hlt x (by simp [hx]))) (trodAll_cons_mk (hargs2 31 _ _ _ _ (by kernel_rfl) (of_decide_eq_true (by kernel_rfl)) k1 hw (fun x hx => hlt x (by simp [hx]))) (trodAll_cons_mk (hargs2 3 _ _ _ _ (by kernel_rfl) (of_decide_eq_true (by kernel_rfl)) k2 hw (fun x hx => absurd hx (by simp))) (trodAll_cons_mk (hargs2 3 _ _ _ _ (by kernel_rfl) (of_decide_eq_true (by kernel_rfl)) k3 hw (fun x hx => absurd hx (by simp))) trodAll_mk0)))), rfl, hw.frame _, fun h => by cases h⟩
theorem over : Rows.fnCompactOrderRow.holds Try.pinned (OpenSpec.ofChange Rows.fnCompactOrderSpec) :=
  OpenClaim.holds_of_wide 7 Try.f7 rfl rfl rfl rfl rfl rfl rfl ⟨rfl, rfl, rfl, rfl, rfl⟩ rfl rfl rfl rfl rfl (by kernel_rfl) Try.func7 (by kernel_rfl)
    (of_decide_eq_true (by kernel_rfl)) (by unfold Func.isWrapper; rw [if_neg (of_decide_eq_false (by kernel_rfl))]; exact ⟨rfl, rfl⟩)
    (fun os started H enc _ => lifted os started H enc)
end fnCompactOrder
/-- The statement. -/
theorem fnCompactOrder_holds : Rows.FnCompactOrderSaid := fnCompactOrder.over
#print axioms fnCompactOrder_holds
end Go.Proofs.Ytlohgoedlkkicaa
