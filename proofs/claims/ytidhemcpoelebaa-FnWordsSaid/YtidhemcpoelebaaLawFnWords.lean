/- For every two pairs of a line and a column, brought into their bounds by remainders, the two words are equal exactly if both lines and both columns are; no condition. -/
import Derived.Test.YtidhemcpoelebaaRows
import Derived.Test.YtidhemcpoelebaaWordLaws
import Derived.WalkKit
import Derived.ProofKit
import Derived.OpenShut
import Derived.ShutString
import Derived.ChangeOld
import Derived.Below
import Derived.SizedLaws
namespace Go.Proofs.Ytidhemcpoelebaa
open Go.RowKit Go.Proofs.Ytidhemcpoelebaa.Bits

set_option maxHeartbeats 4000000 in
theorem fnWords_any (line col other column : Int) (w : World) (hline0 : 0 ≤ line) (hline1 : line < 18446744073709551616) (hcol0 : 0 ≤ col) (hcol1 : col < 18446744073709551616) (hother0 : 0 ≤ other) (hother1 : other < 18446744073709551616) (hcolumn0 : 0 ≤ column) (hcolumn1 : column < 18446744073709551616) :
    Calls Try.prog 4 #[.int .u64 line, .int .u64 col, .int .u64 other, .int .u64 column] w fun e w' => e = .returned (.bool true) ∧ w = w' := by
  obtain ⟨l, hl⟩ : ∃ l, l = line % 1000001 := ⟨_, rfl⟩
  obtain ⟨c, hc⟩ : ∃ c, c = col % 251 := ⟨_, rfl⟩
  obtain ⟨m, hm⟩ : ∃ m, m = other % 1000001 := ⟨_, rfl⟩
  obtain ⟨d, hd⟩ : ∃ d, d = column % 251 := ⟨_, rfl⟩
  obtain ⟨bl0, bl1⟩ : 0 ≤ l ∧ l < 1000001 := by omega
  obtain ⟨bc0, bc1⟩ : 0 ≤ c ∧ c < 251 := by omega
  obtain ⟨bm0, bm1⟩ : 0 ≤ m ∧ m < 1000001 := by omega
  obtain ⟨bd0, bd1⟩ : 0 ≤ d ∧ d < 251 := by omega
  have HL := Lib.hid hl
  have HC := Lib.hid hc
  have HM := Lib.hid hm
  have HD := Lib.hid hd
  clear hl hc hm hd
  have hx : wordOf l c = l * 4096 + c * 16 := wordOf_plain _ _ (by omega) (by omega)
  have hy : wordOf m d = m * 4096 + d * 16 := wordOf_plain _ _ (by omega) (by omega)
  obtain ⟨x, ex⟩ : ∃ x, x = wordOf l c := ⟨_, rfl⟩
  obtain ⟨y, ey⟩ : ∃ y, y = wordOf m d := ⟨_, rfl⟩
  have HX := Lib.hid ex.symm
  have HY := Lib.hid ey.symm
  rw [hx] at ex
  rw [hy] at ey
  clear hx hy
  by_cases e1 : l = m
  · by_cases e2 : c = d
    · have g1 : (x == y) = true := by rw [beq_iff_eq]; omega
      have g2 : (l == m) = true := by rw [beq_iff_eq]; omega
      have g3 : (c == d) = true := by rw [beq_iff_eq]; omega
      clear ex ey e1 e2
      go_enter Try.func4, Try.ntmps4
      go_wp2_with fail
      refine (within_any line 1000000 l _ (by omega) (by omega) (by decide) (by decide) HL.out.symm).mono ?_
      rintro e w' ⟨rfl, rfl⟩
      go_wp2_with fail
      refine (within_any col 250 c _ (by omega) (by omega) (by decide) (by decide) HC.out.symm).mono ?_
      rintro e w' ⟨rfl, rfl⟩
      go_wp2_with fail
      refine (within_any other 1000000 m _ (by omega) (by omega) (by decide) (by decide) HM.out.symm).mono ?_
      rintro e w' ⟨rfl, rfl⟩
      go_wp2_with fail
      refine (within_any column 250 d _ (by omega) (by omega) (by decide) (by decide) HD.out.symm).mono ?_
      rintro e w' ⟨rfl, rfl⟩
      go_wp2_with fail
      refine (Word_any l c x _ (by omega) (by omega) (by omega) HX.out).mono ?_
      rintro e w' ⟨rfl, rfl⟩
      go_wp2_with fail
      refine (Word_any m d y _ (by omega) (by omega) (by omega) HY.out).mono ?_
      rintro e w' ⟨rfl, rfl⟩
      go_wp2_with fail
      refine (works_any _).mono ?_
      rintro e w' ⟨rfl, rfl⟩
      go_wp2_with fail
      go_ret
      exact ⟨rfl, rfl⟩
    · have g1 : (x == y) = false := by rw [beq_eq_false_iff_ne]; omega
      have g2 : (l == m) = true := by rw [beq_iff_eq]; omega
      have g3 : (c == d) = false := by rw [beq_eq_false_iff_ne]; omega
      clear ex ey e1 e2
      go_enter Try.func4, Try.ntmps4
      go_wp2_with fail
      refine (within_any line 1000000 l _ (by omega) (by omega) (by decide) (by decide) HL.out.symm).mono ?_
      rintro e w' ⟨rfl, rfl⟩
      go_wp2_with fail
      refine (within_any col 250 c _ (by omega) (by omega) (by decide) (by decide) HC.out.symm).mono ?_
      rintro e w' ⟨rfl, rfl⟩
      go_wp2_with fail
      refine (within_any other 1000000 m _ (by omega) (by omega) (by decide) (by decide) HM.out.symm).mono ?_
      rintro e w' ⟨rfl, rfl⟩
      go_wp2_with fail
      refine (within_any column 250 d _ (by omega) (by omega) (by decide) (by decide) HD.out.symm).mono ?_
      rintro e w' ⟨rfl, rfl⟩
      go_wp2_with fail
      refine (Word_any l c x _ (by omega) (by omega) (by omega) HX.out).mono ?_
      rintro e w' ⟨rfl, rfl⟩
      go_wp2_with fail
      refine (Word_any m d y _ (by omega) (by omega) (by omega) HY.out).mono ?_
      rintro e w' ⟨rfl, rfl⟩
      go_wp2_with fail
      refine (works_any _).mono ?_
      rintro e w' ⟨rfl, rfl⟩
      go_wp2_with fail
      go_ret
      exact ⟨rfl, rfl⟩
  · have g1 : (x == y) = false := by rw [beq_eq_false_iff_ne]; omega
    have g2 : (l == m) = false := by rw [beq_eq_false_iff_ne]; omega
    clear ex ey e1
    go_enter Try.func4, Try.ntmps4
    go_wp2_with fail
    refine (within_any line 1000000 l _ (by omega) (by omega) (by decide) (by decide) HL.out.symm).mono ?_
    rintro e w' ⟨rfl, rfl⟩
    go_wp2_with fail
    refine (within_any col 250 c _ (by omega) (by omega) (by decide) (by decide) HC.out.symm).mono ?_
    rintro e w' ⟨rfl, rfl⟩
    go_wp2_with fail
    refine (within_any other 1000000 m _ (by omega) (by omega) (by decide) (by decide) HM.out.symm).mono ?_
    rintro e w' ⟨rfl, rfl⟩
    go_wp2_with fail
    refine (within_any column 250 d _ (by omega) (by omega) (by decide) (by decide) HD.out.symm).mono ?_
    rintro e w' ⟨rfl, rfl⟩
    go_wp2_with fail
    refine (Word_any l c x _ (by omega) (by omega) (by omega) HX.out).mono ?_
    rintro e w' ⟨rfl, rfl⟩
    go_wp2_with fail
    refine (Word_any m d y _ (by omega) (by omega) (by omega) HY.out).mono ?_
    rintro e w' ⟨rfl, rfl⟩
    go_wp2_with fail
    refine (works_any _).mono ?_
    rintro e w' ⟨rfl, rfl⟩
    go_wp2_with fail
    go_ret
    exact ⟨rfl, rfl⟩

namespace fnWords
open Go.ChangeShapes Go.WideShapes Go.ChangeAt Go.RowKit
theorem own : ownKnob Try.prog.godebug = none := by kernel_rfl
set_option maxRecDepth 100000 in
theorem lifted (os : Os) (started : os.Started) (H : Type) (enc : TypeId × Value → H) :
    ReturnsInHanded {} Try.checked os 4 .any (Rows.fnWordsSpec.pre6 enc Try.prog Try.f4 Rows.fnWordsRow.domain false) (Rows.fnWordsSpec.post enc Try.prog Try.f4 false true false false) := by
  refine returnsInHanded_of_change_sized (C := Try.checked) own started (by kernel_rfl) Try.func4
    (ChangeSpec.witness6 (enc := enc) (C := Try.checked) false ⟨#[], #[.int .u64 0, .int .u64 0, .int .u64 0, .int .u64 0], []⟩ 8 (by kernel_rfl) (by kernel_rfl) (by kernel_rfl) (by kernel_rfl)) ?_
  intro W base args ds gs before hval0 hW hcnd hsz0 _
  have hval : ∀ (j : Nat) t v, Try.f4.params[j]? = some t → args[j]? = some v → Value.okWide Try.prog W .any base t v := hval0
  have hW' := hW
  obtain ⟨p, q, hA0, hV, rfl, hfz, hnd⟩ := hW
  have hA : DataW.TrodAll enc Try.prog W 0 (fun _ => true) true Try.f4.params.toList args.toList ds p := hA0
  rw [Try.params4] at hA hval
  obtain ⟨v0, vs0, d0, ds0, p0, q0, hargs, rfl, rfl, h0, r0⟩ := trodAll_cons hA
  obtain ⟨v1, vs1, d1, ds1, p1, q1, rfl, rfl, rfl, h1, r1⟩ := trodAll_cons r0
  obtain ⟨v2, vs2, d2, ds2, p2, q2, rfl, rfl, rfl, h2, r2⟩ := trodAll_cons r1
  obtain ⟨v3, vs3, d3, ds3, p3, q3, rfl, rfl, rfl, h3, r3⟩ := trodAll_cons r2
  obtain ⟨rfl, rfl, rfl⟩ := trodAll_nil r3
  obtain rfl : args = #[v0, v1, v2, v3] := by cases args; simp_all
  obtain ⟨rfl, rfl⟩ := trodVars_none hV
  obtain ⟨a0, rfl, rfl, rfl, w0⟩ := open_int Try.underlying22 (hval 0 22 v0 rfl rfl) h0
  have b0 := bounds_u64 w0
  obtain ⟨a1, rfl, rfl, rfl, w1⟩ := open_int Try.underlying22 (hval 1 22 v1 rfl rfl) h1
  have b1 := bounds_u64 w1
  obtain ⟨a2, rfl, rfl, rfl, w2⟩ := open_int Try.underlying22 (hval 2 22 v2 rfl rfl) h2
  have b2 := bounds_u64 w2
  obtain ⟨a3, rfl, rfl, rfl, w3⟩ := open_int Try.underlying22 (hval 3 22 v3 rfl rfl) h3
  have b3 := bounds_u64 w3
  clear hA0 hval0 hsz0
  refine (fnWords_any a0 a1 a2 a3 W b0.1 (by omega) b1.1 (by omega) b2.1 (by omega) b3.1 (by omega)).mono fun e W' ⟨he, hw⟩ => ?_
  subst he
  subst hw
  exact ⟨_, rfl, _, _, _, [], _, [], hW', trodAll_mk1 (shut_bool Try.underlying4 _), (trodAll_cons_mk (shut_int Try.underlying22 w0) (trodAll_cons_mk (shut_int Try.underlying22 w1) (trodAll_cons_mk (shut_int Try.underlying22 w2) (trodAll_cons_mk (shut_int Try.underlying22 w3) trodAll_mk0)))), rfl, World.keptBut_refl _ _, fun h => by cases h⟩
theorem over : Rows.fnWordsRow.holds Try.pinned (OpenSpec.ofChange Rows.fnWordsSpec) :=
  OpenClaim.holds_of_wide 4 Try.f4 rfl rfl rfl rfl rfl rfl rfl ⟨rfl, rfl, rfl, rfl, rfl⟩ rfl rfl rfl rfl rfl (by kernel_rfl) Try.func4 (by kernel_rfl)
    (of_decide_eq_true (by kernel_rfl)) (by unfold Func.isWrapper; rw [if_neg (of_decide_eq_false (by kernel_rfl))]; exact ⟨rfl, rfl⟩)
    (fun os started H enc _ => lifted os started H enc)
end fnWords
/-- The statement. -/
theorem fnWords_holds : Rows.FnWordsSaid := fnWords.over
#print axioms fnWords_holds
end Go.Proofs.Ytidhemcpoelebaa
