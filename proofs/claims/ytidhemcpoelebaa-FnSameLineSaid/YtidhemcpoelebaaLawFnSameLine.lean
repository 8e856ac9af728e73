/- For every two words: they have the same line exactly if their lines are equal, and a word has the line of itself with another flag; no condition. -/
import Derived.Test.YtidhemcpoelebaaRows
import Derived.Test.YtidhemcpoelebaaWordLaws
import Derived.WalkKit
import Derived.ProofKit
import Derived.OpenShut
import Derived.ShutString
import Derived.ChangeOld
import Derived.Below
import Derived.SizedLaws
namespace Go.Proofs.Ytidhemcpoelebaa
open Go.RowKit Go.Proofs.Ytidhemcpoelebaa.Bits

set_option maxHeartbeats 1000000 in
theorem fnSameLine_any (x y : Int) (w : World) (hx0 : 0 ≤ x) (hx1 : x < 4294967296) (hy0 : 0 ≤ y) (hy1 : y < 4294967296) :
    Calls Try.prog 10 #[.int .u32 x, .int .u32 y] w fun e w' => e = .returned (.bool true) ∧ w = w' := by
  have f0 := withStmtOf_in x 2 hx0 hx1 (by decide) (by decide)
  have f1 : sameLineB x (withStmtOf x 2) = true := by
    have : withStmtOf x 2 / 4096 = x / 4096 := by unfold withStmtOf; split <;> omega
    unfold sameLineB
    rw [decide_eq_true_eq]; omega
  obtain ⟨z, hz⟩ : ∃ z, z = withStmtOf x 2 := ⟨_, rfl⟩
  rw [← hz] at f0 f1
  obtain ⟨f00, f01⟩ := f0
  have HZ := Lib.hid hz.symm
  have F1 := Lib.hid f1
  clear hz f1
  obtain ⟨a, ha⟩ : ∃ a, a = x / 4096 := ⟨_, rfl⟩
  obtain ⟨b, hb⟩ : ∃ b, b = y / 4096 := ⟨_, rfl⟩
  have f2 : sameLineB x y = (a == b) := by
    unfold sameLineB
    rw [ha, hb, Bool.eq_iff_iff, decide_eq_true_eq, beq_iff_eq]
  have HA := Lib.hid ha.symm
  have HB := Lib.hid hb.symm
  have F2 := Lib.hid f2
  clear ha hb f2
  go_enter Try.func10, Try.ntmps10
  go_wp2_with fail
  refine (Parts_any x a _ _ _ _ hx0 hx1 HA.out rfl rfl rfl).mono ?_
  rintro e w' ⟨rfl, rfl⟩
  go_wp2_with fail
  refine (Parts_any y b _ _ _ _ hy0 hy1 HB.out rfl rfl rfl).mono ?_
  rintro e w' ⟨rfl, rfl⟩
  go_wp2_with fail
  refine (implSameLine_any x y (a == b) _ hx0 hx1 hy0 hy1 F2.out).mono ?_
  rintro e w' ⟨rfl, rfl⟩
  go_wp2_with fail
  refine (NotStmt_any x z _ hx0 hx1 HZ.out).mono ?_
  rintro e w' ⟨rfl, rfl⟩
  go_wp2_with fail
  refine (implSameLine_any x z true _ hx0 hx1 f00 f01 F1.out).mono ?_
  rintro e w' ⟨rfl, rfl⟩
  go_wp2_with fail
  refine (works_any _).mono ?_
  rintro e w' ⟨rfl, rfl⟩
  go_wp2_with fail
  go_ret
  exact ⟨rfl, rfl⟩

namespace fnSameLine
open Go.ChangeShapes Go.WideShapes Go.ChangeAt Go.RowKit
theorem own : ownKnob Try.prog.godebug = none := by kernel_rfl
set_option maxRecDepth 100000 in
theorem lifted (os : Os) (started : os.Started) (H : Type) (enc : TypeId × Value → H) :
    ReturnsInHanded {} Try.checked os 10 .any (Rows.fnSameLineSpec.pre6 enc Try.prog Try.f10 Rows.fnSameLineRow.domain false) (Rows.fnSameLineSpec.post enc Try.prog Try.f10 false true false false) := by
  refine returnsInHanded_of_change_sized (C := Try.checked) own started (by kernel_rfl) Try.func10
    (ChangeSpec.witness6 (enc := enc) (C := Try.checked) false ⟨#[], #[.int .u32 0, .int .u32 0], []⟩ 8 (by kernel_rfl) (by kernel_rfl) (by kernel_rfl) (by kernel_rfl)) ?_
  intro W base args ds gs before hval0 hW hcnd hsz0 _
  have hval : ∀ (j : Nat) t v, Try.f10.params[j]? = some t → args[j]? = some v → Value.okWide Try.prog W .any base t v := hval0
  have hW' := hW
  obtain ⟨p, q, hA0, hV, rfl, hfz, hnd⟩ := hW
  have hA : DataW.TrodAll enc Try.prog W 0 (fun _ => true) true Try.f10.params.toList args.toList ds p := hA0
  rw [Try.params10] at hA hval
  obtain ⟨v0, vs0, d0, ds0, p0, q0, hargs, rfl, rfl, h0, r0⟩ := trodAll_cons hA
  obtain ⟨v1, vs1, d1, ds1, p1, q1, rfl, rfl, rfl, h1, r1⟩ := trodAll_cons r0
  obtain ⟨rfl, rfl, rfl⟩ := trodAll_nil r1
  obtain rfl : args = #[v0, v1] := by cases args; simp_all
  obtain ⟨rfl, rfl⟩ := trodVars_none hV
  obtain ⟨a0, rfl, rfl, rfl, w0⟩ := open_int Try.underlying26 (hval 0 26 v0 rfl rfl) h0
  have b0 := bounds_u32 w0
  obtain ⟨a1, rfl, rfl, rfl, w1⟩ := open_int Try.underlying26 (hval 1 26 v1 rfl rfl) h1
  have b1 := bounds_u32 w1
  clear hA0 hval0 hsz0
  refine (fnSameLine_any a0 a1 W b0.1 (by omega) b1.1 (by omega)).mono fun e W' ⟨he, hw⟩ => ?_
  subst he
  subst hw
  exact ⟨_, rfl, _, _, _, [], _, [], hW', trodAll_mk1 (shut_bool Try.underlying4 _), (trodAll_cons_mk (shut_int Try.underlying26 w0) (trodAll_cons_mk (shut_int Try.underlying26 w1) trodAll_mk0)), rfl, World.keptBut_refl _ _, fun h => by cases h⟩
theorem over : Rows.fnSameLineRow.holds Try.pinned (OpenSpec.ofChange Rows.fnSameLineSpec) :=
  OpenClaim.holds_of_wide 10 Try.f10 rfl rfl rfl rfl rfl rfl rfl ⟨rfl, rfl, rfl, rfl, rfl⟩ rfl rfl rfl rfl rfl (by kernel_rfl) Try.func10 (by kernel_rfl)
    (of_decide_eq_true (by kernel_rfl)) (by unfold Func.isWrapper; rw [if_neg (of_decide_eq_false (by kernel_rfl))]; exact ⟨rfl, rfl⟩)
    (fun os started H enc _ => lifted os started H enc)
end fnSameLine
/-- The statement. -/
theorem fnSameLine_holds : Rows.FnSameLineSaid := fnSameLine.over
#print axioms fnSameLine_holds
end Go.Proofs.Ytidhemcpoelebaa
