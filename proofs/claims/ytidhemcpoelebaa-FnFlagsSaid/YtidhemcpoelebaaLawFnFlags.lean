/- For every word that has a line or a column: of two statement flags that are set one after the other the last one counts; no condition. -/
import Derived.Test.YtidhemcpoelebaaRows
import Derived.Test.YtidhemcpoelebaaWordLaws
import Derived.WalkKit
import Derived.ProofKit
import Derived.OpenShut
import Derived.ShutString
import Derived.ChangeOld
import Derived.Below
import Derived.SizedLaws
namespace Go.Proofs.Ytidhemcpoelebaa
open Go.RowKit Go.Proofs.Ytidhemcpoelebaa.Bits

set_option maxHeartbeats 2000000 in
theorem fnFlags_any (x : Int) (w : World) (hx0 : 0 ≤ x) (hx1 : x < 4294967296) :
    Calls Try.prog 11 #[.int .u32 x] w fun e w' => e = .returned (.bool true) ∧ w = w' := by
  by_cases he : x / 4096 = 0 ∧ x / 16 % 256 = 0
  · have HE := Lib.hid (emptyB_yes he)
    clear he
    go_enter Try.func11, Try.ntmps11
    go_wp2_with fail
    refine (empty_any x true _ hx0 hx1 HE.out).mono ?_
    rintro e w' ⟨rfl, rfl⟩
    go_wp2_with fail
    refine (works_any _).mono ?_
    rintro e w' ⟨rfl, rfl⟩
    go_wp2_with fail
    go_ret
    exact ⟨rfl, rfl⟩
  · have hne : x ≠ 0 := by omega
    have f0 := withStmtOf_in x 0 hx0 hx1 (by decide) (by decide)
    have f1 := withStmtOf_in x 1 hx0 hx1 (by decide) (by decide)
    have f2 := withStmtOf_in x 2 hx0 hx1 (by decide) (by decide)
    have g1 : withStmtOf (withStmtOf x 2) 1 = withStmtOf x 1 := by
      unfold withStmtOf; rw [if_neg hne, if_neg (by omega), if_neg hne]; omega
    have g2 : withStmtOf (withStmtOf x 0) 2 = withStmtOf x 2 := by
      unfold withStmtOf; rw [if_neg hne, if_neg (by omega), if_neg hne]; omega
    have g3 : withStmtOf (withStmtOf x 1) 0 = withStmtOf x 0 := by
      unfold withStmtOf; rw [if_neg hne, if_neg (by omega), if_neg hne]; omega
    have HE := Lib.hid (emptyB_no he)
    clear he hne
    obtain ⟨y0, k0⟩ : ∃ y, y = withStmtOf x 0 := ⟨_, rfl⟩
    obtain ⟨y1, k1⟩ : ∃ y, y = withStmtOf x 1 := ⟨_, rfl⟩
    obtain ⟨y2, k2⟩ : ∃ y, y = withStmtOf x 2 := ⟨_, rfl⟩
    rw [← k0] at f0
    rw [← k1] at f1
    rw [← k2] at f2
    rw [← k2, ← k1] at g1
    rw [← k0, ← k2] at g2
    rw [← k1, ← k0] at g3
    obtain ⟨f00, f01⟩ := f0
    obtain ⟨f10, f11⟩ := f1
    obtain ⟨f20, f21⟩ := f2
    have K0 := Lib.hid k0.symm
    have K1 := Lib.hid k1.symm
    have K2 := Lib.hid k2.symm
    have G1 := Lib.hid g1
    have G2 := Lib.hid g2
    have G3 := Lib.hid g3
    clear k0 k1 k2 g1 g2 g3
    go_enter Try.func11, Try.ntmps11
    go_wp2_with fail
    refine (empty_any x false _ hx0 hx1 HE.out).mono ?_
    rintro e w' ⟨rfl, rfl⟩
    go_wp2_with fail
    refine (NotStmt_any x y2 _ hx0 hx1 K2.out).mono ?_
    rintro e w' ⟨rfl, rfl⟩
    go_wp2_with fail
    refine (IsStmt_any y2 y1 _ f20 f21 G1.out).mono ?_
    rintro e w' ⟨rfl, rfl⟩
    go_wp2_with fail
    refine (IsStmt_any x y1 _ hx0 hx1 K1.out).mono ?_
    rintro e w' ⟨rfl, rfl⟩
    go_wp2_with fail
    refine (DefaultStmt_any x y0 _ hx0 hx1 K0.out).mono ?_
    rintro e w' ⟨rfl, rfl⟩
    go_wp2_with fail
    refine (NotStmt_any y0 y2 _ f00 f01 G2.out).mono ?_
    rintro e w' ⟨rfl, rfl⟩
    go_wp2_with fail
    refine (NotStmt_any x y2 _ hx0 hx1 K2.out).mono ?_
    rintro e w' ⟨rfl, rfl⟩
    go_wp2_with fail
    refine (IsStmt_any x y1 _ hx0 hx1 K1.out).mono ?_
    rintro e w' ⟨rfl, rfl⟩
    go_wp2_with fail
    refine (DefaultStmt_any y1 y0 _ f10 f11 G3.out).mono ?_
    rintro e w' ⟨rfl, rfl⟩
    go_wp2_with fail
    refine (DefaultStmt_any x y0 _ hx0 hx1 K0.out).mono ?_
    rintro e w' ⟨rfl, rfl⟩
    go_wp2_with fail
    refine (works_any _).mono ?_
    rintro e w' ⟨rfl, rfl⟩
    go_wp2_with fail
    go_ret
    exact ⟨rfl, rfl⟩

namespace fnFlags
open Go.ChangeShapes Go.WideShapes Go.ChangeAt Go.RowKit
theorem own : ownKnob Try.prog.godebug = none := by kernel_rfl
set_option maxRecDepth 100000 in
theorem lifted (os : Os) (started : os.Started) (H : Type) (enc : TypeId × Value → H) :
    ReturnsInHanded {} Try.checked os 11 .any (Rows.fnFlagsSpec.pre6 enc Try.prog Try.f11 Rows.fnFlagsRow.domain false) (Rows.fnFlagsSpec.post enc Try.prog Try.f11 false true false false) := by
  refine returnsInHanded_of_change_sized (C := Try.checked) own started (by kernel_rfl) Try.func11
    (ChangeSpec.witness6 (enc := enc) (C := Try.checked) false ⟨#[], #[.int .u32 0], []⟩ 8 (by kernel_rfl) (by kernel_rfl) (by kernel_rfl) (by kernel_rfl)) ?_
  intro W base args ds gs before hval0 hW hcnd hsz0 _
  have hval : ∀ (j : Nat) t v, Try.f11.params[j]? = some t → args[j]? = some v → Value.okWide Try.prog W .any base t v := hval0
  have hW' := hW
  obtain ⟨p, q, hA0, hV, rfl, hfz, hnd⟩ := hW
  have hA : DataW.TrodAll enc Try.prog W 0 (fun _ => true) true Try.f11.params.toList args.toList ds p := hA0
  rw [Try.params11] at hA hval
  obtain ⟨v0, vs0, d0, ds0, p0, q0, hargs, rfl, rfl, h0, r0⟩ := trodAll_cons hA
  obtain ⟨rfl, rfl, rfl⟩ := trodAll_nil r0
  obtain rfl : args = #[v0] := by cases args; simp_all
  obtain ⟨rfl, rfl⟩ := trodVars_none hV
  obtain ⟨a0, rfl, rfl, rfl, w0⟩ := open_int Try.underlying26 (hval 0 26 v0 rfl rfl) h0
  have b0 := bounds_u32 w0
  clear hA0 hval0 hsz0
  refine (fnFlags_any a0 W b0.1 (by omega)).mono fun e W' ⟨he, hw⟩ => ?_
  subst he
  subst hw
  exact ⟨_, rfl, _, _, _, [], _, [], hW', trodAll_mk1 (shut_bool Try.underlying4 _), (trodAll_cons_mk (shut_int Try.underlying26 w0) trodAll_mk0), rfl, World.keptBut_refl _ _, fun h => by cases h⟩
theorem over : Rows.fnFlagsRow.holds Try.pinned (OpenSpec.ofChange Rows.fnFlagsSpec) :=
  OpenClaim.holds_of_wide 11 Try.f11 rfl rfl rfl rfl rfl rfl rfl ⟨rfl, rfl, rfl, rfl, rfl⟩ rfl rfl rfl rfl rfl (by kernel_rfl) Try.func11 (by kernel_rfl)
    (of_decide_eq_true (by kernel_rfl)) (by unfold Func.isWrapper; rw [if_neg (of_decide_eq_false (by kernel_rfl))]; exact ⟨rfl, rfl⟩)
    (fun os started H enc _ => lifted os started H enc)
end fnFlags
/-- The statement. -/
theorem fnFlags_holds : Rows.FnFlagsSaid := fnFlags.over
#print axioms fnFlags_holds
end Go.Proofs.Ytidhemcpoelebaa
