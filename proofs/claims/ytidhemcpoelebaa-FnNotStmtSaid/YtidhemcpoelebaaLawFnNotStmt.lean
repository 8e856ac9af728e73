/- For every word: the word that is no statement boundary has the flag 2 and keeps line, column and mark; no condition. -/
import Derived.Test.YtidhemcpoelebaaRows
import Derived.Test.YtidhemcpoelebaaWordLaws
import Derived.WalkKit
import Derived.ProofKit
import Derived.OpenShut
import Derived.ShutString
import Derived.ChangeOld
import Derived.Below
import Derived.SizedLaws
namespace Go.Proofs.Ytidhemcpoelebaa
open Go.RowKit Go.Proofs.Ytidhemcpoelebaa.Bits

set_option maxHeartbeats 1000000 in
theorem fnNotStmt_any (x : Int) (w : World) (hx0 : 0 ≤ x) (hx1 : x < 4294967296) :
    Calls Try.prog 7 #[.int .u32 x] w fun e w' => e = .returned (.bool true) ∧ w = w' := by
  have f0 := withStmtOf_in x 2 hx0 hx1 (by decide) (by decide)
  have f1 : withStmtOf x 2 / 4096 = x / 4096 := by unfold withStmtOf; split <;> omega
  have f2 : withStmtOf x 2 / 16 % 256 = x / 16 % 256 := by unfold withStmtOf; split <;> omega
  have f3 : isStmtOf (withStmtOf x 2) = 2 := by
    unfold withStmtOf isStmtOf
    by_cases h : x = 0
    · rw [if_pos h, if_pos rfl]
    · rw [if_neg h, if_neg (by omega)]; omega
  have f4 : withStmtOf x 2 / 4 % 4 = x / 4 % 4 := by unfold withStmtOf; split <;> omega
  obtain ⟨y, hy⟩ : ∃ y, y = withStmtOf x 2 := ⟨_, rfl⟩
  rw [← hy] at f0 f1 f2 f3 f4
  obtain ⟨f00, f01⟩ := f0
  have HY := Lib.hid hy.symm
  have F1 := Lib.hid f1
  have F2 := Lib.hid f2
  have F3 := Lib.hid f3
  have F4 := Lib.hid f4
  clear hy f1 f2 f3 f4
  go_enter Try.func7, Try.ntmps7
  go_wp2_with fail
  refine (NotStmt_any x y _ hx0 hx1 HY.out).mono ?_
  rintro e w' ⟨rfl, rfl⟩
  go_wp2_with fail
  refine (flagged_any y x 2 _ f00 f01 hx0 hx1 F1.out F2.out F3.out F4.out).mono ?_
  rintro e w' ⟨rfl, rfl⟩
  go_wp2_with fail
  go_ret
  exact ⟨rfl, rfl⟩

namespace fnNotStmt
open Go.ChangeShapes Go.WideShapes Go.ChangeAt Go.RowKit
theorem own : ownKnob Try.prog.godebug = none := by kernel_rfl
set_option maxRecDepth 100000 in
theorem lifted (os : Os) (started : os.Started) (H : Type) (enc : TypeId × Value → H) :
    ReturnsInHanded {} Try.checked os 7 .any (Rows.fnNotStmtSpec.pre6 enc Try.prog Try.f7 Rows.fnNotStmtRow.domain false) (Rows.fnNotStmtSpec.post enc Try.prog Try.f7 false true false false) := by
  refine returnsInHanded_of_change_sized (C := Try.checked) own started (by kernel_rfl) Try.func7
    (ChangeSpec.witness6 (enc := enc) (C := Try.checked) false ⟨#[], #[.int .u32 0], []⟩ 8 (by kernel_rfl) (by kernel_rfl) (by kernel_rfl) (by kernel_rfl)) ?_
  intro W base args ds gs before hval0 hW hcnd hsz0 _
  have hval : ∀ (j : Nat) t v, Try.f7.params[j]? = some t → args[j]? = some v → Value.okWide Try.prog W .any base t v := hval0
  have hW' := hW
  obtain ⟨p, q, hA0, hV, rfl, hfz, hnd⟩ := hW
  have hA : DataW.TrodAll enc Try.prog W 0 (fun _ => true) true Try.f7.params.toList args.toList ds p := hA0
  rw [Try.params7] at hA hval
  obtain ⟨v0, vs0, d0, ds0, p0, q0, hargs, rfl, rfl, h0, r0⟩ := trodAll_cons hA
  obtain ⟨rfl, rfl, rfl⟩ := trodAll_nil r0
  obtain rfl : args = #[v0] := by cases args; simp_all
  obtain ⟨rfl, rfl⟩ := trodVars_none hV
  obtain ⟨a0, rfl, rfl, rfl, w0⟩ := open_int Try.underlying26 (hval 0 26 v0 rfl rfl) h0
  have b0 := bounds_u32 w0
  clear hA0 hval0 hsz0
  refine (fnNotStmt_any a0 W b0.1 (by omega)).mono fun e W' ⟨he, hw⟩ => ?_
  subst he
  subst hw
  exact ⟨_, rfl, _, _, _, [], _, [], hW', trodAll_mk1 (shut_bool Try.underlying4 _), (trodAll_cons_mk (shut_int Try.underlying26 w0) trodAll_mk0), rfl, World.keptBut_refl _ _, fun h => by cases h⟩
theorem over : Rows.fnNotStmtRow.holds Try.pinned (OpenSpec.ofChange Rows.fnNotStmtSpec) :=
  OpenClaim.holds_of_wide 7 Try.f7 rfl rfl rfl rfl rfl rfl rfl ⟨rfl, rfl, rfl, rfl, rfl⟩ rfl rfl rfl rfl rfl (by kernel_rfl) Try.func7 (by kernel_rfl)
    (of_decide_eq_true (by kernel_rfl)) (by unfold Func.isWrapper; rw [if_neg (of_decide_eq_false (by kernel_rfl))]; exact ⟨rfl, rfl⟩)
    (fun os started H enc _ => lifted os started H enc)
end fnNotStmt
/-- The statement. -/
theorem fnNotStmt_holds : Rows.FnNotStmtSaid := fnNotStmt.over
#print axioms fnNotStmt_holds
end Go.Proofs.Ytidhemcpoelebaa
