/- For every word and every mark, brought into its bounds by a remainder, the word with the mark has the mark and the same line and column; no condition. -/
import Derived.Test.YtidhemcpoelebaaRows
import Derived.Test.YtidhemcpoelebaaWordLaws
import Derived.WalkKit
import Derived.ProofKit
import Derived.OpenShut
import Derived.ShutString
import Derived.ChangeOld
import Derived.Below
import Derived.SizedLaws
namespace Go.Proofs.Ytidhemcpoelebaa
open Go.RowKit Go.Proofs.Ytidhemcpoelebaa.Bits

set_option maxHeartbeats 1000000 in
theorem fnXlogue_any (x mark : Int) (w : World) (hx0 : 0 ≤ x) (hx1 : x < 4294967296) (hmark0 : 0 ≤ mark) (hmark1 : mark < 18446744073709551616) :
    Calls Try.prog 8 #[.int .u32 x, .int .u64 mark] w fun e w' => e = .returned (.bool true) ∧ w = w' := by
  obtain ⟨m, hm⟩ : ∃ m, m = mark % 3 := ⟨_, rfl⟩
  obtain ⟨bm0, bm1⟩ : 0 ≤ m ∧ m < 3 := by omega
  have HM := Lib.hid hm
  clear hm
  have f0 := withMarkOf_in x m hx0 hx1 bm0 (by omega)
  have f1 : withMarkOf x m / 4096 = x / 4096 := by
    unfold withMarkOf; split
    · split <;> omega
    · omega
  have f2 : withMarkOf x m / 16 % 256 = x / 16 % 256 := by
    unfold withMarkOf; split
    · split <;> omega
    · omega
  have f4 : withMarkOf x m / 4 % 4 = m := by
    unfold withMarkOf; split
    · split <;> omega
    · omega
  obtain ⟨y, hy⟩ : ∃ y, y = withMarkOf x m := ⟨_, rfl⟩
  rw [← hy] at f0 f1 f2 f4
  obtain ⟨f00, f01⟩ := f0
  have HY := Lib.hid hy.symm
  have F1 := Lib.hid f1
  have F2 := Lib.hid f2
  have F4 := Lib.hid f4
  clear hy f1 f2 f4
  go_enter Try.func8, Try.ntmps8
  go_wp2_with fail
  refine (within_any mark 2 m _ (by omega) (by omega) (by decide) (by decide) HM.out.symm).mono ?_
  rintro e w' ⟨rfl, rfl⟩
  go_wp2_with fail
  refine (Parts_any x (x / 4096) (x / 16 % 256) _ _ _ hx0 hx1 rfl rfl rfl rfl).mono ?_
  rintro e w' ⟨rfl, rfl⟩
  go_wp2_with fail
  refine (Xlogue_any x m y _ hx0 hx1 bm0 (by omega) HY.out).mono ?_
  rintro e w' ⟨rfl, rfl⟩
  go_wp2_with fail
  refine (Parts_any y (x / 4096) (x / 16 % 256) _ m _ f00 f01 F1.out F2.out rfl F4.out).mono ?_
  rintro e w' ⟨rfl, rfl⟩
  go_wp2_with fail
  refine (works_any _).mono ?_
  rintro e w' ⟨rfl, rfl⟩
  go_wp2_with fail
  go_ret
  exact ⟨rfl, rfl⟩

namespace fnXlogue
open Go.ChangeShapes Go.WideShapes Go.ChangeAt Go.RowKit
theorem own : ownKnob Try.prog.godebug = none := by kernel_rfl
set_option maxRecDepth 100000 in
theorem lifted (os : Os) (started : os.Started) (H : Type) (enc : TypeId × Value → H) :
    ReturnsInHanded {} Try.checked os 8 .any (Rows.fnXlogueSpec.pre6 enc Try.prog Try.f8 Rows.fnXlogueRow.domain false) (Rows.fnXlogueSpec.post enc Try.prog Try.f8 false true false false) := by
  refine returnsInHanded_of_change_sized (C := Try.checked) own started (by kernel_rfl) Try.func8
    (ChangeSpec.witness6 (enc := enc) (C := Try.checked) false ⟨#[], #[.int .u32 0, .int .u64 0], []⟩ 8 (by kernel_rfl) (by kernel_rfl) (by kernel_rfl) (by kernel_rfl)) ?_
  intro W base args ds gs before hval0 hW hcnd hsz0 _
  have hval : ∀ (j : Nat) t v, Try.f8.params[j]? = some t → args[j]? = some v → Value.okWide Try.prog W .any base t v := hval0
  have hW' := hW
  obtain ⟨p, q, hA0, hV, rfl, hfz, hnd⟩ := hW
  have hA : DataW.TrodAll enc Try.prog W 0 (fun _ => true) true Try.f8.params.toList args.toList ds p := hA0
  rw [Try.params8] at hA hval
  obtain ⟨v0, vs0, d0, ds0, p0, q0, hargs, rfl, rfl, h0, r0⟩ := trodAll_cons hA
  obtain ⟨v1, vs1, d1, ds1, p1, q1, rfl, rfl, rfl, h1, r1⟩ := trodAll_cons r0
  obtain ⟨rfl, rfl, rfl⟩ := trodAll_nil r1
  obtain rfl : args = #[v0, v1] := by cases args; simp_all
  obtain ⟨rfl, rfl⟩ := trodVars_none hV
  obtain ⟨a0, rfl, rfl, rfl, w0⟩ := open_int Try.underlying26 (hval 0 26 v0 rfl rfl) h0
  have b0 := bounds_u32 w0
  obtain ⟨a1, rfl, rfl, rfl, w1⟩ := open_int Try.underlying22 (hval 1 22 v1 rfl rfl) h1
  have b1 := bounds_u64 w1
  clear hA0 hval0 hsz0
  refine (fnXlogue_any a0 a1 W b0.1 (by omega) b1.1 (by omega)).mono fun e W' ⟨he, hw⟩ => ?_
  subst he
  subst hw
  exact ⟨_, rfl, _, _, _, [], _, [], hW', trodAll_mk1 (shut_bool Try.underlying4 _), (trodAll_cons_mk (shut_int Try.underlying26 w0) (trodAll_cons_mk (shut_int Try.underlying22 w1) trodAll_mk0)), rfl, World.keptBut_refl _ _, fun h => by cases h⟩
theorem over : Rows.fnXlogueRow.holds Try.pinned (OpenSpec.ofChange Rows.fnXlogueSpec) :=
  OpenClaim.holds_of_wide 8 Try.f8 rfl rfl rfl rfl rfl rfl rfl ⟨rfl, rfl, rfl, rfl, rfl⟩ rfl rfl rfl rfl rfl (by kernel_rfl) Try.func8 (by kernel_rfl)
    (of_decide_eq_true (by kernel_rfl)) (by unfold Func.isWrapper; rw [if_neg (of_decide_eq_false (by kernel_rfl))]; exact ⟨rfl, rfl⟩)
    (fun os started H enc _ => lifted os started H enc)
end fnXlogue
/-- The statement. -/
theorem fnXlogue_holds : Rows.FnXlogueSaid := fnXlogue.over
#print axioms fnXlogue_holds
end Go.Proofs.Ytidhemcpoelebaa
