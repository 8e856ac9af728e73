/- For every line and column, brought into their bounds by remainders, the word that is shifted to column 1 has the same line and the column 1; no condition. -/
import Derived.Test.YtidhemcpoelebaaRows
import Derived.Test.YtidhemcpoelebaaWordLaws
import Derived.WalkKit
import Derived.ProofKit
import Derived.OpenShut
import Derived.ShutString
import Derived.ChangeOld
import Derived.Below
import Derived.SizedLaws
namespace Go.Proofs.Ytidhemcpoelebaa
open Go.RowKit Go.Proofs.Ytidhemcpoelebaa.Bits

set_option maxHeartbeats 1000000 in
theorem fnColumn1_any (line col : Int) (w : World) (hline0 : 0 ≤ line) (hline1 : line < 18446744073709551616) (hcol0 : 0 ≤ col) (hcol1 : col < 18446744073709551616) :
    Calls Try.prog 9 #[.int .u64 line, .int .u64 col] w fun e w' => e = .returned (.bool true) ∧ w = w' := by
  obtain ⟨l, hl⟩ : ∃ l, l = line % 1000000 := ⟨_, rfl⟩
  obtain ⟨c, hc⟩ : ∃ c, c = col % 251 := ⟨_, rfl⟩
  have bl : 0 ≤ l ∧ l < 1000000 := by omega
  have bc : 0 ≤ c ∧ c < 251 := by omega
  obtain ⟨bl0, bl1⟩ := bl
  obtain ⟨bc0, bc1⟩ := bc
  have HL := Lib.hid hl
  have HC := Lib.hid hc
  clear hl hc
  obtain ⟨x, hx⟩ : ∃ x, x = (1 + l) * 4096 + c * 16 := ⟨_, rfl⟩
  have bx : 0 ≤ x ∧ x < 4294967296 := by omega
  obtain ⟨bx0, bx1⟩ := bx
  have f0 : wordOf (1 + l) c = x := (wordOf_plain _ _ (by omega) (by omega)).trans hx.symm
  have f1 : x / 4096 = 1 + l := by omega
  have f2 : x / 16 % 256 = c := by omega
  obtain ⟨y, hy⟩ : ∃ y, y = (1 + l) * 4096 + 17 := ⟨_, rfl⟩
  have by_ : 0 ≤ y ∧ y < 4294967296 := by omega
  obtain ⟨by0, by1⟩ := by_
  have f3 : withStmtOf (wordOf (x / 4096) 1) 1 = y := by
    rw [f1, wordOf_plain _ _ (by omega) (by omega)]
    unfold withStmtOf
    rw [if_neg (by omega)]
    omega
  have f4 : y / 4096 = 1 + l := by omega
  have f5 : y / 16 % 256 = 1 := by omega
  have F5 := Lib.hid f5
  have F0 := Lib.hid f0
  have F1 := Lib.hid f1
  have F2 := Lib.hid f2
  have F3 := Lib.hid f3
  have F4 := Lib.hid f4
  clear f0 f1 f2 f3 f4 f5 hx hy
  go_enter Try.func9, Try.ntmps9
  go_wp2_with fail
  refine (within_any line 999999 l _ (by omega) (by omega) (by decide) (by decide) HL.out.symm).mono ?_
  rintro e w' ⟨rfl, rfl⟩
  go_wp2_with fail
  refine (within_any col 250 c _ (by omega) (by omega) (by decide) (by decide) HC.out.symm).mono ?_
  rintro e w' ⟨rfl, rfl⟩
  go_wp2_with fail
  refine (Word_any (1 + l) c x _ (by omega) (by omega) (by omega) F0.out).mono ?_
  rintro e w' ⟨rfl, rfl⟩
  go_wp2_with fail
  refine (Column1_any x y _ bx0 bx1 F3.out).mono ?_
  rintro e w' ⟨rfl, rfl⟩
  go_wp2_with fail
  refine (Parts_any y (1 + l) 1 _ _ _ by0 by1 F4.out F5.out rfl rfl).mono ?_
  rintro e w' ⟨rfl, rfl⟩
  go_wp2_with fail
  go_ret
  exact ⟨rfl, rfl⟩

namespace fnColumn1
open Go.ChangeShapes Go.WideShapes Go.ChangeAt Go.RowKit
theorem own : ownKnob Try.prog.godebug = none := by kernel_rfl
set_option maxRecDepth 100000 in
theorem lifted (os : Os) (started : os.Started) (H : Type) (enc : TypeId × Value → H) :
    ReturnsInHanded {} Try.checked os 9 .any (Rows.fnColumn1Spec.pre6 enc Try.prog Try.f9 Rows.fnColumn1Row.domain false) (Rows.fnColumn1Spec.post enc Try.prog Try.f9 false true false false) := by
  refine returnsInHanded_of_change_sized (C := Try.checked) own started (by kernel_rfl) Try.func9
    (ChangeSpec.witness6 (enc := enc) (C := Try.checked) false ⟨#[], #[.int .u64 0, .int .u64 0], []⟩ 8 (by kernel_rfl) (by kernel_rfl) (by kernel_rfl) (by kernel_rfl)) ?_
  intro W base args ds gs before hval0 hW hcnd hsz0 _
  have hval : ∀ (j : Nat) t v, Try.f9.params[j]? = some t → args[j]? = some v → Value.okWide Try.prog W .any base t v := hval0
  have hW' := hW
  obtain ⟨p, q, hA0, hV, rfl, hfz, hnd⟩ := hW
  have hA : DataW.TrodAll enc Try.prog W 0 (fun _ => true) true Try.f9.params.toList args.toList ds p := hA0
  rw [Try.params9] at hA hval
  obtain ⟨v0, vs0, d0, ds0, p0, q0, hargs, rfl, rfl, h0, r0⟩ := trodAll_cons hA
  obtain ⟨v1, vs1, d1, ds1, p1, q1, rfl, rfl, rfl, h1, r1⟩ := trodAll_cons r0
  obtain ⟨rfl, rfl, rfl⟩ := trodAll_nil r1
  obtain rfl : args = #[v0, v1] := by cases args; simp_all
  obtain ⟨rfl, rfl⟩ := trodVars_none hV
  obtain ⟨a0, rfl, rfl, rfl, w0⟩ := open_int Try.underlying22 (hval 0 22 v0 rfl rfl) h0
  have b0 := bounds_u64 w0
  obtain ⟨a1, rfl, rfl, rfl, w1⟩ := open_int Try.underlying22 (hval 1 22 v1 rfl rfl) h1
  have b1 := bounds_u64 w1
  clear hA0 hval0 hsz0
  refine (fnColumn1_any a0 a1 W b0.1 (by omega) b1.1 (by omega)).mono fun e W' ⟨he, hw⟩ => ?_
  subst he
  subst hw
  exact ⟨_, rfl, _, _, _, [], _, [], hW', trodAll_mk1 (shut_bool Try.underlying4 _), (trodAll_cons_mk (shut_int Try.underlying22 w0) (trodAll_cons_mk (shut_int Try.underlying22 w1) trodAll_mk0)), rfl, World.keptBut_refl _ _, fun h => by cases h⟩
theorem over : Rows.fnColumn1Row.holds Try.pinned (OpenSpec.ofChange Rows.fnColumn1Spec) :=
  OpenClaim.holds_of_wide 9 Try.f9 rfl rfl rfl rfl rfl rfl rfl ⟨rfl, rfl, rfl, rfl, rfl⟩ rfl rfl rfl rfl rfl (by kernel_rfl) Try.func9 (by kernel_rfl)
    (of_decide_eq_true (by kernel_rfl)) (by unfold Func.isWrapper; rw [if_neg (of_decide_eq_false (by kernel_rfl))]; exact ⟨rfl, rfl⟩)
    (fun os started H enc _ => lifted os started H enc)
end fnColumn1
/-- The statement. -/
theorem fnColumn1_holds : Rows.FnColumn1Said := fnColumn1.over
#print axioms fnColumn1_holds
end Go.Proofs.Ytidhemcpoelebaa
