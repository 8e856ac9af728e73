/- For every name, line and column (brought into their bounds by remainders): in a file without directives a relative position is the absolute one; no condition beyond the tables that the card ties to the text. -/
import Derived.Test.YtlohgoedlkkicaaDoorRows
import Derived.Test.YtlohgoedlkkicaaDoorCards
import Derived.Test.YtlohgoedlkkicaaDoorTie
import Derived.Test.YtlohgoedlkkicaaDoorFileForm
import Derived.WalkKit
import Derived.ProofKit
import Derived.OpenShut
import Derived.ShutString
import Derived.ChangeOld
import Derived.Below
import Derived.SizedLaws
import Derived.SevenTiedAt
import Derived.Stop.Joined
namespace Go.Proofs.YtlohgoedlkkicaaDoor
open Go.RowKit Go.Proofs.YtlohgoedlkkicaaDoor.Bits

set_option maxRecDepth 100000 in
set_option maxHeartbeats 8000000 in
theorem fnFile_any (file abs : ByteArray) (line col : Int) (w : World) (hf : file.size ≤ maxLen) (ha : abs.size ≤ maxLen) (l0 : 0 ≤ line) (l1 : line < 18446744073709551616) (c0 : 0 ≤ col) (c1 : col < 18446744073709551616) (hpow : Pow10 w) :
    Calls Tryd.prog 4 #[.string file, .string abs, .int .u64 line, .int .u64 col] w fun e w' => e = .returned (.bool true) ∧ Below w.heap.size w w' := by
  have HP := Lib.hid hpow
  have hml : maxLen = 9223372036854775807 := rfl
  clear hpow
  by_cases hf1 : file.size ≤ 2147483647
  · by_cases ha1 : abs.size ≤ 2147483647
    · obtain ⟨l, hl⟩ : ∃ l, l = line % 1000000 := ⟨_, rfl⟩
      obtain ⟨c, hc⟩ : ∃ c, c = col % 251 := ⟨_, rfl⟩
      have bl0 : 0 ≤ l := by omega
      have bl1 : l < 1000000 := by omega
      have bc0 : 0 ≤ c := by omega
      have bc1 : c < 251 := by omega
      have HL := Lib.hid hl
      have HC := Lib.hid hc
      clear hl hc
      obtain ⟨W, hW⟩ : ∃ W, W = w.alloc (.cells #[.string file, .string abs, .int .i64 (-1), .int .u64 0, .int .u64 0, .int .u64 0, .int .u64 0] 29) := ⟨_, rfl⟩
      have hb : Below w.heap.size w W := by rw [hW]; exact below_new _ _
      have hK : Blk W w.heap.size 29 #[.string file, .string abs, .int .i64 (-1), .int .u64 0, .int .u64 0, .int .u64 0, .int .u64 0] := by rw [hW]; exact Blk.new _ _ _
      have HB := Lib.hid (bases_1 (x := fileD file abs) hK (fileD_in file abs (by omega) (by omega)))
      have HBW := Lib.hid hb
      clear hb hK
      go_enter Tryd.func4, Tryd.ntmps4
      go_wp2_with fail
      refine (within_any line 999999 l _ (by omega) (by omega) (by decide) (by decide) HL.out.symm).mono ?_
      rintro e w' ⟨rfl, rfl⟩
      go_wp2_with fail
      refine (within_any col 250 c _ (by omega) (by omega) (by decide) (by decide) HC.out.symm).mono ?_
      rintro e w' ⟨rfl, rfl⟩
      go_wp2_with fail
      obtain ⟨u, hu⟩ : ∃ u : Nat, 1 + l = u := ⟨(1 + l).toNat, by omega⟩
      obtain ⟨v, rfl⟩ : ∃ v : Nat, c = v := ⟨c.toNat, by omega⟩
      have hu1 : 1 ≤ u := by omega
      have hu2 : u ≤ 1000000 := by omega
      have hv2 : v ≤ 250 := by omega
      rw [hu, ← hW]
      clear hW hu bl0 bl1 bc0 bc1 HL HC
      refine (Tell_any _ 1 1 [fileD file abs] 0 u v _ HB.out (fileD_fits file abs hf1 ha1) (fileD_ok file abs) (pow_keep HP.out HBW.out) (by decide) (by omega) (by omega) (by omega) (by omega)).mono ?_
      rintro e w3 ⟨he, hb3⟩
      rw [file_form file abs u v hu1 hu2 hv2] at he
      subst he
      have HB3 := Lib.hid (below_then HBW.out HBW.out.size hb3)
      clear hb3 HB
      generalize fmtS file u v false = s1 at *
      generalize fmtS file u v true = s2 at *
      go_wp2
      go_ret
      exact ⟨rfl, HB3.out.alloc HB3.out.size _⟩
    · go_enter Tryd.func4, Tryd.ntmps4
      go_wp2
      go_ret
      exact ⟨rfl, Below.refl _ _⟩
  · go_enter Tryd.func4, Tryd.ntmps4
    go_wp2
    go_ret
    exact ⟨rfl, Below.refl _ _⟩

namespace fnFile
open Go.ChangeShapes Go.WideShapes Go.ChangeAt Go.RowKit
theorem own : ownKnob Tryd.prog.godebug = none := by kernel_rfl
theorem laidOut : laidOutB Tryd.prog = true := by kernel_rfl
set_option maxRecDepth 100000 in
theorem lifted (os : Os) (started : os.Started) (H : Type) (enc : TypeId × Value → H) :
    ReturnsInHanded {} Tryd.checked os 4 .any (fun w args => (Rows.fnFileSpec.pre enc Tryd.prog Tryd.f4 [] false w args ∧ laidMetH Tryd.prog laid3 w) ∧ sizedMet enc Tryd.prog Tryd.f4 (OpenSpec.ofChange Rows.fnFileSpec) false w args)
      (Rows.fnFileSpec.post enc Tryd.prog Tryd.f4 false true false false) := by
  refine returnsInHanded_of_change_and (C := Tryd.checked) (X := fun w _ => laidMetH Tryd.prog laid3 w) (fun _ _ _ hh h => h.of_heap hh) own started (by kernel_rfl) Tryd.func4
    (ChangeSpec.witness_shaped (enc := enc) (C := Tryd.checked) (os := os) (X := fun w _ => laidMetH Tryd.prog laid3 w) false (World.doorLaid Tryd.prog 43 os) #[.string ⟨#[]⟩, .string ⟨#[]⟩, .int .u64 0, .int .u64 0] 8 rfl (World.shaped_of_RefB (by kernel_rfl) (by kernel_rfl)) (by kernel_rfl) (by kernel_rfl) (by kernel_rfl) (door_met os _)) ?_
  intro W base args ds gs before hval0 hW _ _ hL _
  have hval : ∀ (j : Nat) t v, Tryd.f4.params[j]? = some t → args[j]? = some v → Value.okWide Tryd.prog W .any base t v := hval0
  have hW' := hW
  obtain ⟨p, q, hA0, hV, rfl, hfz, hnd⟩ := hW
  have hA : DataW.TrodAll enc Tryd.prog W 0 (fun _ => true) true Tryd.f4.params.toList args.toList ds p := hA0
  rw [Tryd.params4] at hA hval
  obtain ⟨v0, vs0, d0, ds0, p0, q0, hargs, rfl, rfl, h0, r0⟩ := trodAll_cons hA
  obtain ⟨v1, vs1, d1, ds1, p1, q1, rfl, rfl, rfl, h1, r1⟩ := trodAll_cons r0
  obtain ⟨v2, vs2, d2, ds2, p2, q2, rfl, rfl, rfl, h2, r2⟩ := trodAll_cons r1
  obtain ⟨v3, vs3, d3, ds3, p3, q3, rfl, rfl, rfl, h3, r3⟩ := trodAll_cons r2
  obtain ⟨rfl, rfl, rfl⟩ := trodAll_nil r3
  obtain rfl : args = #[v0, v1, v2, v3] := by cases args; simp_all
  obtain ⟨rfl, rfl⟩ := trodVars_none hV
  have k0 := h0
  have k1 := h1
  have k2 := h2
  have k3 := h3
  obtain ⟨a0, rfl, rfl, rfl, w0⟩ := Go.ChangeMaps.open_string Tryd.underlying9 (hval 0 9 v0 rfl rfl) h0
  obtain ⟨a1, rfl, rfl, rfl, w1⟩ := Go.ChangeMaps.open_string Tryd.underlying9 (hval 1 9 v1 rfl rfl) h1
  obtain ⟨a2, rfl, rfl, rfl, w2⟩ := open_int Tryd.underlying23 (hval 2 23 v2 rfl rfl) h2
  have b2 := bounds_u64 w2
  obtain ⟨a3, rfl, rfl, rfl, w3⟩ := open_int Tryd.underlying23 (hval 3 23 v3 rfl rfl) h3
  have b3 := bounds_u64 w3
  have hargs2 : ∀ (t : TypeId) (v : Value) (d : DataW H) (ps : List MemPlace) (W' : World), Tryd.prog.readableRec t = true → t < Tryd.prog.types.size → DataW.Trod enc Tryd.prog W 0 (fun _ => true) true t v d ps → Below W.heap.size W W' → (∀ x ∈ ps, x.block < W.heap.size) → DataW.Trod enc Tryd.prog W' 0 (fun b => decide (b < W.heap.size)) true t v d ps :=
    fun t v d ps W' h1 h2 h3 h4 h5 => Below.trod laidOut h1 h2 h3 h4 h5
  clear hA0 hval0
  refine (fnFile_any a0 a1 a2 a3 W w0 w1 b2.1 (by omega) b3.1 (by omega) (pow_of_laid hL)).mono fun e W' ⟨he, hw⟩ => ?_
  subst he
  exact ⟨_, rfl, _, _, _, [], _, [], hW', trodAll_mk1 (shut_bool Tryd.underlying4 _), (trodAll_cons_mk (hargs2 9 _ _ _ _ (by kernel_rfl) (of_decide_eq_true (by kernel_rfl)) k0 hw (fun x hx => absurd hx (by simp))) (trodAll_cons_mk (hargs2 9 _ _ _ _ (by kernel_rfl) (of_decide_eq_true (by kernel_rfl)) k1 hw (fun x hx => absurd hx (by simp))) (trodAll_cons_mk (hargs2 23 _ _ _ _ (by kernel_rfl) (of_decide_eq_true (by kernel_rfl)) k2 hw (fun x hx => absurd hx (by simp))) (trodAll_cons_mk (hargs2 23 _ _ _ _ (by kernel_rfl) (of_decide_eq_true (by kernel_rfl)) k3 hw (fun x hx => absurd hx (by simp))) trodAll_mk0)))), rfl, hw.frame _, fun h => by cases h⟩
theorem over : Rows.fnFileRow.holds Tryd.pinned (OpenSpec.ofChange Rows.fnFileSpec) :=
  OpenClaim.holds_of_wide 4 Tryd.f4 rfl rfl rfl rfl rfl rfl rfl ⟨rfl, rfl, rfl, rfl, rfl⟩ rfl rfl rfl rfl rfl (by kernel_rfl) Tryd.func4 (by kernel_rfl)
    (of_decide_eq_true (by kernel_rfl)) (by unfold Func.isWrapper; rw [if_neg (of_decide_eq_false (by kernel_rfl))]; exact ⟨rfl, rfl⟩)
    (fun os started H enc _ => lifted os started H enc)
end fnFile
/-- The statement: the card. -/
theorem fnFile_holds : Rows.FnFileCardSaid :=
  Claim7.holds_tied_plain_at .later [] [.data, .data, .data] true Rows.fnFileCard.stood.harness false
    fnFile.over (fun _ h => by cases h) (by kernel_rfl) (fun _ h => by cases h) fnFile_row_tie rfl ⟨rfl, rfl⟩ (by kernel_rfl) rfl
    (fun f fn hf hfn => by
      obtain rfl : f = 4 := Option.some.inj ((show Tryd.prog.funcNamed "waystone/laws.FnFile" = some 4 by kernel_rfl).symm.trans hf) |>.symm
      obtain rfl : fn = Tryd.f4 := (Option.some.inj (Tryd.func4.symm.trans hfn)).symm
      exact ⟨by kernel_rfl, fun j t ht => by
        rw [Tryd.params4] at ht
        have hm : t ∈ [9, 9, 23, 23] := by simpa using Array.mem_of_getElem? ht
        have hall : ([9, 9, 23, 23].all fun u => !Tryd.prog.wantsStandIn u) = true := by kernel_rfl
        exact (show Tryd.prog.wantsStandIn t = false by simpa using List.all_eq_true.1 hall t hm)⟩)
    (by kernel_rfl)
#print axioms fnFile_holds
end Go.Proofs.YtlohgoedlkkicaaDoor
