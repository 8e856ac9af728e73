/- For every name, line and column (brought into their bounds by remainders): a known position of a file is formatted as its name, the line, and the column if it is asked for and known; no condition beyond the tables that the card ties to the text. -/
import Derived.Test.YtlohgoedlkkicaaDoorRows
import Derived.Test.YtlohgoedlkkicaaDoorCards
import Derived.Test.YtlohgoedlkkicaaDoorTie
import Derived.Test.YtlohgoedlkkicaaDoorFileForm
import Derived.WalkKit
import Derived.ProofKit
import Derived.OpenShut
import Derived.ShutString
import Derived.ChangeOld
import Derived.Below
import Derived.SizedLaws
import Derived.SevenTiedAt
import Derived.Stop.Joined
namespace Go.Proofs.YtlohgoedlkkicaaDoor
open Go.RowKit Go.Proofs.YtlohgoedlkkicaaDoor.Bits

/-- The colon. -/
abbrev colon : ByteArray := ⟨#[58]⟩
theorem plain_eq (f : ByteArray) (u v : Nat) : fmtS f u v false = f ++ colon ++ decS u := by
  unfold fmtS fmtB decS
  apply ByteArray.ext
  simp [ByteArray.data_append]
theorem full_eq (f : ByteArray) (u v : Nat) (h0 : 0 < v) (h1 : v < 255) : fmtS f u v true = f ++ colon ++ decS u ++ (colon ++ decS v) := by
  unfold fmtS fmtB decS
  apply ByteArray.ext
  simp [ByteArray.data_append, h0, h1]
theorem full_zero (f : ByteArray) (u : Nat) : fmtS f u 0 true = f ++ colon ++ decS u := by
  unfold fmtS fmtB decS
  apply ByteArray.ext
  simp [ByteArray.data_append]

set_option maxRecDepth 100000 in
set_option maxHeartbeats 8000000 in
theorem fnFormat_any (file : ByteArray) (line col : Int) (w : World) (hf : file.size ≤ maxLen) (l0 : 0 ≤ line) (l1 : line < 18446744073709551616) (c0 : 0 ≤ col) (c1 : col < 18446744073709551616) (hpow : Pow10 w) :
    Calls Tryd.prog 5 #[.string file, .int .u64 line, .int .u64 col] w fun e w' => e = .returned (.bool true) ∧ Below w.heap.size w w' := by
  have HP := Lib.hid hpow
  have hml : maxLen = 9223372036854775807 := rfl
  clear hpow
  by_cases hf1 : file.size ≤ 2147483647
  · obtain ⟨l, hl⟩ : ∃ l, l = line % 1000000 := ⟨_, rfl⟩
    obtain ⟨c, hc⟩ : ∃ c, c = col % 251 := ⟨_, rfl⟩
    have bl0 : 0 ≤ l := by omega
    have bl1 : l < 1000000 := by omega
    have bc0 : 0 ≤ c := by omega
    have bc1 : c < 251 := by omega
    have HL := Lib.hid hl
    have HC := Lib.hid hc
    clear hl hc
    obtain ⟨W, hW⟩ : ∃ W, W = w.alloc (.cells #[.string file, .string ⟨#[]⟩, .int .i64 (-1), .int .u64 0, .int .u64 0, .int .u64 0, .int .u64 0] 29) := ⟨_, rfl⟩
    have hb : Below w.heap.size w W := by rw [hW]; exact below_new _ _
    have hK : Blk W w.heap.size 29 #[.string file, .string ⟨#[]⟩, .int .i64 (-1), .int .u64 0, .int .u64 0, .int .u64 0, .int .u64 0] := by rw [hW]; exact Blk.new _ _ _
    have HB := Lib.hid (bases_1 (x := fileD file ⟨#[]⟩) hK (fileD_in file ⟨#[]⟩ (by omega) (by decide)))
    have HBW := Lib.hid hb
    clear hb hK
    go_enter Tryd.func5, Tryd.ntmps5
    go_wp2_with fail
    refine (within_any line 999999 l _ (by omega) (by omega) (by decide) (by decide) HL.out.symm).mono ?_
    rintro e w' ⟨rfl, rfl⟩
    go_wp2_with fail
    refine (within_any col 250 c _ (by omega) (by omega) (by decide) (by decide) HC.out.symm).mono ?_
    rintro e w' ⟨rfl, rfl⟩
    go_wp2_with fail
    obtain ⟨u, hu⟩ : ∃ u : Nat, 1 + l = u := ⟨(1 + l).toNat, by omega⟩
    obtain ⟨v, rfl⟩ : ∃ v : Nat, c = v := ⟨c.toNat, by omega⟩
    have hu1 : 1 ≤ u := by omega
    have hu2 : u ≤ 1000000 := by omega
    have hv2 : v ≤ 250 := by omega
    rw [hu, ← hW]
    clear hW hu bl0 bl1 bc0 bc1 HL HC
    refine (Tell_any _ 1 1 [fileD file ⟨#[]⟩] 0 u v _ HB.out (fileD_fits file ⟨#[]⟩ hf1 (by decide)) (fileD_ok file ⟨#[]⟩) (pow_keep HP.out HBW.out) (by decide) (by omega) (by omega) (by omega) (by omega)).mono ?_
    rintro e w3 ⟨he, hb3⟩
    rw [file_form file ⟨#[]⟩ u v hu1 hu2 hv2] at he
    subst he
    have HB3 := Lib.hid (below_then HBW.out HBW.out.size hb3)
    clear hb3 HB
    obtain ⟨W3, hW3⟩ : ∃ W3, W3 = w3.alloc (.cells #[.bool true, .int .u64 u, .int .u64 v, .int .u64 u, .int .u64 v, .string file, .string file, .string ⟨#[]⟩, .string (fmtS file u v false), .string (fmtS file u v true), .string (fmtS file u v false), .string (fmtS file u v true)] 31) := ⟨_, rfl⟩
    have hb3 : Below w3.heap.size w3 W3 := by rw [hW3]; exact below_new _ _
    have hK : Blk W3 w3.heap.size 31 #[.bool true, .int .u64 u, .int .u64 v, .int .u64 u, .int .u64 v, .string file, .string file, .string ⟨#[]⟩, .string (fmtS file u v false), .string (fmtS file u v true), .string (fmtS file u v false), .string (fmtS file u v true)] := by rw [hW3]; exact Blk.new _ _ _
    have HBd := Lib.hid (below_then HB3.out HB3.out.size hb3)
    have HK := Lib.hid hK
    have z1 := decS_small (u := u) (by omega)
    have z2 := decS_small (u := v) (by omega)
    have m1 : ¬ 9223372036854775807 < file.size + 1 := by omega
    have m2 : ¬ 9223372036854775807 < file.size + 1 + (decS u).size := by omega
    have m3 : ¬ 9223372036854775807 < 1 + (decS v).size := by omega
    have m4 : ¬ 9223372036854775807 < file.size + 1 + (decS u).size + (1 + (decS v).size) := by omega
    clear hb3 hK
    go_wp2_with fail
    rw [← hW3]
    clear hW3
    refine (Decimal_any u (by omega) _).mono ?_
    rintro e w4 ⟨rfl, hb4⟩
    have HB4 := Lib.hid (below_then HBd.out HBd.out.size hb4)
    have HK4 := Lib.hid (HK.out.keep hb4)
    clear hb4
    have e1 := plain_eq file u v
    by_cases hv0 : v = 0
    · subst hv0
      have e2 := full_zero file u
      rw [e1, e2] at HK4
      clear e1 e2
      have f8 := HK4.out.cell 8
      have f9 := HK4.out.cell 9
      have f10 := HK4.out.cell 10
      have f11 := HK4.out.cell 11
      simp only [List.getElem?_toArray, List.getElem?_cons_zero, List.getElem?_cons_succ] at f8 f9 f10 f11
      go_wp2
      go_ret
      exact ⟨rfl, HB4.out⟩
    · have hv1 : (0 : Int) < (v : Int) := by omega
      have e2 := full_eq file u v (by omega) (by omega)
      clear hv0
      go_wp2_with fail
      refine (Decimal_any v (by omega) _).mono ?_
      rintro e w5 ⟨rfl, hb5⟩
      have HB5 := Lib.hid (below_then HB4.out HB4.out.size hb5)
      have HK5 := Lib.hid (HK4.out.keep hb5)
      rw [e1, e2] at HK5
      clear hb5 e1 e2
      have f8 := HK5.out.cell 8
      have f9 := HK5.out.cell 9
      have f10 := HK5.out.cell 10
      have f11 := HK5.out.cell 11
      simp only [List.getElem?_toArray, List.getElem?_cons_zero, List.getElem?_cons_succ] at f8 f9 f10 f11
      go_wp2
      go_ret
      exact ⟨rfl, HB5.out⟩
  · go_enter Tryd.func5, Tryd.ntmps5
    go_wp2
    go_ret
    exact ⟨rfl, Below.refl _ _⟩

namespace fnFormat
open Go.ChangeShapes Go.WideShapes Go.ChangeAt Go.RowKit
theorem own : ownKnob Tryd.prog.godebug = none := by kernel_rfl
theorem laidOut : laidOutB Tryd.prog = true := by kernel_rfl
set_option maxRecDepth 100000 in
theorem lifted (os : Os) (started : os.Started) (H : Type) (enc : TypeId × Value → H) :
    ReturnsInHanded {} Tryd.checked os 5 .any (fun w args => (Rows.fnFormatSpec.pre enc Tryd.prog Tryd.f5 [] false w args ∧ laidMetH Tryd.prog laid3 w) ∧ sizedMet enc Tryd.prog Tryd.f5 (OpenSpec.ofChange Rows.fnFormatSpec) false w args)
      (Rows.fnFormatSpec.post enc Tryd.prog Tryd.f5 false true false false) := by
  refine returnsInHanded_of_change_and (C := Tryd.checked) (X := fun w _ => laidMetH Tryd.prog laid3 w) (fun _ _ _ hh h => h.of_heap hh) own started (by kernel_rfl) Tryd.func5
    (ChangeSpec.witness_shaped (enc := enc) (C := Tryd.checked) (os := os) (X := fun w _ => laidMetH Tryd.prog laid3 w) false (World.doorLaid Tryd.prog 43 os) #[.string ⟨#[]⟩, .int .u64 0, .int .u64 0] 8 rfl (World.shaped_of_RefB (by kernel_rfl) (by kernel_rfl)) (by kernel_rfl) (by kernel_rfl) (by kernel_rfl) (door_met os _)) ?_
  intro W base args ds gs before hval0 hW _ _ hL _
  have hval : ∀ (j : Nat) t v, Tryd.f5.params[j]? = some t → args[j]? = some v → Value.okWide Tryd.prog W .any base t v := hval0
  have hW' := hW
  obtain ⟨p, q, hA0, hV, rfl, hfz, hnd⟩ := hW
  have hA : DataW.TrodAll enc Tryd.prog W 0 (fun _ => true) true Tryd.f5.params.toList args.toList ds p := hA0
  rw [Tryd.params5] at hA hval
  obtain ⟨v0, vs0, d0, ds0, p0, q0, hargs, rfl, rfl, h0, r0⟩ := trodAll_cons hA
  obtain ⟨v1, vs1, d1, ds1, p1, q1, rfl, rfl, rfl, h1, r1⟩ := trodAll_cons r0
  obtain ⟨v2, vs2, d2, ds2, p2, q2, rfl, rfl, rfl, h2, r2⟩ := trodAll_cons r1
  obtain ⟨rfl, rfl, rfl⟩ := trodAll_nil r2
  obtain rfl : args = #[v0, v1, v2] := by cases args; simp_all
  obtain ⟨rfl, rfl⟩ := trodVars_none hV
  have k0 := h0
  have k1 := h1
  have k2 := h2
  obtain ⟨a0, rfl, rfl, rfl, w0⟩ := Go.ChangeMaps.open_string Tryd.underlying9 (hval 0 9 v0 rfl rfl) h0
  obtain ⟨a1, rfl, rfl, rfl, w1⟩ := open_int Tryd.underlying23 (hval 1 23 v1 rfl rfl) h1
  have b1 := bounds_u64 w1
  obtain ⟨a2, rfl, rfl, rfl, w2⟩ := open_int Tryd.underlying23 (hval 2 23 v2 rfl rfl) h2
  have b2 := bounds_u64 w2
  have hargs2 : ∀ (t : TypeId) (v : Value) (d : DataW H) (ps : List MemPlace) (W' : World), Tryd.prog.readableRec t = true → t < Tryd.prog.types.size → DataW.Trod enc Tryd.prog W 0 (fun _ => true) true t v d ps → Below W.heap.size W W' → (∀ x ∈ ps, x.block < W.heap.size) → DataW.Trod enc Tryd.prog W' 0 (fun b => decide (b < W.heap.size)) true t v d ps :=
    fun t v d ps W' h1 h2 h3 h4 h5 => Below.trod laidOut h1 h2 h3 h4 h5
  clear hA0 hval0
  refine (fnFormat_any a0 a1 a2 W w0 b1.1 (by omega) b2.1 (by omega) (pow_of_laid hL)).mono fun e W' ⟨he, hw⟩ => ?_
  subst he
  exact ⟨_, rfl, _, _, _, [], _, [], hW', trodAll_mk1 (shut_bool Tryd.underlying4 _), (trodAll_cons_mk (hargs2 9 _ _ _ _ (by kernel_rfl) (of_decide_eq_true (by kernel_rfl)) k0 hw (fun x hx => absurd hx (by simp))) (trodAll_cons_mk (hargs2 23 _ _ _ _ (by kernel_rfl) (of_decide_eq_true (by kernel_rfl)) k1 hw (fun x hx => absurd hx (by simp))) (trodAll_cons_mk (hargs2 23 _ _ _ _ (by kernel_rfl) (of_decide_eq_true (by kernel_rfl)) k2 hw (fun x hx => absurd hx (by simp))) trodAll_mk0))), rfl, hw.frame _, fun h => by cases h⟩
theorem over : Rows.fnFormatRow.holds Tryd.pinned (OpenSpec.ofChange Rows.fnFormatSpec) :=
  OpenClaim.holds_of_wide 5 Tryd.f5 rfl rfl rfl rfl rfl rfl rfl ⟨rfl, rfl, rfl, rfl, rfl⟩ rfl rfl rfl rfl rfl (by kernel_rfl) Tryd.func5 (by kernel_rfl)
    (of_decide_eq_true (by kernel_rfl)) (by unfold Func.isWrapper; rw [if_neg (of_decide_eq_false (by kernel_rfl))]; exact ⟨rfl, rfl⟩)
    (fun os started H enc _ => lifted os started H enc)
end fnFormat
/-- The statement: the card. -/
theorem fnFormat_holds : Rows.FnFormatCardSaid :=
  Claim7.holds_tied_plain_at .later [] [.data, .data, .data] true Rows.fnFormatCard.stood.harness false
    fnFormat.over (fun _ h => by cases h) (by kernel_rfl) (fun _ h => by cases h) fnFormat_row_tie rfl ⟨rfl, rfl⟩ (by kernel_rfl) rfl
    (fun f fn hf hfn => by
      obtain rfl : f = 5 := Option.some.inj ((show Tryd.prog.funcNamed "waystone/laws.FnFormat" = some 5 by kernel_rfl).symm.trans hf) |>.symm
      obtain rfl : fn = Tryd.f5 := (Option.some.inj (Tryd.func5.symm.trans hfn)).symm
      exact ⟨by kernel_rfl, fun j t ht => by
        rw [Tryd.params5] at ht
        have hm : t ∈ [9, 23, 23] := by simpa using Array.mem_of_getElem? ht
        have hall : ([9, 23, 23].all fun u => !Tryd.prog.wantsStandIn u) = true := by kernel_rfl
        exact (show Tryd.prog.wantsStandIn t = false by simpa using List.all_eq_true.1 hall t hm)⟩)
    (by kernel_rfl)
#print axioms fnFormat_holds
end Go.Proofs.YtlohgoedlkkicaaDoor
