/- For all bases and positions that the reference calls valid: positions that go through a table of compact positions come back as they were; no condition beyond the tables that the card ties to the text. -/
import Derived.Test.YtlohgoedlkkicaaDoorRows
import Derived.Test.YtlohgoedlkkicaaDoorCards
import Derived.Test.YtlohgoedlkkicaaDoorTie
import Derived.Test.YtlohgoedlkkicaaDoorThrough
import Derived.WalkKit
import Derived.ProofKit
import Derived.OpenShut
import Derived.ShutString
import Derived.ChangeOld
import Derived.Below
import Derived.SizedLaws
import Derived.SevenTiedAt
import Derived.Stop.Joined
namespace Go.Proofs.YtlohgoedlkkicaaDoor
open Go.RowKit Go.Proofs.YtlohgoedlkkicaaDoor.Bits

theorem flatT_at {bs : List BaseD} : ∀ {ps : List PosD} {i : Nat} {p : PosD}, ps[i]? = some p → ∀ k : Nat, k < 12 → (flatT bs ps)[i * 12 + k]? = (tellC bs p)[k]?
  | [], i, p, h => by simp at h
  | x :: xs, 0, p, h => fun k hk => by
    have e : x = p := by simpa using h
    subst e
    obtain ⟨_, _, _, _, _, _, _, _, _, _, _, _, _, hc⟩ := tellC_form bs x
    have hlen : (tellC bs x).length = 12 := by rw [hc]; rfl
    unfold flatT
    rw [List.flatMap_cons, Nat.zero_mul, Nat.zero_add, List.getElem?_append_left (by omega)]
  | x :: xs, i + 1, p, h => fun k hk => by
    have ih := flatT_at (bs := bs) (ps := xs) (i := i) (p := p) (by simpa using h) k hk
    obtain ⟨_, _, _, _, _, _, _, _, _, _, _, _, _, hc⟩ := tellC_form bs x
    have hlen : (tellC bs x).length = 12 := by rw [hc]; rfl
    have e : flatT bs (x :: xs) = tellC bs x ++ flatT bs xs := by unfold flatT; rw [List.flatMap_cons]
    rw [e, List.getElem?_append_right (by omega), ← ih, hlen]
    congr 1
    omega
def PRel (w : World) (N k : Nat) (i : Value) (wr : World) : Prop := ∃ j : Nat, i = .int .i64 j ∧ j + k = N ∧ Below w.heap.size w wr

set_option maxRecDepth 100000 in
set_option maxHeartbeats 8000000 in
theorem fnThrough_any (A : Option Addr) (n c : Nat) (bs : List BaseD) (A2 : Option Addr) (m c2 : Nat) (ps : List PosD) (w : World) (h : Bases w A n c bs) (h2 : Poss w A2 m ps) (hpow : Pow10 w) :
    Calls Tryd.prog 8 #[.slice A n c, .slice A2 m c2] w fun e w' => e = .returned (.bool true) ∧ Below w.heap.size w w' := by
  have H := Lib.hid h
  have H2 := Lib.hid h2
  have HP := Lib.hid hpow
  have hl := h.len
  have hl2 := h2.len
  clear h h2 hpow
  go_enter Tryd.func8, Tryd.ntmps8
  go_wp2_with fail
  refine (fits1_any A n c bs _ H.out).mono ?_
  rintro e w1 ⟨r, rfl, hr, hb1⟩
  have HR1 := Lib.hid hr
  have HB1 := Lib.hid hb1
  clear hr hb1
  cases r with
  | false =>
    go_wp2
    go_ret
    exact ⟨rfl, HB1.out⟩
  | true =>
    have HFIT : Hid (FitsAll bs) := HR1.out rfl
    have hn : n ≤ 2147483647 := by have := HFIT.out.1; rw [hl] at this; exact this
    clear HR1
    by_cases hm : m ≤ 2147483647
    · have hm' : decide ((2147483647 : Int) < (m : Int)) = false := decide_eq_false (by omega)
      go_wp2_with fail
      refine (valid_any A n c bs A2 m c2 ps _ (H.out.keep HB1.out) (H2.out.keep HB1.out)).mono ?_
      rintro e w2 ⟨r, rfl, hr, hb2⟩
      have HR2 := Lib.hid hr
      have HB2 := Lib.hid (below_then HB1.out HB1.out.size hb2)
      clear hr hb2
      cases r with
      | false =>
        go_wp2
        go_ret
        exact ⟨rfl, HB2.out⟩
      | true =>
        have HOK := Lib.hid (HR2.out rfl)
        clear HR2 HB1
        go_wp2_with fail
        refine (Through_any A n c bs A2 m c2 ps _ (H.out.keep HB2.out) (H2.out.keep HB2.out) HFIT.out hm HOK.out (pow_keep HP.out HB2.out)).mono ?_
        rintro e w3 ⟨vt, rfl, hO, hb3⟩
        have HO := Lib.hid hO
        have HB3 := Lib.hid (below_then HB2.out HB2.out.size hb3)
        clear hb3 HB2
        obtain ⟨vp, vc, rfl⟩ : ∃ (vp : Option Addr) (vc : Nat), vt = .slice vp m vc := by
          rcases hO.2 with ⟨r1, r2⟩ | ⟨g', cap, cur, r1, _⟩
          · exact ⟨none, 0, by rw [r1, r2]⟩
          · exact ⟨_, _, r1⟩
        clear hO
        go_wp2_with fail
        go_loopg [30] m (fun k i wr => PRel w3 m k i wr)
        case atStart => exact ⟨0, rfl, by omega, Below.refl _ _⟩
        case round =>
          obtain ⟨j, rfl, hj, hb⟩ := hrel
          by_cases hlt : j < m
          · obtain ⟨b, o, rfl, hx⟩ := H2.out.lies (by omega)
            obtain ⟨x, hxe⟩ : ∃ x, ps[j]? = some x := ⟨ps[j], List.getElem?_eq_getElem (by omega)⟩
            obtain ⟨d0, d1, d2⟩ := ((hx j x hxe).keep HB3.out).keep hb
            have hfi := posFine_spec (HOK.out.2 j x hxe)
            have hin := H2.out.good j x hxe
            obtain ⟨v0, v1, v2, v3, v4, v5, v6, v7, v8, v9, v10, v11, hv, hc⟩ := tellC_form bs x
            obtain ⟨g, cap, hvv, _, _⟩ := HO.out.form (by omega)
            cases hvv
            have hbA := hb.alloc hb.size (.cells #[.int .i64 x.base, .int .u64 x.line, .int .u64 x.col] 25)
            have t00 := cell_keep hbA ((HO.out.cellAt (j * 12 + 0) (by omega)).trans ((flatT_at hxe 0 (by decide)).trans (by rw [hc]; rfl : (tellC bs x)[0]? = some (.bool v0))))
            have t1 := cell_keep hbA ((HO.out.cellAt (j * 12 + 1) (by omega)).trans ((flatT_at hxe 1 (by decide)).trans (by rw [hc]; rfl : (tellC bs x)[1]? = some (.int .u64 v1))))
            have t2 := cell_keep hbA ((HO.out.cellAt (j * 12 + 2) (by omega)).trans ((flatT_at hxe 2 (by decide)).trans (by rw [hc]; rfl : (tellC bs x)[2]? = some (.int .u64 v2))))
            have t3 := cell_keep hbA ((HO.out.cellAt (j * 12 + 3) (by omega)).trans ((flatT_at hxe 3 (by decide)).trans (by rw [hc]; rfl : (tellC bs x)[3]? = some (.int .u64 v3))))
            have t4 := cell_keep hbA ((HO.out.cellAt (j * 12 + 4) (by omega)).trans ((flatT_at hxe 4 (by decide)).trans (by rw [hc]; rfl : (tellC bs x)[4]? = some (.int .u64 v4))))
            have t5 := cell_keep hbA ((HO.out.cellAt (j * 12 + 5) (by omega)).trans ((flatT_at hxe 5 (by decide)).trans (by rw [hc]; rfl : (tellC bs x)[5]? = some (.string v5))))
            have t6 := cell_keep hbA ((HO.out.cellAt (j * 12 + 6) (by omega)).trans ((flatT_at hxe 6 (by decide)).trans (by rw [hc]; rfl : (tellC bs x)[6]? = some (.string v6))))
            have t7 := cell_keep hbA ((HO.out.cellAt (j * 12 + 7) (by omega)).trans ((flatT_at hxe 7 (by decide)).trans (by rw [hc]; rfl : (tellC bs x)[7]? = some (.string v7))))
            have t8 := cell_keep hbA ((HO.out.cellAt (j * 12 + 8) (by omega)).trans ((flatT_at hxe 8 (by decide)).trans (by rw [hc]; rfl : (tellC bs x)[8]? = some (.string v8))))
            have t9 := cell_keep hbA ((HO.out.cellAt (j * 12 + 9) (by omega)).trans ((flatT_at hxe 9 (by decide)).trans (by rw [hc]; rfl : (tellC bs x)[9]? = some (.string v9))))
            have t10 := cell_keep hbA ((HO.out.cellAt (j * 12 + 10) (by omega)).trans ((flatT_at hxe 10 (by decide)).trans (by rw [hc]; rfl : (tellC bs x)[10]? = some (.string v10))))
            have t11 := cell_keep hbA ((HO.out.cellAt (j * 12 + 11) (by omega)).trans ((flatT_at hxe 11 (by decide)).trans (by rw [hc]; rfl : (tellC bs x)[11]? = some (.string v11))))
            have t0 : (wr.alloc (.cells #[.int .i64 x.base, .int .u64 x.line, .int .u64 x.col] 25)).cell? ⟨g, j * 12, none⟩ = some (.bool v0) := t00
            clear hx hxe hc t00
            obtain ⟨p, q, s⟩ := x
            simp only at d0 d1 d2 hfi hv hbA
            obtain ⟨f0, f1, f2, f3⟩ := hfi
            obtain ⟨_, _, b0, _, b2, _⟩ := hin
            simp only at b0 b2
            obtain ⟨W, hW⟩ : ∃ W, W = wr.alloc (.cells #[.int .i64 p, .int .u64 q, .int .u64 s] 25) := ⟨_, rfl⟩
            have hK : Blk W wr.heap.size 25 #[.int .i64 p, .int .u64 q, .int .u64 s] := by rw [hW]; exact Blk.new _ _ _
            rw [← hW] at hbA t0 t1 t2 t3 t4 t5 t6 t7 t8 t9 t10 t11
            have x0 := hK.cell 0
            have x1 := hK.cell 1
            have x2 := hK.cell 2
            simp only [List.getElem?_toArray, List.getElem?_cons_zero, List.getElem?_cons_succ] at x0 x1 x2
            have HBA := Lib.hid hbA
            have H5 := Lib.hid ((H.out.keep HB3.out).keep hbA)
            have HP5 := Lib.hid (pow_keep (pow_keep HP.out HB3.out) hbA)
            have HV := Lib.hid hv
            have hjm : (j : Int) < (m : Int) := by omega
            have cT : ∀ d os, Calls Tryd.prog 11 #[.slice A n c, .agg #[.int .i64 p, .int .u64 q, .int .u64 s]] (Go.Sort.grow (redrawn W d) os) fun e w'' => e = .returned (.agg #[.bool v0, .int .u64 v1, .int .u64 v2, .int .u64 v3, .int .u64 v4, .string v5, .string v6, .string v7, .string v8, .string v9, .string v10, .string v11]) ∧ ∃ p : Regrown, w'' = Go.Sort.grow (redrawn W p.d) p.os := fun d os => Calls.regrown_of (by rw [← HV.out]; exact Tell_any _ n c bs p q s _ (H5.out.keep (below_regrown W d os)) HFIT.out HOK.out.1 (pow_keep HP5.out (below_regrown W d os)) (by omega) b0 f2 b2 f3)
            have kx0 := cell_regrown x0
            have kx1 := cell_regrown x1
            have kx2 := cell_regrown x2
            have kt0 := cell_regrown t0
            have kt1 := cell_regrown t1
            have kt2 := cell_regrown t2
            have kt3 := cell_regrown t3
            have kt4 := cell_regrown t4
            have kt5 := cell_regrown t5
            have kt6 := cell_regrown t6
            have kt7 := cell_regrown t7
            have kt8 := cell_regrown t8
            have kt9 := cell_regrown t9
            have kt10 := cell_regrown t10
            have kt11 := cell_regrown t11
            clear hbA hK x0 x1 x2 hv hb t0 t1 t2 t3 t4 t5 t6 t7 t8 t9 t10 t11
            go_wp2_with fail
            rw [← hW]
            clear hW d0 d1 d2
            refine wp_region_quiet_below (by kernel_rfl) (by kernel_rfl) ?_
            repeat (go_big_quiet_step (with_reducible exact cT _ _))
            refine wpQuiet_nil ?_
            intro _ hw'
            obtain ⟨⟨dq, osq⟩, hw''⟩ := hw'
            subst hw''
            have HBZ := Lib.hid (below_then HBA.out HBA.out.size (below_regrown W dq osq))
            clear cT kx0 kx1 kx2 kt0 kt1 kt2 kt3 kt4 kt5 kt6 kt7 kt8 kt9 kt10 kt11
            go_wp2
            go_roundg (gk - 1)
            case measure => omega
            case rel => exact ⟨j + 1, by go_num, by omega, HBZ.out⟩
          · go_wp2_with fail
            refine (works_below _).mono ?_
            rintro e w5 ⟨rfl, hb5⟩
            have HB5 := Lib.hid (below_then HB3.out HB3.out.size (below_then hb hb.size hb5))
            clear hb hb5
            go_wp2
            go_ret
            exact ⟨rfl, HB5.out⟩
    · have hm' : decide ((2147483647 : Int) < (m : Int)) = true := decide_eq_true (by omega)
      go_wp2
      go_ret
      exact ⟨rfl, HB1.out⟩

namespace fnThrough
open Go.ChangeShapes Go.WideShapes Go.ChangeAt Go.RowKit
theorem own : ownKnob Tryd.prog.godebug = none := by kernel_rfl
theorem laidOut : laidOutB Tryd.prog = true := by kernel_rfl
set_option maxRecDepth 100000 in
theorem lifted (os : Os) (started : os.Started) (H : Type) (enc : TypeId × Value → H) :
    ReturnsInHanded {} Tryd.checked os 8 .any (fun w args => (Rows.fnThroughSpec.pre enc Tryd.prog Tryd.f8 [] false w args ∧ laidMetH Tryd.prog laid3 w) ∧ sizedMet enc Tryd.prog Tryd.f8 (OpenSpec.ofChange Rows.fnThroughSpec) false w args)
      (Rows.fnThroughSpec.post enc Tryd.prog Tryd.f8 false true false false) := by
  refine returnsInHanded_of_change_and (C := Tryd.checked) (X := fun w _ => laidMetH Tryd.prog laid3 w) (fun _ _ _ hh h => h.of_heap hh) own started (by kernel_rfl) Tryd.func8
    (ChangeSpec.witness_shaped (enc := enc) (C := Tryd.checked) (os := os) (X := fun w _ => laidMetH Tryd.prog laid3 w) false (World.doorLaid Tryd.prog 43 os) #[.slice none 0 0, .slice none 0 0] 8 rfl (World.shaped_of_RefB (by kernel_rfl) (by kernel_rfl)) (by kernel_rfl) (by kernel_rfl) (by kernel_rfl) (door_met os _)) ?_
  intro W base args ds gs before hval0 hW _ _ hL _
  have hval : ∀ (j : Nat) t v, Tryd.f8.params[j]? = some t → args[j]? = some v → Value.okWide Tryd.prog W .any base t v := hval0
  have hW' := hW
  obtain ⟨p, q, hA0, hV, rfl, hfz, hnd⟩ := hW
  have hA : DataW.TrodAll enc Tryd.prog W 0 (fun _ => true) true Tryd.f8.params.toList args.toList ds p := hA0
  rw [Tryd.params8] at hA hval
  obtain ⟨v0, vs0, d0, ds0, p0, q0, hargs, rfl, rfl, h0, r0⟩ := trodAll_cons hA
  obtain ⟨v1, vs1, d1, ds1, p1, q1, rfl, rfl, rfl, h1, r1⟩ := trodAll_cons r0
  obtain ⟨rfl, rfl, rfl⟩ := trodAll_nil r1
  obtain rfl : args = #[v0, v1] := by cases args; simp_all
  obtain ⟨rfl, rfl⟩ := trodVars_none hV
  have k0 := h0
  have k1 := h1
  obtain ⟨A0, n0, c0, bs0, rfl, g0⟩ := open_bases (hval 0 22 v0 rfl rfl) h0
  obtain ⟨A1, n1, c1, ps1, rfl, g1⟩ := open_poss (hval 1 40 v1 rfl rfl) h1
  have hlt : ∀ x ∈ p0 ++ (p1 ++ []), x.block < W.heap.size := fun x hx => by simpa using hW'.lt x (by simpa using hx)
  have hargs2 : ∀ (t : TypeId) (v : Value) (d : DataW H) (ps : List MemPlace) (W' : World), Tryd.prog.readableRec t = true → t < Tryd.prog.types.size → DataW.Trod enc Tryd.prog W 0 (fun _ => true) true t v d ps → Below W.heap.size W W' → (∀ x ∈ ps, x.block < W.heap.size) → DataW.Trod enc Tryd.prog W' 0 (fun b => decide (b < W.heap.size)) true t v d ps :=
    fun t v d ps W' h1 h2 h3 h4 h5 => Below.trod laidOut h1 h2 h3 h4 h5
  clear hA0 hval0
  refine (fnThrough_any A0 n0 c0 bs0 A1 n1 c1 ps1 W g0 g1 (pow_of_laid hL)).mono fun e W' ⟨he, hw⟩ => ?_
  subst he
  exact ⟨_, rfl, _, _, _, [], _, [], hW', trodAll_mk1 (shut_bool Tryd.underlying4 _), (trodAll_cons_mk (hargs2 22 _ _ _ _ (by kernel_rfl) (of_decide_eq_true (by kernel_rfl)) k0 hw (fun x hx => hlt x (by simp [hx]))) (trodAll_cons_mk (hargs2 40 _ _ _ _ (by kernel_rfl) (of_decide_eq_true (by kernel_rfl)) k1 hw (fun x hx => hlt x (by simp [hx]))) trodAll_mk0)), rfl, hw.frame _, fun h => by cases h⟩
theorem over : Rows.fnThroughRow.holds Tryd.pinned (OpenSpec.ofChange Rows.fnThroughSpec) :=
  OpenClaim.holds_of_wide 8 Tryd.f8 rfl rfl rfl rfl rfl rfl rfl ⟨rfl, rfl, rfl, rfl, rfl⟩ rfl rfl rfl rfl rfl (by kernel_rfl) Tryd.func8 (by kernel_rfl)
    (of_decide_eq_true (by kernel_rfl)) (by unfold Func.isWrapper; rw [if_neg (of_decide_eq_false (by kernel_rfl))]; exact ⟨rfl, rfl⟩)
    (fun os started H enc _ => lifted os started H enc)
end fnThrough
/-- The statement: the card. -/
theorem fnThrough_holds : Rows.FnThroughCardSaid :=
  Claim7.holds_tied_plain_at .later [] [.data, .data, .data] true Rows.fnThroughCard.stood.harness false
    fnThrough.over (fun _ h => by cases h) (by kernel_rfl) (fun _ h => by cases h) fnThrough_row_tie rfl ⟨rfl, rfl⟩ (by kernel_rfl) rfl
    (fun f fn hf hfn => by
      obtain rfl : f = 8 := Option.some.inj ((show Tryd.prog.funcNamed "waystone/laws.FnThrough" = some 8 by kernel_rfl).symm.trans hf) |>.symm
      obtain rfl : fn = Tryd.f8 := (Option.some.inj (Tryd.func8.symm.trans hfn)).symm
      exact ⟨by kernel_rfl, fun j t ht => by
        rw [Tryd.params8] at ht
        have hm : t ∈ [22, 40] := by simpa using Array.mem_of_getElem? ht
        have hall : ([22, 40].all fun u => !Tryd.prog.wantsStandIn u) = true := by kernel_rfl
        exact (show Tryd.prog.wantsStandIn t = false by simpa using List.all_eq_true.1 hall t hm)⟩)
    (by kernel_rfl)
#print axioms fnThrough_holds
end Go.Proofs.YtlohgoedlkkicaaDoor
