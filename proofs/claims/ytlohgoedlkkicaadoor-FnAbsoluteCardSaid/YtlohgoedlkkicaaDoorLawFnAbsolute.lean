/- For all bases and positions that the reference calls valid: a position tells its line and column, and the names of its base, and whether it is known; no condition beyond the tables that the card ties to the text. -/
import Derived.Test.YtlohgoedlkkicaaDoorRows
import Derived.Test.YtlohgoedlkkicaaDoorCards
import Derived.Test.YtlohgoedlkkicaaDoorTie
import Derived.Test.YtlohgoedlkkicaaDoorForm
import Derived.WalkKit
import Derived.ProofKit
import Derived.OpenShut
import Derived.ShutString
import Derived.ChangeOld
import Derived.Below
import Derived.SizedLaws
import Derived.SevenTiedAt
import Derived.Stop.Joined
namespace Go.Proofs.YtlohgoedlkkicaaDoor
open Go.RowKit Go.Proofs.YtlohgoedlkkicaaDoor.Bits

set_option maxRecDepth 100000 in
set_option maxHeartbeats 8000000 in
theorem fnAbsolute_any (A : Option Addr) (n c : Nat) (bs : List BaseD) (x : PosD) (w : World) (h : Bases w A n c bs) (g : PosIn x) (hpow : Pow10 w) :
    Calls Tryd.prog 6 #[.slice A n c, x.val] w fun e w' => e = .returned (.bool true) ∧ Below w.heap.size w w' := by
  obtain ⟨p, q, s⟩ := x
  obtain ⟨W, hW⟩ : ∃ W, W = w.alloc (.cells #[.int .i64 p, .int .u64 q, .int .u64 s] 25) := ⟨_, rfl⟩
  have hbW : Below w.heap.size w W := by rw [hW]; exact below_new w _
  have hX1 : Blk W w.heap.size 25 #[.int .i64 p, .int .u64 q, .int .u64 s] := by rw [hW]; exact Blk.new _ _ _
  have HBW := Lib.hid hbW
  have H := Lib.hid h
  have hl := h.len
  have HX1 := Lib.hid hX1
  have G1 := Lib.hid g
  have HP := Lib.hid hpow
  clear hbW h hX1 g hpow
  go_enter Tryd.func6, Tryd.ntmps6
  go_wp2_with fail
  rw [← hW]
  clear hW
  refine (fits1_any A n c bs _ (H.out.keep HBW.out)).mono ?_
  rintro e w1 ⟨r, rfl, hr, hb1⟩
  have HR1 := Lib.hid hr
  have HB1 := Lib.hid hb1
  have HBa := Lib.hid (below_then HBW.out HBW.out.size hb1)
  clear hr hb1
  cases r with
  | false =>
    go_wp2
    go_ret
    exact ⟨rfl, HBa.out⟩
  | true =>
    have HFIT : Hid (FitsAll bs) := HR1.out rfl
    clear HR1
    have y0 := (HX1.out.keep HB1.out).cell 0
    have y1 := (HX1.out.keep HB1.out).cell 1
    have y2 := (HX1.out.keep HB1.out).cell 2
    simp only [List.getElem?_toArray, List.getElem?_cons_zero, List.getElem?_cons_succ] at y0 y1 y2
    obtain ⟨W2, hW2⟩ : ∃ W2, W2 = w1.alloc (.cells #[.int .i64 p, .int .u64 q, .int .u64 s] 25) := ⟨_, rfl⟩
    have hbW2 := Lib.hid (show Below w1.heap.size w1 W2 by rw [hW2]; exact below_new _ _)
    have hS := Lib.hid (show Blk W2 w1.heap.size 25 #[.int .i64 p, .int .u64 q, .int .u64 s] by rw [hW2]; exact Blk.new _ _ _)
    go_wp2_with fail
    rw [← hW2]
    clear hW2 y0 y1 y2
    refine (valid_any A n c bs _ 1 _ [⟨p, q, s⟩] _ (H.out.keep (below_then HBa.out HBa.out.size hbW2.out)) (poss_1 hS.out G1.out)).mono ?_
    rintro e w2 ⟨r, rfl, hr, hb2⟩
    have HR2 := Lib.hid hr
    have HB2 := Lib.hid (below_then hbW2.out hbW2.out.size hb2)
    have HBb := Lib.hid (below_then HBa.out HBa.out.size HB2.out)
    clear hr hb2 hbW2 hS
    cases r with
    | false =>
      go_wp2
      go_ret
      exact ⟨rfl, HBb.out⟩
    | true =>
      have HOK := Lib.hid (HR2.out rfl)
      have F := Lib.hid (show -1 ≤ p ∧ p < n ∧ q ≤ 1000000 ∧ s ≤ 250 by have := posFine_spec (HOK.out.2 0 _ rfl); rw [hl] at this; exact this)
      have HOB := Lib.hid HOK.out.1
      have hn : n ≤ 2147483647 := by have := HFIT.out.1; rw [hl] at this; exact this
      have H2 := Lib.hid (H.out.keep HBb.out)
      have Z := Lib.hid ((HX1.out.keep HB1.out).keep HB2.out)
      have HP2 := Lib.hid (pow_keep HP.out HBb.out)
      clear HX1 HB1 HB2 HBa HOK HR2
      have y0 := Z.out.cell 0
      have y1 := Z.out.cell 1
      have y2 := Z.out.cell 2
      simp only [List.getElem?_toArray, List.getElem?_cons_zero, List.getElem?_cons_succ] at y0 y1 y2
      go_wp2_with fail
      refine (Tell_any A n c bs p q s _ H2.out HFIT.out HOB.out HP2.out F.out.2.1 G1.out.l0 F.out.2.2.1 G1.out.c0 F.out.2.2.2).mono ?_
      rintro e w3 ⟨he, hb3⟩
      obtain ⟨v3, v4, v8, v9, v10, v11, hv⟩ := tell_form (bs := bs) (p := p) (q := q) (s := s) (by rw [hl]; exact F.out.2.1) G1.out.l0 F.out.2.2.1 G1.out.c0 F.out.2.2.2
      rw [hv] at he
      subst he
      obtain ⟨f, hf⟩ : ∃ f, f = fileB bs p := ⟨_, rfl⟩
      rw [← hf]
      have HF := Lib.hid hf.symm
      have HBc := Lib.hid (below_then HBb.out HBb.out.size hb3)
      have HZ := Lib.hid (Z.out.keep hb3)
      have H3 := Lib.hid (H2.out.keep hb3)
      clear hv hb3 y0 y1 y2 hf
      by_cases hp : p < 0
      · have er : rfileB bs p = ⟨#[]⟩ := by unfold rfileB; rw [if_pos hp]
        have ea : absB bs p = ⟨#[]⟩ := by unfold absB; rw [if_pos hp]
        rw [er, ea]
        have hp0 : decide (0 ≤ p) = false := decide_eq_false (by omega)
        clear er ea
        by_cases hq : q = 0
        · have ek : knownB p q = false := by unfold knownB; rw [hp0, hq]; rfl
          rw [ek]
          have hq0 : decide (0 < q) = false := decide_eq_false (by omega)
          clear ek hq
          obtain ⟨W3, hW3⟩ : ∃ W3, W3 = w3.alloc (.cells #[.bool false, .int .u64 q, .int .u64 s, .int .u64 v3, .int .u64 v4, .string f, .string ⟨#[]⟩, .string ⟨#[]⟩, .string v8, .string v9, .string v10, .string v11] 31) := ⟨_, rfl⟩
          have hb3 : Below w3.heap.size w3 W3 := by rw [hW3]; exact below_new _ _
          have hK : Blk W3 w3.heap.size 31 #[.bool false, .int .u64 q, .int .u64 s, .int .u64 v3, .int .u64 v4, .string f, .string ⟨#[]⟩, .string ⟨#[]⟩, .string v8, .string v9, .string v10, .string v11] := by rw [hW3]; exact Blk.new _ _ _
          have HBd := Lib.hid (below_then HBc.out HBc.out.size hb3)
          have HZ3 := Lib.hid (HZ.out.keep hb3)
          have H4 := Lib.hid (H3.out.keep hb3)
          have HK := Lib.hid hK
          have f0 := hK.cell 0
          have f1 := hK.cell 1
          have f2 := hK.cell 2
          have f5 := hK.cell 5
          have f6 := hK.cell 6
          have f7 := hK.cell 7
          have z0 := HZ3.out.cell 0
          have z1 := HZ3.out.cell 1
          have z2 := HZ3.out.cell 2
          simp only [List.getElem?_toArray, List.getElem?_cons_zero, List.getElem?_cons_succ] at f0 f1 f2 f5 f6 f7 z0 z1 z2
          have kf0 := cell_regrown f0
          have kf1 := cell_regrown f1
          have kf2 := cell_regrown f2
          have kf5 := cell_regrown f5
          have kf6 := cell_regrown f6
          have kf7 := cell_regrown f7
          have kz0 := cell_regrown z0
          have kz1 := cell_regrown z1
          have kz2 := cell_regrown z2
          have cF : ∀ d os, Calls Tryd.prog 14 #[.slice A n c, .agg #[.int .i64 p, .int .u64 q, .int .u64 s]] (Go.Sort.grow (redrawn W3 d) os) fun e w'' => e = .returned (.string f) ∧ ∃ p : Regrown, w'' = Go.Sort.grow (redrawn W3 p.d) p.os := fun d os => Calls.regrown_of (File_any A n c bs p q s _ (H4.out.keep (below_regrown W3 d os)) HOB.out F.out.2.1 f HF.out)
          have cW : ∀ d os, Calls Tryd.prog 15 #[] (Go.Sort.grow (redrawn W3 d) os) fun e w'' => e = .returned (.bool true) ∧ ∃ p : Regrown, w'' = Go.Sort.grow (redrawn W3 p.d) p.os := fun d os => Calls.regrown_of (works_below _)
          clear hb3 hK f0 f1 f2 f5 f6 f7 z0 z1 z2
          go_wp2_with fail
          rw [← hW3]
          clear hW3
          refine wp_region_quiet_below (by kernel_rfl) (by kernel_rfl) ?_
          repeat (go_big_quiet_step (first | with_reducible exact cF _ _ | with_reducible exact cW _ _))
          refine wpQuiet_nil ?_
          intro _ hw'
          obtain ⟨⟨dq, osq⟩, hw''⟩ := hw'
          subst hw''
          clear cF cW kf0 kf1 kf2 kf5 kf6 kf7 kz0 kz1 kz2
          have hgr := below_regrown W3 dq osq
          have HBe := Lib.hid (below_then HBd.out HBd.out.size hgr)
          have HKr := Lib.hid (HK.out.keep hgr)
          have HZr := Lib.hid (HZ3.out.keep hgr)
          have H5 := Lib.hid (H4.out.keep hgr)
          clear hgr
          generalize Go.Sort.grow (redrawn W3 dq) osq = W4 at *
          have g6 := HKr.out.cell 6
          have g7 := HKr.out.cell 7
          have z0 := HZr.out.cell 0
          simp only [List.getElem?_toArray, List.getElem?_cons_zero, List.getElem?_cons_succ] at g6 g7 z0
          go_wp2
          go_ret
          exact ⟨rfl, HBe.out⟩
        · have hq0 : decide (0 < q) = true := decide_eq_true (by have := G1.out.l0; simp only at this; omega)
          have ek : knownB p q = true := by unfold knownB; rw [hp0, hq0]; rfl
          rw [ek]
          clear ek hq
          obtain ⟨W3, hW3⟩ : ∃ W3, W3 = w3.alloc (.cells #[.bool true, .int .u64 q, .int .u64 s, .int .u64 v3, .int .u64 v4, .string f, .string ⟨#[]⟩, .string ⟨#[]⟩, .string v8, .string v9, .string v10, .string v11] 31) := ⟨_, rfl⟩
          have hb3 : Below w3.heap.size w3 W3 := by rw [hW3]; exact below_new _ _
          have hK : Blk W3 w3.heap.size 31 #[.bool true, .int .u64 q, .int .u64 s, .int .u64 v3, .int .u64 v4, .string f, .string ⟨#[]⟩, .string ⟨#[]⟩, .string v8, .string v9, .string v10, .string v11] := by rw [hW3]; exact Blk.new _ _ _
          have HBd := Lib.hid (below_then HBc.out HBc.out.size hb3)
          have HZ3 := Lib.hid (HZ.out.keep hb3)
          have H4 := Lib.hid (H3.out.keep hb3)
          have HK := Lib.hid hK
          have f0 := hK.cell 0
          have f1 := hK.cell 1
          have f2 := hK.cell 2
          have f5 := hK.cell 5
          have f6 := hK.cell 6
          have f7 := hK.cell 7
          have z0 := HZ3.out.cell 0
          have z1 := HZ3.out.cell 1
          have z2 := HZ3.out.cell 2
          simp only [List.getElem?_toArray, List.getElem?_cons_zero, List.getElem?_cons_succ] at f0 f1 f2 f5 f6 f7 z0 z1 z2
          have kf0 := cell_regrown f0
          have kf1 := cell_regrown f1
          have kf2 := cell_regrown f2
          have kf5 := cell_regrown f5
          have kf6 := cell_regrown f6
          have kf7 := cell_regrown f7
          have kz0 := cell_regrown z0
          have kz1 := cell_regrown z1
          have kz2 := cell_regrown z2
          have cF : ∀ d os, Calls Tryd.prog 14 #[.slice A n c, .agg #[.int .i64 p, .int .u64 q, .int .u64 s]] (Go.Sort.grow (redrawn W3 d) os) fun e w'' => e = .returned (.string f) ∧ ∃ p : Regrown, w'' = Go.Sort.grow (redrawn W3 p.d) p.os := fun d os => Calls.regrown_of (File_any A n c bs p q s _ (H4.out.keep (below_regrown W3 d os)) HOB.out F.out.2.1 f HF.out)
          have cW : ∀ d os, Calls Tryd.prog 15 #[] (Go.Sort.grow (redrawn W3 d) os) fun e w'' => e = .returned (.bool true) ∧ ∃ p : Regrown, w'' = Go.Sort.grow (redrawn W3 p.d) p.os := fun d os => Calls.regrown_of (works_below _)
          clear hb3 hK f0 f1 f2 f5 f6 f7 z0 z1 z2
          go_wp2_with fail
          rw [← hW3]
          clear hW3
          refine wp_region_quiet_below (by kernel_rfl) (by kernel_rfl) ?_
          repeat (go_big_quiet_step (first | with_reducible exact cF _ _ | with_reducible exact cW _ _))
          refine wpQuiet_nil ?_
          intro _ hw'
          obtain ⟨⟨dq, osq⟩, hw''⟩ := hw'
          subst hw''
          clear cF cW kf0 kf1 kf2 kf5 kf6 kf7 kz0 kz1 kz2
          have hgr := below_regrown W3 dq osq
          have HBe := Lib.hid (below_then HBd.out HBd.out.size hgr)
          have HKr := Lib.hid (HK.out.keep hgr)
          have HZr := Lib.hid (HZ3.out.keep hgr)
          have H5 := Lib.hid (H4.out.keep hgr)
          clear hgr
          generalize Go.Sort.grow (redrawn W3 dq) osq = W4 at *
          have g6 := HKr.out.cell 6
          have g7 := HKr.out.cell 7
          have z0 := HZr.out.cell 0
          simp only [List.getElem?_toArray, List.getElem?_cons_zero, List.getElem?_cons_succ] at g6 g7 z0
          go_wp2
          go_ret
          exact ⟨rfl, HBe.out⟩
      · have ek : knownB p q = true := by unfold knownB; rw [decide_eq_true (by omega), Bool.true_or]
        rw [ek]
        obtain ⟨rf, hrf⟩ : ∃ f, f = rfileB bs p := ⟨_, rfl⟩
        obtain ⟨ab, hab⟩ : ∃ f, f = absB bs p := ⟨_, rfl⟩
        rw [← hrf, ← hab]
        have HRF := Lib.hid hrf
        have HAB := Lib.hid hab
        have hp0 : decide (0 ≤ p) = true := decide_eq_true (by omega)
        clear ek hrf hab
        obtain ⟨W3, hW3⟩ : ∃ W3, W3 = w3.alloc (.cells #[.bool true, .int .u64 q, .int .u64 s, .int .u64 v3, .int .u64 v4, .string f, .string rf, .string ab, .string v8, .string v9, .string v10, .string v11] 31) := ⟨_, rfl⟩
        have hb3 : Below w3.heap.size w3 W3 := by rw [hW3]; exact below_new _ _
        have hK : Blk W3 w3.heap.size 31 #[.bool true, .int .u64 q, .int .u64 s, .int .u64 v3, .int .u64 v4, .string f, .string rf, .string ab, .string v8, .string v9, .string v10, .string v11] := by rw [hW3]; exact Blk.new _ _ _
        have HBd := Lib.hid (below_then HBc.out HBc.out.size hb3)
        have HZ3 := Lib.hid (HZ.out.keep hb3)
        have H4 := Lib.hid (H3.out.keep hb3)
        have HK := Lib.hid hK
        have f0 := hK.cell 0
        have f1 := hK.cell 1
        have f2 := hK.cell 2
        have f5 := hK.cell 5
        have f6 := hK.cell 6
        have f7 := hK.cell 7
        have z0 := HZ3.out.cell 0
        have z1 := HZ3.out.cell 1
        have z2 := HZ3.out.cell 2
        simp only [List.getElem?_toArray, List.getElem?_cons_zero, List.getElem?_cons_succ] at f0 f1 f2 f5 f6 f7 z0 z1 z2
        have kf0 := cell_regrown f0
        have kf1 := cell_regrown f1
        have kf2 := cell_regrown f2
        have kf5 := cell_regrown f5
        have kf6 := cell_regrown f6
        have kf7 := cell_regrown f7
        have kz0 := cell_regrown z0
        have kz1 := cell_regrown z1
        have kz2 := cell_regrown z2
        have cF : ∀ d os, Calls Tryd.prog 14 #[.slice A n c, .agg #[.int .i64 p, .int .u64 q, .int .u64 s]] (Go.Sort.grow (redrawn W3 d) os) fun e w'' => e = .returned (.string f) ∧ ∃ p : Regrown, w'' = Go.Sort.grow (redrawn W3 p.d) p.os := fun d os => Calls.regrown_of (File_any A n c bs p q s _ (H4.out.keep (below_regrown W3 d os)) HOB.out F.out.2.1 f HF.out)
        have cW : ∀ d os, Calls Tryd.prog 15 #[] (Go.Sort.grow (redrawn W3 d) os) fun e w'' => e = .returned (.bool true) ∧ ∃ p : Regrown, w'' = Go.Sort.grow (redrawn W3 p.d) p.os := fun d os => Calls.regrown_of (works_below _)
        clear hb3 hK f0 f1 f2 f5 f6 f7 z0 z1 z2
        go_wp2_with fail
        rw [← hW3]
        clear hW3
        refine wp_region_quiet_below (by kernel_rfl) (by kernel_rfl) ?_
        repeat (go_big_quiet_step (first | with_reducible exact cF _ _ | with_reducible exact cW _ _))
        refine wpQuiet_nil ?_
        intro _ hw'
        obtain ⟨⟨dq, osq⟩, hw''⟩ := hw'
        subst hw''
        clear cF cW kf0 kf1 kf2 kf5 kf6 kf7 kz0 kz1 kz2
        have hgr := below_regrown W3 dq osq
        have HBe := Lib.hid (below_then HBd.out HBd.out.size hgr)
        have HKr := Lib.hid (HK.out.keep hgr)
        have HZr := Lib.hid (HZ3.out.keep hgr)
        have H5 := Lib.hid (H4.out.keep hgr)
        clear hgr
        generalize Go.Sort.grow (redrawn W3 dq) osq = W4 at *
        have hpn := F.out.2.1
        obtain ⟨m, rfl⟩ : ∃ m : Nat, p = m := ⟨p.toNat, by omega⟩
        obtain ⟨b, o, rfl, hx⟩ := H5.out.lies (by omega)
        obtain ⟨x, hxe⟩ : ∃ x, bs[m]? = some x := ⟨bs[m]'(by omega), List.getElem?_eq_getElem _⟩
        have hd := hx m x hxe
        have d0 := hd.c0
        have d1 := hd.c1
        obtain rfl : rf = x.file := by rw [HRF.out]; unfold rfileB; rw [if_neg (by omega), Int.toNat_natCast, hxe]
        obtain rfl : ab = x.abs := by rw [HAB.out]; unfold absB; rw [if_neg (by omega), Int.toNat_natCast, hxe]
        have g6 := HKr.out.cell 6
        have g7 := HKr.out.cell 7
        have z0 := HZr.out.cell 0
        simp only [List.getElem?_toArray, List.getElem?_cons_zero, List.getElem?_cons_succ] at g6 g7 z0
        have k0 := cell_regrown d0
        have k1 := cell_regrown d1
        have kg6 := cell_regrown g6
        have kg7 := cell_regrown g7
        have kz0 := cell_regrown z0
        have hmn : (m : Int) < (n : Int) := by omega
        have hm0 : (0 : Int) ≤ (m : Int) := by omega
        clear hx hxe hd
        go_wp2_with fail
        refine wp_region_quiet_below (by kernel_rfl) (by kernel_rfl) ?_
        repeat (go_big_quiet_step (fail))
        refine wpQuiet_nil ?_
        intro _ hw'
        obtain ⟨⟨dq, osq⟩, hw''⟩ := hw'
        subst hw''
        go_wp2
        go_ret
        exact ⟨rfl, below_then HBe.out HBe.out.size (below_regrown _ _ _)⟩

namespace fnAbsolute
open Go.ChangeShapes Go.WideShapes Go.ChangeAt Go.RowKit
theorem own : ownKnob Tryd.prog.godebug = none := by kernel_rfl
theorem laidOut : laidOutB Tryd.prog = true := by kernel_rfl
set_option maxRecDepth 100000 in
theorem lifted (os : Os) (started : os.Started) (H : Type) (enc : TypeId × Value → H) :
    ReturnsInHanded {} Tryd.checked os 6 .any (fun w args => (Rows.fnAbsoluteSpec.pre enc Tryd.prog Tryd.f6 [] false w args ∧ laidMetH Tryd.prog laid3 w) ∧ sizedMet enc Tryd.prog Tryd.f6 (OpenSpec.ofChange Rows.fnAbsoluteSpec) false w args)
      (Rows.fnAbsoluteSpec.post enc Tryd.prog Tryd.f6 false true false false) := by
  refine returnsInHanded_of_change_and (C := Tryd.checked) (X := fun w _ => laidMetH Tryd.prog laid3 w) (fun _ _ _ hh h => h.of_heap hh) own started (by kernel_rfl) Tryd.func6
    (ChangeSpec.witness_shaped (enc := enc) (C := Tryd.checked) (os := os) (X := fun w _ => laidMetH Tryd.prog laid3 w) false (World.doorLaid Tryd.prog 43 os) #[.slice none 0 0, .agg #[.int .i64 0, .int .u64 0, .int .u64 0]] 8 rfl (World.shaped_of_RefB (by kernel_rfl) (by kernel_rfl)) (by kernel_rfl) (by kernel_rfl) (by kernel_rfl) (door_met os _)) ?_
  intro W base args ds gs before hval0 hW _ _ hL _
  have hval : ∀ (j : Nat) t v, Tryd.f6.params[j]? = some t → args[j]? = some v → Value.okWide Tryd.prog W .any base t v := hval0
  have hW' := hW
  obtain ⟨p, q, hA0, hV, rfl, hfz, hnd⟩ := hW
  have hA : DataW.TrodAll enc Tryd.prog W 0 (fun _ => true) true Tryd.f6.params.toList args.toList ds p := hA0
  rw [Tryd.params6] at hA hval
  obtain ⟨v0, vs0, d0, ds0, p0, q0, hargs, rfl, rfl, h0, r0⟩ := trodAll_cons hA
  obtain ⟨v1, vs1, d1, ds1, p1, q1, rfl, rfl, rfl, h1, r1⟩ := trodAll_cons r0
  obtain ⟨rfl, rfl, rfl⟩ := trodAll_nil r1
  obtain rfl : args = #[v0, v1] := by cases args; simp_all
  obtain ⟨rfl, rfl⟩ := trodVars_none hV
  have k0 := h0
  have k1 := h1
  obtain ⟨A0, n0, c0, bs0, rfl, g0⟩ := open_bases (hval 0 22 v0 rfl rfl) h0
  obtain ⟨x1, rfl, g1⟩ := open_pos (hval 1 25 v1 rfl rfl) h1
  have hlt : ∀ x ∈ p0 ++ (p1 ++ []), x.block < W.heap.size := fun x hx => by simpa using hW'.lt x (by simpa using hx)
  have hargs2 : ∀ (t : TypeId) (v : Value) (d : DataW H) (ps : List MemPlace) (W' : World), Tryd.prog.readableRec t = true → t < Tryd.prog.types.size → DataW.Trod enc Tryd.prog W 0 (fun _ => true) true t v d ps → Below W.heap.size W W' → (∀ x ∈ ps, x.block < W.heap.size) → DataW.Trod enc Tryd.prog W' 0 (fun b => decide (b < W.heap.size)) true t v d ps :=
    fun t v d ps W' h1 h2 h3 h4 h5 => Below.trod laidOut h1 h2 h3 h4 h5
  clear hA0 hval0
  refine (fnAbsolute_any A0 n0 c0 bs0 x1 W g0 g1 (pow_of_laid hL)).mono fun e W' ⟨he, hw⟩ => ?_
  subst he
  exact ⟨_, rfl, _, _, _, [], _, [], hW', trodAll_mk1 (shut_bool Tryd.underlying4 _), (trodAll_cons_mk (hargs2 22 _ _ _ _ (by kernel_rfl) (of_decide_eq_true (by kernel_rfl)) k0 hw (fun x hx => hlt x (by simp [hx]))) (trodAll_cons_mk (hargs2 25 _ _ _ _ (by kernel_rfl) (of_decide_eq_true (by kernel_rfl)) k1 hw (fun x hx => hlt x (by simp [hx]))) trodAll_mk0)), rfl, hw.frame _, fun h => by cases h⟩
theorem over : Rows.fnAbsoluteRow.holds Tryd.pinned (OpenSpec.ofChange Rows.fnAbsoluteSpec) :=
  OpenClaim.holds_of_wide 6 Tryd.f6 rfl rfl rfl rfl rfl rfl rfl ⟨rfl, rfl, rfl, rfl, rfl⟩ rfl rfl rfl rfl rfl (by kernel_rfl) Tryd.func6 (by kernel_rfl)
    (of_decide_eq_true (by kernel_rfl)) (by unfold Func.isWrapper; rw [if_neg (of_decide_eq_false (by kernel_rfl))]; exact ⟨rfl, rfl⟩)
    (fun os started H enc _ => lifted os started H enc)
end fnAbsolute
/-- The statement: the card. -/
theorem fnAbsolute_holds : Rows.FnAbsoluteCardSaid :=
  Claim7.holds_tied_plain_at .later [] [.data, .data, .data] true Rows.fnAbsoluteCard.stood.harness false
    fnAbsolute.over (fun _ h => by cases h) (by kernel_rfl) (fun _ h => by cases h) fnAbsolute_row_tie rfl ⟨rfl, rfl⟩ (by kernel_rfl) rfl
    (fun f fn hf hfn => by
      obtain rfl : f = 6 := Option.some.inj ((show Tryd.prog.funcNamed "waystone/laws.FnAbsolute" = some 6 by kernel_rfl).symm.trans hf) |>.symm
      obtain rfl : fn = Tryd.f6 := (Option.some.inj (Tryd.func6.symm.trans hfn)).symm
      exact ⟨by kernel_rfl, fun j t ht => by
        rw [Tryd.params6] at ht
        have hm : t ∈ [22, 25] := by simpa using Array.mem_of_getElem? ht
        have hall : ([22, 25].all fun u => !Tryd.prog.wantsStandIn u) = true := by kernel_rfl
        exact (show Tryd.prog.wantsStandIn t = false by simpa using List.all_eq_true.1 hall t hm)⟩)
    (by kernel_rfl)
#print axioms fnAbsolute_holds
end Go.Proofs.YtlohgoedlkkicaaDoor
