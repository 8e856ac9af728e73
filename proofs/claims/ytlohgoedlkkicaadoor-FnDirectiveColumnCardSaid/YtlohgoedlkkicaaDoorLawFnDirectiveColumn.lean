/- For all bases and positions that the reference calls valid: on the line of a directive columns count on from the column that it says; on later lines they are those of the file; if it says none, no column is known; no condition beyond the tables that the card ties to the text. -/
import Derived.Test.YtlohgoedlkkicaaDoorRows
import Derived.Test.YtlohgoedlkkicaaDoorCards
import Derived.Test.YtlohgoedlkkicaaDoorTie
import Derived.Test.YtlohgoedlkkicaaDoorRest
import Derived.WalkKit
import Derived.ProofKit
import Derived.OpenShut
import Derived.ShutString
import Derived.ChangeOld
import Derived.Below
import Derived.SizedLaws
import Derived.SevenTiedAt
import Derived.Stop.Joined
namespace Go.Proofs.YtlohgoedlkkicaaDoor
open Go.RowKit Go.Proofs.YtlohgoedlkkicaaDoor.Bits

set_option maxRecDepth 100000 in
set_option maxHeartbeats 8000000 in
theorem fnDirectiveColumn_any (A : Option Addr) (n c : Nat) (bs : List BaseD) (x : PosD) (w : World) (h : Bases w A n c bs) (g : PosIn x) (hpow : Pow10 w) :
    Calls Tryd.prog 7 #[.slice A n c, x.val] w fun e w' => e = .returned (.bool true) ∧ Below w.heap.size w w' := by
  obtain ⟨p, q, s⟩ := x
  obtain ⟨W, hW⟩ : ∃ W, W = w.alloc (.cells #[.int .i64 p, .int .u64 q, .int .u64 s] 25) := ⟨_, rfl⟩
  have hbW : Below w.heap.size w W := by rw [hW]; exact below_new w _
  have hX1 : Blk W w.heap.size 25 #[.int .i64 p, .int .u64 q, .int .u64 s] := by rw [hW]; exact Blk.new _ _ _
  have HBW := Lib.hid hbW
  have H := Lib.hid h
  have hl := h.len
  have HX1 := Lib.hid hX1
  have G1 := Lib.hid g
  have HP := Lib.hid hpow
  clear hbW h hX1 g hpow
  go_enter Tryd.func7, Tryd.ntmps7
  go_wp2_with fail
  rw [← hW]
  clear hW
  refine (fits1_any A n c bs _ (H.out.keep HBW.out)).mono ?_
  rintro e w1 ⟨r, rfl, hr, hb1⟩
  have HR1 := Lib.hid hr
  have HB1 := Lib.hid hb1
  have HBa := Lib.hid (below_then HBW.out HBW.out.size hb1)
  clear hr hb1
  cases r with
  | false =>
    go_wp2
    go_ret
    exact ⟨rfl, HBa.out⟩
  | true =>
    have HFIT : Hid (FitsAll bs) := HR1.out rfl
    clear HR1
    have y0 := (HX1.out.keep HB1.out).cell 0
    have y1 := (HX1.out.keep HB1.out).cell 1
    have y2 := (HX1.out.keep HB1.out).cell 2
    simp only [List.getElem?_toArray, List.getElem?_cons_zero, List.getElem?_cons_succ] at y0 y1 y2
    obtain ⟨W2, hW2⟩ : ∃ W2, W2 = w1.drew.alloc (.cells #[.int .i64 p, .int .u64 q, .int .u64 s] 25) := ⟨_, rfl⟩
    have hd : Below w1.heap.size w1 w1.drew := ⟨rfl, rfl, rfl, Nat.le_refl _, fun _ _ => rfl⟩
    have hb2 : Below w1.heap.size w1 W2 := by rw [hW2]; exact below_then hd (Nat.le_refl _) (below_new w1.drew _)
    have hS : Blk W2 w1.heap.size 25 #[.int .i64 p, .int .u64 q, .int .u64 s] := by rw [hW2]; exact Blk.new w1.drew _ _
    have HS : Hid (Poss (w1.drew.alloc (.cells #[.int .i64 p, .int .u64 q, .int .u64 s] 25)) (some ⟨w1.heap.size, 0, none⟩) 1 [⟨p, q, s⟩]) := Lib.hid (by rw [← hW2]; exact poss_1 hS G1.out)
    have H2 : Hid (Bases (w1.drew.alloc (.cells #[.int .i64 p, .int .u64 q, .int .u64 s] 25)) A n c bs) := Lib.hid (by rw [← hW2]; exact H.out.keep (below_then HBa.out HBa.out.size hb2))
    have HB2 : Hid (Below w.heap.size w (w1.drew.alloc (.cells #[.int .i64 p, .int .u64 q, .int .u64 s] 25))) := Lib.hid (by rw [← hW2]; exact below_then HBa.out HBa.out.size hb2)
    have HD1 : Hid (Below w1.heap.size w1 (w1.drew.alloc (.cells #[.int .i64 p, .int .u64 q, .int .u64 s] 25))) := Lib.hid (by rw [← hW2]; exact hb2)
    have HZ := Lib.hid (HX1.out.keep HB1.out)
    clear hW2 hd hb2 hS HX1 HB1
    by_cases hok : Okay bs [⟨p, q, s⟩]
    · have F := Lib.hid (show -1 ≤ p ∧ p < n ∧ q ≤ 1000000 ∧ s ≤ 250 by have := posFine_spec (hok.2 0 _ rfl); rw [hl] at this; exact this)
      have HOB := Lib.hid hok.1
      have HOK := Lib.hid hok
      have hn : n ≤ 2147483647 := by have := HFIT.out.1; rw [hl] at this; exact this
      clear hok
      have hpn := F.out.2.1
      by_cases hp : p < 0
      · have hp0 : decide (p < 0) = true := decide_eq_true hp
        go_wp2_with fail
        refine wp_region_any (by kernel_rfl) ?_
        change wpAny _ _ _ _ _ _ _ (World.drew _)
        refine wpAny_take (i := 0) (v := .slice A n c) rfl (by kernel_rfl) (by kernel_rfl) (by kernel_rfl) (fun _ _ _ h => h) (Or.inl ⟨by rfl, ?_⟩) ?_
        · intro w
          go_simp
        refine wpAny_ready (rs := [1]) (by kernel_rfl) (by simp) ?_
        refine AllReady.cons rfl (fun K hK => ?_) AllReady.nil
        go_simp
        refine hK _ _ ?_
        clear hK K
        refine wpAny_ready (rs := [2]) (by kernel_rfl) (by simp) ?_
        refine AllReady.cons rfl (fun K hK => ?_) AllReady.nil
        go_simp
        refine hK _ _ ?_
        clear hK K
        refine wpAny_ready (rs := [3]) (by kernel_rfl) (by simp) ?_
        refine AllReady.cons rfl (fun K hK => ?_) AllReady.nil
        go_simp
        refine (valid_iff A n c bs _ 1 _ [⟨p, q, s⟩] _ H2.out HS.out).mono ?_
        rintro e w2 ⟨r, rfl, hr, hb2⟩
        obtain rfl : r = true := hr.2 HOK.out
        have HBe := Lib.hid (below_then HB2.out HB2.out.size hb2)
        have HDe := Lib.hid (below_then HD1.out HD1.out.size hb2)
        have uy0 := cell_keep HDe.out y0
        have uy1 := cell_keep HDe.out y1
        have uy2 := cell_keep HDe.out y2
        have kuy0 := cell_regrown uy0
        have kuy1 := cell_regrown uy1
        have kuy2 := cell_regrown uy2
        clear hr hb2
        refine hK _ _ ?_
        clear hK K
        refine rest_below 4 (by kernel_rfl) (by kernel_rfl) (by kernel_rfl) ?_
        simp only [List.drop_succ_cons, List.drop_zero]
        repeat (go_big_quiet_step (fail))
        refine wpQuiet_nil ?_
        intro _ hw'
        obtain ⟨⟨dq, osq⟩, hw''⟩ := hw'
        subst hw''
        have HBr := Lib.hid (below_then HBe.out HBe.out.size (below_regrown w2 dq osq))
        clear kuy0 kuy1 kuy2
        go_wp2
        go_ret
        exact ⟨rfl, HBr.out⟩
      · obtain ⟨m, rfl⟩ : ∃ m : Nat, p = m := ⟨p.toNat, by omega⟩
        obtain ⟨x, hx⟩ : ∃ x, bs[m]? = some x := ⟨bs[m]'(by omega), List.getElem?_eq_getElem _⟩
        obtain ⟨b, o, rfl, hxx⟩ := H.out.lies (by omega)
        have HD := Lib.hid ((hxx m x hx).keep HBa.out)
        have HX := Lib.hid hx
        have e2 := HD.out.c2
        have e3 := HD.out.c3
        have hp0 : decide ((m : Int) < 0) = false := decide_eq_false (by omega)
        have hmn : (m : Int) < (n : Int) := by omega
        have hm0 : (0 : Int) ≤ (m : Int) := by omega
        clear hx hxx hp
        obtain ⟨xf, xa, ⟨xp, xq, xs⟩, xl, xc⟩ := x
        simp only at e2 e3
        by_cases hb : xp < 0
        · have hb0 : decide (xp < 0) = true := decide_eq_true hb
          clear hb
          go_wp2_with fail
          refine wp_region_any (by kernel_rfl) ?_
          change wpAny _ _ _ _ _ _ _ (World.drew _)
          refine wpAny_take (i := 0) (v := .slice (some ⟨b, o, none⟩) n c) rfl (by kernel_rfl) (by kernel_rfl) (by kernel_rfl) (fun _ _ _ h => h) (Or.inl ⟨by rfl, ?_⟩) ?_
          · intro w
            go_simp
          refine wpAny_ready (rs := [1]) (by kernel_rfl) (by simp) ?_
          refine AllReady.cons rfl (fun K hK => ?_) AllReady.nil
          go_simp
          refine hK _ _ ?_
          clear hK K
          refine wpAny_ready (rs := [2]) (by kernel_rfl) (by simp) ?_
          refine AllReady.cons rfl (fun K hK => ?_) AllReady.nil
          go_simp
          refine hK _ _ ?_
          clear hK K
          refine wpAny_ready (rs := [3]) (by kernel_rfl) (by simp) ?_
          refine AllReady.cons rfl (fun K hK => ?_) AllReady.nil
          go_simp
          refine (valid_iff (some ⟨b, o, none⟩) n c bs _ 1 _ [⟨m, q, s⟩] _ H2.out HS.out).mono ?_
          rintro e w2 ⟨r, rfl, hr, hb2⟩
          obtain rfl : r = true := hr.2 HOK.out
          have HBe := Lib.hid (below_then HB2.out HB2.out.size hb2)
          have HDe := Lib.hid (below_then HD1.out HD1.out.size hb2)
          have uy0 := cell_keep HDe.out y0
          have uy1 := cell_keep HDe.out y1
          have uy2 := cell_keep HDe.out y2
          have ue2 := cell_keep HDe.out e2
          have ue3 := cell_keep HDe.out e3
          have kuy0 := cell_regrown uy0
          have kuy1 := cell_regrown uy1
          have kuy2 := cell_regrown uy2
          have kue2 := cell_regrown ue2
          have kue3 := cell_regrown ue3
          clear hr hb2
          refine hK _ _ ?_
          clear hK K
          refine rest_below 4 (by kernel_rfl) (by kernel_rfl) (by kernel_rfl) ?_
          simp only [List.drop_succ_cons, List.drop_zero]
          repeat (go_big_quiet_step (fail))
          refine wpQuiet_nil ?_
          intro _ hw'
          obtain ⟨⟨dq, osq⟩, hw''⟩ := hw'
          subst hw''
          have HBr := Lib.hid (below_then HBe.out HBe.out.size (below_regrown w2 dq osq))
          clear kuy0 kuy1 kuy2 kue2 kue3
          go_wp2
          go_ret
          exact ⟨rfl, HBr.out⟩
        · have hb0 : decide (xp < 0) = false := decide_eq_false hb
          by_cases hq : q < xq
          · have hq0 : decide (q < xq) = true := decide_eq_true hq
            clear hq
            go_wp2_with fail
            refine wp_region_any (by kernel_rfl) ?_
            change wpAny _ _ _ _ _ _ _ (World.drew _)
            refine wpAny_take (i := 0) (v := .slice (some ⟨b, o, none⟩) n c) rfl (by kernel_rfl) (by kernel_rfl) (by kernel_rfl) (fun _ _ _ h => h) (Or.inl ⟨by rfl, ?_⟩) ?_
            · intro w
              go_simp
            refine wpAny_ready (rs := [1]) (by kernel_rfl) (by simp) ?_
            refine AllReady.cons rfl (fun K hK => ?_) AllReady.nil
            go_simp
            refine hK _ _ ?_
            clear hK K
            refine wpAny_ready (rs := [2]) (by kernel_rfl) (by simp) ?_
            refine AllReady.cons rfl (fun K hK => ?_) AllReady.nil
            go_simp
            refine hK _ _ ?_
            clear hK K
            refine wpAny_ready (rs := [3]) (by kernel_rfl) (by simp) ?_
            refine AllReady.cons rfl (fun K hK => ?_) AllReady.nil
            go_simp
            refine (valid_iff (some ⟨b, o, none⟩) n c bs _ 1 _ [⟨m, q, s⟩] _ H2.out HS.out).mono ?_
            rintro e w2 ⟨r, rfl, hr, hb2⟩
            obtain rfl : r = true := hr.2 HOK.out
            have HBe := Lib.hid (below_then HB2.out HB2.out.size hb2)
            have HDe := Lib.hid (below_then HD1.out HD1.out.size hb2)
            have uy0 := cell_keep HDe.out y0
            have uy1 := cell_keep HDe.out y1
            have uy2 := cell_keep HDe.out y2
            have ue2 := cell_keep HDe.out e2
            have ue3 := cell_keep HDe.out e3
            have kuy0 := cell_regrown uy0
            have kuy1 := cell_regrown uy1
            have kuy2 := cell_regrown uy2
            have kue2 := cell_regrown ue2
            have kue3 := cell_regrown ue3
            clear hr hb2
            refine hK _ _ ?_
            clear hK K
            refine rest_below 4 (by kernel_rfl) (by kernel_rfl) (by kernel_rfl) ?_
            simp only [List.drop_succ_cons, List.drop_zero]
            repeat (go_big_quiet_step (fail))
            refine wpQuiet_nil ?_
            intro _ hw'
            obtain ⟨⟨dq, osq⟩, hw''⟩ := hw'
            subst hw''
            have HBr := Lib.hid (below_then HBe.out HBe.out.size (below_regrown w2 dq osq))
            clear kuy0 kuy1 kuy2 kue2 kue3
            go_wp2
            go_ret
            exact ⟨rfl, HBr.out⟩
          · have hq0 : decide (q < xq) = false := decide_eq_false hq
            go_wp2_with fail
            refine wp_region_any (by kernel_rfl) ?_
            change wpAny _ _ _ _ _ _ _ (World.drew _)
            refine wpAny_take (i := 0) (v := .slice (some ⟨b, o, none⟩) n c) rfl (by kernel_rfl) (by kernel_rfl) (by kernel_rfl) (fun _ _ _ h => h) (Or.inl ⟨by rfl, ?_⟩) ?_
            · intro w
              go_simp
            refine wpAny_ready (rs := [1]) (by kernel_rfl) (by simp) ?_
            refine AllReady.cons rfl (fun K hK => ?_) AllReady.nil
            go_simp
            refine hK _ _ ?_
            clear hK K
            refine wpAny_ready (rs := [2]) (by kernel_rfl) (by simp) ?_
            refine AllReady.cons rfl (fun K hK => ?_) AllReady.nil
            go_simp
            refine hK _ _ ?_
            clear hK K
            refine wpAny_ready (rs := [3]) (by kernel_rfl) (by simp) ?_
            refine AllReady.cons rfl (fun K hK => ?_) AllReady.nil
            go_simp
            refine (valid_iff (some ⟨b, o, none⟩) n c bs _ 1 _ [⟨m, q, s⟩] _ H2.out HS.out).mono ?_
            rintro e w2 ⟨r, rfl, hr, hb2⟩
            obtain rfl : r = true := hr.2 HOK.out
            have HBe := Lib.hid (below_then HB2.out HB2.out.size hb2)
            have HDe := Lib.hid (below_then HD1.out HD1.out.size hb2)
            have uy0 := cell_keep HDe.out y0
            have uy1 := cell_keep HDe.out y1
            have uy2 := cell_keep HDe.out y2
            have ue2 := cell_keep HDe.out e2
            have ue3 := cell_keep HDe.out e3
            have kuy0 := cell_regrown uy0
            have kuy1 := cell_regrown uy1
            have kuy2 := cell_regrown uy2
            have kue2 := cell_regrown ue2
            have kue3 := cell_regrown ue3
            clear hr hb2
            refine hK _ _ ?_
            clear hK K
            refine rest_below 4 (by kernel_rfl) (by kernel_rfl) (by kernel_rfl) ?_
            simp only [List.drop_succ_cons, List.drop_zero]
            repeat (go_big_quiet_step (fail))
            refine wpQuiet_nil ?_
            intro _ hw'
            obtain ⟨⟨dq, osq⟩, hw''⟩ := hw'
            subst hw''
            have HBr := Lib.hid (below_then HBe.out HBe.out.size (below_regrown w2 dq osq))
            clear kuy0 kuy1 kuy2 kue2 kue3
            have hDD := Lib.hid (below_then HDe.out HDe.out.size (below_regrown w2 dq osq))
            have HZr := Lib.hid (HZ.out.keep hDD.out)
            have HDr := Lib.hid (HD.out.keep hDD.out)
            have Hr := Lib.hid (H.out.keep HBr.out)
            have HPr := Lib.hid (pow_keep HP.out HBr.out)
            clear hDD HDe HBe HBa HB2 HD1 HS H2 HZ HD H
            generalize Go.Sort.grow (redrawn w2 dq) osq = W4 at *
            have z0 := HZr.out.cell 0
            have z1 := HZr.out.cell 1
            have z2 := HZr.out.cell 2
            simp only [List.getElem?_toArray, List.getElem?_cons_zero, List.getElem?_cons_succ] at z0 z1 z2
            have g0 := HDr.out.c0
            have g1 := HDr.out.c1
            have g2 := HDr.out.c2
            have g3 := HDr.out.c3
            have g4 := HDr.out.c4
            have g5 := HDr.out.c5
            have g6 := HDr.out.c6
            simp only at g0 g1 g2 g3 g4 g5 g6
            obtain ⟨k, y, hkb, hkm, hy, hyb, b5, b6, b7, b8, b9, b10, b11⟩ : ∃ (k : Nat) (y : BaseD), xp = k ∧ k < m ∧ bs[k]? = some y ∧ y.pos.base = -1 ∧ 1 ≤ xq ∧ xq ≤ 1000000 ∧ 1 ≤ xs ∧ xs ≤ 250 ∧ 1 ≤ xl ∧ xl ≤ 1000000 ∧ xc ≤ 250 := by
              rcases HOB.out m _ HX.out with ⟨h1, _⟩ | h1
              · simp only at h1; omega
              · exact h1
            have c0 : 0 ≤ xc := (Hr.out.good m _ HX.out).c0
            have hw1 := word_parts G1.out.l0 F.out.2.2.1 G1.out.c0 F.out.2.2.2
            have hw2 := word_parts (show 0 ≤ xq by omega) b6 (show 0 ≤ xs by omega) b8
            simp only at hw1
            obtain ⟨v3, v4, v8, v9, v10, v11, h3, h4, hv⟩ := tell_form (bs := bs) (p := (m : Int)) (q := q) (s := s) (by rw [hl]; exact F.out.2.1) G1.out.l0 F.out.2.2.1 G1.out.c0 F.out.2.2.2
            have q0 := G1.out.l0
            have s0 := G1.out.c0
            simp only at q0 s0
            rw [posF_line HX.out (by simp only; omega)] at h3 h4
            simp only at h3 h4
            rw [(relL_nat _ _ _).1] at h3
            rw [(relC_nat _ _ _).1] at h4
            have e3 : v3 = IntKind.u64.wrap (xl + IntKind.u64.wrap (q - xq)) := by
              rw [h3]; unfold relL; rw [hw1.1, hw2.1, show (q.toNat : Int) = q by omega, show (xq.toNat : Int) = xq by omega]
            have e4 : v4 = if xc = 0 then 0 else if q = xq then IntKind.u64.wrap (xc + IntKind.u64.wrap (s - xs)) else s := by
              rw [h4]; unfold relC; rw [hw1.1, hw2.1, hw1.2.1, hw2.2.1, show (q.toNat : Int) = q by omega, show (xq.toNat : Int) = xq by omega, show (s.toNat : Int) = s by omega, show (xs.toNat : Int) = xs by omega]
            clear h3 h4 hw1 hw2 hkb hkm hy hyb b5 b6 b7 b8 b9 b10 b11
            have HV := Lib.hid hv
            obtain ⟨v0, hv0⟩ : ∃ v, v = knownB m q := ⟨_, rfl⟩
            obtain ⟨v5, hv5⟩ : ∃ v, v = fileB bs m := ⟨_, rfl⟩
            obtain ⟨v6, hv6⟩ : ∃ v, v = rfileB bs m := ⟨_, rfl⟩
            obtain ⟨v7, hv7⟩ : ∃ v, v = absB bs m := ⟨_, rfl⟩
            rw [← hv0, ← hv5, ← hv6, ← hv7] at HV
            clear hv hv0 hv5 hv6 hv7
            have hbn : ¬ W4.heap.size = b := by have := World.block_lt_of_cell? _ _ g0; simp only at this; omega
            have hbw : ¬ W4.heap.size = w.heap.size := by have := HZr.out.lt; omega
            go_wp2_with fail
            go_region_held3 (fun w' => w'.cell? ⟨w.heap.size, 0, none⟩ = some (.int .i64 (m : Int)) ∧ w'.cell? ⟨w.heap.size, 1, none⟩ = some (.int .u64 q) ∧ w'.cell? ⟨w.heap.size, 2, none⟩ = some (.int .u64 s) ∧ w'.cell? ⟨b, o + m * 7, none⟩ = some (.string xf) ∧ w'.cell? ⟨b, o + m * 7 + 1, none⟩ = some (.string xa) ∧ w'.cell? ⟨b, o + m * 7 + 2, none⟩ = some (.int .i64 xp) ∧ w'.cell? ⟨b, o + m * 7 + 3, none⟩ = some (.int .u64 xq) ∧ w'.cell? ⟨b, o + m * 7 + 4, none⟩ = some (.int .u64 xs) ∧ w'.cell? ⟨b, o + m * 7 + 5, none⟩ = some (.int .u64 xl) ∧ w'.cell? ⟨b, o + m * 7 + 6, none⟩ = some (.int .u64 xc))
              (first
                | (go_keep; done)
                | ((try dsimp only); refine ⟨?_, ?_, ?_, ?_, ?_, ?_, ?_, ?_, ?_, ?_⟩ <;> (go_keep; done)))
              (fail)
            have hdr : Below W4.heap.size W4 (W4.alloc (.cells #[.string xf, .string xa, .int .i64 xp, .int .u64 xq, .int .u64 xs, .int .u64 xl, .int .u64 xc] 29)).drew := (below_new W4 _).trans ⟨rfl, rfl, rfl, Nat.le_refl _, fun _ _ => rfl⟩
            have hK0 : Blk (W4.alloc (.cells #[.string xf, .string xa, .int .i64 xp, .int .u64 xq, .int .u64 xs, .int .u64 xl, .int .u64 xc] 29)).drew W4.heap.size 29 #[.string xf, .string xa, .int .i64 xp, .int .u64 xq, .int .u64 xs, .int .u64 xl, .int .u64 xc] := Blk.drew (Blk.new _ _ _)
            generalize (W4.alloc (.cells #[.string xf, .string xa, .int .i64 xp, .int .u64 xq, .int .u64 xs, .int .u64 xl, .int .u64 xc] 29)).drew = W5 at *
            have hK := hK0
            have HB5 := Lib.hid (below_then HBr.out HBr.out.size hdr)
            have H5 := Lib.hid (Hr.out.keep hdr)
            have HP5 := Lib.hid (pow_keep HPr.out hdr)
            have HZ5 := HZr.out.keep hdr
            have x0 := HZ5.cell 0
            have x1 := HZ5.cell 1
            have x2 := HZ5.cell 2
            have j3 := hK.cell 3
            have j4 := hK.cell 4
            have j6 := hK.cell 6
            simp only [List.getElem?_toArray, List.getElem?_cons_zero, List.getElem?_cons_succ] at x0 x1 x2 j3 j4 j6
            have hfd := field_rcol v0 q s v3 v4 v5 v6 v7 v8 v9 v10 v11
            clear hdr hK0 hK HZ5 z0 z1 z2 g0 g1 g2 g3 g4 g5 g6 e3 hbn hbw y1 y2
            by_cases h0 : xc = 0
            · have t0 : (xc == 0) = true := by rw [h0]; rfl
              have t4 : (v4 == 0) = true := by rw [e4, if_pos h0]; rfl
              clear h0 e4
              go_wp2_with fail
              refine (Tell_any _ n c bs m q s _ H5.out HFIT.out HOB.out HP5.out F.out.2.1 q0 F.out.2.2.1 s0 F.out.2.2.2).mono ?_
              rintro e w6 ⟨he, hb6⟩
              rw [HV.out] at he
              subst he
              have HB6 := Lib.hid (below_then HB5.out HB5.out.size hb6)
              clear hb6 x0 x1 x2 j3 j4 j6
              go_wp2_with fail
              refine (works_below _).mono ?_
              rintro e w7 ⟨rfl, hb7⟩
              have HB7 := Lib.hid (below_then HB6.out HB6.out.size hb7)
              clear hb7
              go_wp2
              go_ret
              exact ⟨rfl, HB7.out⟩
            · have t0 : (xc == 0) = false := beq_eq_false_iff_ne.2 h0
              rw [if_neg h0] at e4
              clear h0
              by_cases h1 : q = xq
              · have t1 : (q == xq) = true := beq_iff_eq.2 h1
                rw [if_pos h1] at e4
                clear h1
                by_cases h2 : s < xs
                · have t2 : decide (s < xs) = true := decide_eq_true h2
                  clear e4 h2
                  go_wp2
                  go_ret
                  exact ⟨rfl, HB5.out⟩
                · have t2 : decide (s < xs) = false := decide_eq_false h2
                  have t4 : (v4 == IntKind.u64.wrap (xc + IntKind.u64.wrap (s - xs))) = true := beq_iff_eq.2 e4
                  clear e4 h2
                  go_wp2_with fail
                  refine (Tell_any _ n c bs m q s _ H5.out HFIT.out HOB.out HP5.out F.out.2.1 q0 F.out.2.2.1 s0 F.out.2.2.2).mono ?_
                  rintro e w6 ⟨he, hb6⟩
                  rw [HV.out] at he
                  subst he
                  have HB6 := Lib.hid (below_then HB5.out HB5.out.size hb6)
                  clear hb6 x0 x1 x2 j3 j4 j6
                  go_wp2_with fail
                  refine (works_below _).mono ?_
                  rintro e w7 ⟨rfl, hb7⟩
                  have HB7 := Lib.hid (below_then HB6.out HB6.out.size hb7)
                  clear hb7
                  go_wp2
                  go_ret
                  exact ⟨rfl, HB7.out⟩
              · have t1 : (q == xq) = false := beq_eq_false_iff_ne.2 h1
                rw [if_neg h1] at e4
                have t4 : (v4 == s) = true := beq_iff_eq.2 e4
                clear e4 h1
                go_wp2_with fail
                refine (Tell_any _ n c bs m q s _ H5.out HFIT.out HOB.out HP5.out F.out.2.1 q0 F.out.2.2.1 s0 F.out.2.2.2).mono ?_
                rintro e w6 ⟨he, hb6⟩
                rw [HV.out] at he
                subst he
                have HB6 := Lib.hid (below_then HB5.out HB5.out.size hb6)
                clear hb6 x0 x1 x2 j3 j4 j6
                go_wp2_with fail
                refine (works_below _).mono ?_
                rintro e w7 ⟨rfl, hb7⟩
                have HB7 := Lib.hid (below_then HB6.out HB6.out.size hb7)
                clear hb7
                go_wp2
                go_ret
                exact ⟨rfl, HB7.out⟩
    · go_wp2_with fail
      refine wp_region_any (by kernel_rfl) ?_
      change wpAny _ _ _ _ _ _ _ (World.drew _)
      refine wpAny_take (i := 0) (v := .slice A n c) rfl (by kernel_rfl) (by kernel_rfl) (by kernel_rfl) (fun _ _ _ h => h) (Or.inl ⟨by rfl, ?_⟩) ?_
      · intro w
        go_simp
      refine wpAny_ready (rs := [1]) (by kernel_rfl) (by simp) ?_
      refine AllReady.cons rfl (fun K hK => ?_) AllReady.nil
      go_simp
      refine hK _ _ ?_
      clear hK K
      refine wpAny_ready (rs := [2]) (by kernel_rfl) (by simp) ?_
      refine AllReady.cons rfl (fun K hK => ?_) AllReady.nil
      go_simp
      refine hK _ _ ?_
      clear hK K
      refine wpAny_ready (rs := [3]) (by kernel_rfl) (by simp) ?_
      refine AllReady.cons rfl (fun K hK => ?_) AllReady.nil
      go_simp
      refine (valid_iff A n c bs _ 1 _ [⟨p, q, s⟩] _ H2.out HS.out).mono ?_
      rintro e w2 ⟨r, rfl, hr, hb2⟩
      obtain rfl : r = false := (by cases r with | false => rfl | true => exact absurd (hr.1 rfl) hok)
      have HBe := Lib.hid (below_then HB2.out HB2.out.size hb2)
      have HDe := Lib.hid (below_then HD1.out HD1.out.size hb2)
      have uy0 := cell_keep HDe.out y0
      have uy1 := cell_keep HDe.out y1
      have uy2 := cell_keep HDe.out y2
      have kuy0 := cell_regrown uy0
      have kuy1 := cell_regrown uy1
      have kuy2 := cell_regrown uy2
      clear hr hb2
      refine hK _ _ ?_
      clear hK K
      refine rest_below 4 (by kernel_rfl) (by kernel_rfl) (by kernel_rfl) ?_
      simp only [List.drop_succ_cons, List.drop_zero]
      repeat (go_big_quiet_step (fail))
      refine wpQuiet_nil ?_
      intro _ hw'
      obtain ⟨⟨dq, osq⟩, hw''⟩ := hw'
      subst hw''
      have HBr := Lib.hid (below_then HBe.out HBe.out.size (below_regrown w2 dq osq))
      clear kuy0 kuy1 kuy2
      go_wp2
      go_ret
      exact ⟨rfl, HBr.out⟩

namespace fnDirectiveColumn
open Go.ChangeShapes Go.WideShapes Go.ChangeAt Go.RowKit
theorem own : ownKnob Tryd.prog.godebug = none := by kernel_rfl
theorem laidOut : laidOutB Tryd.prog = true := by kernel_rfl
set_option maxRecDepth 100000 in
theorem lifted (os : Os) (started : os.Started) (H : Type) (enc : TypeId × Value → H) :
    ReturnsInHanded {} Tryd.checked os 7 .any (fun w args => (Rows.fnDirectiveColumnSpec.pre enc Tryd.prog Tryd.f7 [] false w args ∧ laidMetH Tryd.prog laid3 w) ∧ sizedMet enc Tryd.prog Tryd.f7 (OpenSpec.ofChange Rows.fnDirectiveColumnSpec) false w args)
      (Rows.fnDirectiveColumnSpec.post enc Tryd.prog Tryd.f7 false true false false) := by
  refine returnsInHanded_of_change_and (C := Tryd.checked) (X := fun w _ => laidMetH Tryd.prog laid3 w) (fun _ _ _ hh h => h.of_heap hh) own started (by kernel_rfl) Tryd.func7
    (ChangeSpec.witness_shaped (enc := enc) (C := Tryd.checked) (os := os) (X := fun w _ => laidMetH Tryd.prog laid3 w) false (World.doorLaid Tryd.prog 43 os) #[.slice none 0 0, .agg #[.int .i64 0, .int .u64 0, .int .u64 0]] 8 rfl (World.shaped_of_RefB (by kernel_rfl) (by kernel_rfl)) (by kernel_rfl) (by kernel_rfl) (by kernel_rfl) (door_met os _)) ?_
  intro W base args ds gs before hval0 hW _ _ hL _
  have hval : ∀ (j : Nat) t v, Tryd.f7.params[j]? = some t → args[j]? = some v → Value.okWide Tryd.prog W .any base t v := hval0
  have hW' := hW
  obtain ⟨p, q, hA0, hV, rfl, hfz, hnd⟩ := hW
  have hA : DataW.TrodAll enc Tryd.prog W 0 (fun _ => true) true Tryd.f7.params.toList args.toList ds p := hA0
  rw [Tryd.params7] at hA hval
  obtain ⟨v0, vs0, d0, ds0, p0, q0, hargs, rfl, rfl, h0, r0⟩ := trodAll_cons hA
  obtain ⟨v1, vs1, d1, ds1, p1, q1, rfl, rfl, rfl, h1, r1⟩ := trodAll_cons r0
  obtain ⟨rfl, rfl, rfl⟩ := trodAll_nil r1
  obtain rfl : args = #[v0, v1] := by cases args; simp_all
  obtain ⟨rfl, rfl⟩ := trodVars_none hV
  have k0 := h0
  have k1 := h1
  obtain ⟨A0, n0, c0, bs0, rfl, g0⟩ := open_bases (hval 0 22 v0 rfl rfl) h0
  obtain ⟨x1, rfl, g1⟩ := open_pos (hval 1 25 v1 rfl rfl) h1
  have hlt : ∀ x ∈ p0 ++ (p1 ++ []), x.block < W.heap.size := fun x hx => by simpa using hW'.lt x (by simpa using hx)
  have hargs2 : ∀ (t : TypeId) (v : Value) (d : DataW H) (ps : List MemPlace) (W' : World), Tryd.prog.readableRec t = true → t < Tryd.prog.types.size → DataW.Trod enc Tryd.prog W 0 (fun _ => true) true t v d ps → Below W.heap.size W W' → (∀ x ∈ ps, x.block < W.heap.size) → DataW.Trod enc Tryd.prog W' 0 (fun b => decide (b < W.heap.size)) true t v d ps :=
    fun t v d ps W' h1 h2 h3 h4 h5 => Below.trod laidOut h1 h2 h3 h4 h5
  clear hA0 hval0
  refine (fnDirectiveColumn_any A0 n0 c0 bs0 x1 W g0 g1 (pow_of_laid hL)).mono fun e W' ⟨he, hw⟩ => ?_
  subst he
  exact ⟨_, rfl, _, _, _, [], _, [], hW', trodAll_mk1 (shut_bool Tryd.underlying4 _), (trodAll_cons_mk (hargs2 22 _ _ _ _ (by kernel_rfl) (of_decide_eq_true (by kernel_rfl)) k0 hw (fun x hx => hlt x (by simp [hx]))) (trodAll_cons_mk (hargs2 25 _ _ _ _ (by kernel_rfl) (of_decide_eq_true (by kernel_rfl)) k1 hw (fun x hx => hlt x (by simp [hx]))) trodAll_mk0)), rfl, hw.frame _, fun h => by cases h⟩
theorem over : Rows.fnDirectiveColumnRow.holds Tryd.pinned (OpenSpec.ofChange Rows.fnDirectiveColumnSpec) :=
  OpenClaim.holds_of_wide 7 Tryd.f7 rfl rfl rfl rfl rfl rfl rfl ⟨rfl, rfl, rfl, rfl, rfl⟩ rfl rfl rfl rfl rfl (by kernel_rfl) Tryd.func7 (by kernel_rfl)
    (of_decide_eq_true (by kernel_rfl)) (by unfold Func.isWrapper; rw [if_neg (of_decide_eq_false (by kernel_rfl))]; exact ⟨rfl, rfl⟩)
    (fun os started H enc _ => lifted os started H enc)
end fnDirectiveColumn
/-- The statement: the card. -/
theorem fnDirectiveColumn_holds : Rows.FnDirectiveColumnCardSaid :=
  Claim7.holds_tied_plain_at .later [] [.data, .data, .data] true Rows.fnDirectiveColumnCard.stood.harness false
    fnDirectiveColumn.over (fun _ h => by cases h) (by kernel_rfl) (fun _ h => by cases h) fnDirectiveColumn_row_tie rfl ⟨rfl, rfl⟩ (by kernel_rfl) rfl
    (fun f fn hf hfn => by
      obtain rfl : f = 7 := Option.some.inj ((show Tryd.prog.funcNamed "waystone/laws.FnDirectiveColumn" = some 7 by kernel_rfl).symm.trans hf) |>.symm
      obtain rfl : fn = Tryd.f7 := (Option.some.inj (Tryd.func7.symm.trans hfn)).symm
      exact ⟨by kernel_rfl, fun j t ht => by
        rw [Tryd.params7] at ht
        have hm : t ∈ [22, 25] := by simpa using Array.mem_of_getElem? ht
        have hall : ([22, 25].all fun u => !Tryd.prog.wantsStandIn u) = true := by kernel_rfl
        exact (show Tryd.prog.wantsStandIn t = false by simpa using List.all_eq_true.1 hall t hm)⟩)
    (by kernel_rfl)
#print axioms fnDirectiveColumn_holds
end Go.Proofs.YtlohgoedlkkicaaDoor
