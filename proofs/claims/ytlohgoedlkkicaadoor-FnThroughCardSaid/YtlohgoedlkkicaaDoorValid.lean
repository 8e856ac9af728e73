/- The walk of Valid. -/
import Derived.Test.YtlohgoedlkkicaaDoorFine
import Derived.Test.YtlohgoedlkkicaaDoorFits
import Derived.Lib.QuietBelow
import Derived.BigQuiet
namespace Go.Proofs.YtlohgoedlkkicaaDoor
open Go.RowKit

/-- What Valid asks of the base number i. -/
def BaseOk (bs : List BaseD) (i : Nat) (x : BaseD) : Prop :=
  (x.pos.base = -1 ∧ x.pos.line = 0 ∧ x.pos.col = 0 ∧ x.line = 0 ∧ x.col = 0) ∨
  (∃ (m : Nat) (y : BaseD), x.pos.base = m ∧ m < i ∧ bs[m]? = some y ∧ y.pos.base = -1 ∧ 1 ≤ x.pos.line ∧ x.pos.line ≤ 1000000 ∧ 1 ≤ x.pos.col ∧ x.pos.col ≤ 250 ∧ 1 ≤ x.line ∧ x.line ≤ 1000000 ∧ x.col ≤ 250)
/-- What Valid asks. -/
def Okay (bs : List BaseD) (ps : List PosD) : Prop := (∀ (i : Nat) (x : BaseD), bs[i]? = some x → BaseOk bs i x) ∧ (∀ (i : Nat) (p : PosD), ps[i]? = some p → posFineB bs.length p = true)
def OkTo (bs : List BaseD) (j : Nat) : Prop := ∀ (i : Nat) (x : BaseD), i < j → bs[i]? = some x → BaseOk bs i x
def OkRel (w : World) (bs : List BaseD) (n k : Nat) (i : Value) (wr : World) : Prop := ∃ j : Nat, i = .int .i64 j ∧ j + k = n ∧ Below w.heap.size w wr ∧ OkTo bs j
def PsTo (ps : List PosD) (n j : Nat) : Prop := ∀ (i : Nat) (p : PosD), i < j → ps[i]? = some p → posFineB n p = true
def PsRel (w : World) (ps : List PosD) (n m k : Nat) (i : Value) (wr : World) : Prop := ∃ j : Nat, i = .int .i64 j ∧ j + k = m ∧ Below w.heap.size w wr ∧ PsTo ps n j

theorem ok_step {bs : List BaseD} {j : Nat} {x : BaseD} (h : OkTo bs j) (hx : bs[j]? = some x) (hf : BaseOk bs j x) : OkTo bs (j + 1) := by
  intro i y hi hy
  by_cases e : i = j
  · subst e; rw [hx] at hy; cases hy; exact hf
  · exact h i y (by omega) hy
theorem ps_step {ps : List PosD} {n j : Nat} {x : PosD} (h : PsTo ps n j) (hx : ps[j]? = some x) (hf : posFineB n x = true) : PsTo ps n (j + 1) := by
  intro i y hi hy
  by_cases e : i = j
  · subst e; rw [hx] at hy; cases hy; exact hf
  · exact h i y (by omega) hy

set_option maxRecDepth 100000 in
set_option maxHeartbeats 8000000 in
theorem valid_iff (A : Option Addr) (n c : Nat) (bs : List BaseD) (A2 : Option Addr) (m c2 : Nat) (ps : List PosD) (w : World) (h : Bases w A n c bs) (h2 : Poss w A2 m ps) :
    Calls Tryd.prog 10 #[.slice A n c, .slice A2 m c2] w (SomeBool (fun r => r = true ↔ Okay bs ps) w) := by
  have hl := h.len
  have hcap := h.cap
  have hbig := h.big
  have hl2 := h2.len
  have hbig2 := h2.big
  go_enter Tryd.func10, Tryd.ntmps10
  go_wp2
  go_loopg [11] n (fun k i wr => OkRel w bs n k i wr)
  case atStart => exact ⟨0, rfl, by omega, Below.refl _ _, fun i x hi => absurd hi (by omega)⟩
  case round =>
    obtain ⟨j, rfl, hj, hb, hto⟩ := hrel
    by_cases hlt : j < n
    · obtain ⟨b, o, rfl, hx⟩ := h.lies (by omega)
      obtain ⟨x, hxe⟩ : ∃ x, bs[j]? = some x := ⟨bs[j], List.getElem?_eq_getElem (by omega)⟩
      have hin := h.good j x hxe
      obtain ⟨d0, d1, d2, d3, d4, d5, d6⟩ := (hx j x hxe).keep hb
      obtain ⟨f, a, ⟨p, q, s⟩, l, cc⟩ := x
      obtain ⟨⟨pb0, pb1, pl0, pl1, pc0, pc1⟩, xl0, xl1, xc0, xc1, xf, xa⟩ := hin
      simp only at d0 d1 d2 d3 d4 d5 d6 pb0 pb1 pl0 pl1 pc0 pc1 xl0 xl1 xc0 xc1
      have HX := Lib.hid hxe
      have HO := Lib.hid hto
      have HXS := Lib.hid hx
      clear hxe hto hx
      by_cases hp : p = -1
      · subst hp
        go_wp2
        all_goals first
          | (go_ret
             refine ⟨false, rfl, ⟨fun h => absurd h (by decide), fun ho => ?_⟩, hb.alloc hb.size _⟩
             rcases ho.1 j _ HX.out with ⟨_, h1, h2, h3, h4⟩ | ⟨m', y, h1, _⟩
             · simp only at h1 h2 h3 h4
               first
                 | exact absurd ‹(cc != 0) = true› (by rw [h4]; decide)
                 | exact absurd ‹(l != 0) = true› (by rw [h3]; decide)
                 | exact absurd ‹(s != 0) = true› (by rw [h2]; decide)
                 | exact absurd ‹(q != 0) = true› (by rw [h1]; decide)
                 | exact absurd h4 (by assumption)
                 | exact absurd h3 (by assumption)
                 | exact absurd h2 (by assumption)
                 | exact absurd h1 (by assumption)
             · simp only at h1
               omega)
          | (go_roundg (gk - 1)
             case measure => omega
             case rel => exact ⟨j + 1, by go_num, by omega, hb.alloc hb.size _, ok_step HO.out HX.out (Or.inl ⟨rfl, by assumption, by assumption, by assumption, by simpa using ‹(cc != 0) = false›⟩)⟩)
      · have hp' : (p == -1) = false := by rw [beq_eq_false_iff_ne]; exact hp
        have HP := Lib.hid hp
        clear hp
        obtain ⟨W, hW⟩ : ∃ W, W = wr.alloc (.cells #[.string f, .string a, .int .i64 p, .int .u64 q, .int .u64 s, .int .u64 l, .int .u64 cc] 29) := ⟨_, rfl⟩
        have e2 : W.cell? ⟨wr.heap.size, 2, none⟩ = some (.int .i64 p) := by rw [hW]; simp
        have e3 : W.cell? ⟨wr.heap.size, 3, none⟩ = some (.int .u64 q) := by rw [hW]; simp
        have e4 : W.cell? ⟨wr.heap.size, 4, none⟩ = some (.int .u64 s) := by rw [hW]; simp
        have e5 : W.cell? ⟨wr.heap.size, 5, none⟩ = some (.int .u64 l) := by rw [hW]; simp
        have e6 : W.cell? ⟨wr.heap.size, 6, none⟩ = some (.int .u64 cc) := by rw [hW]; simp
        have hbW : Below wr.heap.size wr W := by rw [hW]; exact below_new _ _
        have eB := Lib.hid (below_then hb hb.size hbW)
        have eZ := Lib.hid (Nat.le_trans hb.size hbW.size)
        have k2 := cell_regrown e2
        have k3 := cell_regrown e3
        have k4 := cell_regrown e4
        have k5 := cell_regrown e5
        have k6 := cell_regrown e6
        clear e2 e3 e4 e5 e6
        have hjc : (j : Int) ≤ (c : Int) := by omega
        have hjc' : j ≤ c := by omega
        have hj0 : (0 : Int) ≤ (j : Int) := by omega
        have hbW' := Lib.hid hbW
        cases hF : posFineB j ⟨p, q, s⟩ with
        | false =>
          have NB : Hid (¬ Okay bs ps) := Lib.hid (fun ho => by
            have hP := HP.out
            rcases ho.1 j _ HX.out with ⟨h1, _⟩ | ⟨m', y, h1, h2, _, _, h3, h4, h5, h6, _⟩
            · exact hP h1
            · simp only at h1 h2 h3 h4 h5 h6
              rw [posFine_yes (by simp only; omega) (by simp only; omega) (by simp only; omega) (by simp only; omega)] at hF
              cases hF)
          have cF : ∀ d os, Calls Tryd.prog 18 #[.slice (some ⟨b, o, none⟩) j c, .agg #[.int .i64 p, .int .u64 q, .int .u64 s]] (Go.Sort.grow (redrawn W d) os) fun e w'' => e = .returned (.bool false) ∧ ∃ p : Regrown, w'' = Go.Sort.grow (redrawn W p.d) p.os := fun d os => Calls.regrown_of (fine_any _ _ _ _ _ _ _ _ hF)
          clear hF HXS HO HX hb hbW hbW'
          go_wp2_with fail
          rw [← hW]
          clear hW
          refine wp_region_quiet_below (by kernel_rfl) (by kernel_rfl) ?_
          repeat (go_big_quiet_step (exact cF _ _))
          refine wpQuiet_nil ?_
          intro _ hw'
          obtain ⟨⟨dq, osq⟩, hw''⟩ := hw'
          subst hw''
          go_wp2
          go_ret
          exact ⟨false, rfl, ⟨fun h => absurd h (by decide), fun ho => absurd ho NB.out⟩, below_then eB.out eZ.out (below_regrown _ _ _)⟩
        | true =>
          have hS := posFine_spec hF
          simp only at hS
          obtain ⟨hs0, hs1, hs2, hs3⟩ := hS
          have hp0 : 0 ≤ p := by have := HP.out; omega
          obtain ⟨m', rfl⟩ : ∃ m' : Nat, p = m' := ⟨p.toNat, by omega⟩
          have hmj : m' < j := by omega
          have hmn : m' < n := by omega
          have hmn' : (m' : Int) < (n : Int) := by omega
          obtain ⟨y, hye⟩ : ∃ y, bs[m']? = some y := ⟨bs[m'], List.getElem?_eq_getElem (by omega)⟩
          have HY := Lib.hid hye
          have ey := (((HXS.out m' y hye).keep hb).keep hbW).c2
          have ky := cell_regrown ey
          clear hye ey
          obtain ⟨yf, ya, ⟨yb, yq, ys⟩, yl, yc⟩ := y
          simp only at ky
          have cF : ∀ d os, Calls Tryd.prog 18 #[.slice (some ⟨b, o, none⟩) j c, .agg #[.int .i64 m', .int .u64 q, .int .u64 s]] (Go.Sort.grow (redrawn W d) os) fun e w'' => e = .returned (.bool true) ∧ ∃ p : Regrown, w'' = Go.Sort.grow (redrawn W p.d) p.os := fun d os => Calls.regrown_of (fine_any _ _ _ _ _ _ _ _ hF)
          clear hF HXS hb hbW hbW' hp0 HP hs0 hs1
          by_cases t1 : yb = -1
          · have u1 : (yb != -1) = false := by rw [t1]; rfl
            have HYB := Lib.hid t1
            clear t1
            by_cases t2 : q = 0
            · have u2 : (q == 0) = true := by rw [t2]; rfl
              have NB : Hid (¬ Okay bs ps) := (Lib.hid (fun ho => by
                rcases ho.1 j _ HX.out with ⟨h1, _⟩ | ⟨m2, y2, h1, h2, hy2, hb2, h3, h4, h5, h6, h7, h8, h9⟩
                · simp only at h1
                  omega
                · simp only at h1 h2 h3 h4 h5 h6 h7 h8 h9
                  omega))
              clear t2 HO HX HY HYB
              go_wp2_with fail
              rw [← hW]
              clear hW
              refine wp_region_quiet_below (by kernel_rfl) (by kernel_rfl) ?_
              repeat (go_big_quiet_step (exact cF _ _))
              refine wpQuiet_nil ?_
              intro _ hw'
              obtain ⟨⟨dq, osq⟩, hw''⟩ := hw'
              subst hw''
              go_wp2
              go_ret
              exact ⟨false, rfl, ⟨fun h => absurd h (by decide), fun ho => absurd ho NB.out⟩, below_then eB.out eZ.out (below_regrown _ _ _)⟩
            · have u2 : (q == 0) = false := by rw [beq_eq_false_iff_ne]; exact t2
              have v2 : 1 ≤ q := by omega
              clear t2
              by_cases t3 : s = 0
              · have u3 : (s == 0) = true := by rw [t3]; rfl
                have NB : Hid (¬ Okay bs ps) := (Lib.hid (fun ho => by
                  rcases ho.1 j _ HX.out with ⟨h1, _⟩ | ⟨m2, y2, h1, h2, hy2, hb2, h3, h4, h5, h6, h7, h8, h9⟩
                  · simp only at h1
                    omega
                  · simp only at h1 h2 h3 h4 h5 h6 h7 h8 h9
                    omega))
                clear t3 HO HX HY HYB
                go_wp2_with fail
                rw [← hW]
                clear hW
                refine wp_region_quiet_below (by kernel_rfl) (by kernel_rfl) ?_
                repeat (go_big_quiet_step (exact cF _ _))
                refine wpQuiet_nil ?_
                intro _ hw'
                obtain ⟨⟨dq, osq⟩, hw''⟩ := hw'
                subst hw''
                go_wp2
                go_ret
                exact ⟨false, rfl, ⟨fun h => absurd h (by decide), fun ho => absurd ho NB.out⟩, below_then eB.out eZ.out (below_regrown _ _ _)⟩
              · have u3 : (s == 0) = false := by rw [beq_eq_false_iff_ne]; exact t3
                have v3 : 1 ≤ s := by omega
                clear t3
                by_cases t4 : l = 0
                · have u4' : (l == 0) = true := by rw [t4]; rfl
                  have NB : Hid (¬ Okay bs ps) := (Lib.hid (fun ho => by
                    rcases ho.1 j _ HX.out with ⟨h1, _⟩ | ⟨m2, y2, h1, h2, hy2, hb2, h3, h4, h5, h6, h7, h8, h9⟩
                    · simp only at h1
                      omega
                    · simp only at h1 h2 h3 h4 h5 h6 h7 h8 h9
                      omega))
                  clear t4 HO HX HY HYB
                  go_wp2_with fail
                  rw [← hW]
                  clear hW
                  refine wp_region_quiet_below (by kernel_rfl) (by kernel_rfl) ?_
                  repeat (go_big_quiet_step (exact cF _ _))
                  refine wpQuiet_nil ?_
                  intro _ hw'
                  obtain ⟨⟨dq, osq⟩, hw''⟩ := hw'
                  subst hw''
                  go_wp2
                  go_ret
                  exact ⟨false, rfl, ⟨fun h => absurd h (by decide), fun ho => absurd ho NB.out⟩, below_then eB.out eZ.out (below_regrown _ _ _)⟩
                · have u4' : (l == 0) = false := by rw [beq_eq_false_iff_ne]; exact t4
                  have v4 : 1 ≤ l := by omega
                  clear t4
                  by_cases t5 : l ≤ 1000000
                  · have w5 : decide (1000000 < l) = false := decide_eq_false (by omega)
                    by_cases t6 : cc ≤ 250
                    · have w6 : decide (250 < cc) = false := decide_eq_false (by omega)
                      go_wp2_with fail
                      rw [← hW]
                      clear hW
                      refine wp_region_quiet_below (by kernel_rfl) (by kernel_rfl) ?_
                      repeat (go_big_quiet_step (exact cF _ _))
                      refine wpQuiet_nil ?_
                      intro _ hw'
                      obtain ⟨⟨dq, osq⟩, hw''⟩ := hw'
                      subst hw''
                      go_wp2
                      go_roundg (gk - 1)
                      case measure => omega
                      case rel => exact ⟨j + 1, by go_num, by omega, below_then eB.out eZ.out (below_regrown _ _ _), ok_step HO.out HX.out (Or.inr ⟨m', _, rfl, hmj, HY.out, HYB.out, by omega, by omega, by omega, by omega, by omega, by omega, by omega⟩)⟩
                    · have v6 : 250 < cc := by omega
                      have NB : Hid (¬ Okay bs ps) := (Lib.hid (fun ho => by
                        rcases ho.1 j _ HX.out with ⟨h1, _⟩ | ⟨m2, y2, h1, h2, hy2, hb2, h3, h4, h5, h6, h7, h8, h9⟩
                        · simp only at h1
                          omega
                        · simp only at h1 h2 h3 h4 h5 h6 h7 h8 h9
                          omega))
                      have w6 : decide (250 < cc) = true := decide_eq_true v6
                      clear t6 HO HX HY HYB
                      go_wp2_with fail
                      rw [← hW]
                      clear hW
                      refine wp_region_quiet_below (by kernel_rfl) (by kernel_rfl) ?_
                      repeat (go_big_quiet_step (exact cF _ _))
                      refine wpQuiet_nil ?_
                      intro _ hw'
                      obtain ⟨⟨dq, osq⟩, hw''⟩ := hw'
                      subst hw''
                      go_wp2
                      go_ret
                      exact ⟨false, rfl, ⟨fun h => absurd h (by decide), fun ho => absurd ho NB.out⟩, below_then eB.out eZ.out (below_regrown _ _ _)⟩
                  · have v5 : 1000000 < l := by omega
                    have NB : Hid (¬ Okay bs ps) := (Lib.hid (fun ho => by
                      rcases ho.1 j _ HX.out with ⟨h1, _⟩ | ⟨m2, y2, h1, h2, hy2, hb2, h3, h4, h5, h6, h7, h8, h9⟩
                      · simp only at h1
                        omega
                      · simp only at h1 h2 h3 h4 h5 h6 h7 h8 h9
                        omega))
                    have w5 : decide (1000000 < l) = true := decide_eq_true v5
                    clear t5 HO HX HY HYB
                    go_wp2_with fail
                    rw [← hW]
                    clear hW
                    refine wp_region_quiet_below (by kernel_rfl) (by kernel_rfl) ?_
                    repeat (go_big_quiet_step (exact cF _ _))
                    refine wpQuiet_nil ?_
                    intro _ hw'
                    obtain ⟨⟨dq, osq⟩, hw''⟩ := hw'
                    subst hw''
                    go_wp2
                    go_ret
                    exact ⟨false, rfl, ⟨fun h => absurd h (by decide), fun ho => absurd ho NB.out⟩, below_then eB.out eZ.out (below_regrown _ _ _)⟩
          · have u1 : (yb != -1) = true := by rw [bne_iff_ne]; exact t1
            have NB : Hid (¬ Okay bs ps) := (Lib.hid (fun ho => by
              rcases ho.1 j _ HX.out with ⟨h1, _⟩ | ⟨m2, y2, h1, h2, hy2, hb2, h3, h4, h5, h6, h7, h8, h9⟩
              · simp only at h1
                omega
              · simp only at h1 h2 h3 h4 h5 h6 h7 h8 h9
                have e : m' = m2 := by omega
                subst e
                rw [HY.out] at hy2
                cases hy2
                exact t1 hb2))
            clear t1 HO HX HY
            go_wp2_with fail
            rw [← hW]
            clear hW
            refine wp_region_quiet_below (by kernel_rfl) (by kernel_rfl) ?_
            repeat (go_big_quiet_step (exact cF _ _))
            refine wpQuiet_nil ?_
            intro _ hw'
            obtain ⟨⟨dq, osq⟩, hw''⟩ := hw'
            subst hw''
            go_wp2
            go_ret
            exact ⟨false, rfl, ⟨fun h => absurd h (by decide), fun ho => absurd ho NB.out⟩, below_then eB.out eZ.out (below_regrown _ _ _)⟩
    · have hto' := Lib.hid hto
      clear hto
      go_wp2
      go_loopg [90] m (fun k i wr => PsRel w ps n m k i wr)
      case atStart => exact ⟨0, rfl, by omega, hb, fun i x hi => absurd hi (by omega)⟩
      case round =>
        have hjn : n ≤ j := by omega
        clear hj hlt hb
        obtain ⟨j2, rfl, hj2, hb2, hto2⟩ := hrel
        by_cases hlt2 : j2 < m
        · obtain ⟨b2, o2, rfl, hx2⟩ := h2.lies (by omega)
          obtain ⟨x2, hxe2⟩ : ∃ x, ps[j2]? = some x := ⟨ps[j2], List.getElem?_eq_getElem (by omega)⟩
          obtain ⟨g0, g1, g2⟩ := (hx2 j2 x2 hxe2).keep hb2
          obtain ⟨p, q, s⟩ := x2
          simp only at g0 g1 g2
          have HX2 := Lib.hid hxe2
          have HO2 := Lib.hid hto2
          clear hx2 hxe2 hto2
          go_wp2_with fail
          cases hF : posFineB n ⟨p, q, s⟩ with
          | false =>
            have NB : Hid (¬ Okay bs ps) := Lib.hid (fun ho => by
              have := ho.2 j2 _ HX2.out
              rw [hl, hF] at this
              cases this)
            refine (fine_any _ _ _ _ _ _ _ _ hF).mono ?_
            rintro e w1 ⟨rfl, hb1⟩
            have HB := Lib.hid (below_call hb2 hb1)
            clear hb2 hb1 g0 g1 g2
            go_wp2
            go_ret
            exact ⟨false, rfl, ⟨fun h => absurd h (by decide), fun ho => absurd ho NB.out⟩, HB.out⟩
          | true =>
            refine (fine_any _ _ _ _ _ _ _ _ hF).mono ?_
            rintro e w1 ⟨rfl, hb1⟩
            have HB := Lib.hid (below_call hb2 hb1)
            have HF := Lib.hid hF
            clear hb2 hb1 g0 g1 g2 hF
            go_wp2
            go_roundg (gk - 1)
            case measure => omega
            case rel => exact ⟨j2 + 1, by go_num, by omega, HB.out, ps_step HO2.out HX2.out HF.out⟩
        · have hto2' := Lib.hid hto2
          clear hto2
          go_wp2
          go_ret
          refine ⟨true, rfl, iff_of_true rfl ⟨fun i x hi => hto'.out i x (by have := (List.getElem?_eq_some_iff.1 hi).1; omega) hi, fun i x hi => ?_⟩, hb2⟩
          rw [hl]
          exact hto2'.out i x (by have := (List.getElem?_eq_some_iff.1 hi).1; omega) hi

theorem valid_any (A : Option Addr) (n c : Nat) (bs : List BaseD) (A2 : Option Addr) (m c2 : Nat) (ps : List PosD) (w : World) (h : Bases w A n c bs) (h2 : Poss w A2 m ps) :
    Calls Tryd.prog 10 #[.slice A n c, .slice A2 m c2] w (SomeBool (fun r => r = true → Okay bs ps) w) := by
  refine (valid_iff A n c bs A2 m c2 ps w h h2).mono ?_
  rintro e w' ⟨r, he, hr, hb⟩
  exact ⟨r, he, hr.1, hb⟩
end Go.Proofs.YtlohgoedlkkicaaDoor
