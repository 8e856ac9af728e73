/- For all bases and positions that the reference calls valid: the files of a table are different, and those of the bases of its positions are among them; no condition. -/
import Derived.Test.YtlohgoedlkkicaaRows
import Derived.Test.YtlohgoedlkkicaaFiles
import Derived.Test.YtlohgoedlkkicaaOrder
import Derived.Test.YtlohgoedlkkicaaFits
import Derived.Test.YtlohgoedlkkicaaValid
import Derived.Test.YtlohgoedlkkicaaOpen
import Derived.WalkKit
import Derived.ProofKit
import Derived.OpenShut
import Derived.ShutString
import Derived.ChangeOld
import Derived.Below
import Derived.SizedLaws
namespace Go.Proofs.Ytlohgoedlkkicaa
open Go.RowKit Go.Proofs.Ytlohgoedlkkicaa.Bits

def LRel (w3 : World) (N k : Nat) (i : Value) (wr : World) : Prop := ∃ j : Nat, i = .int .i64 j ∧ j + k = N ∧ w3 = wr
def PRel (w : World) (N k : Nat) (i : Value) (wr : World) : Prop := ∃ j : Nat, i = .int .i64 j ∧ j + k = N ∧ Below w.heap.size w wr
def InRel (w4 : World) (ns : List ByteArray) (a : ByteArray) (N k : Nat) (v i : Value) (wr : World) : Prop := ∃ (j : Nat) (b : Bool), i = .int .i64 j ∧ v = .bool b ∧ j + k = N ∧ w4 = wr ∧ ∀ t : Nat, t < j → ns[t]? = some a → b = true

set_option maxRecDepth 100000 in
set_option maxHeartbeats 8000000 in
theorem fnFiles_any (A : Option Addr) (n c : Nat) (bs : List BaseD) (A2 : Option Addr) (m c2 : Nat) (ps : List PosD) (w : World) (h : Bases w A n c bs) (h2 : Poss w A2 m ps) :
    Calls Try.prog 5 #[.slice A n c, .slice A2 m c2] w fun e w' => e = .returned (.bool true) ∧ Below w.heap.size w w' := by
  have H := Lib.hid h
  have H2 := Lib.hid h2
  have hl := h.len
  have hl2 := h2.len
  clear h h2
  go_enter Try.func5, Try.ntmps5
  go_wp2_with fail
  refine (fits1_any A n c bs _ H.out).mono ?_
  rintro e w1 ⟨r, rfl, hr, hb1⟩
  have HR1 := Lib.hid hr
  have HB1 := Lib.hid hb1
  clear hr hb1
  cases r with
  | false =>
    go_wp2
    go_ret
    exact ⟨rfl, HB1.out⟩
  | true =>
    have hfit : Hid (FitsAll bs) := HR1.out rfl
    have hn : n ≤ 2147483647 := by have := hfit.out.1; rw [hl] at this; exact this
    clear HR1
    by_cases hm : m ≤ 2147483647
    · have hm' : decide ((2147483647 : Int) < (m : Int)) = false := decide_eq_false (by omega)
      go_wp2_with fail
      refine (valid_any A n c bs A2 m c2 ps _ (H.out.keep HB1.out) (H2.out.keep HB1.out)).mono ?_
      rintro e w2 ⟨r, rfl, hr, hb2⟩
      have HR2 := Lib.hid hr
      have HB2 := Lib.hid (below_then HB1.out HB1.out.size hb2)
      clear hr hb2
      cases r with
      | false =>
        go_wp2
        go_ret
        exact ⟨rfl, HB2.out⟩
      | true =>
        have HOK := Lib.hid (HR2.out rfl)
        clear HR2 HB1
        go_wp2_with fail
        refine (Files_any A n c bs A2 m c2 ps _ (H.out.keep HB2.out) (H2.out.keep HB2.out) hn hm HOK.out).mono ?_
        rintro e w3 ⟨vo, ns, rfl, hO, hb3, hF, hN⟩
        have HO := Lib.hid hO
        have HF := Lib.hid hF
        have HB3 := Lib.hid (below_then HB2.out HB2.out.size hb3)
        clear hO hF hb3 HB2
        obtain ⟨N, hNe⟩ : ∃ N, N = ns.length := ⟨_, rfl⟩
        rw [← hNe] at HO hN
        obtain ⟨vp, vc, rfl, hNc⟩ : ∃ (vp : Option Addr) (vc : Nat), vo = .slice vp N vc ∧ N ≤ vc := by
          rcases HO.out.2 with ⟨r1, r2⟩ | ⟨g', cap, cur, r1, _, _, r4, _⟩
          · exact ⟨none, 0, by rw [r1, r2], by omega⟩
          · exact ⟨_, _, r1, r4⟩
        go_wp2_with fail
        go_loopg [32] N (fun k i wr => LRel w3 N k i wr)
        case atStart => exact ⟨0, rfl, by omega, rfl⟩
        case round =>
          obtain ⟨j, rfl, hj, rfl⟩ := hrel
          by_cases hlt : j < N
          · obtain ⟨g, cap, hv, _, _⟩ := HO.out.form (by omega)
            cases hv
            obtain ⟨sj, hsj⟩ : ∃ s, ns[j]? = some s := ⟨ns[j], List.getElem?_eq_getElem (by omega)⟩
            have cj : w3.cell? ⟨g, j, none⟩ = some (.string sj) := by rw [HO.out.cellAt j (by omega)]; simp [strs, hsj]
            have hjc : j ≤ vc := by omega
            have hjc' : (j : Int) ≤ (vc : Int) := by omega
            have HSJ := Lib.hid hsj
            clear hsj
            go_wp2_with fail
            go_loopg [41] j (fun k i wr' => LRel w3 j k i wr')
            case atStart => exact ⟨0, rfl, by omega, rfl⟩
            case round =>
              obtain ⟨j2, rfl, hj2, rfl⟩ := hrel
              by_cases hlt2 : j2 < j
              · obtain ⟨s2, hs2⟩ : ∃ s, ns[j2]? = some s := ⟨ns[j2], List.getElem?_eq_getElem (by omega)⟩
                have cj2 : w3.cell? ⟨g, j2, none⟩ = some (.string s2) := by rw [HO.out.cellAt j2 (by omega)]; simp [strs, hs2]
                have hne : (sj.toList == s2.toList) = false := by
                  rw [beq_eq_false_iff_ne]
                  intro e
                  have e2 : sj = s2 := bk_inj (by rw [ByteArray.toList_eq, ByteArray.toList_eq] at e; simp only [bk, Lit.string.injEq]; exact e)
                  have := (List.getElem?_inj (by omega) HF.out.nodup).1 (HSJ.out.trans (e2 ▸ hs2.symm))
                  omega
                clear hs2
                go_wp2_with fail
                go_roundg (gk - 1)
                case measure => omega
                case rel => exact ⟨j2 + 1, by go_num, by omega, rfl⟩
              · go_wp2_with fail
                go_roundg (N - (j + 1))
                case measure => omega
                case rel => exact ⟨j + 1, by go_num, by omega, rfl⟩
          · go_wp2_with fail
            have hdj : decide (j < ns.length) = false := decide_eq_false (by omega)
            simp only [hdj]
            clear hlt hdj
            go_loopg [52] m (fun k i wr' => PRel w3 m k i wr')
            case atStart => exact ⟨0, rfl, by omega, Below.refl _ _⟩
            case round =>
              obtain ⟨j3, rfl, hj3, hb⟩ := hrel
              by_cases hlt3 : j3 < m
              · obtain ⟨b, o, rfl, hx⟩ := H2.out.lies (by omega)
                obtain ⟨x, hxe⟩ : ∃ x, ps[j3]? = some x := ⟨ps[j3], List.getElem?_eq_getElem (by omega)⟩
                obtain ⟨d0, d1, d2⟩ := ((hx j3 x hxe).keep HB3.out).keep hb
                have hfi := posFine_spec (HOK.out.2 j3 x hxe)
                have hmem := HF.out.mem x (List.mem_of_getElem? hxe)
                clear hx hxe
                obtain ⟨p, q, s⟩ := x
                simp only at d0 d1 d2 hfi hmem
                obtain ⟨hs0, hs1, _, _⟩ := hfi
                have hbA := hb.alloc hb.size (.cells #[.int .i64 p, .int .u64 q, .int .u64 s] 25)
                have HB5 := Lib.hid hbA
                by_cases hp : p < 0
                · clear hmem hb hbA
                  go_wp2_with fail
                  go_roundg (m - (j3 + 1))
                  case measure => omega
                  case rel => exact ⟨j3 + 1, by go_num, by omega, HB5.out⟩
                · obtain ⟨m', rfl⟩ : ∃ m' : Nat, p = m' := ⟨p.toNat, by omega⟩
                  have hmn : m' < n := by rw [← hl]; omega
                  have hmn' : (m' : Int) < (n : Int) := by omega
                  have hp0 : decide ((m' : Int) < 0) = false := decide_eq_false (by omega)
                  have hm0 : (0 : Int) ≤ (m' : Int) := by omega
                  obtain ⟨b2, o2, rfl, hy⟩ := H.out.lies (by omega)
                  obtain ⟨y, hye⟩ : ∃ y, bs[m']? = some y := ⟨bs[m'], List.getElem?_eq_getElem (by omega)⟩
                  have e1 := (((hy m' y hye).keep HB3.out).keep hb).c1
                  have hin := hmem hm0 y (by simpa using hye)
                  obtain ⟨yf, ya, yp, yl, yc⟩ := y
                  simp only at e1 hin
                  have e1' := cell_keep (below_new wr (.cells #[.int .i64 m', .int .u64 q, .int .u64 s] 25)) e1
                  have HIN := Lib.hid hin
                  clear hy hye hmem hb hp hin
                  cases hya : ya.toList.isEmpty with
                  | true =>
                    clear hbA
                    go_wp2_with fail
                    go_roundg (m - (j3 + 1))
                    case measure => omega
                    case rel => exact ⟨j3 + 1, by go_num, by omega, HB5.out⟩
                  | false =>
                    go_wp2_with fail
                    have x0 : (wr.alloc (.cells #[.int .i64 m', .int .u64 q, .int .u64 s] 25)).cell? ⟨wr.heap.size, 0, none⟩ = some (.int .i64 m') := by simp
                    have hOW := own_keep HO.out hbA
                    generalize hW4 : wr.alloc (.cells #[.int .i64 m', .int .u64 q, .int .u64 s] 25) = W4 at *
                    have HOW := Lib.hid hOW
                    clear hW4 hbA hOW d0 d1 d2 e1
                    go_loopg [12, 70] N (fun k v i wr' => InRel W4 ns ya N k v i wr')
                    case atStart => exact ⟨0, false, rfl, rfl, by omega, rfl, fun t ht => absurd ht (by omega)⟩
                    case round =>
                      obtain ⟨j4, b, rfl, rfl, hj4, rfl, hall⟩ := hrel
                      by_cases hlt4 : j4 < N
                      · obtain ⟨g, cap, hv, _, _⟩ := HOW.out.form (by omega)
                        cases hv
                        obtain ⟨s4, hs4⟩ : ∃ s, ns[j4]? = some s := ⟨ns[j4], List.getElem?_eq_getElem (by omega)⟩
                        have c4 : W4.cell? ⟨g, j4, none⟩ = some (.string s4) := by rw [HOW.out.cellAt j4 (by omega)]; simp [strs, hs4]
                        have HALL := Lib.hid hall
                        have HS4 := Lib.hid hs4
                        clear hall hs4
                        cases b with
                        | true =>
                          go_wp2_with fail
                          go_roundg (gk - 1)
                          case measure => omega
                          case rel => exact ⟨j4 + 1, true, by go_num, rfl, by omega, rfl, fun _ _ _ => rfl⟩
                        | false =>
                          cases he : (s4.toList == ya.toList) with
                          | true =>
                            go_wp2_with fail
                            go_roundg (gk - 1)
                            case measure => omega
                            case rel => exact ⟨j4 + 1, true, by go_num, rfl, by omega, rfl, fun _ _ _ => rfl⟩
                          | false =>
                            go_wp2_with fail
                            go_roundg (gk - 1)
                            case measure => omega
                            case rel =>
                              refine ⟨j4 + 1, false, by go_num, rfl, by omega, rfl, fun t ht htn => ?_⟩
                              by_cases et : t = j4
                              · subst et
                                rw [HS4.out] at htn
                                cases htn
                                simp at he
                              · exact HALL.out t (by omega) htn
                      · have hb : b = true := by
                          obtain ⟨t, ht, e⟩ := List.mem_iff_getElem.1 HIN.out
                          exact hall t (by omega) (by rw [List.getElem?_eq_getElem ht, e])
                        subst hb
                        clear hall
                        go_wp2_with fail
                        go_roundg (m - (j3 + 1))
                        case measure => omega
                        case rel => exact ⟨j3 + 1, by go_num, by omega, HB5.out⟩
              · go_wp2_with fail
                refine (works_below _).mono ?_
                rintro e w5 ⟨rfl, hb5⟩
                have HB5 := Lib.hid (below_then HB3.out HB3.out.size (below_then hb hb.size hb5))
                clear hb hb5
                go_wp2
                go_ret
                exact ⟨rfl, HB5.out⟩
    · have hm' : decide ((2147483647 : Int) < (m : Int)) = true := decide_eq_true (by omega)
      go_wp2
      go_ret
      exact ⟨rfl, HB1.out⟩

namespace fnFiles
open Go.ChangeShapes Go.WideShapes Go.ChangeAt Go.RowKit
theorem own : ownKnob Try.prog.godebug = none := by kernel_rfl
theorem laidOut : laidOutB Try.prog = true := by kernel_rfl
set_option maxRecDepth 100000 in
theorem lifted (os : Os) (started : os.Started) (H : Type) (enc : TypeId × Value → H) :
    ReturnsInHanded {} Try.checked os 5 .any (Rows.fnFilesSpec.pre6 enc Try.prog Try.f5 Rows.fnFilesRow.domain false) (Rows.fnFilesSpec.post enc Try.prog Try.f5 false true false false) := by
  refine returnsInHanded_of_change_sized (C := Try.checked) own started (by kernel_rfl) Try.func5
    (ChangeSpec.witness6 (enc := enc) (C := Try.checked) false ⟨#[], #[.slice none 0 0, .slice none 0 0], []⟩ 8 (by kernel_rfl) (by kernel_rfl) (by kernel_rfl) (by kernel_rfl)) ?_
  intro W base args ds gs before hval0 hW hcnd hsz0 _
  have hval : ∀ (j : Nat) t v, Try.f5.params[j]? = some t → args[j]? = some v → Value.okWide Try.prog W .any base t v := hval0
  have hW' := hW
  obtain ⟨p, q, hA0, hV, rfl, hfz, hnd⟩ := hW
  have hA : DataW.TrodAll enc Try.prog W 0 (fun _ => true) true Try.f5.params.toList args.toList ds p := hA0
  rw [Try.params5] at hA hval
  obtain ⟨v0, vs0, d0, ds0, p0, q0, hargs, rfl, rfl, h0, r0⟩ := trodAll_cons hA
  obtain ⟨v1, vs1, d1, ds1, p1, q1, rfl, rfl, rfl, h1, r1⟩ := trodAll_cons r0
  obtain ⟨rfl, rfl, rfl⟩ := trodAll_nil r1
  obtain rfl : args = #[v0, v1] := by cases args; simp_all
  obtain ⟨rfl, rfl⟩ := trodVars_none hV
  have k0 := h0
  have k1 := h1
  obtain ⟨A0, n0, c0, bs0, rfl, g0⟩ := open_bases (hval 0 22 v0 rfl rfl) h0
  obtain ⟨A1, n1, c1, ps1, rfl, g1⟩ := open_poss (hval 1 31 v1 rfl rfl) h1
  have hlt : ∀ x ∈ p0 ++ (p1 ++ []), x.block < W.heap.size := fun x hx => by simpa using hW'.lt x (by simpa using hx)
  have hargs2 : ∀ (t : TypeId) (v : Value) (d : DataW H) (ps : List MemPlace) (W' : World), Try.prog.readableRec t = true → t < Try.prog.types.size → DataW.Trod enc Try.prog W 0 (fun _ => true) true t v d ps → Below W.heap.size W W' → (∀ x ∈ ps, x.block < W.heap.size) → DataW.Trod enc Try.prog W' 0 (fun b => decide (b < W.heap.size)) true t v d ps :=
    fun t v d ps W' h1 h2 h3 h4 h5 => Below.trod laidOut h1 h2 h3 h4 h5
  clear hA0 hval0 hsz0
  refine (fnFiles_any A0 n0 c0 bs0 A1 n1 c1 ps1 W g0 g1).mono fun e W' ⟨he, hw⟩ => ?_
  subst he
  exact ⟨_, rfl, _, _, _, [], _, [], hW', trodAll_mk1 (shut_bool Try.underlying4 _), (trodAll_cons_mk (hargs2 22 _ _ _ _ (by kernel_rfl) (of_decide_eq_true (by kernel_rfl)) k0 hw (fun x hx => hlt x (by simp [hx]))) (trodAll_cons_mk (hargs2 31 _ _ _ _ (by kernel_rfl) (of_decide_eq_true (by kernel_rfl)) k1 hw (fun x hx => hlt x (by simp [hx]))) trodAll_mk0)), rfl, hw.frame _, fun h => by cases h⟩
theorem over : Rows.fnFilesRow.holds Try.pinned (OpenSpec.ofChange Rows.fnFilesSpec) :=
  OpenClaim.holds_of_wide 5 Try.f5 rfl rfl rfl rfl rfl rfl rfl ⟨rfl, rfl, rfl, rfl, rfl⟩ rfl rfl rfl rfl rfl (by kernel_rfl) Try.func5 (by kernel_rfl)
    (of_decide_eq_true (by kernel_rfl)) (by unfold Func.isWrapper; rw [if_neg (of_decide_eq_false (by kernel_rfl))]; exact ⟨rfl, rfl⟩)
    (fun os started H enc _ => lifted os started H enc)
end fnFiles
/-- The statement. -/
theorem fnFiles_holds : Rows.FnFilesSaid := fnFiles.over
#print axioms fnFiles_holds
end Go.Proofs.Ytlohgoedlkkicaa
