/- The walk of Through. -/
import Derived.Test.YtlohgoedlkkicaaDoorPosBack
import Derived.Test.YtlohgoedlkkicaaDoorForm
namespace Go.Proofs.YtlohgoedlkkicaaDoor
open Go.RowKit Go.Proofs.YtlohgoedlkkicaaDoor.Bits

theorem infoF : (Tryd.prog.info? 31).map (fun i => (i.zero, i.size, i.bytes)) = some (some (.agg #[.bool false, .int .u64 0, .int .u64 0, .int .u64 0, .int .u64 0, .string ⟨#[]⟩, .string ⟨#[]⟩, .string ⟨#[]⟩, .string ⟨#[]⟩, .string ⟨#[]⟩, .string ⟨#[]⟩, .string ⟨#[]⟩]), 12, 152) := by kernel_rfl

/-- The cells of what a position tells. -/
def tellC (bs : List BaseD) (p : PosD) : List Value := (tellV bs p.base p.line p.col).cells.toList
def flatT (bs : List BaseD) (ps : List PosD) : List Value := ps.flatMap (tellC bs)
theorem tellC_form (bs : List BaseD) (p : PosD) : ∃ (v0 : Bool) (v1 v2 v3 v4 : Int) (v5 v6 v7 v8 v9 v10 v11 : ByteArray), tellV bs p.base p.line p.col = .agg #[.bool v0, .int .u64 v1, .int .u64 v2, .int .u64 v3, .int .u64 v4, .string v5, .string v6, .string v7, .string v8, .string v9, .string v10, .string v11] ∧ tellC bs p = [.bool v0, .int .u64 v1, .int .u64 v2, .int .u64 v3, .int .u64 v4, .string v5, .string v6, .string v7, .string v8, .string v9, .string v10, .string v11] := by
  obtain ⟨v0, v1, v2, v3, v4, v5, v6, v7, v8, v9, v10, v11, h⟩ := facts_form (posF bs p.base (wordOf p.line p.col)) p.line.toNat p.col.toNat
  have h' : tellV bs p.base p.line p.col = .agg #[.bool v0, .int .u64 v1, .int .u64 v2, .int .u64 v3, .int .u64 v4, .string v5, .string v6, .string v7, .string v8, .string v9, .string v10, .string v11] := h
  exact ⟨v0, v1, v2, v3, v4, v5, v6, v7, v8, v9, v10, v11, h', by unfold tellC; rw [h']; rfl⟩
theorem flatT_snoc {bs : List BaseD} {ps : List PosD} {j : Nat} {p : PosD} (h : ps[j]? = some p) : flatT bs (ps.take (j + 1)) = flatT bs (ps.take j) ++ tellC bs p := by
  unfold flatT
  rw [List.take_add_one, h]
  simp
theorem flat_at {reg : List Nat} : ∀ {ps : List PosD} {i : Nat} {p : PosD}, ps[i]? = some p → (flat reg ps)[i * 2]? = some (.int .i32 (xIdx reg p.base)) ∧ (flat reg ps)[i * 2 + 1]? = some (.int .u32 (wordOf p.line p.col))
  | [], i, p, h => by simp at h
  | x :: xs, 0, p, h => by
    have e : x = p := by simpa using h
    subst e
    exact ⟨rfl, rfl⟩
  | x :: xs, i + 1, p, h => by
    have ih := flat_at (reg := reg) (ps := xs) (i := i) (p := p) (by simpa using h)
    have e : flat reg (x :: xs) = xval reg x ++ flat reg xs := by unfold flat; rw [List.flatMap_cons]
    rw [e, show (i + 1) * 2 = i * 2 + 2 by omega]
    exact ih

def TRel (w : World) (bs : List BaseD) (ps : List PosD) (V vo : Value) (gs : List Nat) (tb : Nat) (reg : List Nat) (ns : List ByteArray) (m k : Nat) (vt i : Value) (wr : World) : Prop :=
  ∃ j : Nat, i = .int .i64 j ∧ j + k = m ∧ Tab w wr bs V gs tb reg ns ∧ wr.ownsRow w.heap.size 63 2 vo m (flat reg ps) ∧ wr.ownsRow w.heap.size 31 12 vt j (flatT bs (ps.take j))
def ThroughPost (w : World) (bs : List BaseD) (ps : List PosD) (m : Nat) (e : Ending) (w' : World) : Prop :=
  ∃ vt : Value, e = .returned vt ∧ w'.ownsRow w.heap.size 31 12 vt m (flatT bs ps) ∧ Below w.heap.size w w'

set_option maxRecDepth 100000 in
set_option maxHeartbeats 8000000 in
theorem Through_any (A : Option Addr) (n c : Nat) (bs : List BaseD) (A2 : Option Addr) (m c2 : Nat) (ps : List PosD) (w : World) (h : Bases w A n c bs) (h2 : Poss w A2 m ps) (hfit : FitsAll bs) (hm : m ≤ 2147483647) (hok : Okay bs ps) (hpow : Pow10 w) :
    Calls Tryd.prog 16 #[.slice A n c, .slice A2 m c2] w (ThroughPost w bs ps m) := by
  obtain ⟨i0, hi0, hz0, hz1, hz2⟩ := info_parts infoF
  have hl := h.len
  have hl2 := h2.len
  have hn : n ≤ 2147483647 := by have := hfit.1; omega
  have HOK := Lib.hid hok
  have HFIT := Lib.hid hfit
  have HP := Lib.hid hpow
  have HG := Lib.hid h2.good
  have H := Lib.hid h
  have H2 := Lib.hid h2
  clear hok hfit hpow h h2
  go_enter Tryd.func16, Tryd.ntmps16
  go_wp2_with fail
  refine (compact_any A n c bs A2 m c2 ps _ H.out H2.out hn hm HOK.out).mono ?_
  rintro e w1 ⟨V, vo, gs, tb, reg, ns, rfl, hT, hmem, hO⟩
  have HT := Lib.hid hT
  have HM := Lib.hid hmem
  have HO := Lib.hid hO
  obtain ⟨vp, vc, rfl⟩ : ∃ (vp : Option Addr) (vc : Nat), vo = .slice vp m vc := by
    rcases hO.2 with ⟨r1, r2⟩ | ⟨g', cap, cur, r1, _⟩
    · exact ⟨none, 0, by rw [r1, r2]⟩
    · exact ⟨_, _, r1⟩
  clear hT hmem hO
  go_wp2
  go_loopg [7, 18] m (fun k vt i wr => TRel w bs ps V (.slice vp m vc) gs tb reg ns m k vt i wr)
  case atStart => exact ⟨0, rfl, by omega, HT.out, HO.out, World.ownsRow_nil _ _ _ _⟩
  case round =>
    obtain ⟨j, rfl, hj, hT, hO, hR⟩ := hrel
    have hTR := Lib.hid hT
    have hOR := Lib.hid hO
    have hRR := Lib.hid hR
    by_cases hlt : j < m
    · obtain ⟨g, cap, hv, _, hglt⟩ := hO.form (by omega)
      cases hv
      obtain ⟨x, hxe⟩ : ∃ x, ps[j]? = some x := ⟨ps[j]'(by omega), List.getElem?_eq_getElem (by omega)⟩
      have q0 := hO.cellAt (j * 2) (by omega)
      have q1 := hO.cellAt (j * 2 + 1) (by omega)
      rw [(flat_at hxe).1] at q0
      rw [(flat_at hxe).2] at q1
      have HX := Lib.hid hxe
      have hfi := posFine_spec (HOK.out.2 j x hxe)
      have hin := HG.out j x hxe
      obtain ⟨p, q, s⟩ := x
      simp only at q0 q1 hfi
      obtain ⟨f0, f1, f2, f3⟩ := hfi
      obtain ⟨_, _, b0, _, b2, _⟩ := hin
      simp only at b0 b2
      obtain ⟨r, hr⟩ : ∃ r, r = wordOf q s := ⟨_, rfl⟩
      rw [← hr] at q1
      have HR := Lib.hid hr
      obtain ⟨ix, hix⟩ : ∃ i : Int, i = xIdx reg p := ⟨_, rfl⟩
      rw [← hix] at q0
      have HIX := Lib.hid hix
      have hb1 := below_new wr (.cells #[.int .i32 ix, .int .u32 r] 63)
      have HTA := Lib.hid (hT.keep hb1)
      have HOA := Lib.hid (own_keep hO hb1)
      have HRA := Lib.hid (own_keep hR hb1)
      clear hxe hT hO hR hr hix hb1 hTR hOR hRR
      go_wp2_with fail
      have hPB := PosBack_any HTA.out p r (fun h0 => HM.out _ (List.mem_of_getElem? HX.out) h0)
      rw [← HIX.out] at hPB
      refine hPB.mono ?_
      rintro e w2 ⟨rfl, hb2⟩
      have HTB := Lib.hid (HTA.out.keep hb2)
      have HOB := Lib.hid (own_keep HOA.out hb2)
      have HRB := Lib.hid (own_keep HRA.out hb2)
      clear hb2 q0 q1 HTA HOA HRA hPB
      go_wp2_with fail
      have hsm := posF_small (fun i x hx => (HFIT.out.2 i x hx).1) HOK.out.1 p (wordOf q s) (by omega)
      have hwp := word_parts b0 f2 b2 f3
      refine (told_any (ptrA gs p) (posF bs p r) r q.toNat s.toNat w2 (tells_tab HTB.out HOK.out.1 p r (by omega)) (by rw [HR.out]; exact hsm.1) (by rw [HR.out]; exact hsm.2) (pow_keep HP.out HTB.out.below) (by rw [HR.out]; exact hwp.2.2.1) (by rw [HR.out]; exact hwp.2.2.2) (by rw [HR.out]; exact hwp.1) (by rw [HR.out]; exact hwp.2.1)).mono ?_
      rintro e w3 ⟨he, hb3⟩
      obtain ⟨v0, v1, v2, v3, v4, v5, v6, v7, v8, v9, v10, v11, hv, hc⟩ := tellC_form bs ⟨p, q, s⟩
      have hv' : factsV (posF bs p r) q.toNat s.toNat = .agg #[.bool v0, .int .u64 v1, .int .u64 v2, .int .u64 v3, .int .u64 v4, .string v5, .string v6, .string v7, .string v8, .string v9, .string v10, .string v11] := by rw [HR.out]; exact hv
      rw [hv'] at he
      subst he
      have HC := Lib.hid hc
      have hb4 := hb3.trans ((below_new w3 (.cells #[.bool v0, .int .u64 v1, .int .u64 v2, .int .u64 v3, .int .u64 v4, .string v5, .string v6, .string v7, .string v8, .string v9, .string v10, .string v11] 31)).mono hb3.size)
      have HTC := Lib.hid (HTB.out.keep hb4)
      have HOC := Lib.hid (own_keep HOB.out hb4)
      have HRC := Lib.hid (own_keep HRB.out hb4)
      have HSZ : Hid (w.heap.size ≤ (w3.alloc (.cells #[.bool v0, .int .u64 v1, .int .u64 v2, .int .u64 v3, .int .u64 v4, .string v5, .string v6, .string v7, .string v8, .string v9, .string v10, .string v11] 31)).heap.size) := Lib.hid HTC.out.below.size
      clear hsm hwp hv hv' hc hb3 hb4 HTB HOB HRB
      go_wp2_with (at_builtin; refine wpList_append_lies _ rfl (.tmp 22) (.tmp 27) 41 rfl w.heap.size 31 i0 (.agg #[.bool false, .int .u64 0, .int .u64 0, .int .u64 0, .int .u64 0, .string ⟨#[]⟩, .string ⟨#[]⟩, .string ⟨#[]⟩, .string ⟨#[]⟩, .string ⟨#[]⟩, .string ⟨#[]⟩, .string ⟨#[]⟩]) 12 152 Tryd.underlying41 hi0 hz0 hz1 hz2 rfl (by decide) u7 j (flatT bs (ps.take j)) rfl HRC.out ⟨w3.heap.size, 0, none⟩ 1 1 [.bool v0, .int .u64 v1, .int .u64 v2, .int .u64 v3, .int .u64 v4, .string v5, .string v6, .string v7, .string v8, .string v9, .string v10, .string v11] rfl rfl (World.news_of_block (Blk.new _ _ _)) (by simp [Value.oneCell']) (by decide) (by unfold maxLen; omega) (by omega) HSZ.out _ rfl ?_; intro gg cap w4 hown4 hgrow4 hat4 hlt4; have HO4 := Lib.hid hown4; have HG4 := Lib.hid hgrow4; clear hown4 hgrow4 hat4 hlt4)
      go_roundg (gk - 1)
      case measure => omega
      case rel =>
        refine ⟨j + 1, by go_num, by omega, HTC.out.grown HG4.out (fun k e => ?_), HOC.out.kept HG4.out (Or.inr (fun e => ?_)), ?_⟩
        · rcases HRC.out.2 with ⟨r, _⟩ | ⟨g', cap', cur, r1, r2, r3, _⟩
          · rw [r] at e; simp [Value.ownBlock] at e
          · rw [r1] at e
            simp [Value.ownBlock] at e
            subst e
            exact ⟨r2, _, _, _, r3, by decide, by decide, by decide⟩
        · rcases HRC.out.2 with ⟨r, _⟩ | ⟨g', cap', cur, r1, r2, r3, _⟩
          · rw [r] at e; simp [Value.ownBlock] at e
          · rw [r1] at e
            rcases HOC.out.2 with ⟨r', _⟩ | ⟨g'', cap'', cur', s1, s2, s3, _⟩
            · rw [r'] at e; simp [Value.ownBlock] at e
            · rw [s1] at e
              simp [Value.ownBlock] at e
              subst e
              rw [r3] at s3
              injection s3 with s3
              injection s3 with _ s4
              exact absurd s4 (by decide)
        · rw [flatT_snoc HX.out, HC.out]
          exact HO4.out
    · obtain rfl : j = m := by omega
      clear hT hO hR
      go_wp2
      go_ret
      have ht : ps.take j = ps := by rw [← hl2]; simp
      have h1 := hRR.out
      rw [ht] at h1
      exact ⟨_, rfl, h1, hTR.out.below⟩
end Go.Proofs.YtlohgoedlkkicaaDoor
