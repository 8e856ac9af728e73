/- The walk of compact. -/
import Derived.Test.YtlohgoedlkkicaaDoorXPosW
namespace Go.Proofs.YtlohgoedlkkicaaDoor
open Go.RowKit Go.Proofs.YtlohgoedlkkicaaDoor.Bits

theorem infoX : (Tryd.prog.info? 63).map (fun i => (i.zero, i.size, i.bytes)) = some (some (.agg #[.int .i32 0, .int .u32 0]), 2, 8) := by kernel_rfl

def xval (reg : List Nat) (p : PosD) : List Value := [.int .i32 (xIdx reg p.base), .int .u32 (wordOf p.line p.col)]
def flat (reg : List Nat) (ps : List PosD) : List Value := ps.flatMap (xval reg)
theorem flat_more {reg : List Nat} {ps : List PosD} (h : ∀ p ∈ ps, 0 ≤ p.base → p.base.toNat ∈ reg) (l : List Nat) : flat (reg ++ l) ps = flat reg ps := by
  induction ps with
  | nil => rfl
  | cons p ps ih =>
    have h1 : xval (reg ++ l) p = xval reg p := by unfold xval; rw [xIdx_more (h p (by simp))]
    have h2 := ih (fun q hq => h q (by simp [hq]))
    unfold flat at h2 ⊢
    rw [List.flatMap_cons, List.flatMap_cons, h1, h2]
theorem flat_snoc {reg : List Nat} {ps : List PosD} {j : Nat} {p : PosD} (h : ps[j]? = some p) : flat reg (ps.take (j + 1)) = flat reg (ps.take j) ++ xval reg p := by
  unfold flat
  rw [List.take_add_one, h]
  simp

theorem posOf_tab {w0 W : World} {bs : List BaseD} {V : Value} {gs : List Nat} {tb : Nat} {reg : List Nat} {ns : List ByteArray} (h : Tab w0 W bs V gs tb reg ns) (p q s r : Int) (hp : p < bs.length) (hq : 0 ≤ q) (hs0 : 0 ≤ s) (hs1 : s ≤ 250) (hr : wordOf q s = r) :
    Calls Tryd.prog 20 #[V, .agg #[.int .i64 p, .int .u64 q, .int .u64 s]] W fun e w' => e = .returned (.agg #[.pointer (ptrA gs p), .int .u32 r]) ∧ Below W.heap.size W w' := by
  by_cases h0 : p < 0
  · have e : ptrA gs p = none := by unfold ptrA; rw [if_pos h0]
    rw [e]
    exact posOf_none V p q s r W h0 hq hs0 (by omega) hr
  · obtain ⟨m, rfl⟩ : ∃ m : Nat, p = m := ⟨p.toNat, by omega⟩
    obtain ⟨gb, cap, rfl, _, _⟩ := h.bas.form (by omega)
    have hl := h.len
    obtain ⟨g, hg⟩ : ∃ g, gs[m]? = some g := ⟨gs[m]'(by omega), List.getElem?_eq_getElem _⟩
    have e : ptrA gs (m : Int) = some ⟨g, 0, none⟩ := by unfold ptrA; rw [if_neg h0, Int.toNat_natCast]; simp [List.getD, hg]
    have hc : W.cell? ⟨gb, m, none⟩ = some (.pointer (some ⟨g, 0, none⟩)) := by
      have := h.bas.cells (g := gb) rfl m (.pointer (some ⟨g, 0, none⟩)) (by simp [ptrs, hg])
      rwa [show (⟨gb, 0, none⟩ : Addr).add m = ⟨gb, m, none⟩ by unfold Addr.add; split <;> simp_all] at this
    rw [e]
    exact posOf_some gb bs.length cap m g q s r W (by omega) hc hq hs0 (by omega) hr

theorem tab_start {w wr : World} {bs : List BaseD} {V : Value} {gs : List Nat} (h : Built (w.alloc (.cells #[.slice none 0 0, .map none, .map none] 77)) wr bs bs.length V gs) : Tab w wr bs V gs w.heap.size [] [] := by
  have hs : (w.alloc (.cells #[.slice none 0 0, .map none, .map none] 77)).heap.size = w.heap.size + 1 := by simp
  refine ⟨h.len, h.nodup, fun g hg => by have := h.low g hg; omega, Nat.le_refl _, ⟨fun _ => -1, fun _ _ => rfl, fun i x g hx hg => by rw [fiCells_start]; exact h.blk i x g hx hg⟩, List.nodup_nil, fun i hi => by simp at hi, Or.inl ⟨rfl, rfl, (Blk.new w _ _).keep h.below⟩, ?_, fun i hi => by simp at hi, by simp, (below_new w _).trans (h.below.mono (by omega))⟩
  refine ⟨h.own.1, ?_⟩
  rcases h.own.2 with r | ⟨g', cap, cur, r1, r2, r3⟩
  · exact Or.inl r
  · exact Or.inr ⟨g', cap, cur, r1, by omega, r3⟩

def CRel (w : World) (bs : List BaseD) (ps : List PosD) (V : Value) (gs : List Nat) (m k : Nat) (vo i : Value) (wr : World) : Prop :=
  ∃ (j : Nat) (reg : List Nat) (ns : List ByteArray), i = .int .i64 j ∧ j + k = m ∧ Tab w wr bs V gs w.heap.size reg ns ∧ (∀ p ∈ ps.take j, 0 ≤ p.base → p.base.toNat ∈ reg) ∧ wr.ownsRow w.heap.size 63 2 vo j (flat reg (ps.take j))
def CompactPost (w : World) (bs : List BaseD) (ps : List PosD) (m : Nat) (e : Ending) (w' : World) : Prop :=
  ∃ (V vo : Value) (gs : List Nat) (tb : Nat) (reg : List Nat) (ns : List ByteArray), e = .returned (.tuple #[ptrV tb, vo]) ∧ Tab w w' bs V gs tb reg ns ∧ (∀ p ∈ ps, 0 ≤ p.base → p.base.toNat ∈ reg) ∧ w'.ownsRow w.heap.size 63 2 vo m (flat reg ps)

set_option maxRecDepth 100000 in
set_option maxHeartbeats 8000000 in
theorem compact_any (A : Option Addr) (n c : Nat) (bs : List BaseD) (A2 : Option Addr) (m c2 : Nat) (ps : List PosD) (w : World) (h : Bases w A n c bs) (h2 : Poss w A2 m ps) (hn : n ≤ 2147483647) (hm : m ≤ 2147483647) (hok : Okay bs ps) :
    Calls Tryd.prog 24 #[.slice A n c, .slice A2 m c2] w (CompactPost w bs ps m) := by
  obtain ⟨i0, hi0, hz0, hz1, hz2⟩ := info_parts infoX
  have hl := h.len
  have hl2 := h2.len
  have hs : ∀ (i : Nat) (x : BaseD), bs[i]? = some x → x.abs.size ≤ maxLen := fun i x hx => by have := (h.good i x hx).a; unfold maxLen; omega
  have HS := Lib.hid hs
  have HOK := Lib.hid hok
  have H := Lib.hid h
  have H2 := Lib.hid h2
  clear hs hok h h2
  go_enter Tryd.func24, Tryd.ntmps24
  go_wp2_with fail
  refine (build_any A n c bs _ (H.out.keep (below_new w _)) hn HOK.out.1).mono ?_
  rintro e w1 ⟨V, gs, rfl, hB⟩
  rw [← hl] at hB
  have HT := Lib.hid (tab_start hB)
  clear hB
  go_wp2
  go_loopg [8, 16] m (fun k vo i wr => CRel w bs ps V gs m k vo i wr)
  case atStart => exact ⟨0, [], [], rfl, by omega, HT.out, fun p hp => by simp at hp, World.ownsRow_nil _ _ _ _⟩
  case round =>
    obtain ⟨j, reg, ns, rfl, hj, hT, hmem, hO⟩ := hrel
    by_cases hlt : j < m
    · obtain ⟨b, o, rfl, hx⟩ := H2.out.lies (by omega)
      obtain ⟨x, hxe⟩ : ∃ x, ps[j]? = some x := ⟨ps[j], List.getElem?_eq_getElem (by omega)⟩
      obtain ⟨d0, d1, d2⟩ := (hx j x hxe).keep hT.below
      obtain ⟨g0, g1, g2, g3, g4, g5⟩ := H2.out.good j x hxe
      have hfi := HOK.out.2 j x hxe
      have HX := Lib.hid hxe
      have HTR := Lib.hid hT
      have HM := Lib.hid hmem
      have HO := Lib.hid hO
      clear hx hxe hT hmem hO
      obtain ⟨p, q, s⟩ := x
      simp only at d0 d1 d2 g0 g1 g2 g3 g4 g5
      have hS := posFine_spec hfi
      simp only at hS
      obtain ⟨hs0, hs1, hs2, hs3⟩ := hS
      have HTA := Lib.hid (HTR.out.keep (below_new wr (.cells #[.int .i64 p, .int .u64 q, .int .u64 s] 25)))
      clear hfi
      go_wp2_with fail
      refine (posOf_tab HTA.out p q s (wordOf q s) (by omega) g2 g4 hs3 rfl).mono ?_
      rintro e w2 ⟨rfl, hb2⟩
      have HT2 := Lib.hid (HTA.out.keep hb2)
      have HO2 := Lib.hid (own_keep (HO.out.alloc (.cells #[.int .i64 p, .int .u64 q, .int .u64 s] 25)) hb2)
      obtain ⟨rw_, hrw⟩ : ∃ z, z = wordOf q s := ⟨_, rfl⟩
      rw [← hrw]
      have HRW := Lib.hid hrw
      clear hb2 d0 d1 d2 hrw
      go_wp2_with fail
      refine (XPos_any HT2.out (by omega) (by omega) HS.out).mono ?_
      rintro e w3 ⟨reg', ns', rfl, hI⟩
      obtain ⟨l, rfl⟩ := hI.more
      have hO3 := hI.soft.own HO2.out (by decide) (by decide) (by decide)
      rw [← flat_more HM.out l] at hO3
      have HO3 := Lib.hid (hO3.alloc (.cells #[.int .i32 (xIdx (reg ++ l) p), .int .u32 rw_] 63))
      have HT3 := Lib.hid (hI.tab.keep (below_new w3 (.cells #[.int .i32 (xIdx (reg ++ l) p), .int .u32 rw_] 63)))
      have HMEM := Lib.hid hI.mem
      have HSZ : Hid (w.heap.size ≤ (w3.alloc (.cells #[.int .i32 (xIdx (reg ++ l) p), .int .u32 rw_] 63)).heap.size) := Lib.hid HT3.out.below.size
      clear hI hO3
      go_wp2_with (at_builtin; refine wpList_append_lies _ rfl (.tmp 20) (.tmp 26) 59 rfl w.heap.size 63 i0 (.agg #[.int .i32 0, .int .u32 0]) 2 8 Tryd.underlying59 hi0 hz0 hz1 hz2 rfl (by decide) u8 j (flat (reg ++ l) (ps.take j)) rfl HO3.out ⟨w3.heap.size, 0, none⟩ 1 1 [.int .i32 (xIdx (reg ++ l) p), .int .u32 rw_] rfl rfl (World.news_of_block (Blk.new _ _ _)) (by simp [Value.oneCell']) (by decide) (by unfold maxLen; omega) (by omega) HSZ.out _ rfl ?_; intro gg cap w4 hown4 hgrow4 hat4 hlt4; have HO4 := Lib.hid hown4; have HG4 := Lib.hid hgrow4; clear hown4 hgrow4 hat4 hlt4)
      go_roundg (gk - 1)
      case measure => omega
      case rel =>
        refine ⟨j + 1, reg ++ l, ns', by go_num, by omega, HT3.out.grown HG4.out (fun k e => ?_), fun y hy h0 => ?_, ?_⟩
        · rcases HO3.out.2 with ⟨r, _⟩ | ⟨g', cap', cur, r1, r2, r3, _⟩
          · rw [r] at e; simp [Value.ownBlock] at e
          · rw [r1] at e
            simp [Value.ownBlock] at e
            subst e
            exact ⟨r2, _, _, _, r3, by decide, by decide, by decide⟩
        · rw [List.take_add_one, HX.out] at hy
          rcases List.mem_append.1 hy with r | r
          · exact List.mem_append_left _ (HM.out y r h0)
          · simp at r
            subst r
            exact HMEM.out h0
        · rw [flat_snoc HX.out]
          have : xval (reg ++ l) ⟨p, q, s⟩ = [.int .i32 (xIdx (reg ++ l) p), .int .u32 rw_] := by rw [HRW.out]; rfl
          rw [this]
          exact HO4.out
    · have HTR := Lib.hid hT
      have HM := Lib.hid hmem
      have HO := Lib.hid hO
      clear hT hmem hO
      obtain rfl : j = m := by omega
      go_wp2
      go_ret2
      have ht : ps.take j = ps := by rw [← hl2]; simp
      have h1 := HM.out
      have h2 := HO.out
      rw [ht] at h1 h2
      exact ⟨V, _, gs, _, reg, ns, rfl, HTR.out, h1, h2⟩
end Go.Proofs.YtlohgoedlkkicaaDoor
