/- The walk of build. -/
import Derived.Test.YtlohgoedlkkicaaDoorBuilt
import Derived.Test.YtlohgoedlkkicaaDoorPosOf
import Derived.Outline
namespace Go.Proofs.YtlohgoedlkkicaaDoor
open Go.RowKit Go.Proofs.YtlohgoedlkkicaaDoor.Bits

theorem infoPtr : (Tryd.prog.info? 46).map (fun i => (i.zero, i.size, i.bytes)) = some (some (.pointer none), 1, 8) := by kernel_rfl

theorem far3 {w w' : World} {row : Option Nat} {a : Addr} {v : Value} (hg : w.grownBy w' row) (h : w.cell? a = some v) (hne : some a.block ≠ row) : w'.cell? a = some v := hg.cell h hne
def BuiltAny (w : World) (bs : List BaseD) (n : Nat) (e : Ending) (w' : World) : Prop := ∃ v gs, e = .returned v ∧ Built w w' bs n v gs
def BuiltRel (w : World) (bs : List BaseD) (n k : Nat) (v i : Value) (wr : World) : Prop := ∃ (j : Nat) (gs : List Nat), i = .int .i64 j ∧ j + k = n ∧ Built w wr bs j v gs

set_option maxRecDepth 100000 in
set_option maxHeartbeats 8000000 in
theorem build_any (A : Option Addr) (n c : Nat) (bs : List BaseD) (w : World) (h : Bases w A n c bs) (hn : n ≤ 2147483647) (hok : ∀ (i : Nat) (x : BaseD), bs[i]? = some x → BaseOk bs i x) :
    Calls Tryd.prog 21 #[.slice A n c] w (BuiltAny w bs n) := by
  obtain ⟨i0, hi0, hz0, hz1, hz2⟩ := info_parts infoPtr
  have hl := h.len
  have hlow : Hid (∀ (i : Nat) (x : BaseD), bs[i]? = some x → x.pos.base < (i : Int)) := fun i x hx => by
    rcases hok i x hx with ⟨h1, _⟩ | ⟨m, y, h1, h2, _⟩ <;> omega
  have HOK := Lib.hid hok
  clear hok
  go_enter Tryd.func21, Tryd.ntmps21
  go_wp2
  go_loopg [3, 8] n (fun k v i wr => BuiltRel w bs n k v i wr)
  case atStart => exact ⟨0, [], rfl, by omega, built_start w bs⟩
  case round =>
    obtain ⟨j, gs, rfl, hj, hB⟩ := hrel
    by_cases hlt : j < n
    · obtain ⟨b, o, rfl, hx⟩ := h.lies (by omega)
      obtain ⟨x, hxe⟩ : ∃ x, bs[j]? = some x := ⟨bs[j], List.getElem?_eq_getElem (by omega)⟩
      obtain ⟨d0, d1, d2, d3, d4, d5, d6⟩ := (hx j x hxe).keep hB.below
      have hokx := Lib.hid (HOK.out j x hxe)
      have HG := Lib.hid (h.good j x hxe)
      have HX := Lib.hid hxe
      have HB := Lib.hid hB
      clear hxe hx hB
      obtain ⟨f, a, ⟨p, q, s⟩, l, cc⟩ := x
      simp only at d0 d1 d2 d3 d4 d5 d6
      by_cases hp : p < 0
      · have hp' := Lib.hid hp
        go_wp2_with fail
        refine (NewFileBase_any f a _).mono ?_
        rintro e w1 ⟨rfl, hb1, hk1, hlt1⟩
        rw [World.size_alloc] at hk1
        have hbw : Below wr.heap.size wr w1 := (below_new wr _).trans (hb1.mono (by simp))
        have HBW := Lib.hid (hbw.trans ((below_new w1 (.cells #[.pointer (some ⟨wr.heap.size + 1, 0, none⟩)] 46)).mono hbw.size))
        have HK := Lib.hid (hk1.alloc (.cells #[.pointer (some ⟨wr.heap.size + 1, 0, none⟩)] 46))
        have HOWN := Lib.hid ((own_keep HB.out.own hbw).alloc (.cells #[.pointer (some ⟨wr.heap.size + 1, 0, none⟩)] 46))
        have HSZ := Lib.hid (Nat.le_trans HB.out.below.size (Nat.le_trans hbw.size (Nat.le_succ w1.heap.size)))
        clear hb1 hk1 hlt1 hbw d0 d1 d2 d3 d4 d5 d6 hp
        go_wp2_with (at_builtin; refine wpList_append_lies _ rfl (.tmp 16) (.tmp 22) 52 rfl w.heap.size 46 i0 (.pointer none) 1 8 Tryd.underlying52 hi0 hz0 hz1 hz2 rfl (by decide) u3 j (ptrs gs) rfl HOWN.out ⟨w1.heap.size, 0, none⟩ 1 1 [.pointer (some ⟨wr.heap.size + 1, 0, none⟩)] rfl rfl (cell_one_new _ _ _) (by simp [Value.oneCell']) (by decide) (by unfold maxLen; omega) (by omega) (by rw [World.size_alloc]; exact HSZ.out) _ rfl ?_; intro gg cap w2 hown2 hgrow2 hat2 hlt2; have HO2 := Lib.hid hown2; have HG2 := Lib.hid hgrow2; clear hown2 hgrow2 hat2 hlt2)
        go_roundg (gk - 1)
        case measure => omega
        case rel =>
          refine ⟨j + 1, gs ++ [wr.heap.size + 1], by go_num, by omega, built_step HB.out hlow.out HX.out HBW.out ?_ (by omega) HO2.out HG2.out⟩
          unfold baseCells
          rw [if_pos hp'.out]
          exact HK.out
      · obtain ⟨m, hpm, hmj, hq1, hq2, hs1, hs2, hl1, hl2, hc2⟩ : ∃ m : Nat, p = m ∧ m < j ∧ 1 ≤ q ∧ q ≤ 1000000 ∧ 1 ≤ s ∧ s ≤ 250 ∧ 1 ≤ l ∧ l ≤ 1000000 ∧ cc ≤ 250 := by
          rcases hokx.out with ⟨h1, _⟩ | ⟨m, y, h1, h2, _, _, h5, h6, h7, h8, h9, h10, h11⟩
          · simp only at h1; omega
          · exact ⟨m, h1, h2, h5, h6, h7, h8, h9, h10, h11⟩
        subst hpm
        obtain ⟨gb, cap, rfl, hge, hlt2⟩ := HB.out.own.form (by omega)
        obtain ⟨gm, hgm⟩ : ∃ gm, gs[m]? = some gm := ⟨gs[m]'(by have := HB.out.len; omega), List.getElem?_eq_getElem _⟩
        have e7 : wr.cell? ⟨gb, m, none⟩ = some (.pointer (some ⟨gm, 0, none⟩)) := by
          have := HB.out.own.cells (g := gb) rfl m (.pointer (some ⟨gm, 0, none⟩)) (by simp [ptrs, hgm])
          rwa [show (⟨gb, 0, none⟩ : Addr).add m = ⟨gb, m, none⟩ by unfold Addr.add; split <;> simp_all] at this
        obtain ⟨r, hr⟩ : ∃ r, r = wordOf q s := ⟨_, rfl⟩
        have HR := Lib.hid hr.symm
        have HGM := Lib.hid hgm
        obtain ⟨W, hW⟩ : ∃ W, W = wr.alloc (.cells #[.string f, .string a, .int .i64 m, .int .u64 q, .int .u64 s, .int .u64 l, .int .u64 cc] 29) := ⟨_, rfl⟩
        have hbW : Below wr.heap.size wr W := by rw [hW]; exact below_new _ _
        have hX : Blk W wr.heap.size 29 #[.string f, .string a, .int .i64 m, .int .u64 q, .int .u64 s, .int .u64 l, .int .u64 cc] := by rw [hW]; exact Blk.new _ _ _
        have hWs : W.heap.size = wr.heap.size + 1 := by rw [hW]; simp
        have k0 := hX.cell 0
        have k1 := hX.cell 1
        have k2 := hX.cell 2
        have k3 := hX.cell 3
        have k4 := hX.cell 4
        have k5 := hX.cell 5
        have k6 := hX.cell 6
        simp only [List.getElem?_toArray, List.getElem?_cons_zero, List.getElem?_cons_succ] at k0 k1 k2 k3 k4 k5 k6
        have hE7 := Lib.hid (cell_keep hbW e7)
        have HBW := Lib.hid hbW
        have HWS := Lib.hid hWs
        have hgb : ¬ wr.heap.size = gb := by omega
        have hmj' : (m : Int) < (j : Int) := by omega
        have hp0 : ¬ (m : Int) < 0 := by omega
        clear hr hgm hX hbW e7 hWs hp
        go_wp2_with fail
        rw [← hW]
        clear hW d0 d1 d2 d3 d4 d5 d6
        go_region_held3 (fun w' => w'.cell? ⟨wr.heap.size, 0, none⟩ = some (.string f) ∧ w'.cell? ⟨wr.heap.size, 1, none⟩ = some (.string a) ∧ w'.cell? ⟨wr.heap.size, 2, none⟩ = some (.int .i64 m) ∧ w'.cell? ⟨wr.heap.size, 3, none⟩ = some (.int .u64 q) ∧ w'.cell? ⟨wr.heap.size, 4, none⟩ = some (.int .u64 s) ∧ w'.cell? ⟨wr.heap.size, 5, none⟩ = some (.int .u64 l) ∧ w'.cell? ⟨wr.heap.size, 6, none⟩ = some (.int .u64 cc))
          (first
            | (go_keep; done)
            | exact ⟨far3 HG3.out (cell_keep hb3.out k0) (by simp [Value.ownBlock, hgb]), far3 HG3.out (cell_keep hb3.out k1) (by simp [Value.ownBlock, hgb]), far3 HG3.out (cell_keep hb3.out k2) (by simp [Value.ownBlock, hgb]), far3 HG3.out (cell_keep hb3.out k3) (by simp [Value.ownBlock, hgb]), far3 HG3.out (cell_keep hb3.out k4) (by simp [Value.ownBlock, hgb]), far3 HG3.out (cell_keep hb3.out k5) (by simp [Value.ownBlock, hgb]), far3 HG3.out (cell_keep hb3.out k6) (by simp [Value.ownBlock, hgb])⟩
            | exact ⟨cell_keep hb3.out k0, cell_keep hb3.out k1, cell_keep hb3.out k2, cell_keep hb3.out k3, cell_keep hb3.out k4, cell_keep hb3.out k5, cell_keep hb3.out k6⟩
            | exact ⟨cell_keep hb2.out k0, cell_keep hb2.out k1, cell_keep hb2.out k2, cell_keep hb2.out k3, cell_keep hb2.out k4, cell_keep hb2.out k5, cell_keep hb2.out k6⟩
            | exact ⟨cell_keep hb1.out k0, cell_keep hb1.out k1, cell_keep hb1.out k2, cell_keep hb1.out k3, cell_keep hb1.out k4, cell_keep hb1.out k5, cell_keep hb1.out k6⟩
            | fail)
          (first
            | (go_at_call 20
               refine (posOf_some gb j cap m gm q s r _ (by omega) (by exact hE7.out) (by omega) (by omega) (by omega) HR.out).mono ?_
               rintro e w1 ⟨rfl, hb⟩
               have hb1 := Lib.hid (drew_below hb)
               clear hb)
            | (go_at_call 37
               refine (NewLine_any (some ⟨gm, 0, none⟩) r f a l cc _).mono ?_
               rintro e w2 ⟨rfl, hb, hk⟩
               have hb2 := Lib.hid (below_then hb1.out hb1.out.size hb)
               have hb3 := Lib.hid (below_then hb2.out hb2.out.size (below_new w2 (.cells #[.pointer (some ⟨w1.heap.size + 1, 0, none⟩)] 46)))
               have hk3 := Lib.hid (hk.alloc (.cells #[.pointer (some ⟨w1.heap.size + 1, 0, none⟩)] 46))
               have HOWN := Lib.hid ((own_keep (own_keep HB.out.own HBW.out) hb2.out).alloc (.cells #[.pointer (some ⟨w1.heap.size + 1, 0, none⟩)] 46))
               have HSZ := Lib.hid (show w.heap.size ≤ (w2.alloc (.cells #[.pointer (some ⟨w1.heap.size + 1, 0, none⟩)] 46)).heap.size from Nat.le_trans HB.out.below.size (Nat.le_trans HBW.out.size hb3.out.size))
               have HSG := Lib.hid hb1.out.size
               clear hb hk)
            | (refine step_append_lies _ (by rfl) _ _ _ (by rfl) w.heap.size 46 i0 (.pointer none) 1 8 Tryd.underlying52 hi0 hz0 hz1 hz2 rfl (by decide) (.slice (some ⟨gb, 0, none⟩) j cap) j (ptrs gs) (by rfl) HOWN.out ⟨w2.heap.size, 0, none⟩ 1 1 [.pointer (some ⟨w1.heap.size + 1, 0, none⟩)] (by rfl) (by rfl) (cell_one_new _ _ _) (by simp [Value.oneCell']) (by decide) (by unfold maxLen; omega) (by omega) HSZ.out _ rfl ?_
               intro gg cap' w3 hown3 hgrow3 hat3 hlt3
               have HO3 := Lib.hid hown3
               have HG3 := Lib.hid hgrow3
               clear hown3 hgrow3 hat3 hlt3)
            | fail)
        go_wp2
        go_roundg (gk - 1)
        case measure => omega
        case rel =>
          have hs1' := HSG.out
          have hs2' := HWS.out
          refine ⟨j + 1, gs ++ [w1.heap.size + 1], by go_num, by omega, built_step HB.out hlow.out HX.out (below_then HBW.out HBW.out.size hb3.out) ?_ (by omega) HO3.out HG3.out⟩
          have hbl : baseCells gs (w1.heap.size + 1) ⟨f, a, ⟨(m : Int), q, s⟩, l, cc⟩ = lineCells (.pointer (some ⟨gm, 0, none⟩)) r f a l cc := by
            unfold baseCells ptrOf
            simp only
            rw [if_neg (by omega), if_neg (by omega), HR.out]
            have : gs.getD (m : Int).toNat 0 = gm := by simp [List.getD, HGM.out]
            rw [this]
          rw [hbl]
          exact hk3.out
    · have HB := Lib.hid hB
      clear hB
      go_wp2
      go_ret
      obtain rfl : j = n := by omega
      exact ⟨_, gs, rfl, HB.out⟩
end Go.Proofs.YtlohgoedlkkicaaDoor
