/- The walk of baseIndex where the table is empty. -/
import Derived.Test.YtlohgoedlkkicaaDoorMiss
namespace Go.Proofs.YtlohgoedlkkicaaDoor
open Go.RowKit Go.Proofs.YtlohgoedlkkicaaDoor.Bits

/-- The table as the first base finds it. -/
structure Fresh (base tb g B1 B2 : Nat) (v : Value) (cs : Array Value) (w M : World) : Prop where
  tab : Blk M tb 77 #[v, .map (some B1), .map (some B2)]
  gblk : Blk M g 89 cs
  own : M.ownsRow base 46 1 v 1 [.pointer none]
  pm : PMap M B1 []
  nm : NMap M B2 0 (.map [])
  but : But ([tb, g, tb, tb] ++ ownL (.slice none 0 0)) w M
  b1 : w.heap.size ≤ B1
  b2 : w.heap.size ≤ B2
  ne : B1 ≠ B2
/-- .. behind its first store and the first map. -/
structure Way1 (base tb g B1 : Nat) (v : Value) (cs : Array Value) (w W : World) : Prop where
  tab : Blk W tb 77 #[v, .map none, .map none]
  gblk : Blk W g 89 cs
  own : W.ownsRow base 46 1 v 1 [.pointer none]
  pm : PMap W B1 []
  but : But ([tb, g, tb, tb] ++ ownL (.slice none 0 0)) w W
  b1 : w.heap.size ≤ B1
structure Way2 (base tb g B1 B2 : Nat) (v : Value) (cs : Array Value) (w W : World) : Prop where
  tab : Blk W tb 77 #[v, .map (some B1), .map none]
  gblk : Blk W g 89 cs
  own : W.ownsRow base 46 1 v 1 [.pointer none]
  pm : PMap W B1 []
  nm : NMap W B2 0 (.map [])
  but : But ([tb, g, tb, tb] ++ ownL (.slice none 0 0)) w W
  b1 : w.heap.size ≤ B1
  b2 : w.heap.size ≤ B2
  ne : B1 ≠ B2
theorem way1_of {base tb g : Nat} {v : Value} {cs : Array Value} {w w2 : World} (hT : Blk w2 tb 77 #[.slice none 0 0, .map none, .map none]) (hG : Blk w2 g 89 cs)
    (hO : w2.ownsRow base 46 1 v 1 [.pointer none]) (hB : But ([tb, g, tb, tb] ++ ownL (.slice none 0 0)) w w2) : Way1 base tb g w2.heap.size v cs w ((w2.setCell ⟨tb, 0, none⟩ v).alloc (.map #[] 0)) := by
  have htg : tb ≠ g := hT.ne_ hG (by decide)
  have hlt := hT.lt
  have g1 : w2.grownBy (w2.setCell ⟨tb, 0, none⟩ v) (some tb) := set_grown _
  have s1 : (w2.setCell ⟨tb, 0, none⟩ v).heap.size = w2.heap.size := by simp
  have P2 := PMap.new (w2.setCell ⟨tb, 0, none⟩ v)
  rw [s1] at P2
  have T1 := hT.set_ 0 v
  refine ⟨by simpa using T1.alloc (.map #[] 0), (hG.far (p := ⟨tb, 0, none⟩) (Ne.symm htg) v).alloc _, (hO.kept g1 (Or.inr (own_blk_ne hO hT (by decide)))).alloc _, P2, (hB.grown g1 (fun k e => by cases e; simp)).below_ (below_new _ _), hB.size⟩
theorem way2_of {base tb g B1 : Nat} {v : Value} {cs : Array Value} {w W : World} (h : Way1 base tb g B1 v cs w W) : Way2 base tb g B1 W.heap.size v cs w ((W.setCell ⟨tb, 1, none⟩ (.map (some B1))).alloc (.map #[] 0)) := by
  have htg : tb ≠ g := h.tab.ne_ h.gblk (by decide)
  have g1 : W.grownBy (W.setCell ⟨tb, 1, none⟩ (.map (some B1))) (some tb) := set_grown _
  have s1 : (W.setCell ⟨tb, 1, none⟩ (.map (some B1))).heap.size = W.heap.size := by simp
  have hb1 := h.pm.lt
  have N2 := nmap_new (W.setCell ⟨tb, 1, none⟩ (.map (some B1)))
  rw [s1] at N2
  have T1 := h.tab.set_ 1 (.map (some B1))
  have hP := h.pm.kept g1 (fun e => h.tab.ne_map h.pm (Option.some.inj e).symm)
  refine ⟨by simpa using T1.alloc (.map #[] 0), (h.gblk.far (p := ⟨tb, 1, none⟩) (Ne.symm htg) _).alloc _, (h.own.kept g1 (Or.inr (own_blk_ne h.own h.tab (by decide)))).alloc _, hP.alloc _, N2, (h.but.grown g1 (fun k e => by cases e; simp)).below_ (below_new _ _), h.b1, h.but.size, by omega⟩
theorem fresh_of {base tb g B1 B2 : Nat} {v : Value} {cs : Array Value} {w W : World} (h : Way2 base tb g B1 B2 v cs w W) : Fresh base tb g B1 B2 v cs w (W.setCell ⟨tb, 2, none⟩ (.map (some B2))) := by
  have htg : tb ≠ g := h.tab.ne_ h.gblk (by decide)
  have g1 : W.grownBy (W.setCell ⟨tb, 2, none⟩ (.map (some B2))) (some tb) := set_grown _
  obtain ⟨es, ck, hes⟩ := nmap_es h.nm
  have T1 := h.tab.set_ 2 (.map (some B2))
  exact ⟨by simpa using T1, h.gblk.far (p := ⟨tb, 2, none⟩) (Ne.symm htg) _, h.own.kept g1 (Or.inr (own_blk_ne h.own h.tab (by decide))), h.pm.kept g1 (fun e => h.tab.ne_map h.pm (Option.some.inj e).symm), h.nm.kept g1 (fun e => h.tab.ne_map hes (Option.some.inj e).symm), h.but.grown g1 (fun k e => by cases e; simp), h.b1, h.b2, h.ne⟩

/-- A map is made. -/
theorem wpList_makeMap_eq {P : Program} (w : World) {ops : Array Oper} {rest : List Oper} {o : Oper} {a : Act} {Q : Exit → Act → World → Prop} (hg : o.guard = none) (t : TypeId) (hop : o.op = Op.makeMap t none)
    (hK : ∀ W, W = w.alloc (.map #[] 0) → wpList P ops Q rest (a.put o.dst (.map (some w.heap.size))) W) : wpList P ops Q (o :: rest) a w := by
  refine wpList_plain hg fun K' hK' => ?_
  unfold Oper.wp
  simp [execOp, hop, run_makeMap, Result.andThen]
  exact hK' _ _ (hK _ rfl)

/-- What is known behind the index map's turn. -/
structure Upd (base tb g B1 B2 : Nat) (v : Value) (cs : Array Value) (w w1 : World) : Prop where
  tab : Blk (w1.alloc (.cells #[ptrV g] 46)) tb 77 #[v, .map (some B1), .map (some B2)]
  t0 : w1.cell? ⟨tb, 0, none⟩ = some v
  gblk : Blk (w1.alloc (.cells #[ptrV g] 46)) g 89 cs
  own : (w1.alloc (.cells #[ptrV g] 46)).ownsRow base 46 1 v 1 [.pointer none]
  pm : PMap (w1.alloc (.cells #[ptrV g] 46)) B1 [g]
  nm : NMap (w1.alloc (.cells #[ptrV g] 46)) B2 0 (.map [])
  but : But ([tb, g, tb, tb] ++ ownL (.slice none 0 0)) w (w1.alloc (.cells #[ptrV g] 46))

theorem upd_of {base tb g B1 B2 : Nat} {v : Value} {cs : Array Value} {w M : World} (h : Fresh base tb g B1 B2 v cs w M) :
    ∃ w1, (Instr.mapUpdate 74 (.map (some B1)) (ptrV g) (.int .i64 1)).run Tryd.prog M = .ok () w1 ∧ Upd base tb g B1 B2 v cs w w1 := by
  obtain ⟨ti, hti, htz⟩ := infoB
  obtain ⟨w1, hup, hP1, hgr1, hsz1⟩ := pmap_store M Tryd.underlying74 Tryd.underlying46 hti htz h.pm ⟨_, _, h.gblk⟩ (by simp) (by simp) (v := 1) (by simp)
  have hT1 := h.tab.grown hgr1 (fun e => h.tab.ne_map h.pm (Option.some.inj e))
  refine ⟨w1, hup, hT1.alloc _, hT1.cell 0, (h.gblk.grown hgr1 (fun e => h.gblk.ne_map h.pm (Option.some.inj e))).alloc _, (h.own.kept hgr1 (Or.inr (own_ne_map h.own h.pm))).alloc _, hP1.alloc _, (h.nm.kept hgr1 (fun e => h.ne (Option.some.inj e).symm)).alloc _, (h.but.grown hgr1 (fun k e => by cases e; exact Or.inl h.b1)).below_ (below_new _ _)⟩

set_option maxRecDepth 100000 in
set_option maxHeartbeats 4000000 in
theorem index_first (base tb g : Nat) (cs : Array Value) (s : ByteArray) (w : World)
    (hT : Blk w tb 77 #[.slice none 0 0, .map none, .map none]) (hG : Blk w g 89 cs) (h7 : cs[7]? = some (.int .i64 (-1))) (h3 : cs[3]? = some (.string s)) (hs : s.size ≤ maxLen) (hbase : base ≤ w.heap.size) :
    Calls Tryd.prog 51 #[ptrV tb, ptrV g] w (MissPost base tb g tb tb 1 (.slice none 0 0) cs [.pointer none] [] [] s w) := by
  have hmiss := nil_look w g
  have c0 := hT.cell 0
  have c1 := hT.cell 1
  simp only [List.getElem?_toArray, List.getElem?_cons_zero, List.getElem?_cons_succ] at c0 c1
  have c7 := (hG.cell 7).trans h7
  have hnm : (binOp .eql 74 (.map none) (.map none)).run Tryd.prog w = .ok (.bool true) w := run_eql_map_nil w _ _ _ none Tryd.underlying74
  have HT := Lib.hid (hT.alloc (.cells #[.pointer none] 46))
  have HG := Lib.hid (hG.alloc (.cells #[.pointer none] 46))
  have HB := Lib.hid ((But.refl ([tb, g, tb, tb] ++ ownL (.slice none 0 0)) w).below_ (below_new w (.cells #[.pointer none] 46)))
  have HSZ : Hid (base ≤ (w.alloc (.cells #[.pointer none] 46)).heap.size) := Lib.hid (by rw [World.size_alloc]; omega)
  have htg : tb ≠ g := hT.ne_ hG (by decide)
  obtain ⟨i0, hi0, hz0, hz1, hz2⟩ := info_parts infoPtr
  clear hT hG
  go_enter Tryd.func51, Tryd.ntmps51
  go_wp2_with (first
    | (at_mapUpdate; refine wpList_update_run _ rfl _ _ _ _ rfl (.map (some w0.heap.size)) (ptrV g) (.int .i64 1) rfl rfl rfl HUP.out ?_)
    | (refine wpList_makeMap_eq _ rfl 74 rfl ?_
       intro W1 hW1
       have hw1 := HWAY.out
       rw [← hW1] at hw1
       have p1 := hw1.tab.cell 1
       have q1 := hw1.tab.frozen 1
       simp only [List.getElem?_toArray, List.getElem?_cons_zero, List.getElem?_cons_succ] at p1
       have HWAY2 := Lib.hid (way2_of hw1)
       clear hW1 hw1)
    | (refine wpList_makeMap_eq _ rfl 75 rfl ?_
       intro W2 hW2
       have hw2 := HWAY2.out
       rw [← hW2] at hw2
       have r2 := hw2.tab.cell 2
       have s2 := hw2.tab.frozen 2
       simp only [List.getElem?_toArray, List.getElem?_cons_zero, List.getElem?_cons_succ] at r2
       have F := fresh_of hw2
       have m0 := F.tab.cell 0
       have m1 := F.tab.cell 1
       simp only [List.getElem?_toArray, List.getElem?_cons_zero, List.getElem?_cons_succ] at m0 m1
       obtain ⟨w1, hup, hU⟩ := upd_of F
       have u0 := hU.t0
       have HU := Lib.hid hU
       have HUP := Lib.hid hup
       have HF := Lib.hid F
       clear hW2 hw2 hup hU F)
    | (at_builtin
       refine wpList_append_lies _ rfl (.tmp 39) (.tmp 40) 52 rfl base 46 i0 (.pointer none) 1 8 Tryd.underlying52 hi0 hz0 hz1 hz2 rfl (by decide) (.slice none 0 0) 0 [] rfl (World.ownsRow_nil _ _ _ _) ⟨w.heap.size, 0, none⟩ 1 1 [.pointer none] rfl rfl (cell_one_new _ _ _) (by simp [Value.oneCell']) (by decide) (by unfold maxLen; omega) (by omega) HSZ.out _ rfl ?_
       intro gp capp w0 hown0 hgrow0 hat0 hlt0
       have hTa := HT.out.grown hgrow0 (by simp [Value.ownBlock])
       have hGa := HG.out.grown hgrow0 (by simp [Value.ownBlock])
       have HWAY := Lib.hid (way1_of hTa hGa hown0 (HB.out.grown hgrow0 (fun k e => by simp [Value.ownBlock] at e)))
       have t0 := hTa.cell 0
       have z0 := hTa.frozen 0
       simp only [List.getElem?_toArray, List.getElem?_cons_zero] at t0
       have HB0 : Hid (∀ k, (Value.slice (some ⟨gp, 0, none⟩) 1 capp).ownBlock = some k → w.heap.size ≤ k) := Lib.hid (fun k e => by
         rcases hat0 with h0 | h0
         · simp [Value.ownBlock] at h0
         · simp [Value.ownBlock] at e; subst e; rw [h0, World.size_alloc]; omega)
       clear hTa hGa hown0 hgrow0 hat0 hlt0)
    | (at_builtin
       refine wpList_append_lies _ rfl (.tmp 67) (.tmp 69) 52 rfl base 46 i0 (.pointer none) 1 8 Tryd.underlying52 hi0 hz0 hz1 hz2 rfl (by decide) (.slice (some ⟨gp, 0, none⟩) 1 capp) 1 [.pointer none] rfl HU.out.own ⟨w1.heap.size, 0, none⟩ 1 1 [ptrV g] rfl rfl (cell_one_new _ _ _) (by simp [Value.oneCell']) (by decide) (by unfold maxLen; omega) (by omega) (Nat.le_trans hbase HU.out.but.size) _ rfl ?_
       intro gg cap' w2 hown2 hgrow2 hat2 hlt2
       have hT2 := HU.out.tab.grown hgrow2 (fun e => own_blk_ne HU.out.own HU.out.tab (by decide) e.symm)
       have t0 := hT2.cell 0
       have z0 := hT2.frozen 0
       simp only [List.getElem?_toArray, List.getElem?_cons_zero] at t0
       have HT2 := Lib.hid hT2
       have HO2 := Lib.hid hown2
       have HGR2 := Lib.hid hgrow2
       have HAT2 := Lib.hid hat2
       clear hT2 hown2 hgrow2 hat2 hlt2)
    | fail)
  obtain ⟨M, hM⟩ : ∃ M, M = w2.setCell ⟨tb, 0, none⟩ (.slice (some ⟨gg, 0, none⟩) 2 cap') := ⟨_, rfl⟩
  rw [← hM]
  have htb1 : tb ≠ w0.heap.size := HF.out.tab.ne_map HF.out.pm
  have htb2 : tb ≠ W1.heap.size := by obtain ⟨es, ck, he⟩ := nmap_es HF.out.nm; exact HF.out.tab.ne_map he
  have hPb := HU.out.pm.kept HGR2.out (fun e => own_ne_map HU.out.own HU.out.pm e.symm)
  have hNb : NMap w2 W1.heap.size 0 (.map []) := HU.out.nm.kept HGR2.out (fun e => by obtain ⟨es, ck, he⟩ := nmap_es HU.out.nm; exact own_ne_map HU.out.own he e.symm)
  have hGb := HU.out.gblk.grown HGR2.out (fun e => own_blk_ne HU.out.own HU.out.gblk (by decide) e.symm)
  have hTM := HT2.out.set_ 0 (.slice (some ⟨gg, 0, none⟩) 2 cap')
  rw [← hM] at hTM
  have hGM := hGb.far (p := ⟨tb, 0, none⟩) (Ne.symm htg) (.slice (some ⟨gg, 0, none⟩) 2 cap')
  rw [← hM] at hGM
  have hsg : w2.grownBy M (some tb) := by rw [hM]; exact set_grown _
  have hPM := hPb.kept hsg (fun e => htb1 (Option.some.inj e).symm)
  have hNM : NMap M W1.heap.size 0 (.map []) := hNb.kept hsg (fun e => htb2 (Option.some.inj e).symm)
  have hVM := HO2.out.kept hsg (Or.inr (fun e => own_blk_ne HO2.out HT2.out (by decide) e))
  have hBM := (HU.out.but.grown HGR2.out (fun k e => Or.inl (by
    have := HB0.out k e
    omega))).grown hsg (fun k e => by cases e; simp)
  have hatM : ∀ k, (Value.slice (some ⟨gg, 0, none⟩) 2 cap').ownBlock = some k → (Value.slice none 0 0).ownBlock = some k ∨ w.heap.size ≤ k := fun k e => by
    have h2 := HU.out.but.size
    simp [Value.ownBlock] at e
    subst e
    right
    rcases HAT2.out with r | r
    · exact HB0.out _ r
    · rw [r]; exact h2
  have hB12 := HF.out.ne
  have hB1w := HF.out.b1
  have hB2w := HF.out.b2
  have t2 := hTM.cell 2
  have e3 := (hGM.cell 3).trans h3
  simp only [List.setIfInBounds_toArray, List.set_cons_zero, List.getElem?_toArray, List.getElem?_cons_zero, List.getElem?_cons_succ] at t2
  have hTM' : Blk M tb 77 #[.slice (some ⟨gg, 0, none⟩) 2 cap', .map (some w0.heap.size), .map (some W1.heap.size)] := by simpa using hTM
  have HTM := Lib.hid hTM'
  have HGM := Lib.hid hGM
  have HPM := Lib.hid hPM
  have HNM : Hid (NMap M W1.heap.size 0 (.map [])) := Lib.hid hNM
  have HVM := Lib.hid hVM
  have HBM := Lib.hid hBM
  clear hM hPb hNb hGb hTM hTM' hGM hsg hPM hNM hVM hBM t0 z0 c0 c1 c7 hmiss hnm u0 m0 m1 r2 s2 p1 q1
  rcases name_look (b := W1.heap.size) (n := 0) nameIs_nil hs with ⟨ix, hix, hlk⟩ | ⟨hno, hlk⟩
  · simp at hix
  · have hlk1 := hlk M.drew HNM.out.drew
    clear hlk
    go_region_held3 (fun w' => w'.cell? ⟨tb, 2, none⟩ = some (.map (some W1.heap.size)) ∧ w'.cell? ⟨g, 3, none⟩ = some (.string s))
      (first
        | (go_keep; done)
        | fail)
      (first
        | fail)
    have hlen : (Builtin.len_ #[75] 3 #[.map (some W1.heap.size)]).run Tryd.prog M.drew = .ok (.int .i64 0) M.drew := by
      have := HNM.out.drew.len Tryd.underlying75 3
      exact this
    clear hlk1
    obtain ⟨w5, D5, hup5, hN5, hNI5, hgr5⟩ := name_store (w := M.drew.drew) HNM.out.drew.drew nameIs_nil hs hno (by unfold maxLen; omega) (by simp)
    have hup5' : (Instr.mapUpdate 75 (.map (some W1.heap.size)) (.string s) (.int .i64 0)).run Tryd.prog M.drew.drew = .ok () w5 := hup5
    have e2 : M.drew.cell? ⟨tb, 2, none⟩ = some (.map (some W1.heap.size)) := t2
    have e3' : M.drew.cell? ⟨g, 3, none⟩ = some (.string s) := e3
    have HT5 := Lib.hid ((Blk.drew HTM.out.drew).grown hgr5 (fun e => htb2 (Option.some.inj e)))
    have hG5 := (Blk.drew HGM.out.drew).grown hgr5 (fun e => by obtain ⟨es, ck, he⟩ := nmap_es HNM.out; exact HGM.out.ne_map he (Option.some.inj e))
    have HV5 := Lib.hid (HVM.out.drew.drew.kept hgr5 (Or.inr (by obtain ⟨es, ck, he⟩ := nmap_es HNM.out; exact own_ne_map HVM.out he)))
    have HP5 := Lib.hid (PMap.kept (w := M.drew.drew) HPM.out hgr5 (fun e => hB12 (Option.some.inj e)))
    have HB5 := Lib.hid (HBM.out.drew.drew.grown hgr5 (fun k e => by cases e; exact Or.inl hB2w))
    have HN5 : Hid (NMap w5 W1.heap.size 1 D5) := Lib.hid hN5
    have e7 := (hG5.cell 7).trans h7
    have z7 := hG5.frozen 7
    have k2 := HT5.out.cell 2
    have k3 := (hG5.cell 3).trans h3
    simp only [List.getElem?_toArray, List.getElem?_cons_zero, List.getElem?_cons_succ] at k2
    have HG5 := Lib.hid hG5
    clear hG5 hN5 hgr5 hup5
    go_wp2_with fail
    go_region_held3 (fun w' => w'.cell? ⟨tb, 2, none⟩ = some (.map (some W1.heap.size)) ∧ w'.cell? ⟨g, 3, none⟩ = some (.string s))
      (first
        | (go_keep; done)
        | trivial)
      (first
        | fail)
    go_wp2
    go_ret
    exact miss_close (ns' := [] ++ [s]) (D' := D5) 0 HT5.out HV5.out HP5.out (by simpa using HN5.out) hNI5 (Or.inr rfl) HG5.out (Or.inr ⟨hB1w, hB2w, hB12⟩) HB5.out hatM (by go_num)
end Go.Proofs.YtlohgoedlkkicaaDoor
