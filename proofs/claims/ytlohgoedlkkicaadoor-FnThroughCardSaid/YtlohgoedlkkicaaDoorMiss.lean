/- The walk of baseIndex where the base is new and the table is not empty. -/
import Derived.Test.YtlohgoedlkkicaaDoorIndex
import Derived.Deep.RegionHeld3
namespace Go.Proofs.YtlohgoedlkkicaaDoor
open Go.RowKit Go.Proofs.YtlohgoedlkkicaaDoor.Bits

def ownL (v : Value) : List Nat := match v.ownBlock with | some k => [k] | none => []
theorem ownL_mem {v : Value} {k : Nat} (h : v.ownBlock = some k) : k ∈ ownL v := by simp [ownL, h]

structure MissPost (base tb g b1 b2 n : Nat) (v : Value) (cs : Array Value) (xs : List Value) (ks : List Nat) (ns : List ByteArray) (s : ByteArray) (w : World) (e : Ending) (w' : World) : Prop where
  ret : e = .returned (.int .i32 n)
  rest : ∃ (v' : Value) (D' : DataW Unit) (ns' : List ByteArray) (fv : Int) (B1 B2 : Nat), Blk w' tb 77 #[v', .map (some B1), .map (some B2)] ∧ w'.ownsRow base 46 1 v' (n + 1) (xs ++ [ptrV g]) ∧ PMap w' B1 (ks ++ [g]) ∧
    NMap w' B2 ns'.length D' ∧ NameIs D' ns' ∧ (ns' = ns ∧ s ∈ ns ∨ ns' = ns ++ [s]) ∧ Blk w' g 89 (cs.setIfInBounds 7 (.int .i64 fv)) ∧ (B1 = b1 ∧ B2 = b2 ∨ w.heap.size ≤ B1 ∧ w.heap.size ≤ B2 ∧ B1 ≠ B2) ∧ (∀ k, v'.ownBlock = some k → v.ownBlock = some k ∨ w.heap.size ≤ k)
  but : But ([tb, g, b1, b2] ++ ownL v) w w'

theorem But.drew {L : List Nat} {a b : World} (h : But L a b) : But L a b.drew := ⟨h.os, h.tape, h.output, h.size, h.block⟩
theorem But.drewN {L : List Nat} {a b : World} (h : But L a b) (n : Nat) : But L a (b.drewN n) := ⟨h.os, h.tape, h.output, h.size, h.block⟩

theorem miss_close {base tb g b1 b2 n : Nat} {v : Value} {cs : Array Value} {xs : List Value} {ks : List Nat} {ns ns' : List ByteArray} {s : ByteArray} {w N : World} {v' : Value} {D' : DataW Unit} {B1 B2 : Nat} (fv : Int)
    (hT : Blk N tb 77 #[v', .map (some B1), .map (some B2)]) (hO : N.ownsRow base 46 1 v' (n + 1) (xs ++ [ptrV g])) (hP : PMap N B1 (ks ++ [g])) (hN : NMap N B2 ns'.length D') (hNI : NameIs D' ns') (hns : ns' = ns ∧ s ∈ ns ∨ ns' = ns ++ [s])
    (hG : Blk N g 89 cs) (hB : B1 = b1 ∧ B2 = b2 ∨ w.heap.size ≤ B1 ∧ w.heap.size ≤ B2 ∧ B1 ≠ B2) (hbut : But ([tb, g, b1, b2] ++ ownL v) w N) (hat : ∀ k, v'.ownBlock = some k → v.ownBlock = some k ∨ w.heap.size ≤ k) {e : Ending} (he : e = .returned (.int .i32 n)) :
    MissPost base tb g b1 b2 n v cs xs ks ns s w e (N.setCell ⟨g, 7, none⟩ (.int .i64 fv)) := by
  have hgr : N.grownBy (N.setCell ⟨g, 7, none⟩ (.int .i64 fv)) (some g) := set_grown _
  obtain ⟨es, ck, hes⟩ := nmap_es hN
  refine ⟨he, ⟨v', D', ns', fv, B1, B2, hT.far (p := ⟨g, 7, none⟩) (hT.ne_ hG (by decide)) _, hO.kept hgr (Or.inr (own_blk_ne hO hG (by decide))), hP.kept hgr (fun e => hG.ne_map hP (Option.some.inj e).symm), hN.kept hgr (fun e => hG.ne_map hes (Option.some.inj e).symm), hNI, hns, hG.set_ 7 _, hB, hat⟩, hbut.grown hgr (fun k e => by cases e; simp)⟩

set_option maxRecDepth 100000 in
set_option maxHeartbeats 4000000 in
theorem index_miss (base tb g b1 b2 n : Nat) (v : Value) (cs : Array Value) (xs : List Value) (ks : List Nat) (ns : List ByteArray) (s : ByteArray) (D : DataW Unit) (w : World)
    (hT : Blk w tb 77 #[v, .map (some b1), .map (some b2)]) (hG : Blk w g 89 cs) (h7 : cs[7]? = some (.int .i64 (-1))) (h3 : cs[3]? = some (.string s)) (hs : s.size ≤ maxLen)
    (hV : w.ownsRow base 46 1 v n xs) (hn0 : 0 < n) (hn : n ≤ 2147483647) (hbase : base ≤ w.heap.size) (hP : PMap w b1 ks) (hkn : ks.length + 1 = n) (hN : NMap w b2 ns.length D) (hNI : NameIs D ns) (hns : ns.length ≤ 2147483647) (h12 : b1 ≠ b2)
    (hl : ∀ k ∈ ks, Live w k) (hgk : g ∉ ks) :
    Calls Tryd.prog 51 #[ptrV tb, ptrV g] w (MissPost base tb g b1 b2 n v cs xs ks ns s w) := by
  obtain ⟨ti, hti, htz⟩ := infoB
  have hmiss := pmap_miss w Tryd.underlying74 Tryd.underlying46 hti htz (zeroI w) hP ⟨_, _, hG⟩ hl hgk
  obtain ⟨w1, hup, hP1, hgr1, hsz1⟩ := pmap_store w Tryd.underlying74 Tryd.underlying46 hti htz hP ⟨_, _, hG⟩ hl hgk (v := (n : Int)) (by omega)
  obtain ⟨gb, cap, rfl, hgb, hgb2⟩ := hV.form hn0
  have c0 := hT.cell 0
  have c1 := hT.cell 1
  have c2 := hT.cell 2
  simp only [List.getElem?_toArray, List.getElem?_cons_zero, List.getElem?_cons_succ] at c0 c1 c2
  have c7 := (hG.cell 7).trans h7
  have hnm : (binOp .eql 74 (.map (some b1)) (.map none)).run Tryd.prog w = .ok (.bool false) w := run_eql_map_nil w _ _ _ (some b1) Tryd.underlying74
  have hT1 := hT.grown hgr1 (fun e => hT.ne_map hP (Option.some.inj e))
  have hG1 := hG.grown hgr1 (fun e => hG.ne_map hP (Option.some.inj e))
  have hV1 := hV.kept hgr1 (Or.inr (own_ne_map hV hP))
  have hN1 : NMap w1 b2 ns.length D := hN.kept hgr1 (fun e => h12 (Option.some.inj e).symm)
  have d0 := hT1.cell 0
  simp only [List.getElem?_toArray, List.getElem?_cons_zero] at d0
  have HT1 := Lib.hid (hT1.alloc (.cells #[ptrV g] 46))
  have HG1 := Lib.hid (hG1.alloc (.cells #[ptrV g] 46))
  have HV1 := Lib.hid (hV1.alloc (.cells #[ptrV g] 46))
  have HP1 := Lib.hid (hP1.alloc (.cells #[ptrV g] 46))
  have HN1 : Hid (NMap (w1.alloc (.cells #[ptrV g] 46)) b2 ns.length D) := Lib.hid (hN1.alloc (.cells #[ptrV g] 46))
  have hbut1 : But ([tb, g, b1, b2] ++ ownL (.slice (some ⟨gb, 0, none⟩) n cap)) w (w1.alloc (.cells #[ptrV g] 46)) :=
    (But.of_grown hgr1 (fun k e => by cases e; simp)).below_ (below_new _ _)
  have HB1 := Lib.hid hbut1
  have HUP := Lib.hid hup
  have HSZ : Hid (base ≤ (w1.alloc (.cells #[ptrV g] 46)).heap.size) := Lib.hid (by rw [World.size_alloc]; omega)
  have htg : tb ≠ g := hT.ne_ hG (by decide)
  obtain ⟨es2, ck2, hes2⟩ := nmap_es hN
  have htb2 : tb ≠ b2 := hT.ne_map hes2
  have htb1 : tb ≠ b1 := hT.ne_map hP
  have htgb : tb ≠ gb := fun e => own_blk_ne hV hT (by decide) (by rw [e]; rfl)
  obtain ⟨i0, hi0, hz0, hz1, hz2⟩ := info_parts infoPtr
  clear hup hT hG hV hP hN hl hT1 hG1 hV1 hN1 hP1 hbut1 hes2 hsz1
  go_enter Tryd.func51, Tryd.ntmps51
  go_wp2_with (first
    | (at_mapUpdate; refine wpList_update_run _ rfl _ _ _ _ rfl (.map (some b1)) (ptrV g) (.int .i64 n) rfl rfl rfl HUP.out ?_)
    | (at_builtin
       refine wpList_append_lies _ rfl (.tmp 67) (.tmp 69) 52 rfl base 46 i0 (.pointer none) 1 8 Tryd.underlying52 hi0 hz0 hz1 hz2 rfl (by decide) (.slice (some ⟨gb, 0, none⟩) n cap) n xs rfl HV1.out ⟨w1.heap.size, 0, none⟩ 1 1 [ptrV g] rfl rfl (cell_one_new _ _ _) (by simp [Value.oneCell']) (by decide) (by unfold maxLen; omega) (by omega) HSZ.out _ rfl ?_
       intro gg cap' w2 hown2 hgrow2 hat2 hlt2
       have hT2 := HT1.out.grown hgrow2 (fun e => own_blk_ne HV1.out HT1.out (by decide) e.symm)
       have t0 := hT2.cell 0
       have t1 := hT2.cell 1
       have t2 := hT2.cell 2
       have z0 := hT2.frozen 0
       simp only [List.getElem?_toArray, List.getElem?_cons_zero, List.getElem?_cons_succ] at t0 t1 t2
       have HT2 := Lib.hid hT2
       have HO2 := Lib.hid hown2
       have HGR2 := Lib.hid hgrow2
       have HAT2 := Lib.hid hat2
       clear hT2 hown2 hgrow2 hat2 hlt2)
    | fail)
  obtain ⟨M, hM⟩ : ∃ M, M = w2.setCell ⟨tb, 0, none⟩ (.slice (some ⟨gg, 0, none⟩) (n + 1) cap') := ⟨_, rfl⟩
  rw [← hM]
  have hPb := HP1.out.kept HGR2.out (fun e => own_ne_map HV1.out HP1.out e.symm)
  have hNb : NMap w2 b2 ns.length D := HN1.out.kept HGR2.out (fun e => by obtain ⟨es, ck, he⟩ := nmap_es HN1.out; exact own_ne_map HV1.out he e.symm)
  have hGb := HG1.out.grown HGR2.out (fun e => own_blk_ne HV1.out HG1.out (by decide) e.symm)
  have hTM := HT2.out.set_ 0 (.slice (some ⟨gg, 0, none⟩) (n + 1) cap')
  rw [← hM] at hTM
  have hGM := hGb.far (p := ⟨tb, 0, none⟩) (Ne.symm htg) (.slice (some ⟨gg, 0, none⟩) (n + 1) cap')
  rw [← hM] at hGM
  have hsg : w2.grownBy M (some tb) := by rw [hM]; exact set_grown _
  have hPM := hPb.kept hsg (fun e => htb1 (Option.some.inj e).symm)
  have hNM : NMap M b2 ns.length D := hNb.kept hsg (fun e => htb2 (Option.some.inj e).symm)
  have hVM := HO2.out.kept hsg (Or.inr (fun e => own_blk_ne HO2.out HT2.out (by decide) e))
  have hBM := (HB1.out.grown HGR2.out (fun k e => by simp [Value.ownBlock] at e; subst e; simp [ownL, Value.ownBlock])).grown hsg (fun k e => by cases e; simp)
  have hatM : ∀ k, (Value.slice (some ⟨gg, 0, none⟩) (n + 1) cap').ownBlock = some k → (Value.slice (some ⟨gb, 0, none⟩) n cap).ownBlock = some k ∨ w.heap.size ≤ k := fun k e => by
    have h2 := HB1.out.size
    simp [Value.ownBlock] at e
    subst e
    rcases HAT2.out with r | r
    · exact Or.inl r
    · right; rw [r]; exact h2
  have t0 := hTM.cell 0
  have t1 := hTM.cell 1
  have t2 := hTM.cell 2
  have e3 := (hGM.cell 3).trans h3
  simp only [List.setIfInBounds_toArray, List.set_cons_zero, List.getElem?_toArray, List.getElem?_cons_zero, List.getElem?_cons_succ] at t0 t1 t2
  have HTM := Lib.hid hTM
  have HGM := Lib.hid hGM
  have HPM := Lib.hid hPM
  have HNM : Hid (NMap M b2 ns.length D) := Lib.hid hNM
  have HVM := Lib.hid hVM
  have HBM := Lib.hid hBM
  clear hM hPb hNb hGb hTM hGM hsg hPM hNM hVM hBM t0 t1 z0 d0 c0 c1 c2 c7 hmiss hnm hgr1
  rcases name_look (b := b2) (n := ns.length) hNI hs with ⟨ix, hix, hlk⟩ | ⟨hno, hlk⟩
  · have hlk1 := hlk M.drew HNM.out.drew
    clear hlk
    go_region_held3 (fun w' => w'.cell? ⟨tb, 2, none⟩ = some (.map (some b2)) ∧ w'.cell? ⟨g, 3, none⟩ = some (.string s))
      (first
        | (go_keep; done)
        | fail)
      (first
        | fail)
    have e7 := (HGM.out.drew.cell 7).trans h7
    have z7 := HGM.out.drew.frozen 7
    go_wp2
    go_ret
    exact miss_close ix HTM.out.drew HVM.out.drew HPM.out HNM.out.drew hNI (Or.inl ⟨rfl, List.mem_of_getElem? hix⟩) HGM.out.drew (Or.inl ⟨rfl, rfl⟩) HBM.out.drew hatM (by go_num)
  · have hlk1 := hlk M.drew HNM.out.drew
    clear hlk
    go_region_held3 (fun w' => w'.cell? ⟨tb, 2, none⟩ = some (.map (some b2)) ∧ w'.cell? ⟨g, 3, none⟩ = some (.string s))
      (first
        | (go_keep; done)
        | fail)
      (first
        | fail)
    have hlen : (Builtin.len_ #[75] 3 #[.map (some b2)]).run Tryd.prog M.drew = .ok (.int .i64 ns.length) M.drew := by
      have := HNM.out.drew.len Tryd.underlying75 3
      rw [hNI.size] at this
      exact this
    clear hlk1
    obtain ⟨w5, D5, hup5, hN5, hNI5, hgr5⟩ := name_store (w := M.drew.drew) HNM.out.drew.drew hNI hs hno (by unfold maxLen; omega) (by omega)
    have e2 : M.drew.cell? ⟨tb, 2, none⟩ = some (.map (some b2)) := t2
    have e3' : M.drew.cell? ⟨g, 3, none⟩ = some (.string s) := e3
    have HT5 := Lib.hid ((Blk.drew HTM.out.drew).grown hgr5 (fun e => htb2 (Option.some.inj e)))
    have hG5 := (Blk.drew HGM.out.drew).grown hgr5 (fun e => by obtain ⟨es, ck, he⟩ := nmap_es HNM.out; exact HGM.out.ne_map he (Option.some.inj e))
    have HV5 := Lib.hid (HVM.out.drew.drew.kept hgr5 (Or.inr (by obtain ⟨es, ck, he⟩ := nmap_es HNM.out; exact own_ne_map HVM.out he)))
    have HP5 := Lib.hid (PMap.kept (w := M.drew.drew) HPM.out hgr5 (fun e => h12 (Option.some.inj e)))
    have HB5 := Lib.hid (HBM.out.drew.drew.grown hgr5 (fun k e => by cases e; simp))
    have HN5 : Hid (NMap w5 b2 (ns.length + 1) D5) := Lib.hid hN5
    have e7 := (hG5.cell 7).trans h7
    have z7 := hG5.frozen 7
    have k2 := HT5.out.cell 2
    have k3 := (hG5.cell 3).trans h3
    simp only [List.setIfInBounds_toArray, List.set_cons_zero, List.getElem?_toArray, List.getElem?_cons_zero, List.getElem?_cons_succ] at k2
    have HG5 := Lib.hid hG5
    clear hG5 hN5 hgr5
    go_wp2_with fail
    go_region_held3 (fun w' => w'.cell? ⟨tb, 2, none⟩ = some (.map (some b2)) ∧ w'.cell? ⟨g, 3, none⟩ = some (.string s))
      (first
        | (go_keep; done)
        | trivial)
      (first
        | fail)
    go_wp2
    go_ret
    exact miss_close ns.length HT5.out HV5.out HP5.out (by simpa using HN5.out) hNI5 (Or.inr rfl) HG5.out (Or.inl ⟨rfl, rfl⟩) HB5.out hatM (by go_num)
end Go.Proofs.YtlohgoedlkkicaaDoor
