/- The walk of XPos. -/
import Derived.Test.YtlohgoedlkkicaaDoorXpos
namespace Go.Proofs.YtlohgoedlkkicaaDoor
open Go.RowKit Go.Proofs.YtlohgoedlkkicaaDoor.Bits

/-- The table stays while blocks of other kinds are written and new ones are made. -/
theorem Tab.grown {w0 w1 w2 : World} {bs : List BaseD} {V : Value} {gs : List Nat} {tb : Nat} {reg : List Nat} {ns : List ByteArray} {row : Option Nat} (h : Tab w0 w1 bs V gs tb reg ns) (hg : w1.grownBy w2 row)
    (hr : ∀ k, row = some k → w0.heap.size ≤ k ∧ ∃ (cs : Array Value) (ty : TypeId) (fr : Nat × Nat), w1.heap[k]? = some (.cells cs ty fr) ∧ ty ≠ 77 ∧ ty ≠ 89 ∧ ty ≠ 46) : Tab w0 w2 bs V gs tb reg ns := by
  have hblk : ∀ {g : Nat} {T : TypeId} {cs : Array Value}, T = 77 ∨ T = 89 → Blk w1 g T cs → Blk w2 g T cs := fun {g T cs} hT hb => hb.grown hg (fun e => by
    obtain ⟨_, cs', ty, fr, hh, h1, h2, _⟩ := hr g e.symm
    unfold Blk at hb
    rw [hb] at hh
    cases hh
    rcases hT with r | r
    · exact h1 r
    · exact h2 r)
  have hown : ∀ {v : Value} {n : Nat} {xs : List Value}, w1.ownsRow w0.heap.size 46 1 v n xs → w2.ownsRow w0.heap.size 46 1 v n xs := fun {v n xs} ho => by
    refine ⟨ho.1, ?_⟩
    rcases ho.2 with r | ⟨g', cap, cur, r1, r2, r3, r4⟩
    · exact Or.inl r
    · refine Or.inr ⟨g', cap, cur, r1, r2, (hg.block g' (heap_lt r3) (fun e => ?_)).trans r3, r4⟩
      obtain ⟨_, cs', ty, fr, hh, _, _, h3⟩ := hr g' e.symm
      rw [r3] at hh
      cases hh
      exact h3 rfl
  have hmap : ∀ {b : Nat} {es : Array MapEntry} {c : Nat}, w1.heap[b]? = some (.map es c) → some b ≠ row := fun {b es c} hb e => by
    obtain ⟨_, cs', ty, fr, hh, _⟩ := hr b e.symm
    rw [hb] at hh
    cases hh
  obtain ⟨fi, hfi, hb⟩ := h.blk
  refine ⟨h.len, h.nodup, h.low, h.tlow, ⟨fi, hfi, fun i x g hx hgg => hblk (Or.inr rfl) (hb i x g hx hgg)⟩, h.regs, h.regl, ?_, hown h.bas, h.names, h.nlen, h.below.grown hg h.below.size (fun k e => (hr k e).1)⟩
  rcases h.tab with ⟨r1, r2, r3⟩ | ⟨hne, v, b1, b2, D, hT, hO, hP, hN, hNI, r⟩
  · exact Or.inl ⟨r1, r2, hblk (Or.inl rfl) r3⟩
  · obtain ⟨es, c, hes⟩ := nmap_es hN
    exact Or.inr ⟨hne, v, b1, b2, D, hblk (Or.inl rfl) hT, hown hO, hP.kept hg (hmap hP), hN.kept hg (hmap hes), hNI, r⟩
theorem Tab.keep {w0 w1 w2 : World} {bs : List BaseD} {V : Value} {gs : List Nat} {tb : Nat} {reg : List Nat} {ns : List ByteArray} (h : Tab w0 w1 bs V gs tb reg ns) (hb : Below w1.heap.size w1 w2) : Tab w0 w2 bs V gs tb reg ns :=
  h.grown (grown_of_below hb none) (fun k e => by cases e)

/-- The index of a base in the table. -/
def xIdx (reg : List Nat) (p : Int) : Nat := if p < 0 then 0 else reg.idxOf p.toNat + 1
theorem xIdx_more {reg : List Nat} {p : Int} (h : 0 ≤ p → p.toNat ∈ reg) (l : List Nat) : xIdx (reg ++ l) p = xIdx reg p := by
  unfold xIdx
  by_cases h0 : p < 0
  · rw [if_pos h0, if_pos h0]
  · rw [if_neg h0, if_neg h0, List.idxOf_append, if_pos (h (by omega))]

structure IdxP (w0 : World) (bs : List BaseD) (V : Value) (gs : List Nat) (tb : Nat) (reg reg' : List Nat) (ns' : List ByteArray) (p : Int) (w w' : World) : Prop where
  tab : Tab w0 w' bs V gs tb reg' ns'
  mem : 0 ≤ p → p.toNat ∈ reg'
  more : ∃ l, reg' = reg ++ l
  soft : Soft w w'
theorem indexP_any {w0 w : World} {bs : List BaseD} {V : Value} {gs : List Nat} {tb : Nat} {reg : List Nat} {ns : List ByteArray} {p : Int} (h : Tab w0 w bs V gs tb reg ns) (hp : p < bs.length) (hn : bs.length ≤ 2147483647) (hs : ∀ (i : Nat) (x : BaseD), bs[i]? = some x → x.abs.size ≤ maxLen) :
    Calls Tryd.prog 51 #[ptrV tb, .pointer (ptrA gs p)] w fun e w' => ∃ (reg' : List Nat) (ns' : List ByteArray), e = .returned (.int .i32 (xIdx reg' p)) ∧ IdxP w0 bs V gs tb reg reg' ns' p w w' := by
  by_cases h0 : p < 0
  · have e : ptrA gs p = none := by unfold ptrA; rw [if_pos h0]
    rw [e]
    refine (index_nil (ptrV tb) w).mono ?_
    rintro e w' ⟨rfl, rfl⟩
    exact ⟨reg, ns, by unfold xIdx; rw [if_pos h0]; rfl, h, fun h1 => absurd h1 (by omega), ⟨[], by simp⟩, Soft.refl _⟩
  · obtain ⟨m, rfl⟩ : ∃ m : Nat, p = m := ⟨p.toNat, by omega⟩
    have e : Value.pointer (ptrA gs (m : Int)) = ptrV (gOf gs m) := by unfold ptrA gOf; rw [if_neg h0, Int.toNat_natCast]
    rw [e]
    have hm : m < bs.length := by omega
    refine (index_any h (List.getElem?_eq_getElem hm) hn (hs m _ (List.getElem?_eq_getElem hm))).mono ?_
    rintro e w' ⟨reg', ns', rfl, ht, hmem, hmore, hsoft⟩
    exact ⟨reg', ns', by unfold xIdx; rw [if_neg h0, Int.toNat_natCast], ht, fun _ => by simpa using hmem, hmore, hsoft⟩

def XPosPost (w0 : World) (bs : List BaseD) (V : Value) (gs : List Nat) (tb : Nat) (reg : List Nat) (p r : Int) (w : World) (e : Ending) (w' : World) : Prop :=
  ∃ (reg' : List Nat) (ns' : List ByteArray), e = .returned (.agg #[.int .i32 (xIdx reg' p), .int .u32 r]) ∧ IdxP w0 bs V gs tb reg reg' ns' p w w'

theorem Soft.set {w w1 : World} (h : Soft w w1) {k i : Nat} (hk : w.heap.size ≤ k) (u : Value) : Soft w (w1.setCell ⟨k, i, none⟩ u) :=
  ⟨h.os, h.tape, h.output, by simpa using h.size, fun j cs ty fr h1 h2 h3 hh => by
    have := heap_lt hh
    exact (Below.heap_setCell w1 ⟨k, i, none⟩ u j (by simp; omega)).trans (h.block j cs ty fr h1 h2 h3 hh)⟩

set_option maxRecDepth 100000 in
set_option maxHeartbeats 4000000 in
theorem XPos_any {w0 w : World} {bs : List BaseD} {V : Value} {gs : List Nat} {tb : Nat} {reg : List Nat} {ns : List ByteArray} {p r : Int} (h : Tab w0 w bs V gs tb reg ns) (hp : p < bs.length) (hn : bs.length ≤ 2147483647) (hs : ∀ (i : Nat) (x : BaseD), bs[i]? = some x → x.abs.size ≤ maxLen) :
    Calls Tryd.prog 40 #[ptrV tb, .agg #[.pointer (ptrA gs p), .int .u32 r]] w (XPosPost w0 bs V gs tb reg p r w) := by
  obtain ⟨q, hq⟩ : ∃ q, q = ptrA gs p := ⟨_, rfl⟩
  rw [← hq]
  have HQ := Lib.hid hq
  obtain ⟨W, hW⟩ : ∃ W, W = (w.alloc (.cells #[.pointer q, .int .u32 r] 50)).alloc (.cells #[.int .i32 0, .int .u32 0] 63) := ⟨_, rfl⟩
  have hbW : Below w.heap.size w W := by rw [hW]; exact (below_new w _).trans ((below_new _ _).mono (by simp))
  have hX : Blk W w.heap.size 50 #[.pointer q, .int .u32 r] := by rw [hW]; exact (Blk.new _ _ _).alloc _
  have hY : Blk W (w.heap.size + 1) 63 #[.int .i32 0, .int .u32 0] := by rw [hW]; have := Blk.new (w.alloc (.cells #[.pointer q, .int .u32 r] 50)) 63 #[.int .i32 0, .int .u32 0]; rwa [World.size_alloc] at this
  have e0 := hX.cell 0
  have e1 := hX.cell 1
  simp only [List.getElem?_toArray, List.getElem?_cons_zero, List.getElem?_cons_succ] at e0 e1
  have hTW : Tab w0 W.drew bs V gs tb reg ns := (h.keep hbW).keep ⟨rfl, rfl, rfl, Nat.le_refl _, fun _ _ => rfl⟩
  have HTW := Lib.hid hTW
  have HX := Lib.hid hX
  have HY := Lib.hid hY
  have HBW := Lib.hid hbW
  have HH := Lib.hid h
  clear hX hY hbW hq hTW h
  go_enter Tryd.func40, Tryd.ntmps40
  go_wp2_with fail
  rw [← hW]
  clear hW
  go_region_held3 (fun w' => w'.cell? ⟨w.heap.size, 0, none⟩ = some (.pointer q) ∧ w'.cell? ⟨w.heap.size, 1, none⟩ = some (.int .u32 r))
    (first
      | (go_keep; done)
      | exact ⟨x0, x1⟩
      | ((try dsimp only); refine ⟨?_, ?_⟩ <;> (go_keep; done)))
    (first
      | (go_at_call 51
         rw [HQ.out]
         refine (indexP_any HTW.out hp hn hs).mono ?_
         rintro e w1 ⟨reg', ns', rfl, hI⟩
         have HI := Lib.hid hI
         have hXb := hI.soft.blk (Blk.drew HX.out) (by decide) (by decide) (by decide)
         have hYb := hI.soft.blk (Blk.drew HY.out) (by decide) (by decide) (by decide)
         have x0 := hXb.cell 0
         have x1 := hXb.cell 1
         have c0 := hYb.cell 0
         have c1 := hYb.cell 1
         have z0 := hYb.frozen 0
         have z1 := hYb.frozen 1
         simp only [List.getElem?_toArray, List.getElem?_cons_zero, List.getElem?_cons_succ] at c0 c1 x0 x1
         have HYB := Lib.hid hYb
         have HK := Lib.hid ((hYb.set_ 0 (.int .i32 (xIdx reg' p))).set_ 1 (.int .u32 r))
         clear hI hXb hYb))
  clear e0 e1 x0 x1 c0 c1 z0 z1
  go_wp2
  have f0 := HK.out.cell 0
  have f1 := HK.out.cell 1
  simp only [List.setIfInBounds_toArray, List.set_cons_zero, List.set_cons_succ, List.getElem?_toArray, List.getElem?_cons_zero, List.getElem?_cons_succ] at f0 f1
  refine bodyPost_ret (v := .agg #[.int .i32 (xIdx reg' p), .int .u32 r]) (by simp [results, Tryd.results40, go_sem, f0, f1]) rfl ⟨reg', ns', rfl, ?_⟩
  have hsz := HH.out.below.size
  have hb1 := HYB.out
  have hb2 := hb1.set_ 0 (.int .i32 (xIdx reg' p))
  unfold Blk at hb1 hb2
  refine ⟨(HI.out.tab.grown (set_grown _) (fun k e => ?_)).grown (set_grown _) (fun k e => ?_), HI.out.mem, HI.out.more, ?_⟩
  · cases e; exact ⟨by omega, _, _, _, hb1, by decide, by decide, by decide⟩
  · cases e; exact ⟨by omega, _, _, _, hb2, by decide, by decide, by decide⟩
  · have hd : Soft W W.drew := ⟨rfl, rfl, rfl, Nat.le_refl _, fun _ _ _ _ _ _ _ h => h⟩
    exact ((((Soft.of_below HBW.out).trans hd).trans HI.out.soft).set (by omega) _).set (by omega) _
end Go.Proofs.YtlohgoedlkkicaaDoor
