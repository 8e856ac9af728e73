/- The walks of Before and After of the thin package. -/
import Derived.Test.YtlohgoedlkkicaaBuild
import Derived.Test.YtlohgoedlkkicaaCmp
import Derived.Test.YtlohgoedlkkicaaFile
namespace Go.Proofs.Ytlohgoedlkkicaa
open Go.RowKit Go.Proofs.Ytlohgoedlkkicaa.Bits

def ptrA (gs : List Nat) (b : Int) : Option Addr := if b < 0 then none else some ⟨gs.getD b.toNat 0, 0, none⟩
theorem ptrOf_eq (gs : List Nat) (b : Int) : ptrOf gs b = .pointer (ptrA gs b) := by unfold ptrOf ptrA; split <;> rfl

/-- posOf over what build has left. -/
theorem posOf_built {w0 w : World} {bs : List BaseD} {n : Nat} {v : Value} {gs : List Nat} (hB : Built w0 w bs n v gs) (p q s r : Int) (hp : p < n) (hq : 0 ≤ q) (hs0 : 0 ≤ s) (hs1 : s ≤ 250) (hr : wordOf q s = r) (W : World) (hW : Below w.heap.size w W) :
    Calls Try.prog 19 #[v, .agg #[.int .i64 p, .int .u64 q, .int .u64 s]] W fun e w' => e = .returned (.agg #[.pointer (ptrA gs p), .int .u32 r]) ∧ Below W.heap.size W w' := by
  by_cases h0 : p < 0
  · have e : ptrA gs p = none := by unfold ptrA; rw [if_pos h0]
    rw [e]
    exact posOf_none v p q s r W h0 hq hs0 (by omega) hr
  · obtain ⟨m, rfl⟩ : ∃ m : Nat, p = m := ⟨p.toNat, by omega⟩
    obtain ⟨gb, cap, rfl, _, _⟩ := hB.own.form (by omega)
    have hl := hB.len
    obtain ⟨g, hg⟩ : ∃ g, gs[m]? = some g := ⟨gs[m]'(by omega), List.getElem?_eq_getElem _⟩
    have e : ptrA gs (m : Int) = some ⟨g, 0, none⟩ := by unfold ptrA; rw [if_neg h0, Int.toNat_natCast]; simp [List.getD, hg]
    have hc : w.cell? ⟨gb, m, none⟩ = some (.pointer (some ⟨g, 0, none⟩)) := by
      have := hB.own.cells (g := gb) rfl m (.pointer (some ⟨g, 0, none⟩)) (by simp [ptrs, hg])
      rwa [show (⟨gb, 0, none⟩ : Addr).add m = ⟨gb, m, none⟩ by unfold Addr.add; split <;> simp_all] at this
    rw [e]
    exact posOf_some gb n cap m g q s r W (by omega) (cell_keep hW hc) hq hs0 (by omega) hr

/-- The file's name of a position over what build has left. -/
theorem named_built {w0 w : World} {bs : List BaseD} {n : Nat} {v : Value} {gs : List Nat} (hB : Built w0 w bs n v gs) (hl : bs.length = n) (hok : ∀ (i : Nat) (x : BaseD), bs[i]? = some x → BaseOk bs i x) (p r : Int) (hp : p < n) :
    Named w (.agg #[.pointer (ptrA gs p), .int .u32 r]) (fileB bs p) := by
  have hlg := hB.len
  by_cases h0 : p < 0
  · have e : ptrA gs p = none := by unfold ptrA; rw [if_pos h0]
    rw [e, fileB_none h0]
    exact named_none w r
  · obtain ⟨m, rfl⟩ : ∃ m : Nat, p = m := ⟨p.toNat, by omega⟩
    obtain ⟨g, hg⟩ : ∃ g, gs[m]? = some g := ⟨gs[m]'(by omega), List.getElem?_eq_getElem _⟩
    have e : ptrA gs (m : Int) = some ⟨g, 0, none⟩ := by unfold ptrA; rw [if_neg h0, Int.toNat_natCast]; simp [List.getD, hg]
    rw [e]
    obtain ⟨x, hx⟩ : ∃ x, bs[m]? = some x := ⟨bs[m]'(by omega), List.getElem?_eq_getElem _⟩
    have hk := hB.blk m x g hx hg
    by_cases hb : x.pos.base < 0
    · rw [fileB_file hx hb]
      unfold baseCells at hk
      rw [if_pos hb] at hk
      exact named_some r (hk.cell 0) (hk.cell 1) (hk.cell 2)
    · obtain ⟨k, y, hkb, hkm, hy, hyb⟩ : ∃ (k : Nat) (y : BaseD), x.pos.base = k ∧ k < m ∧ bs[k]? = some y ∧ y.pos.base < 0 := by
        rcases hok m x hx with ⟨h1, _⟩ | ⟨k, y, h1, h2, h3, h4, _⟩
        · omega
        · exact ⟨k, y, h1, h2, h3, by omega⟩
      rw [fileB_line hx hkb hy]
      unfold baseCells at hk
      rw [if_neg hb] at hk
      obtain ⟨g2, hg2⟩ : ∃ g, gs[k]? = some g := ⟨gs[k]'(by omega), List.getElem?_eq_getElem _⟩
      have hk2 := hB.blk k y g2 hy hg2
      unfold baseCells at hk2
      rw [if_pos hyb] at hk2
      have e2 : ptrOf gs x.pos.base = .pointer (some ⟨g2, 0, none⟩) := by
        unfold ptrOf; rw [if_neg hb, hkb, Int.toNat_natCast]; simp [List.getD, hg2]
      rw [e2] at hk
      exact named_some r (hk.cell 0) (hk.cell 1) (hk2.cell 2)

set_option maxRecDepth 100000 in
set_option maxHeartbeats 4000000 in
theorem Before_any (A : Option Addr) (n c : Nat) (bs : List BaseD) (p1 q1 s1 p2 q2 s2 r1 r2 : Int) (w : World) (h : Bases w A n c bs) (hn : n ≤ 2147483647) (hok : ∀ (i : Nat) (x : BaseD), bs[i]? = some x → BaseOk bs i x)
    (hp1 : p1 < n) (hq1 : 0 ≤ q1) (hs1 : 0 ≤ s1) (ht1 : s1 ≤ 250) (hr1 : wordOf q1 s1 = r1) (hp2 : p2 < n) (hq2 : 0 ≤ q2) (hs2 : 0 ≤ s2) (ht2 : s2 ≤ 250) (hr2 : wordOf q2 s2 = r2) (r : Bool) (hr : posLt (fileB bs p1) (fileB bs p2) r1 r2 = r) :
    Calls Try.prog 10 #[.slice A n c, .agg #[.int .i64 p1, .int .u64 q1, .int .u64 s1], .agg #[.int .i64 p2, .int .u64 q2, .int .u64 s2]] w fun e w' => e = .returned (.bool r) ∧ Below w.heap.size w w' := by
  obtain ⟨W, hW⟩ : ∃ W, W = (w.alloc (.cells #[.int .i64 p1, .int .u64 q1, .int .u64 s1] 25)).alloc (.cells #[.int .i64 p2, .int .u64 q2, .int .u64 s2] 25) := ⟨_, rfl⟩
  have hbW : Below w.heap.size w W := by rw [hW]; exact (below_new w _).trans ((below_new _ _).mono (by simp))
  have hX : Blk W w.heap.size 25 #[.int .i64 p1, .int .u64 q1, .int .u64 s1] := by rw [hW]; exact (Blk.new _ _ _).alloc _
  have hY : Blk W (w.heap.size + 1) 25 #[.int .i64 p2, .int .u64 q2, .int .u64 s2] := by rw [hW]; have := Blk.new (w.alloc (.cells #[.int .i64 p1, .int .u64 q1, .int .u64 s1] 25)) 25 #[.int .i64 p2, .int .u64 q2, .int .u64 s2]; rwa [World.size_alloc] at this
  have HBW := Lib.hid hbW
  have HX := Lib.hid hX
  have HY := Lib.hid hY
  have HR := Lib.hid hr
  have HR1 := Lib.hid hr1
  have HR2 := Lib.hid hr2
  have HOK := Lib.hid hok
  have H := Lib.hid h
  have hl := Lib.hid h.len
  clear hbW hX hY hr hok h hr1 hr2
  go_enter Try.func10, Try.ntmps10
  go_wp2_with fail
  rw [← hW]
  clear hW
  refine (build_any A n c bs _ (H.out.keep HBW.out) hn HOK.out).mono ?_
  rintro e w1 ⟨v, gs, rfl, hB⟩
  have x0 := (HX.out.keep hB.below).cell 0
  have x1 := (HX.out.keep hB.below).cell 1
  have x2 := (HX.out.keep hB.below).cell 2
  have y0 := (HY.out.keep hB.below).cell 0
  have y1 := (HY.out.keep hB.below).cell 1
  have y2 := (HY.out.keep hB.below).cell 2
  simp only [List.getElem?_toArray, List.getElem?_cons_zero, List.getElem?_cons_succ] at x0 x1 x2 y0 y1 y2
  have k0 := cell_regrown x0
  have k1 := cell_regrown x1
  have k2 := cell_regrown x2
  have k3 := cell_regrown y0
  have k4 := cell_regrown y1
  have k5 := cell_regrown y2
  have cN1 : ∀ d os, Calls Try.prog 19 #[v, .agg #[.int .i64 p1, .int .u64 q1, .int .u64 s1]] (Go.Sort.grow (redrawn w1 d) os) fun e w'' => e = .returned (.agg #[.pointer (ptrA gs p1), .int .u32 r1]) ∧ ∃ p : Regrown, w'' = Go.Sort.grow (redrawn w1 p.d) p.os := fun d os => Calls.regrown_of (posOf_built hB p1 q1 s1 r1 hp1 hq1 hs1 ht1 HR1.out _ (below_regrown w1 d os))
  have cN2 : ∀ d os, Calls Try.prog 19 #[v, .agg #[.int .i64 p2, .int .u64 q2, .int .u64 s2]] (Go.Sort.grow (redrawn w1 d) os) fun e w'' => e = .returned (.agg #[.pointer (ptrA gs p2), .int .u32 r2]) ∧ ∃ p : Regrown, w'' = Go.Sort.grow (redrawn w1 p.d) p.os := fun d os => Calls.regrown_of (posOf_built hB p2 q2 s2 r2 hp2 hq2 hs2 ht2 HR2.out _ (below_regrown w1 d os))
  have cN3 : ∀ d os, Calls Try.prog 20 #[.agg #[.pointer (ptrA gs p1), .int .u32 r1], .agg #[.pointer (ptrA gs p2), .int .u32 r2]] (Go.Sort.grow (redrawn w1 d) os) fun e w'' => e = .returned (.bool r) ∧ ∃ p : Regrown, w'' = Go.Sort.grow (redrawn w1 p.d) p.os := fun d os => by
    have := PosBefore_any (ptrA gs p1) (ptrA gs p2) r1 r2 _ _ (Go.Sort.grow (redrawn w1 d) os) ((named_built hB hl.out HOK.out p1 r1 hp1).keep (below_regrown w1 d os)) ((named_built hB hl.out HOK.out p2 r2 hp2).keep (below_regrown w1 d os))
    rw [HR.out] at this
    exact Calls.regrown_of this
  have HB1 := Lib.hid (below_then HBW.out HBW.out.size hB.below)
  clear x0 x1 x2 y0 y1 y2 hB hq1 hs1 ht1 hq2 hs2 ht2 hp1 hp2
  go_wp2_with fail
  refine wp_region_quiet_below (by kernel_rfl) (by kernel_rfl) ?_
  repeat (go_big_quiet_step (first | with_reducible exact cN1 _ _ | with_reducible exact cN2 _ _ | with_reducible exact cN3 _ _))
  refine wpQuiet_nil ?_
  intro _ hw'
  obtain ⟨⟨dq, osq⟩, hw''⟩ := hw'
  subst hw''
  go_wp2
  go_ret
  exact ⟨rfl, below_then HB1.out HB1.out.size (below_regrown _ _ _)⟩

set_option maxRecDepth 100000 in
set_option maxHeartbeats 4000000 in
theorem After_any (A : Option Addr) (n c : Nat) (bs : List BaseD) (p1 q1 s1 p2 q2 s2 r1 r2 : Int) (w : World) (h : Bases w A n c bs) (hn : n ≤ 2147483647) (hok : ∀ (i : Nat) (x : BaseD), bs[i]? = some x → BaseOk bs i x)
    (hp1 : p1 < n) (hq1 : 0 ≤ q1) (hs1 : 0 ≤ s1) (ht1 : s1 ≤ 250) (hr1 : wordOf q1 s1 = r1) (hp2 : p2 < n) (hq2 : 0 ≤ q2) (hs2 : 0 ≤ s2) (ht2 : s2 ≤ 250) (hr2 : wordOf q2 s2 = r2) (r : Bool) (hr : posGt (fileB bs p1) (fileB bs p2) r1 r2 = r) :
    Calls Try.prog 12 #[.slice A n c, .agg #[.int .i64 p1, .int .u64 q1, .int .u64 s1], .agg #[.int .i64 p2, .int .u64 q2, .int .u64 s2]] w fun e w' => e = .returned (.bool r) ∧ Below w.heap.size w w' := by
  obtain ⟨W, hW⟩ : ∃ W, W = (w.alloc (.cells #[.int .i64 p1, .int .u64 q1, .int .u64 s1] 25)).alloc (.cells #[.int .i64 p2, .int .u64 q2, .int .u64 s2] 25) := ⟨_, rfl⟩
  have hbW : Below w.heap.size w W := by rw [hW]; exact (below_new w _).trans ((below_new _ _).mono (by simp))
  have hX : Blk W w.heap.size 25 #[.int .i64 p1, .int .u64 q1, .int .u64 s1] := by rw [hW]; exact (Blk.new _ _ _).alloc _
  have hY : Blk W (w.heap.size + 1) 25 #[.int .i64 p2, .int .u64 q2, .int .u64 s2] := by rw [hW]; have := Blk.new (w.alloc (.cells #[.int .i64 p1, .int .u64 q1, .int .u64 s1] 25)) 25 #[.int .i64 p2, .int .u64 q2, .int .u64 s2]; rwa [World.size_alloc] at this
  have HBW := Lib.hid hbW
  have HX := Lib.hid hX
  have HY := Lib.hid hY
  have HR := Lib.hid hr
  have HR1 := Lib.hid hr1
  have HR2 := Lib.hid hr2
  have HOK := Lib.hid hok
  have H := Lib.hid h
  have hl := Lib.hid h.len
  clear hbW hX hY hr hok h hr1 hr2
  go_enter Try.func12, Try.ntmps12
  go_wp2_with fail
  rw [← hW]
  clear hW
  refine (build_any A n c bs _ (H.out.keep HBW.out) hn HOK.out).mono ?_
  rintro e w1 ⟨v, gs, rfl, hB⟩
  have x0 := (HX.out.keep hB.below).cell 0
  have x1 := (HX.out.keep hB.below).cell 1
  have x2 := (HX.out.keep hB.below).cell 2
  have y0 := (HY.out.keep hB.below).cell 0
  have y1 := (HY.out.keep hB.below).cell 1
  have y2 := (HY.out.keep hB.below).cell 2
  simp only [List.getElem?_toArray, List.getElem?_cons_zero, List.getElem?_cons_succ] at x0 x1 x2 y0 y1 y2
  have k0 := cell_regrown x0
  have k1 := cell_regrown x1
  have k2 := cell_regrown x2
  have k3 := cell_regrown y0
  have k4 := cell_regrown y1
  have k5 := cell_regrown y2
  have cN1 : ∀ d os, Calls Try.prog 19 #[v, .agg #[.int .i64 p1, .int .u64 q1, .int .u64 s1]] (Go.Sort.grow (redrawn w1 d) os) fun e w'' => e = .returned (.agg #[.pointer (ptrA gs p1), .int .u32 r1]) ∧ ∃ p : Regrown, w'' = Go.Sort.grow (redrawn w1 p.d) p.os := fun d os => Calls.regrown_of (posOf_built hB p1 q1 s1 r1 hp1 hq1 hs1 ht1 HR1.out _ (below_regrown w1 d os))
  have cN2 : ∀ d os, Calls Try.prog 19 #[v, .agg #[.int .i64 p2, .int .u64 q2, .int .u64 s2]] (Go.Sort.grow (redrawn w1 d) os) fun e w'' => e = .returned (.agg #[.pointer (ptrA gs p2), .int .u32 r2]) ∧ ∃ p : Regrown, w'' = Go.Sort.grow (redrawn w1 p.d) p.os := fun d os => Calls.regrown_of (posOf_built hB p2 q2 s2 r2 hp2 hq2 hs2 ht2 HR2.out _ (below_regrown w1 d os))
  have cN3 : ∀ d os, Calls Try.prog 22 #[.agg #[.pointer (ptrA gs p1), .int .u32 r1], .agg #[.pointer (ptrA gs p2), .int .u32 r2]] (Go.Sort.grow (redrawn w1 d) os) fun e w'' => e = .returned (.bool r) ∧ ∃ p : Regrown, w'' = Go.Sort.grow (redrawn w1 p.d) p.os := fun d os => by
    have := PosAfter_any (ptrA gs p1) (ptrA gs p2) r1 r2 _ _ (Go.Sort.grow (redrawn w1 d) os) ((named_built hB hl.out HOK.out p1 r1 hp1).keep (below_regrown w1 d os)) ((named_built hB hl.out HOK.out p2 r2 hp2).keep (below_regrown w1 d os))
    rw [HR.out] at this
    exact Calls.regrown_of this
  have HB1 := Lib.hid (below_then HBW.out HBW.out.size hB.below)
  clear x0 x1 x2 y0 y1 y2 hB hq1 hs1 ht1 hq2 hs2 ht2 hp1 hp2
  go_wp2_with fail
  refine wp_region_quiet_below (by kernel_rfl) (by kernel_rfl) ?_
  repeat (go_big_quiet_step (first | with_reducible exact cN1 _ _ | with_reducible exact cN2 _ _ | with_reducible exact cN3 _ _))
  refine wpQuiet_nil ?_
  intro _ hw'
  obtain ⟨⟨dq, osq⟩, hw''⟩ := hw'
  subst hw''
  go_wp2
  go_ret
  exact ⟨rfl, below_then HB1.out HB1.out.size (below_regrown _ _ _)⟩

end Go.Proofs.Ytlohgoedlkkicaa
