/- The walk of WriteTo at a position of a file's base, without a base, or not known. -/
import Derived.Test.YtlohgoedlkkicaaDoorFmt
import Derived.Test.YtlohgoedlkkicaaDoorAbs
import Derived.Test.YtlohgoedlkkicaaDoorTail
import Derived.Lib.SmallJoins
import Derived.BigQuiet
import Derived.LaidEqlPtr
namespace Go.Proofs.YtlohgoedlkkicaaDoor
open Go.Shelf Go.RowKit Go.Sort Go.Lib Go.Proofs.YtlohgoedlkkicaaDoor.Bits

theorem pow_global : ∃ g, Tryd.prog.globalNamed "internal/strconv.uint64pow10" = some g := Option.isSome_iff_exists.1 (by kernel_rfl)
theorem pow_keep {w w' : World} (h : Pow10 w) (hb : RowKit.Below w.heap.size w w') : Pow10 w' := by
  obtain ⟨g, hg⟩ := pow_global
  exact Go.Joins.tab_stays hg h hb (Nat.le_refl _)
theorem info_base : ∃ j, Tryd.prog.info? 89 = some j ∧ j.size ≠ 0 := by
  have h : (Tryd.prog.info? 89).map (fun j => j.size) = some 8 := by kernel_rfl
  obtain ⟨j, hj, e⟩ := Option.map_eq_some_iff.1 h
  exact ⟨j, hj, by rw [e]; decide⟩
/-- A base's pointer is compared with itself. -/
theorem eql_self (w : World) (g : Nat) : (binOp .eql 46 (.pointer (some ⟨g, 0, none⟩)) (.pointer (some ⟨g, 0, none⟩))).run Tryd.prog w = .ok (.bool true) w := by
  obtain ⟨j, hj, _⟩ := info_base
  exact run_eql_ptr_same w _ Tryd.underlying46 hj
/-- .. with another one. -/
theorem eql_far (w : World) (g g0 : Nat) (h : ∃ T cs, Blk w g T cs) (h0 : ∃ T cs, Blk w g0 T cs) (hne : g ≠ g0) : (binOp .eql 46 (.pointer (some ⟨g, 0, none⟩)) (.pointer (some ⟨g0, 0, none⟩))).run Tryd.prog w = .ok (.bool false) w := by
  obtain ⟨j, hj, hs⟩ := info_base
  obtain ⟨T, cs, hb⟩ := h
  obtain ⟨T0, cs0, hb0⟩ := h0
  exact run_eql_ptr_other w Tryd.underlying46 hj hs (fun e => hne (by injection e)) hb hb0
/-- '[]byte' of a constant. -/
theorem const_src (w : World) (l : List UInt8) (C : Array Value) (hC : C.toList = Lib.byteCells l) (fr : Nat × Nat) (k : Nat) (hk : k = w.heap.size) : ∀ j v, (Lib.byteCells l)[j]? = some v → (w.alloc (.cells C 5 fr)).cell? ((⟨k, 0, none⟩ : Addr).add j) = some v := fun j v hv => by
  subst hk
  rw [Lib.add_plain, Nat.zero_add, World.cell?_alloc_mark, ← hv, ← hC, Array.getElem?_toList]

set_option maxRecDepth 100000 in
set_option maxHeartbeats 4000000 in
theorem write_file (w0 : World) (b : Nat) (lst : List UInt8) (g : Nat) (l0 : Int) (f a f0 : ByteArray) (bl bc : Int) (l : Int) (sc so : Bool) (ln cn : Nat) (w : World) (hS : Seen w0 g g l0 f a f0 bl bc) (hff0 : f0.size ≤ 2147483647) (hp : Pow10 w0) (hbw : RowKit.Below w0.heap.size w0 w) (hB : Buf w0.heap.size b lst w)
    (a0 : 0 ≤ l) (a1 : l < 4294967296) (hln : l / 4096 = ln) (hcn : l / 16 % 256 = cn) (hbs : lst.length ≤ 1000000000) :
    Calls Tryd.prog 46 #[.agg #[.pointer (some ⟨g, 0, none⟩), .int .u32 l], .iface 81 (.pointer (some ⟨b, 0, none⟩)), .bool sc, .bool so] w fun e w' => e = .returned (.tuple #[]) ∧ Buf w0.heap.size b (lst ++ fmtB f0 ln cn sc) w' ∧ RowKit.Below w0.heap.size w0 w' := by
  have hln64 : ln < 18446744073709551616 := by omega
  have hcn64 : cn < 18446744073709551616 := by omega
  have hbn := hB.lt
  obtain ⟨W, hW⟩ : ∃ W, W = w.alloc (.cells #[.pointer (some ⟨g, 0, none⟩), .int .u32 l] 50) := ⟨_, rfl⟩
  have hbW : RowKit.Below w.heap.size w W := by rw [hW]; exact below_new w _
  have hX : Blk W w.heap.size 50 #[.pointer (some ⟨g, 0, none⟩), .int .u32 l] := by rw [hW]; exact Blk.new _ _ _
  have HBUF := Lib.hid (hB.old hbW)
  have HBW := Lib.hid (below_then hbw hbw.size hbW)
  have HX := Lib.hid hX
  have x0 := hX.cell 0
  have x1 := hX.cell 1
  simp only [List.getElem?_toArray, List.getElem?_cons_zero, List.getElem?_cons_succ] at x0 x1
  clear hbW hX hB hbw
  go_enter Tryd.func46, Tryd.ntmps46
  go_wp2_with fail
  rw [← hW]
  clear hW
  refine (IsKnown_any (some ⟨g, 0, none⟩) l true _ a0 a1 (rfl)).mono ?_
  rintro e w1 ⟨rfl, hb1⟩
  have HB1 := Lib.hid (below_then HBW.out HBW.out.size hb1)
  have HBF1 := Lib.hid (HBUF.out.old hb1)
  have hX1 := HX.out.keep hb1
  have HX1 := Lib.hid hX1
  have y0 := hX1.cell 0
  have y1 := hX1.cell 1
  simp only [List.getElem?_toArray, List.getElem?_cons_zero, List.getElem?_cons_succ] at y0 y1
  clear hb1 x0 x1 hX1 HX HBUF HBW
  go_wp2_with fail
  refine (BasePos_some g _).mono ?_
  rintro e w2 ⟨rfl, rfl⟩
  have s0 := (hS.keep HB1.out).c0
  go_wp2_with fail
  rw [eql_self w1 g]
  have cN : ∀ d os, Calls Tryd.prog 31 #[.agg #[.pointer (some ⟨g, 0, none⟩), .int .u32 l]] (Go.Sort.grow (redrawn w1 d) os) fun e w'' => e = .returned (.string f0) ∧ ∃ p : Regrown, w'' = Go.Sort.grow (redrawn w1 p.d) p.os := fun d os => Calls.regrown_of (tells_file (Tells.seen (l := l) (hS.keep HB1.out)) _ (below_regrown w1 d os))
  have cL : ∀ d os, Calls Tryd.prog 27 #[.int .u32 l] (Go.Sort.grow (redrawn w1 d) os) fun e w'' => e = .returned (.int .u64 ln) ∧ ∃ p : Regrown, w'' = Go.Sort.grow (redrawn w1 p.d) p.os := fun d os => Calls.regrown_of ((line_any l ln _ a0 a1 hln).mono (by rintro e w' ⟨rfl, rfl⟩; exact ⟨rfl, Below.refl _ _⟩))
  have cC : ∀ d os, Calls Tryd.prog 28 #[.int .u32 l] (Go.Sort.grow (redrawn w1 d) os) fun e w'' => e = .returned (.int .u64 cn) ∧ ∃ p : Regrown, w'' = Go.Sort.grow (redrawn w1 p.d) p.os := fun d os => Calls.regrown_of ((col_any l cn _ a0 a1 hcn).mono (by rintro e w' ⟨rfl, rfl⟩; exact ⟨rfl, Below.refl _ _⟩))
  clear s0
  have k0 := cell_regrown y0
  have k1 := cell_regrown y1
  clear y0 y1
  go_wp2_with fail
  refine region_below_last 10 (by kernel_rfl) (by kernel_rfl) ?_
  simp only [List.take_succ_cons, List.take_zero, List.drop_succ_cons, List.drop_zero]
  repeat (go_big_quiet_step (first | with_reducible exact cN _ _ | with_reducible exact cL _ _ | with_reducible exact cC _ _))
  refine wpQuiet_nil ?_
  intro _ hw'
  obtain ⟨⟨dq, osq⟩, hw''⟩ := hw'
  subst hw''
  have HBr := Lib.hid (below_then HB1.out HB1.out.size (below_regrown w1 dq osq))
  have HFr := Lib.hid (HBF1.out.old (below_regrown w1 dq osq))
  have HXr := Lib.hid (HX1.out.keep (below_regrown w1 dq osq))
  clear cN cL cC k0 k1 HX1
  go_wp2_with fail
  refine (format_any w0.heap.size b (lst) f0 ln cn sc _ HFr.out HBr.out.size (by omega) (fun w' hw' => pow_keep hp (HBr.out.trans hw')) hff0 (by omega)).mono ?_
  rintro e w6 ⟨rfl, hbf, hb6, hk6⟩
  have HFe := Lib.hid hbf
  have HBe := Lib.hid (HBr.out.trans hb6)
  clear hbf hb6 hk6
  go_wp2
  (try simp only [Exit.inBlock, Exit.then])
  refine bodyPost_ret (results_none rfl _ _ _) rfl ?_
  exact ⟨rfl, HFe.out, HBe.out⟩

set_option maxRecDepth 100000 in
set_option maxHeartbeats 4000000 in
theorem write_nil (w0 : World) (b : Nat) (lst : List UInt8) (l : Int) (sc so : Bool) (ln cn : Nat) (w : World) (hkn : (l / 4096 != 0) = true) (hp : Pow10 w0) (hbw : RowKit.Below w0.heap.size w0 w) (hB : Buf w0.heap.size b lst w)
    (a0 : 0 ≤ l) (a1 : l < 4294967296) (hln : l / 4096 = ln) (hcn : l / 16 % 256 = cn) (hbs : lst.length ≤ 1000000000) :
    Calls Tryd.prog 46 #[.agg #[.pointer none, .int .u32 l], .iface 81 (.pointer (some ⟨b, 0, none⟩)), .bool sc, .bool so] w fun e w' => e = .returned (.tuple #[]) ∧ Buf w0.heap.size b (lst ++ fmtB ⟨#[]⟩ ln cn sc) w' ∧ RowKit.Below w0.heap.size w0 w' := by
  have hln64 : ln < 18446744073709551616 := by omega
  have hcn64 : cn < 18446744073709551616 := by omega
  have hbn := hB.lt
  obtain ⟨W, hW⟩ : ∃ W, W = w.alloc (.cells #[.pointer none, .int .u32 l] 50) := ⟨_, rfl⟩
  have hbW : RowKit.Below w.heap.size w W := by rw [hW]; exact below_new w _
  have hX : Blk W w.heap.size 50 #[.pointer none, .int .u32 l] := by rw [hW]; exact Blk.new _ _ _
  have HBUF := Lib.hid (hB.old hbW)
  have HBW := Lib.hid (below_then hbw hbw.size hbW)
  have HX := Lib.hid hX
  have x0 := hX.cell 0
  have x1 := hX.cell 1
  simp only [List.getElem?_toArray, List.getElem?_cons_zero, List.getElem?_cons_succ] at x0 x1
  clear hbW hX hB hbw
  go_enter Tryd.func46, Tryd.ntmps46
  go_wp2_with fail
  rw [← hW]
  clear hW
  refine (IsKnown_any none l true _ a0 a1 (by simpa using hkn)).mono ?_
  rintro e w1 ⟨rfl, hb1⟩
  have HB1 := Lib.hid (below_then HBW.out HBW.out.size hb1)
  have HBF1 := Lib.hid (HBUF.out.old hb1)
  have hX1 := HX.out.keep hb1
  have HX1 := Lib.hid hX1
  have y0 := hX1.cell 0
  have y1 := hX1.cell 1
  simp only [List.getElem?_toArray, List.getElem?_cons_zero, List.getElem?_cons_succ] at y0 y1
  clear hb1 x0 x1 hX1 HX HBUF HBW
  go_wp2_with fail
  refine (BasePos_none _).mono ?_
  rintro e w2 ⟨rfl, hb2, hk2⟩
  have HB2 := Lib.hid (below_then HB1.out HB1.out.size hb2)
  have HBF2 := Lib.hid (HBF1.out.old hb2)
  have hX2 := HX1.out.keep hb2
  have y0 := hX2.cell 0
  have y1 := hX2.cell 1
  have z0 := hk2.cell 0
  simp only [List.getElem?_toArray, List.getElem?_cons_zero, List.getElem?_cons_succ] at y0 y1 z0
  clear HX1
  have HX1 := Lib.hid hX2
  clear hb2 hk2 hX2 HB1 HBF1
  go_wp2_with fail
  have cN : ∀ d os, Calls Tryd.prog 31 #[.agg #[.pointer none, .int .u32 l]] (Go.Sort.grow (redrawn w2 d) os) fun e w'' => e = .returned (.string ⟨#[]⟩) ∧ ∃ p : Regrown, w'' = Go.Sort.grow (redrawn w2 p.d) p.os := fun d os => Calls.regrown_of (Name_none l _)
  have cL : ∀ d os, Calls Tryd.prog 27 #[.int .u32 l] (Go.Sort.grow (redrawn w2 d) os) fun e w'' => e = .returned (.int .u64 ln) ∧ ∃ p : Regrown, w'' = Go.Sort.grow (redrawn w2 p.d) p.os := fun d os => Calls.regrown_of ((line_any l ln _ a0 a1 hln).mono (by rintro e w' ⟨rfl, rfl⟩; exact ⟨rfl, Below.refl _ _⟩))
  have cC : ∀ d os, Calls Tryd.prog 28 #[.int .u32 l] (Go.Sort.grow (redrawn w2 d) os) fun e w'' => e = .returned (.int .u64 cn) ∧ ∃ p : Regrown, w'' = Go.Sort.grow (redrawn w2 p.d) p.os := fun d os => Calls.regrown_of ((col_any l cn _ a0 a1 hcn).mono (by rintro e w' ⟨rfl, rfl⟩; exact ⟨rfl, Below.refl _ _⟩))
  clear z0
  have k0 := cell_regrown y0
  have k1 := cell_regrown y1
  clear y0 y1
  go_wp2_with fail
  refine region_below_last 10 (by kernel_rfl) (by kernel_rfl) ?_
  simp only [List.take_succ_cons, List.take_zero, List.drop_succ_cons, List.drop_zero]
  repeat (go_big_quiet_step (first | with_reducible exact cN _ _ | with_reducible exact cL _ _ | with_reducible exact cC _ _))
  refine wpQuiet_nil ?_
  intro _ hw'
  obtain ⟨⟨dq, osq⟩, hw''⟩ := hw'
  subst hw''
  have HBr := Lib.hid (below_then HB2.out HB2.out.size (below_regrown w2 dq osq))
  have HFr := Lib.hid (HBF2.out.old (below_regrown w2 dq osq))
  have HXr := Lib.hid (HX1.out.keep (below_regrown w2 dq osq))
  clear cN cL cC k0 k1 HX1
  go_wp2_with fail
  refine (format_any w0.heap.size b (lst) ⟨#[]⟩ ln cn sc _ HFr.out HBr.out.size (by omega) (fun w' hw' => pow_keep hp (HBr.out.trans hw')) (by decide) (by omega)).mono ?_
  rintro e w6 ⟨rfl, hbf, hb6, hk6⟩
  have HFe := Lib.hid hbf
  have HBe := Lib.hid (HBr.out.trans hb6)
  clear hbf hb6 hk6
  go_wp2
  (try simp only [Exit.inBlock, Exit.then])
  refine bodyPost_ret (results_none rfl _ _ _) rfl ?_
  exact ⟨rfl, HFe.out, HBe.out⟩

def unkB : List UInt8 := [60, 117, 110, 107, 110, 111, 119, 110, 32, 108, 105, 110, 101, 32, 110, 117, 109, 98, 101, 114, 62]
set_option maxRecDepth 100000 in
set_option maxHeartbeats 4000000 in
theorem write_unknown (w0 : World) (b : Nat) (lst : List UInt8) (l : Int) (sc so : Bool) (ln cn : Nat) (w : World) (hkn : (l / 4096 != 0) = false) (_hp : Pow10 w0) (hbw : RowKit.Below w0.heap.size w0 w) (hB : Buf w0.heap.size b lst w)
    (a0 : 0 ≤ l) (a1 : l < 4294967296) (hln : l / 4096 = ln) (hcn : l / 16 % 256 = cn) (hbs : lst.length ≤ 1000000000) :
    Calls Tryd.prog 46 #[.agg #[.pointer none, .int .u32 l], .iface 81 (.pointer (some ⟨b, 0, none⟩)), .bool sc, .bool so] w fun e w' => e = .returned (.tuple #[]) ∧ Buf w0.heap.size b (lst ++ unkB) w' ∧ RowKit.Below w0.heap.size w0 w' := by
  have hln64 : ln < 18446744073709551616 := by omega
  have hcn64 : cn < 18446744073709551616 := by omega
  have hbn := hB.lt
  obtain ⟨W, hW⟩ : ∃ W, W = w.alloc (.cells #[.pointer none, .int .u32 l] 50) := ⟨_, rfl⟩
  have hbW : RowKit.Below w.heap.size w W := by rw [hW]; exact below_new w _
  have hX : Blk W w.heap.size 50 #[.pointer none, .int .u32 l] := by rw [hW]; exact Blk.new _ _ _
  have HBUF := Lib.hid (hB.old hbW)
  have HBW := Lib.hid (below_then hbw hbw.size hbW)
  have HX := Lib.hid hX
  have x0 := hX.cell 0
  have x1 := hX.cell 1
  simp only [List.getElem?_toArray, List.getElem?_cons_zero, List.getElem?_cons_succ] at x0 x1
  clear hbW hX hB hbw
  go_enter Tryd.func46, Tryd.ntmps46
  go_wp2_with fail
  rw [← hW]
  clear hW
  refine (IsKnown_any none l false _ a0 a1 (by simpa using hkn)).mono ?_
  rintro e w1 ⟨rfl, hb1⟩
  have HB1 := Lib.hid (below_then HBW.out HBW.out.size hb1)
  have HBF1 := Lib.hid (HBUF.out.old hb1)
  have hX1 := HX.out.keep hb1
  have HX1 := Lib.hid hX1
  have y0 := hX1.cell 0
  have y1 := hX1.cell 1
  simp only [List.getElem?_toArray, List.getElem?_cons_zero, List.getElem?_cons_succ] at y0 y1
  clear hb1 x0 x1 hX1 HX HBUF HBW
  have hc := Lib.run_convert_bytes_const (P := Tryd.prog) w1 54 5 #[.int .u8 60, .int .u8 117, .int .u8 110, .int .u8 107, .int .u8 110, .int .u8 111, .int .u8 119, .int .u8 110, .int .u8 32, .int .u8 108, .int .u8 105, .int .u8 110, .int .u8 101, .int .u8 32, .int .u8 110, .int .u8 117, .int .u8 109, .int .u8 98, .int .u8 101, .int .u8 114, .int .u8 62] 21 21 Tryd.underlying54 Tryd.underlying5
  have mw := method_write ⟨b, 0, none⟩
  have nw := nil_write ⟨b, 0, none⟩
  have hne := HBF1.out.lt
  go_wp2_with fail
  refine (Tryd.Buffer_Write_any w0.heap.size b (Lib.byteCells lst) (Lib.byteCells unkB) ⟨w1.heap.size, 0, none⟩ 21 _ _ (HBF1.out.old (below_new w1 _)) (Nat.le_trans HB1.out.size (below_new w1 _).size) (Lib.byteCells_one lst) rfl (by show w1.heap.size ≠ b; omega) (const_src w1 unkB _ rfl _ _ rfl) (Lib.byteCells_one _) (by rw [Lib.byteCells_length]; omega)).mono ?_
  rintro e w6 ⟨rfl, hbf, hb6, hk6⟩
  rw [cells_app] at hbf
  have HFe := Lib.hid hbf
  have HBe := Lib.hid ((HB1.out.trans ((below_new w1 _).mono HB1.out.size)).trans hb6)
  clear hbf hb6 hk6
  go_wp2
  (try simp only [Exit.inBlock, Exit.then])
  refine bodyPost_ret (results_none rfl _ _ _) rfl ?_
  exact ⟨rfl, HFe.out, HBe.out⟩

end Go.Proofs.YtlohgoedlkkicaaDoor
