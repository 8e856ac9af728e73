/- The walk of WriteTo at a position of a directive's base. -/
import Derived.Test.YtlohgoedlkkicaaDoorWriteA
import Derived.Test.YtlohgoedlkkicaaDoorFmt
import Derived.Test.YtlohgoedlkkicaaDoorAbs
import Derived.Test.YtlohgoedlkkicaaDoorTail
import Derived.Lib.SmallJoins
import Derived.BigQuiet
import Derived.LaidEqlPtr
namespace Go.Proofs.YtlohgoedlkkicaaDoor
open Go.Shelf Go.RowKit Go.Sort Go.Lib Go.Proofs.YtlohgoedlkkicaaDoor.Bits

set_option maxRecDepth 100000 in
set_option maxHeartbeats 4000000 in
theorem write_dir (w0 : World) (b : Nat) (lst : List UInt8) (g g0 : Nat) (l0 : Int) (f a f0 : ByteArray) (bl bc : Int) (l : Int) (sc so : Bool) (ln cn : Nat) (w : World) (rl rc : Nat) (hrl : (relL l0 bl l).toNat = rl) (hrc : (relC l0 bc l).toNat = rc) (hS : Seen w0 g g0 l0 f a f0 bl bc) (hne : g ≠ g0) (hff : f.size ≤ 2147483647) (hff0 : f0.size ≤ 2147483647) (hp : Pow10 w0) (hbw : RowKit.Below w0.heap.size w0 w) (hB : Buf w0.heap.size b lst w)
    (a0 : 0 ≤ l) (a1 : l < 4294967296) (hln : l / 4096 = ln) (hcn : l / 16 % 256 = cn) (hbs : lst.length ≤ 1000000000) :
    Calls Tryd.prog 46 #[.agg #[.pointer (some ⟨g, 0, none⟩), .int .u32 l], .iface 81 (.pointer (some ⟨b, 0, none⟩)), .bool sc, .bool so] w fun e w' => e = .returned (.tuple #[]) ∧ Buf w0.heap.size b (lst ++ fmtB f rl rc sc ++ (if so = true then [91] ++ fmtB f0 ln cn sc ++ [93] else [])) w' ∧ RowKit.Below w0.heap.size w0 w' := by
  have hln64 : ln < 18446744073709551616 := by omega
  have hcn64 : cn < 18446744073709551616 := by omega
  have hbn := hB.lt
  obtain ⟨W, hW⟩ : ∃ W, W = w.alloc (.cells #[.pointer (some ⟨g, 0, none⟩), .int .u32 l] 50) := ⟨_, rfl⟩
  have hbW : RowKit.Below w.heap.size w W := by rw [hW]; exact below_new w _
  have hX : Blk W w.heap.size 50 #[.pointer (some ⟨g, 0, none⟩), .int .u32 l] := by rw [hW]; exact Blk.new _ _ _
  have HBUF := Lib.hid (hB.old hbW)
  have HBW := Lib.hid (below_then hbw hbw.size hbW)
  have HX := Lib.hid hX
  have x0 := hX.cell 0
  have x1 := hX.cell 1
  simp only [List.getElem?_toArray, List.getElem?_cons_zero, List.getElem?_cons_succ] at x0 x1
  clear hbW hX hB hbw
  go_enter Tryd.func46, Tryd.ntmps46
  go_wp2_with fail
  rw [← hW]
  clear hW
  refine (IsKnown_any (some ⟨g, 0, none⟩) l true _ a0 a1 (rfl)).mono ?_
  rintro e w1 ⟨rfl, hb1⟩
  have HB1 := Lib.hid (below_then HBW.out HBW.out.size hb1)
  have HBF1 := Lib.hid (HBUF.out.old hb1)
  have hX1 := HX.out.keep hb1
  have HX1 := Lib.hid hX1
  have y0 := hX1.cell 0
  have y1 := hX1.cell 1
  simp only [List.getElem?_toArray, List.getElem?_cons_zero, List.getElem?_cons_succ] at y0 y1
  clear hb1 x0 x1 hX1 HX HBUF HBW
  go_wp2_with fail
  refine (BasePos_some g _).mono ?_
  rintro e w2 ⟨rfl, rfl⟩
  have s0 := (hS.keep HB1.out).c0
  go_wp2_with fail
  rw [eql_far w1 g g0 (hS.keep HB1.out).k (hS.keep HB1.out).k0 hne]
  have cF : ∀ d os, Calls Tryd.prog 32 #[.agg #[.pointer (some ⟨g, 0, none⟩), .int .u32 l]] (Go.Sort.grow (redrawn w1 d) os) fun e w'' => e = .returned (.string f) ∧ ∃ p : Regrown, w'' = Go.Sort.grow (redrawn w1 p.d) p.os := fun d os => Calls.regrown_of (tells_rfile (Tells.seen (l := l) (hS.keep HB1.out)) _ (below_regrown w1 d os))
  have cR : ∀ d os, Calls Tryd.prog 29 #[.agg #[.pointer (some ⟨g, 0, none⟩), .int .u32 l]] (Go.Sort.grow (redrawn w1 d) os) fun e w'' => e = .returned (.int .u64 rl) ∧ ∃ p : Regrown, w'' = Go.Sort.grow (redrawn w1 p.d) p.os := fun d os => Calls.regrown_of (by rw [← hrl]; exact tells_rline (Tells.seen (l := l) (hS.keep HB1.out)) a0 a1 _ (below_regrown w1 d os))
  have cQ : ∀ d os, Calls Tryd.prog 30 #[.agg #[.pointer (some ⟨g, 0, none⟩), .int .u32 l]] (Go.Sort.grow (redrawn w1 d) os) fun e w'' => e = .returned (.int .u64 rc) ∧ ∃ p : Regrown, w'' = Go.Sort.grow (redrawn w1 p.d) p.os := fun d os => Calls.regrown_of (by rw [← hrc]; exact tells_rcol (Tells.seen (l := l) (hS.keep HB1.out)) a0 a1 _ (below_regrown w1 d os))
  have r64 : rl < 18446744073709551616 := by have := (relL_nat l0 bl l).2; omega
  have c64 : rc < 18446744073709551616 := by have := (relC_nat l0 bc l).2; omega
  clear s0
  have k0 := cell_regrown y0
  have k1 := cell_regrown y1
  clear y0 y1
  go_wp2_with fail
  refine region_below_last 8 (by kernel_rfl) (by kernel_rfl) ?_
  simp only [List.take_succ_cons, List.take_zero, List.drop_succ_cons, List.drop_zero]
  repeat (go_big_quiet_step (first | with_reducible exact cF _ _ | with_reducible exact cR _ _ | with_reducible exact cQ _ _))
  refine wpQuiet_nil ?_
  intro _ hw'
  obtain ⟨⟨dq, osq⟩, hw''⟩ := hw'
  subst hw''
  have HBr := Lib.hid (below_then HB1.out HB1.out.size (below_regrown w1 dq osq))
  have HFr := Lib.hid (HBF1.out.old (below_regrown w1 dq osq))
  have HXr := Lib.hid (HX1.out.keep (below_regrown w1 dq osq))
  clear cF cR cQ k0 k1 HX1
  go_wp2_with fail
  refine (format_any w0.heap.size b (lst) f rl rc sc _ HFr.out HBr.out.size (by omega) (fun w' hw' => pow_keep hp (HBr.out.trans hw')) hff (by omega)).mono ?_
  rintro e w6 ⟨rfl, hbf, hb6, hk6⟩
  have HFe := Lib.hid hbf
  have HBe := Lib.hid (HBr.out.trans hb6)
  clear hbf HBr HFr
  have hX6 := hk6 _ _ HXr.out (by simp; omega) (fun c fz e => by injection e with _ e2; exact absurd e2 (by decide))
  have HX6 := Lib.hid (show Blk w6 w.heap.size 50 #[.pointer (some ⟨g, 0, none⟩), .int .u32 l] from hX6)
  clear HXr hX6 hb6 hk6
  cases so with
  | false =>
    go_wp2
    (try simp only [Exit.inBlock, Exit.then])
    refine bodyPost_end (results_none rfl _ _ _) rfl ?_
    refine ⟨rfl, ?_, HBe.out⟩
    have := HFe.out
    simpa using this
  | true =>
    have hln1 := fmtB_len sc hff r64 c64
    have hln2 := fmtB_len sc hff0 hln64 hcn64
    have hc := Lib.run_convert_bytes_const (P := Tryd.prog) w6 54 5 #[.int .u8 91] 1 1 Tryd.underlying54 Tryd.underlying5
    have mw := method_write ⟨b, 0, none⟩
    have nw := nil_write ⟨b, 0, none⟩
    have hlt := HFe.out.lt
    go_wp2_with fail
    refine (Tryd.Buffer_Write_any w0.heap.size b (Lib.byteCells (lst ++ fmtB f rl rc sc)) (Lib.byteCells [91]) ⟨w6.heap.size, 0, none⟩ 1 _ _ (HFe.out.old (below_new w6 _)) (Nat.le_trans HBe.out.size (below_new w6 _).size) (Lib.byteCells_one _) rfl (by show w6.heap.size ≠ b; omega) (const_src w6 [91] _ rfl _ _ rfl) (Lib.byteCells_one _) (by rw [Lib.byteCells_length]; simp [List.length_append]; omega)).mono ?_
    rintro e w7 ⟨rfl, hbf, hb6, hk6⟩
    rw [cells_app] at hbf
    have hx7 := hk6 _ _ (HX6.out.keep (below_new w6 _)) (by simp; omega) (fun c fz e => by injection e with _ e2; exact absurd e2 (by decide))
    have hX7 : Blk w7 w.heap.size 50 #[.pointer (some ⟨g, 0, none⟩), .int .u32 l] := hx7
    have y0 := hX7.cell 0
    have y1 := hX7.cell 1
    simp only [List.getElem?_toArray, List.getElem?_cons_zero, List.getElem?_cons_succ] at y0 y1
    have HX1 := Lib.hid hX7
    have HB7 := Lib.hid ((HBe.out.trans ((below_new w6 _).mono HBe.out.size)).trans hb6)
    have HF7 := Lib.hid hbf
    clear hx7 hX7 HX6 hbf hb6 hk6 HFe HBe hc mw nw hlt
    have cN : ∀ d os, Calls Tryd.prog 31 #[.agg #[.pointer (some ⟨g, 0, none⟩), .int .u32 l]] (Go.Sort.grow (redrawn w7 d) os) fun e w'' => e = .returned (.string f0) ∧ ∃ p : Regrown, w'' = Go.Sort.grow (redrawn w7 p.d) p.os := fun d os => Calls.regrown_of (tells_file (Tells.seen (l := l) (hS.keep HB7.out)) _ (below_regrown w7 d os))
    have cL : ∀ d os, Calls Tryd.prog 27 #[.int .u32 l] (Go.Sort.grow (redrawn w7 d) os) fun e w'' => e = .returned (.int .u64 ln) ∧ ∃ p : Regrown, w'' = Go.Sort.grow (redrawn w7 p.d) p.os := fun d os => Calls.regrown_of ((line_any l ln _ a0 a1 hln).mono (by rintro e w' ⟨rfl, rfl⟩; exact ⟨rfl, Below.refl _ _⟩))
    have cC : ∀ d os, Calls Tryd.prog 28 #[.int .u32 l] (Go.Sort.grow (redrawn w7 d) os) fun e w'' => e = .returned (.int .u64 cn) ∧ ∃ p : Regrown, w'' = Go.Sort.grow (redrawn w7 p.d) p.os := fun d os => Calls.regrown_of ((col_any l cn _ a0 a1 hcn).mono (by rintro e w' ⟨rfl, rfl⟩; exact ⟨rfl, Below.refl _ _⟩))
    have k0 := cell_regrown y0
    have k1 := cell_regrown y1
    clear y0 y1
    go_wp2_with fail
    refine region_below_last 10 (by kernel_rfl) (by kernel_rfl) ?_
    simp only [List.take_succ_cons, List.take_zero, List.drop_succ_cons, List.drop_zero]
    repeat (go_big_quiet_step (first | with_reducible exact cN _ _ | with_reducible exact cL _ _ | with_reducible exact cC _ _))
    refine wpQuiet_nil ?_
    intro _ hw'
    obtain ⟨⟨dq, osq⟩, hw''⟩ := hw'
    subst hw''
    have HBr := Lib.hid (below_then HB7.out HB7.out.size (below_regrown w7 dq osq))
    have HFr := Lib.hid (HF7.out.old (below_regrown w7 dq osq))
    have HXr := Lib.hid (HX1.out.keep (below_regrown w7 dq osq))
    clear cN cL cC k0 k1 HX1
    go_wp2_with fail
    refine (format_any w0.heap.size b (lst ++ fmtB f rl rc sc ++ [91]) f0 ln cn sc _ HFr.out HBr.out.size (by omega) (fun w' hw' => pow_keep hp (HBr.out.trans hw')) hff0 (by simp only [List.length_append, List.length_cons, List.length_nil]; omega)).mono ?_
    rintro e w8 ⟨rfl, hbf, hb6, hk6⟩
    have HFe := Lib.hid hbf
    have HBe := Lib.hid (HBr.out.trans hb6)
    clear hbf hb6 hk6 HBr HFr HXr
    have hc := Lib.run_convert_bytes_const (P := Tryd.prog) w8 54 5 #[.int .u8 93] 1 1 Tryd.underlying54 Tryd.underlying5
    have mw := method_write ⟨b, 0, none⟩
    have nw := nil_write ⟨b, 0, none⟩
    have hlt := HFe.out.lt
    go_wp2_with fail
    refine (Tryd.Buffer_Write_any w0.heap.size b (Lib.byteCells (lst ++ fmtB f rl rc sc ++ [91] ++ fmtB f0 ln cn sc)) (Lib.byteCells [93]) ⟨w8.heap.size, 0, none⟩ 1 _ _ (HFe.out.old (below_new w8 _)) (Nat.le_trans HBe.out.size (below_new w8 _).size) (Lib.byteCells_one _) rfl (by show w8.heap.size ≠ b; omega) (const_src w8 [93] _ rfl _ _ rfl) (Lib.byteCells_one _) (by rw [Lib.byteCells_length]; simp [List.length_append]; omega)).mono ?_
    rintro e w9 ⟨rfl, hbf, hb6, hk6⟩
    rw [cells_app] at hbf
    have HBz := Lib.hid ((HBe.out.trans ((below_new w8 _).mono HBe.out.size)).trans hb6)
    have HFz := Lib.hid hbf
    clear hbf hb6 hk6 HFe HBe hc mw nw hlt
    go_wp2
    (try simp only [Exit.inBlock, Exit.then])
    refine bodyPost_end (results_none rfl _ _ _) rfl ?_
    refine ⟨rfl, ?_, HBz.out⟩
    have := HFz.out
    simpa [List.append_assoc] using this

end Go.Proofs.YtlohgoedlkkicaaDoor
