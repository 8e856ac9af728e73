/- The walk of format where the column is asked for and known. -/
import Derived.Test.YtlohgoedlkkicaaDoorFormat
import Derived.Test.YtlohgoedlkkicaaDoorBuilt
import Derived.Deep.RegionHeld3
import Derived.Lib.ConvBytes
import Derived.Lib.BufferOld
import Derived.Lib.BufferWrite
namespace Go.Proofs.YtlohgoedlkkicaaDoor
open Go.Shelf Go.RowKit Go.Sort Go.Lib

set_option maxHeartbeats 8000000 in
set_option maxRecDepth 100000 in
theorem format_col (B b : Nat) (l : List UInt8) (f : ByteArray) (line col : Nat) (w : World) (hb : Buf B b l w) (hB : B ≤ w.heap.size) (hl : line < 18446744073709551616) (htab : ∀ w', RowKit.Below B w w' → Pow10 w') (hf : f.size ≤ 2147483647) (hbs : l.length ≤ 17179869184) (hc0 : 0 < col) (hc255 : col < 255) :
    Calls Tryd.prog 52 #[.iface 81 (.pointer (some ⟨b, 0, none⟩)), .string f, .int .u64 line, .int .u64 col, .bool true] w fun e w' => e = .returned (.tuple #[]) ∧ Buf B b (l ++ f.data.toList ++ [58] ++ Lib.decDigits line ++ [58] ++ Lib.decDigits col) w' ∧ RowKit.Below B w w' ∧ Lib.OthersKept 5 (some b) w w' := by
  have c1 := conv_str f w
  have mw := method_write ⟨b, 0, none⟩
  have hfl : f.data.toList.length = f.size := by rw [Array.length_toList]; rfl
  have w1f : (Lib.byteCells f.data.toList).length = f.size := by rw [Lib.byteCells_length, hfl]
  have hbl := hb.lt
  go_enter Tryd.func52, Tryd.ntmps52
  go_wp2_with fail
  refine (Tryd.Buffer_Write_any B b (Lib.byteCells l) (Lib.byteCells f.data.toList) ⟨w.heap.size, 0, none⟩ f.size _ _ (hb.old (below_bytes w _ f)) (Nat.le_trans hB (below_bytes w _ f).size) (Lib.byteCells_one l) w1f (by show w.heap.size ≠ b; omega) (src_str f w) (Lib.byteCells_one _) (by rw [Lib.byteCells_length]; omega)).mono ?_
  rintro e w1 ⟨rfl, hb1, hbl1, hok1⟩
  rw [cells_app] at hb1
  have HB1 := Lib.hid hb1
  have HK1 := Lib.hid (((OthersKept.refl 5 (some b) w).below (below_bytes w _ f)).trans hok1)
  have hlt1 := hb1.lt
  have c2 := conv_one w1 58
  have hsz1 : B ≤ w1.heap.size := Nat.le_trans hB (Nat.le_trans (below_bytes w _ f).size hbl1.size)
  clear hb1 c1
  go_wp2_with fail
  refine (Tryd.Buffer_Write_any B b (Lib.byteCells (l ++ f.data.toList)) (Lib.byteCells [58]) ⟨w1.heap.size, 0, none⟩ 1 _ _ (HB1.out.old (below_marked w1 58)) (Nat.le_trans hsz1 (below_marked w1 58).size) (Lib.byteCells_one _) rfl (by show w1.heap.size ≠ b; omega) (marked_cell w1 58) (Lib.byteCells_one _) (by rw [Lib.byteCells_length, List.length_append, hfl]; omega)).mono ?_
  rintro e w2 ⟨rfl, hb2, hbl2, hok2⟩
  rw [cells_app] at hb2
  have HB2 := Lib.hid hb2
  have HK2 := Lib.hid ((HK1.out.below (below_marked w1 58)).trans hok2)
  have hlt2 := hb2.lt
  have hsz2 : B ≤ w2.heap.size := Nat.le_trans hsz1 (Nat.le_trans (below_marked w1 58).size hbl2.size)
  have hbw2 : RowKit.Below B w w2 := (((below_bytes w _ f).mono hB).trans hbl1).trans (((below_marked w1 58).mono hsz1).trans hbl2)
  have hpow : Hid (Pow10 w2.drew) := Lib.hid (htab _ ⟨hbw2.os, hbw2.tape, hbw2.output, hbw2.size, hbw2.block⟩)
  have HBW2 : Hid (RowKit.Below B w w2.drew) := Lib.hid ⟨hbw2.os, hbw2.tape, hbw2.output, hbw2.size, hbw2.block⟩
  clear hbw2 hbl1 hbl2 hok1 hok2
  have nw := nil_write ⟨b, 0, none⟩
  clear hb2 c2
  go_wp2_with fail
  go_region_with
    (first
      | (go_at_call 54
         refine (FormatUint_any line hl _ hpow.out).mono ?_
         rintro e w3 ⟨rfl, hb3⟩
         have HB3 := Lib.hid (HB2.out.drew.old hb3)
         have hsz3 : B ≤ w3.heap.size := Nat.le_trans hsz2 hb3.size
         have hlt3 : b < w3.heap.size := Nat.lt_of_lt_of_le hlt2 hb3.size
         have c3 := conv_str ⟨(Lib.decDigits line).toArray⟩ w3)
      | (go_at_call 85
         refine (Tryd.Buffer_Write_any B b (Lib.byteCells (l ++ f.data.toList ++ [58])) (Lib.byteCells (Lib.decDigits line)) ⟨w3.heap.size, 0, none⟩ (Lib.decDigits line).length _ _ (HB3.out.old (below_bytes w3 _ _)) (Nat.le_trans hsz3 (below_bytes w3 _ _).size) (Lib.byteCells_one _) (Lib.byteCells_length _) (by show w3.heap.size ≠ b; omega) (src_str ⟨(Lib.decDigits line).toArray⟩ w3) (Lib.byteCells_one _) (by rw [Lib.byteCells_length, List.length_append, List.length_append, hfl, Lib.decDigits_length]; have := decS_small hl; rw [decS_size] at this; simp only [List.length_cons, List.length_nil]; omega)).mono ?_
         rintro e w4 ⟨rfl, hb4, hbl4, hok4⟩
         rw [cells_app] at hb4
         have HB4 := Lib.hid hb4
         have HK4 := Lib.hid (((HK2.out.drew.below hb3).below (below_bytes w3 5 ⟨(Lib.decDigits line).toArray⟩)).trans hok4)
         have HBW4 : Hid (RowKit.Below B w w4) := Lib.hid (HBW2.out.trans ((hb3.mono hsz2).trans (((below_bytes w3 5 ⟨(Lib.decDigits line).toArray⟩).mono hsz3).trans hbl4)))
         clear hb4 hbl4 hok4 c3)
      | fail)
  all_goals
    have hc1 : decide ((0 : Int) < (col : Int)) = true := decide_eq_true (by omega)
    have hc2 : decide ((col : Int) < 255) = true := decide_eq_true (by omega)
    have hlt4 := HB4.out.lt
    have hsz4 : B ≤ w4.heap.size := Nat.le_trans hB HBW4.out.size
    have c5 := conv_one w4 58
    have hd4 := decS_small hl
    rw [decS_size] at hd4
    go_wp2_with fail
    refine (Tryd.Buffer_Write_any B b (Lib.byteCells (l ++ f.data.toList ++ [58] ++ Lib.decDigits line)) (Lib.byteCells [58]) ⟨w4.heap.size, 0, none⟩ 1 _ _ (HB4.out.old (below_marked w4 58)) (Nat.le_trans hsz4 (below_marked w4 58).size) (Lib.byteCells_one _) rfl (by show w4.heap.size ≠ b; omega) (marked_cell w4 58) (Lib.byteCells_one _) (by rw [Lib.byteCells_length, List.length_append, List.length_append, List.length_append, hfl, Lib.decDigits_length]; simp only [List.length_cons, List.length_nil]; omega)).mono ?_
    rintro e w5 ⟨rfl, hb5, hbl5, hok5⟩
    rw [cells_app] at hb5
    have HB5 := Lib.hid hb5
    have HK5 := Lib.hid ((HK4.out.below (below_marked w4 58)).trans hok5)
    have hlt5 := hb5.lt
    have hsz5 : B ≤ w5.heap.size := Nat.le_trans hsz4 (Nat.le_trans (below_marked w4 58).size hbl5.size)
    have hbw5 : RowKit.Below B w w5 := HBW4.out.trans (((below_marked w4 58).mono hsz4).trans hbl5)
    have hpow5 : Hid (Pow10 w5.drew) := Lib.hid (htab _ ⟨hbw5.os, hbw5.tape, hbw5.output, hbw5.size, hbw5.block⟩)
    have HBW5 : Hid (RowKit.Below B w w5.drew) := Lib.hid ⟨hbw5.os, hbw5.tape, hbw5.output, hbw5.size, hbw5.block⟩
    clear hbw5 hbl5 hok5 hb5 c5
    have hcu : col < 18446744073709551616 := by omega
    have hd5 := decS_small hcu
    rw [decS_size] at hd5
    go_wp2_with fail
    go_region_with
      (first
        | (go_at_call 54
           refine (FormatUint_any col hcu _ hpow5.out).mono ?_
           rintro e w6 ⟨rfl, hb6⟩
           have HB6 := Lib.hid (HB5.out.drew.old hb6)
           have hsz6 : B ≤ w6.heap.size := Nat.le_trans hsz5 hb6.size
           have hlt6 : b < w6.heap.size := Nat.lt_of_lt_of_le hlt5 hb6.size
           have c6 := conv_str ⟨(Lib.decDigits col).toArray⟩ w6)
        | (go_at_call 85
           refine (Tryd.Buffer_Write_any B b (Lib.byteCells (l ++ f.data.toList ++ [58] ++ Lib.decDigits line ++ [58])) (Lib.byteCells (Lib.decDigits col)) ⟨w6.heap.size, 0, none⟩ (Lib.decDigits col).length _ _ (HB6.out.old (below_bytes w6 _ _)) (Nat.le_trans hsz6 (below_bytes w6 _ _).size) (Lib.byteCells_one _) (Lib.byteCells_length _) (by show w6.heap.size ≠ b; omega) (src_str ⟨(Lib.decDigits col).toArray⟩ w6) (Lib.byteCells_one _) (by rw [Lib.byteCells_length, List.length_append, List.length_append, List.length_append, List.length_append, hfl, Lib.decDigits_length, Lib.decDigits_length]; simp only [List.length_cons, List.length_nil]; omega)).mono ?_
           rintro e w7 ⟨rfl, hb7, hbl7, hok7⟩
           rw [cells_app] at hb7
           have HB7 := Lib.hid hb7
           have HK7 := Lib.hid (((HK5.out.drew.below hb6).below (below_bytes w6 5 ⟨(Lib.decDigits col).toArray⟩)).trans hok7)
           have HBW7 : Hid (RowKit.Below B w w7) := Lib.hid (HBW5.out.trans ((hb6.mono hsz5).trans (((below_bytes w6 5 ⟨(Lib.decDigits col).toArray⟩).mono hsz6).trans hbl7)))
           clear hb7 hbl7 hok7 c6)
        | fail)
    all_goals
      go_wp2
      (try simp only [Exit.inBlock, Exit.then])
      refine bodyPost_end (results_none rfl _ _ _) rfl ?_
      exact ⟨rfl, HB7.out, HBW7.out, HK7.out⟩
end Go.Proofs.YtlohgoedlkkicaaDoor
