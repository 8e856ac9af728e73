/- The walk of format: a name, a line, a column written into a buffer. -/
import Derived.Test.YtlohgoedlkkicaaDoorDecimal
import Derived.Test.YtlohgoedlkkicaaDoorBuilt
import Derived.Deep.RegionHeld3
import Derived.Lib.ConvBytes
import Derived.Lib.BufferOld
import Derived.Lib.BufferWrite
import Derived.Lib.BufferKept
namespace Go.Proofs.YtlohgoedlkkicaaDoor
open Go.Shelf Go.RowKit Go.Sort Go.Lib

theorem nil_write (a : Addr) (w : World) : (nilAhead 240 81 (.pointer (some a)) "Write").run Tryd.prog w = .ok (some false) w := by kernel_rfl
theorem method_write (a : Addr) (w : World) : (method 240 81 (.pointer (some a)) "Write").run Tryd.prog w = .ok (85, .pointer (some a)) w := by kernel_rfl
theorem conv_str (s : ByteArray) (w : World) : (convert 9 54 (.string s)).run Tryd.prog w = .ok (.slice (some ⟨w.heap.size, 0, none⟩) s.size (grownCap w s.size 0 5)) (Lib.bytesWorld w 5 s) :=
  Lib.run_convert_string_bytes w 9 54 5 s Tryd.underlying9 Tryd.underlying54 Tryd.underlying5
theorem below_bytes (w : World) (e : TypeId) (s : ByteArray) : RowKit.Below w.heap.size w (Lib.bytesWorld w e s) :=
  ⟨rfl, rfl, rfl, by rw [Lib.bytesWorld_size]; omega, fun k hk => Lib.bytesWorld_at_old w e s k hk⟩

abbrev Buf (B b : Nat) (l : List UInt8) (w : World) : Prop := Lib.IsBuffer 85 5 B b (Lib.byteCells l) w
theorem src_str (s : ByteArray) (w : World) : ∀ j v, (Lib.byteCells s.data.toList)[j]? = some v → (Lib.bytesWorld w 5 s).cell? ((⟨w.heap.size, 0, none⟩ : Addr).add j) = some v := fun j v hv => by
  have hl : j < s.data.toList.length := by
    have := (List.getElem?_eq_some_iff.1 hv).1
    rwa [Lib.byteCells_length] at this
  have hj : j < s.size := by rwa [Array.length_toList] at hl
  rw [Lib.add_plain, Nat.zero_add, Lib.bytesWorld_cell w _ s j hj, ← hv]
  unfold Lib.byteCells
  rw [List.getElem?_map, List.getElem?_eq_getElem hl]
  simp only [Option.map_some, List.getD, List.getElem?_eq_getElem hl, Option.getD_some]
/-- '[]byte' of a constant of one byte: the row is marked as a conversion's. -/
def markedOne (w : World) (c : Int) : World := (w.alloc (.cells #[.int .u8 c] 5)).freeze ⟨w.heap.size, 1, none⟩ 1
theorem conv_one (w : World) (c : Int) : (convert 54 54 (.slice (some ⟨w.heap.size, 0, none⟩) 1 1)).run Tryd.prog (w.alloc (.cells #[.int .u8 c] 5)) = .ok (.slice (some ⟨w.heap.size, 0, none⟩) 1 1) (markedOne w c) := by
  have hsh : (w.alloc (.cells #[.int .u8 c] 5)).shape? w.heap.size = some (5, 1) := by
    simp [World.shape?, World.alloc, -World.alloc_eq]
  simp [convert, run_underlying Tryd.underlying54, run_underlying Tryd.underlying5, markStringish, hsh, markedOne, Result.andThen]
theorem cells_app (l m : List UInt8) : Lib.byteCells l ++ Lib.byteCells m = Lib.byteCells (l ++ m) := by simp [Lib.byteCells]
theorem below_marked (w : World) (c : Int) : RowKit.Below w.heap.size w (markedOne w c) := by
  have h := below_new w (.cells #[.int .u8 c] 5)
  refine ⟨h.os, h.tape, h.output, by simp [markedOne, World.freeze], fun k hk => ?_⟩
  have hne : w.heap.size ≠ k := by omega
  rw [← h.block k hk]
  simp [markedOne, World.freeze, Array.getElem?_modify, hne]
theorem marked_cell (w : World) (x : UInt8) : ∀ j v, (Lib.byteCells [x])[j]? = some v → (markedOne w x.toNat).cell? ((⟨w.heap.size, 0, none⟩ : Addr).add j) = some v := fun j v hv => by
  have hj : j = 0 := by
    have := (List.getElem?_eq_some_iff.1 hv).1
    rw [Lib.byteCells_length] at this
    simpa using this
  subst hj
  have e : v = .int .u8 x.toNat := by simpa [Lib.byteCells] using hv.symm
  subst e
  have hh : (markedOne w x.toNat).heap[w.heap.size]? = some (.cells #[.int .u8 x.toNat] 5 (1, 2)) := by
    simp [markedOne, World.freeze, World.alloc, -World.alloc_eq]
    rw [Array.getElem_modify_self]
    simp
  rw [Lib.add_plain]
  exact cell_of_row _ _ 0 _ _ _ hh

set_option maxHeartbeats 2000000 in
set_option maxRecDepth 100000 in
theorem format_plain (B b : Nat) (l : List UInt8) (f : ByteArray) (line col : Nat) (w : World) (hb : Buf B b l w) (hB : B ≤ w.heap.size) (hl : line < 18446744073709551616) (htab : ∀ w', RowKit.Below B w w' → Pow10 w') (hf : f.size ≤ 2147483647) (hbs : l.length ≤ 17179869184) :
    Calls Tryd.prog 52 #[.iface 81 (.pointer (some ⟨b, 0, none⟩)), .string f, .int .u64 line, .int .u64 col, .bool false] w fun e w' => e = .returned (.tuple #[]) ∧ Buf B b (l ++ f.data.toList ++ [58] ++ Lib.decDigits line) w' ∧ RowKit.Below B w w' ∧ Lib.OthersKept 5 (some b) w w' := by
  have c1 := conv_str f w
  have mw := method_write ⟨b, 0, none⟩
  have hfl : f.data.toList.length = f.size := by rw [Array.length_toList]; rfl
  have w1f : (Lib.byteCells f.data.toList).length = f.size := by rw [Lib.byteCells_length, hfl]
  have hbl := hb.lt
  go_enter Tryd.func52, Tryd.ntmps52
  go_wp2_with fail
  refine (Tryd.Buffer_Write_any B b (Lib.byteCells l) (Lib.byteCells f.data.toList) ⟨w.heap.size, 0, none⟩ f.size _ _ (hb.old (below_bytes w _ f)) (Nat.le_trans hB (below_bytes w _ f).size) (Lib.byteCells_one l) w1f (by show w.heap.size ≠ b; omega) (src_str f w) (Lib.byteCells_one _) (by rw [Lib.byteCells_length]; omega)).mono ?_
  rintro e w1 ⟨rfl, hb1, hbl1, hok1⟩
  rw [cells_app] at hb1
  have HB1 := Lib.hid hb1
  have HK1 := Lib.hid (((OthersKept.refl 5 (some b) w).below (below_bytes w _ f)).trans hok1)
  have hlt1 := hb1.lt
  have c2 := conv_one w1 58
  have hsz1 : B ≤ w1.heap.size := Nat.le_trans hB (Nat.le_trans (below_bytes w _ f).size hbl1.size)
  clear hb1 c1
  go_wp2_with fail
  refine (Tryd.Buffer_Write_any B b (Lib.byteCells (l ++ f.data.toList)) (Lib.byteCells [58]) ⟨w1.heap.size, 0, none⟩ 1 _ _ (HB1.out.old (below_marked w1 58)) (Nat.le_trans hsz1 (below_marked w1 58).size) (Lib.byteCells_one _) rfl (by show w1.heap.size ≠ b; omega) (marked_cell w1 58) (Lib.byteCells_one _) (by rw [Lib.byteCells_length, List.length_append, hfl]; omega)).mono ?_
  rintro e w2 ⟨rfl, hb2, hbl2, hok2⟩
  rw [cells_app] at hb2
  have HB2 := Lib.hid hb2
  have HK2 := Lib.hid ((HK1.out.below (below_marked w1 58)).trans hok2)
  have hlt2 := hb2.lt
  have hsz2 : B ≤ w2.heap.size := Nat.le_trans hsz1 (Nat.le_trans (below_marked w1 58).size hbl2.size)
  have hbw2 : RowKit.Below B w w2 := (((below_bytes w _ f).mono hB).trans hbl1).trans (((below_marked w1 58).mono hsz1).trans hbl2)
  have hpow : Hid (Pow10 w2.drew) := Lib.hid (htab _ ⟨hbw2.os, hbw2.tape, hbw2.output, hbw2.size, hbw2.block⟩)
  have HBW2 : Hid (RowKit.Below B w w2.drew) := Lib.hid ⟨hbw2.os, hbw2.tape, hbw2.output, hbw2.size, hbw2.block⟩
  clear hbw2 hbl1 hbl2 hok1 hok2
  have nw := nil_write ⟨b, 0, none⟩
  clear hb2 c2
  go_wp2_with fail
  go_region_with
    (first
      | (go_at_call 54
         refine (FormatUint_any line hl _ hpow.out).mono ?_
         rintro e w3 ⟨rfl, hb3⟩
         have HB3 := Lib.hid (HB2.out.drew.old hb3)
         have hsz3 : B ≤ w3.heap.size := Nat.le_trans hsz2 hb3.size
         have hlt3 : b < w3.heap.size := Nat.lt_of_lt_of_le hlt2 hb3.size
         have c3 := conv_str ⟨(Lib.decDigits line).toArray⟩ w3)
      | (go_at_call 85
         refine (Tryd.Buffer_Write_any B b (Lib.byteCells (l ++ f.data.toList ++ [58])) (Lib.byteCells (Lib.decDigits line)) ⟨w3.heap.size, 0, none⟩ (Lib.decDigits line).length _ _ (HB3.out.old (below_bytes w3 _ _)) (Nat.le_trans hsz3 (below_bytes w3 _ _).size) (Lib.byteCells_one _) (Lib.byteCells_length _) (by show w3.heap.size ≠ b; omega) (src_str ⟨(Lib.decDigits line).toArray⟩ w3) (Lib.byteCells_one _) (by rw [Lib.byteCells_length, List.length_append, List.length_append, hfl, Lib.decDigits_length]; have := decS_small hl; rw [decS_size] at this; simp only [List.length_cons, List.length_nil]; omega)).mono ?_
         rintro e w4 ⟨rfl, hb4, hbl4, hok4⟩
         rw [cells_app] at hb4
         have HB4 := Lib.hid hb4
         have HK4 := Lib.hid (((HK2.out.drew.below hb3).below (below_bytes w3 5 ⟨(Lib.decDigits line).toArray⟩)).trans hok4)
         have HBW4 : Hid (RowKit.Below B w w4) := Lib.hid (HBW2.out.trans ((hb3.mono hsz2).trans (((below_bytes w3 5 ⟨(Lib.decDigits line).toArray⟩).mono hsz3).trans hbl4)))
         clear hb4 hbl4 hok4 c3)
      | fail)
  all_goals
    go_wp2
    (try simp only [Exit.inBlock, Exit.then])
    refine bodyPost_end (results_none rfl _ _ _) rfl ?_
    exact ⟨rfl, HB4.out, HBW4.out, HK4.out⟩
end Go.Proofs.YtlohgoedlkkicaaDoor
