/- The walks of the functions that make positions and bases. -/
import Derived.Test.YtlohgoedlkkicaaDoorMem
import Derived.Test.YtlohgoedlkkicaaDoorWordWalks
import Derived.StillTailTactics
import Derived.Outline
namespace Go.Proofs.YtlohgoedlkkicaaDoor
open Go.RowKit Go.Proofs.YtlohgoedlkkicaaDoor.Bits

set_option maxHeartbeats 1000000 in
theorem MakePos_any (P : Option Addr) (l c r : Int) (w : World) (h0 : 0 ≤ l) (h2 : 0 ≤ c) (h4 : c < 18446744073709551616) (hr : wordOf l c = r) :
    Calls Tryd.prog 35 #[.pointer P, .int .u64 l, .int .u64 c] w fun e w' => e = .returned (.agg #[.pointer P, .int .u32 r]) ∧ Below w.heap.size w w' := by
  have HR := Lib.hid hr
  clear hr
  go_enter Tryd.func35, Tryd.ntmps35
  go_wp2_with fail
  refine (makeLico_any l c r _ h0 h2 h4 HR.out).mono ?_
  rintro e w' ⟨rfl, rfl⟩
  go_wp2_with fail
  exact bodyPost_ret (v := .agg #[.pointer P, .int .u32 r]) (by simp [results, Tryd.results35, go_sem]) rfl ⟨rfl, below_new _ _⟩

/-- The cells of a file's base. -/
def fileCells (g : Nat) (f a : ByteArray) : Array Value := #[.pointer (some ⟨g, 0, none⟩), .int .u32 4112, .string f, .string a, .int .u64 1, .int .u64 1, .int .i64 (-1), .int .i64 (-1)]
/-- The cells of a directive's base. -/
def lineCells (P : Value) (r : Int) (f a : ByteArray) (l c : Int) : Array Value := #[P, .int .u32 r, .string f, .string a, .int .u64 l, .int .u64 c, .int .i64 (-1), .int .i64 (-1)]

set_option maxHeartbeats 1000000 in
theorem NewFileBase_any (f a : ByteArray) (w : World) :
    Calls Tryd.prog 36 #[.string f, .string a] w fun e w' => e = .returned (.pointer (some ⟨w.heap.size, 0, none⟩)) ∧ Below w.heap.size w w' ∧ Blk w' w.heap.size 89 (fileCells w.heap.size f a) ∧ w.heap.size < w'.heap.size := by
  go_enter Tryd.func36, Tryd.ntmps36
  go_wp2_with fail
  refine (MakePos_any _ 1 1 4112 _ (by decide) (by decide) (by decide) (by decide)).mono ?_
  rintro e w1 ⟨rfl, hb⟩
  have hB := (Blk.new w _ _).keep hb
  have c0 := hB.cell 0
  have c1 := hB.cell 1
  have z0 := hB.frozen 0
  have z1 := hB.frozen 1
  simp only [List.getElem?_toArray, List.getElem?_cons_zero, List.getElem?_cons_succ] at c0 c1
  have hs := hB.lt
  have HB := Lib.hid (((below_new w _).trans (hb.mono (by simp))))
  have HK := Lib.hid ((hB.set_ 0 (.pointer (some ⟨w.heap.size, 0, none⟩))).set_ 1 (.int .u32 4112))
  clear hb hB
  go_wp2
  go_ret
  refine ⟨rfl, (HB.out.setCell (Nat.le_refl _) _).setCell (Nat.le_refl _) _, HK.out, ?_⟩
  simpa using hs

set_option maxHeartbeats 1000000 in
theorem NewLine_any (P : Option Addr) (r : Int) (f a : ByteArray) (l c : Int) (w : World) :
    Calls Tryd.prog 37 #[.agg #[.pointer P, .int .u32 r], .string f, .string a, .int .u64 l, .int .u64 c] w fun e w' => e = .returned (.pointer (some ⟨w.heap.size + 1, 0, none⟩)) ∧ Below w.heap.size w w' ∧ Blk w' (w.heap.size + 1) 89 (lineCells (.pointer P) r f a l c) := by
  go_enter Tryd.func37, Tryd.ntmps37
  go_wp2
  go_ret
  refine ⟨rfl, (below_new _ _).trans ((below_new _ _).mono (by simp)), ?_⟩
  have := Blk.new (w.alloc (.cells #[.pointer P, .int .u32 r] 50)) 89 (lineCells (.pointer P) r f a l c)
  rwa [World.size_alloc] at this
end Go.Proofs.YtlohgoedlkkicaaDoor
