/- The walk of the functions that tell a position's absolute file name; what is seen of a base in memory. -/
import Derived.Test.YtlohgoedlkkicaaDoorRel
namespace Go.Proofs.YtlohgoedlkkicaaDoor
open Go.RowKit Go.Proofs.YtlohgoedlkkicaaDoor.Bits

set_option maxHeartbeats 1000000 in
theorem BaseAbs_none (w : World) :
    Calls Tryd.prog 45 #[.pointer none] w fun e w' => e = .returned (.string ⟨#[]⟩) ∧ w = w' := by
  go_enter Tryd.func45, Tryd.ntmps45
  go_wp2
  go_ret
  exact ⟨rfl, rfl⟩
set_option maxHeartbeats 1000000 in
theorem BaseAbs_some (g : Nat) (f : ByteArray) (w : World) (h : w.cell? ⟨g, 3, none⟩ = some (.string f)) :
    Calls Tryd.prog 45 #[.pointer (some ⟨g, 0, none⟩)] w fun e w' => e = .returned (.string f) ∧ w = w' := by
  go_enter Tryd.func45, Tryd.ntmps45
  go_wp2
  go_ret
  exact ⟨rfl, rfl⟩
set_option maxHeartbeats 1000000 in
theorem Abs_none (r : Int) (w : World) :
    Calls Tryd.prog 33 #[.agg #[.pointer none, .int .u32 r]] w fun e w' => e = .returned (.string ⟨#[]⟩) ∧ Below w.heap.size w w' := by
  go_enter Tryd.func33, Tryd.ntmps33
  go_wp2_with fail
  refine (BaseAbs_none _).mono ?_
  rintro e w' ⟨rfl, rfl⟩
  go_wp2_with fail
  go_ret
  exact ⟨rfl, below_new _ _⟩
set_option maxHeartbeats 1000000 in
theorem Abs_some (g : Nat) (r : Int) (f : ByteArray) (w : World) (h : w.cell? ⟨g, 3, none⟩ = some (.string f)) :
    Calls Tryd.prog 33 #[.agg #[.pointer (some ⟨g, 0, none⟩), .int .u32 r]] w fun e w' => e = .returned (.string f) ∧ Below w.heap.size w w' := by
  have h1 := Lib.hid (cell_keep (below_new w (.cells #[.pointer (some ⟨g, 0, none⟩), .int .u32 r] 50)) h)
  clear h
  go_enter Tryd.func33, Tryd.ntmps33
  go_wp2_with fail
  refine (BaseAbs_some g f _ h1.out).mono ?_
  rintro e w' ⟨rfl, rfl⟩
  go_wp2_with fail
  go_ret
  exact ⟨rfl, below_new _ _⟩

/-- What is seen of the base in block g; g0 is the block of its position's base. -/
structure Seen (w : World) (g g0 : Nat) (l0 : Int) (f a f0 : ByteArray) (bl bc : Int) : Prop where
  c0 : w.cell? ⟨g, 0, none⟩ = some (.pointer (some ⟨g0, 0, none⟩))
  c1 : w.cell? ⟨g, 1, none⟩ = some (.int .u32 l0)
  c2 : w.cell? ⟨g, 2, none⟩ = some (.string f)
  c3 : w.cell? ⟨g, 3, none⟩ = some (.string a)
  c4 : w.cell? ⟨g, 4, none⟩ = some (.int .u64 bl)
  c5 : w.cell? ⟨g, 5, none⟩ = some (.int .u64 bc)
  n0 : w.cell? ⟨g0, 2, none⟩ = some (.string f0)
  lo : 0 ≤ l0
  hi : l0 < 4294967296
  bl0 : bl ≠ 0
  k : ∃ T cs, Blk w g T cs
  k0 : ∃ T cs, Blk w g0 T cs
theorem Seen.keep {w w' : World} {g g0 : Nat} {l0 : Int} {f a f0 : ByteArray} {bl bc : Int} (h : Seen w g g0 l0 f a f0 bl bc) (hb : Below w.heap.size w w') : Seen w' g g0 l0 f a f0 bl bc :=
  ⟨cell_keep hb h.c0, cell_keep hb h.c1, cell_keep hb h.c2, cell_keep hb h.c3, cell_keep hb h.c4, cell_keep hb h.c5, cell_keep hb h.n0, h.lo, h.hi, h.bl0, (let ⟨T, cs, e⟩ := h.k; ⟨T, cs, e.keep hb⟩), (let ⟨T, cs, e⟩ := h.k0; ⟨T, cs, e.keep hb⟩)⟩

/-- What a position tells. -/
structure PosF where
  known : Bool
  rline : Nat
  rcol : Nat
  file : ByteArray
  rfile : ByteArray
  abs : ByteArray
  own : Bool

/-- The line told behind a base. -/
def relL (l0 bl l : Int) : Int := IntKind.u64.wrap (bl + IntKind.u64.wrap (l / 4096 - l0 / 4096))
/-- The column told behind a base. -/
def relC (l0 bc l : Int) : Int := if bc = 0 then 0 else if l / 4096 = l0 / 4096 then IntKind.u64.wrap (bc + IntKind.u64.wrap (l / 16 % 256 - l0 / 16 % 256)) else l / 16 % 256
theorem wrap64 (a : Int) : IntKind.u64.wrap a = a % 18446744073709551616 := by simp [IntKind.wrap, IntKind.bits, IntKind.signed]
theorem relL_nat (l0 bl l : Int) : ((relL l0 bl l).toNat : Int) = relL l0 bl l ∧ (relL l0 bl l).toNat < 18446744073709551616 := by
  unfold relL
  rw [wrap64 (bl + _)]
  omega
theorem relC_nat (l0 bc l : Int) : ((relC l0 bc l).toNat : Int) = relC l0 bc l ∧ (relC l0 bc l).toNat < 18446744073709551616 := by
  unfold relC
  split
  · exact ⟨rfl, by decide⟩
  · split
    · rw [wrap64 (bc + _)]
      omega
    · omega
def nilF (l : Int) : PosF := ⟨l / 4096 != 0, 0, 0, ⟨#[]⟩, ⟨#[]⟩, ⟨#[]⟩, true⟩
def seenF (g g0 : Nat) (l0 : Int) (f a f0 : ByteArray) (bl bc l : Int) : PosF := ⟨true, (relL l0 bl l).toNat, (relC l0 bc l).toNat, f0, f, a, decide (g = g0)⟩

/-- What a position of a base and a word tells in memory. -/
inductive Tells (w : World) (l : Int) : Option Addr → PosF → Prop
  | nil : Tells w l none (nilF l)
  | seen {g g0 : Nat} {l0 : Int} {f a f0 : ByteArray} {bl bc : Int} (h : Seen w g g0 l0 f a f0 bl bc) : Tells w l (some ⟨g, 0, none⟩) (seenF g g0 l0 f a f0 bl bc l)
theorem Tells.keep {w w' : World} {l : Int} {P : Option Addr} {x : PosF} (h : Tells w l P x) (hb : Below w.heap.size w w') : Tells w' l P x := by
  cases h with
  | nil => exact .nil
  | seen h => exact .seen (h.keep hb)

theorem tells_known {w : World} {l : Int} {P : Option Addr} {x : PosF} (h : Tells w l P x) (a0 : 0 ≤ l) (a1 : l < 4294967296) (W : World) (_hW : Below w.heap.size w W) :
    Calls Tryd.prog 26 #[.agg #[.pointer P, .int .u32 l]] W fun e w' => e = .returned (.bool x.known) ∧ Below W.heap.size W w' := by
  refine IsKnown_any P l x.known W a0 a1 ?_
  cases h with
  | nil => rfl
  | seen h => rfl
theorem tells_rline {w : World} {l : Int} {P : Option Addr} {x : PosF} (h : Tells w l P x) (a0 : 0 ≤ l) (a1 : l < 4294967296) (W : World) (hW : Below w.heap.size w W) :
    Calls Tryd.prog 29 #[.agg #[.pointer P, .int .u32 l]] W fun e w' => e = .returned (.int .u64 x.rline) ∧ Below W.heap.size W w' := by
  cases h with
  | nil => exact RelLine_nil l W
  | seen h =>
    have h := h.keep hW
    exact RelLine_some _ l _ _ _ W h.c1 h.c4 a0 a1 h.lo h.hi h.bl0 (relL_nat _ _ _).1.symm
theorem tells_rcol {w : World} {l : Int} {P : Option Addr} {x : PosF} (h : Tells w l P x) (a0 : 0 ≤ l) (a1 : l < 4294967296) (W : World) (hW : Below w.heap.size w W) :
    Calls Tryd.prog 30 #[.agg #[.pointer P, .int .u32 l]] W fun e w' => e = .returned (.int .u64 x.rcol) ∧ Below W.heap.size W w' := by
  cases h with
  | nil => exact RelCol_nil l W
  | @seen g g0 l0 f a f0 bl bc h =>
    have h := h.keep hW
    by_cases hb : bc = 0
    · subst hb
      have e : (seenF g g0 l0 f a f0 bl 0 l).rcol = 0 := by simp [seenF, relC]
      rw [e]
      exact RelCol_zero g l W h.c5
    · by_cases hl : l / 4096 = l0 / 4096
      · exact RelCol_on g l l0 bc _ W h.c1 h.c5 a0 a1 h.lo h.hi hb hl ((by simp [relC, hb, hl] : _ = relC l0 bc l).trans (relC_nat _ _ _).1.symm)
      · exact RelCol_off g l l0 bc _ W h.c1 h.c5 a0 a1 h.lo h.hi hb hl ((by simp [relC, hb, hl] : _ = relC l0 bc l).trans (relC_nat _ _ _).1.symm)
theorem tells_file {w : World} {l : Int} {P : Option Addr} {x : PosF} (h : Tells w l P x) (W : World) (hW : Below w.heap.size w W) :
    Calls Tryd.prog 31 #[.agg #[.pointer P, .int .u32 l]] W fun e w' => e = .returned (.string x.file) ∧ Below W.heap.size W w' := by
  cases h with
  | nil => exact Name_none l W
  | seen h =>
    have h := h.keep hW
    exact Name_some _ _ l _ _ W h.c0 h.c1 h.n0
theorem tells_rfile {w : World} {l : Int} {P : Option Addr} {x : PosF} (h : Tells w l P x) (W : World) (hW : Below w.heap.size w W) :
    Calls Tryd.prog 32 #[.agg #[.pointer P, .int .u32 l]] W fun e w' => e = .returned (.string x.rfile) ∧ Below W.heap.size W w' := by
  cases h with
  | nil => exact RelName_none l W
  | seen h => exact RelName_some _ l _ W (h.keep hW).c2
theorem tells_abs {w : World} {l : Int} {P : Option Addr} {x : PosF} (h : Tells w l P x) (W : World) (hW : Below w.heap.size w W) :
    Calls Tryd.prog 33 #[.agg #[.pointer P, .int .u32 l]] W fun e w' => e = .returned (.string x.abs) ∧ Below W.heap.size W w' := by
  cases h with
  | nil => exact Abs_none l W
  | seen h => exact Abs_some _ l _ W (h.keep hW).c3
end Go.Proofs.YtlohgoedlkkicaaDoor
