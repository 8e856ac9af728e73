/- The walk of the method Format at whatever position. -/
import Derived.Test.YtlohgoedlkkicaaDoorWriteB
namespace Go.Proofs.YtlohgoedlkkicaaDoor
open Go.Shelf Go.RowKit Go.Sort Go.Lib Go.Proofs.YtlohgoedlkkicaaDoor.Bits

/-- What Format writes of a position. -/
def posB (x : PosF) (ln cn : Nat) (sc so : Bool) : List UInt8 :=
  if x.known = false then unkB else if x.own = true then fmtB x.file ln cn sc else fmtB x.rfile x.rline x.rcol sc ++ (if so = true then [91] ++ fmtB x.file ln cn sc ++ [93] else [])
def posS (x : PosF) (ln cn : Nat) (sc so : Bool) : ByteArray := ⟨(posB x ln cn sc so).toArray⟩

theorem writeTo_any (w0 : World) (b : Nat) (lst : List UInt8) (P : Option Addr) (x : PosF) (l : Int) (sc so : Bool) (ln cn : Nat) (w : World) (hT : Tells w0 l P x) (hf : x.file.size ≤ 2147483647) (hr : x.rfile.size ≤ 2147483647) (hp : Pow10 w0) (hbw : RowKit.Below w0.heap.size w0 w) (hB : Buf w0.heap.size b lst w)
    (a0 : 0 ≤ l) (a1 : l < 4294967296) (hln : l / 4096 = ln) (hcn : l / 16 % 256 = cn) (hbs : lst.length ≤ 1000000000) :
    Calls Tryd.prog 46 #[.agg #[.pointer P, .int .u32 l], .iface 81 (.pointer (some ⟨b, 0, none⟩)), .bool sc, .bool so] w fun e w' => e = .returned (.tuple #[]) ∧ Buf w0.heap.size b (lst ++ posB x ln cn sc so) w' ∧ RowKit.Below w0.heap.size w0 w' := by
  cases hT with
  | nil =>
    cases hk : (l / 4096 != 0) with
    | false =>
      have e : posB (nilF l) ln cn sc so = unkB := by unfold posB nilF; rw [if_pos hk]
      rw [e]
      exact write_unknown w0 b lst l sc so ln cn w hk hp hbw hB a0 a1 hln hcn hbs
    | true =>
      have e : posB (nilF l) ln cn sc so = fmtB ⟨#[]⟩ ln cn sc := by unfold posB nilF; rw [if_neg (by simp [hk]), if_pos rfl]
      rw [e]
      exact write_nil w0 b lst l sc so ln cn w hk hp hbw hB a0 a1 hln hcn hbs
  | @seen g g0 l0 f a f0 bl bc h =>
    by_cases hg : g = g0
    · subst hg
      have e : posB (seenF g g l0 f a f0 bl bc l) ln cn sc so = fmtB f0 ln cn sc := by unfold posB seenF; rw [if_neg (by simp), if_pos (by simp)]
      rw [e]
      exact write_file w0 b lst g l0 f a f0 bl bc l sc so ln cn w h hf hp hbw hB a0 a1 hln hcn hbs
    · have e : posB (seenF g g0 l0 f a f0 bl bc l) ln cn sc so = fmtB f (relL l0 bl l).toNat (relC l0 bc l).toNat sc ++ (if so = true then [91] ++ fmtB f0 ln cn sc ++ [93] else []) := by unfold posB seenF; rw [if_neg (by simp), if_neg (by simp [hg])]
      rw [e, ← List.append_assoc]
      exact write_dir w0 b lst g g0 l0 f a f0 bl bc l sc so ln cn w _ _ rfl rfl h hg hr hf hp hbw hB a0 a1 hln hcn hbs

set_option maxRecDepth 100000 in
set_option maxHeartbeats 4000000 in
theorem Format_any (P : Option Addr) (x : PosF) (l : Int) (sc so : Bool) (ln cn : Nat) (w : World) (hT : Tells w l P x) (hf : x.file.size ≤ 2147483647) (hr : x.rfile.size ≤ 2147483647) (hp : Pow10 w) (a0 : 0 ≤ l) (a1 : l < 4294967296) (hln : l / 4096 = ln) (hcn : l / 16 % 256 = cn) :
    Calls Tryd.prog 34 #[.agg #[.pointer P, .int .u32 l], .bool sc, .bool so] w fun e w' => e = .returned (.string (posS x ln cn sc so)) ∧ RowKit.Below w.heap.size w w' := by
  obtain ⟨W0, hW0⟩ : ∃ W, W = w.alloc (.cells #[.pointer P, .int .u32 l] 50) := ⟨_, rfl⟩
  obtain ⟨W, hW⟩ : ∃ W, W = W0.alloc (.cells #[.slice none 0 0, .int .i64 0, .int .i8 0] 85) := ⟨_, rfl⟩
  have hb0 : RowKit.Below w.heap.size w W0 := by rw [hW0]; exact below_new w _
  have hbW : RowKit.Below W0.heap.size W0 W := by rw [hW]; exact below_new W0 _
  have hX : Blk W w.heap.size 50 #[.pointer P, .int .u32 l] := by rw [hW, hW0]; exact (Blk.new _ _ _).alloc _
  have hB : Buf W0.heap.size (w.heap.size + 1) [] W := by
    have := fresh_isBuffer 85 5 W0
    rw [← hW] at this
    have e : W0.heap.size = w.heap.size + 1 := by rw [hW0]; simp
    rw [← e]
    exact this
  have hT0 := hT.keep hb0
  have hp0 := pow_keep hp hb0
  have x0 := hX.cell 0
  have x1 := hX.cell 1
  simp only [List.getElem?_toArray, List.getElem?_cons_zero, List.getElem?_cons_succ] at x0 x1
  have HT := Lib.hid hT0
  have HP := Lib.hid hp0
  have HB := Lib.hid hB
  have HB0 := Lib.hid hb0
  have HBW := Lib.hid hbW
  clear hT hp hT0 hp0 hB hb0 hbW hX
  go_enter Tryd.func34, Tryd.ntmps34
  go_wp2_with fail
  rw [← hW0, ← hW]
  clear hW hW0
  refine (writeTo_any W0 (w.heap.size + 1) [] P x l sc so ln cn _ HT.out hf hr HP.out HBW.out HB.out a0 a1 hln hcn (by decide)).mono ?_
  rintro e w1 ⟨rfl, hbf, hb1⟩
  rw [List.nil_append] at hbf
  have HF := Lib.hid hbf
  have HB1 := Lib.hid (below_then HB0.out HB0.out.size hb1)
  clear hbf hb1 x0 x1
  go_wp2_with fail
  refine (Tryd.Buffer_String _ _ _ _ HF.out).mono ?_
  rintro e w2 ⟨rfl, n, rfl⟩
  go_wp2
  go_ret
  exact ⟨rfl, HB1.out.trans (Go.Joins.below_draws _ w1 n)⟩
end Go.Proofs.YtlohgoedlkkicaaDoor
