/- The arguments of the laws, opened: positions, bases, slices of them, as the words of Mem have them. -/
import Derived.Test.YtlohgoedlkkicaaDoorProg
import Derived.Test.YtlohgoedlkkicaaDoorMem
import Derived.Deep.Slices
import Derived.WalkKit
import Derived.ProofKit
import Derived.OpenShut
namespace Go.Proofs.YtlohgoedlkkicaaDoor
open Go.RowKit Go.ChangeShapes Go.WideShapes Go.Deep
set_option maxRecDepth 100000

instance : Inhabited PosD := ⟨⟨0, 0, 0⟩⟩
instance : Inhabited BaseD := ⟨⟨⟨#[]⟩, ⟨#[]⟩, default, 0, 0⟩⟩
section
variable {H : Type} {enc : TypeId × Value → H} {w : World} {base : Nat} {spare : Nat → Bool} {held : Bool}

theorem open_u64 {fuel : Nat} {v : Value} {x : DataW H × List MemPlace} (h : DataW.trod enc Tryd.prog w base spare held fuel 23 [v] = some x) : ∃ n : Int, v = .int .u64 n ∧ 0 ≤ n ∧ n ≤ 18446744073709551615 := by
  obtain ⟨n, e, _, wf⟩ := DataW.trod_int Tryd.underlying23 h
  have := bounds_u64 wf
  exact ⟨n, by simpa using e, this.1, by omega⟩
theorem open_i64 {fuel : Nat} {v : Value} {x : DataW H × List MemPlace} (h : DataW.trod enc Tryd.prog w base spare held fuel 3 [v] = some x) : ∃ n : Int, v = .int .i64 n ∧ -9223372036854775808 ≤ n ∧ n ≤ 9223372036854775807 := by
  obtain ⟨n, e, _, wf⟩ := DataW.trod_int Tryd.underlying3 h
  have := bounds_i64 wf
  exact ⟨n, by simpa using e, by omega, by omega⟩
theorem open_str {fuel : Nat} {v : Value} {x : DataW H × List MemPlace} (h : DataW.trod enc Tryd.prog w base spare held fuel 9 [v] = some x) : ∃ s : ByteArray, v = .string s ∧ s.size ≤ 9223372036854775807 := by
  obtain ⟨s, e, _, hs⟩ := DataW.trod_string Tryd.underlying9 h
  exact ⟨s, by simpa using e, by unfold maxLen at hs; exact hs⟩

theorem cellsPos : Tryd.prog.cellsOf 25 = 3 := by kernel_rfl
theorem cellsBase : Tryd.prog.cellsOf 29 = 7 := by kernel_rfl

theorem open_posCells {fuel : Nat} {cs : List Value} {x : DataW H × List MemPlace} (h : DataW.trod enc Tryd.prog w base spare held fuel 25 cs = some x) :
    ∃ p : PosD, cs = [.int .i64 p.base, .int .u64 p.line, .int .u64 p.col] ∧ PosIn p := by
  obtain ⟨xs, n, _, _, hl, hxl, hf⟩ := DataW.trod_struct Tryd.underlying25 h
  rw [cellsPos] at hl
  have g0 := hf 0 _ rfl
  have g1 := hf 1 _ rfl
  have g2 := hf 2 _ rfl
  match cs, hl, xs, hxl with
  | [c0, c1, c2], _, [x0, x1, x2], _ =>
    obtain ⟨a, rfl, a0, a1⟩ := open_i64 g0
    obtain ⟨b, rfl, b0, b1⟩ := open_u64 g1
    obtain ⟨c, rfl, c0, c1⟩ := open_u64 g2
    exact ⟨⟨a, b, c⟩, rfl, ⟨a0, a1, b0, b1, c0, c1⟩⟩

theorem open_baseCells {fuel : Nat} {cs : List Value} {x : DataW H × List MemPlace} (h : DataW.trod enc Tryd.prog w base spare held fuel 29 cs = some x) :
    ∃ p : BaseD, cs = [.string p.file, .string p.abs, .int .i64 p.pos.base, .int .u64 p.pos.line, .int .u64 p.pos.col, .int .u64 p.line, .int .u64 p.col] ∧ BaseIn p := by
  obtain ⟨xs, n, _, _, hl, hxl, hf⟩ := DataW.trod_struct Tryd.underlying29 h
  rw [cellsBase] at hl
  have g0 := hf 0 _ rfl
  have g1 := hf 1 _ rfl
  have g2 := hf 2 _ rfl
  have g3 := hf 3 _ rfl
  have g4 := hf 4 _ rfl
  match cs, hl, xs, hxl with
  | [c0, c1, c2, c3, c4, c5, c6], _, [x0, x1, x2, x3, x4], _ =>
    obtain ⟨f, rfl, hf0⟩ := open_str g0
    obtain ⟨a, rfl, ha0⟩ := open_str g1
    obtain ⟨p, hp, hin⟩ := open_posCells g2
    obtain ⟨rfl, rfl, rfl⟩ : c2 = .int .i64 p.base ∧ c3 = .int .u64 p.line ∧ c4 = .int .u64 p.col := by
      have hp' : [c2, c3, c4] = [.int .i64 p.base, .int .u64 p.line, .int .u64 p.col] := hp
      simpa using hp'
    obtain ⟨l, rfl, l0, l1⟩ := open_u64 g3
    obtain ⟨c, rfl, c0, c1⟩ := open_u64 g4
    exact ⟨⟨f, a, p, l, c⟩, rfl, ⟨hin, l0, l1, c0, c1, hf0, ha0⟩⟩

/-- A position by value. -/
theorem open_pos {r : Reach} {b0 : Nat} {v : Value} {d : DataW H} {p : List MemPlace} (hv : Value.okWide Tryd.prog w r b0 25 v) (h : DataW.Trod enc Tryd.prog w base spare held 25 v d p) :
    ∃ x : PosD, v = x.val ∧ PosIn x := by
  obtain ⟨cs, rfl, _⟩ := okWide_struct Tryd.underlying25 hv
  obtain ⟨fuel, hf⟩ := h
  obtain ⟨x, hx, hin⟩ := open_posCells hf
  refine ⟨x, ?_, hin⟩
  obtain ⟨l⟩ := cs
  simp only [Value.cells] at hx
  rw [hx]

theorem addr_plain {b o i j : Nat} : ((⟨b, o, none⟩ : Addr).add i).add j = ⟨b, o + i + j, none⟩ := by
  unfold Addr.add
  by_cases hi : i = 0 <;> by_cases hj : j = 0 <;> simp [hi, hj]

/-- A slice of bases. -/
theorem open_bases {r : Reach} {b0 : Nat} {v : Value} {d : DataW H} {p : List MemPlace} (hv : Value.okWide Tryd.prog w r b0 22 v) (h : DataW.Trod enc Tryd.prog w base spare held 22 v d p) :
    ∃ (A : Option Addr) (n c : Nat) (bs : List BaseD), v = .slice A n c ∧ Bases w A n c bs := by
  obtain ⟨A, n, c, rfl⟩ := okWide_slice Tryd.underlying22 hv
  obtain ⟨fuel, hf⟩ := h
  rcases open_slice Tryd.underlying22 hf with ⟨hcs, _⟩ | ⟨a, len, cap, m, k, D, Pl, hcs, _, hlc, hcm, hmm, _, hi⟩
  · simp [Value.cells] at hcs
    obtain ⟨rfl, rfl, rfl⟩ := hcs
    exact ⟨_, _, _, [], rfl, rfl, Nat.le_refl _, by decide, fun h => absurd h (by omega), fun i x hx => by simp at hx⟩
  · simp [Value.cells] at hcs
    obtain ⟨rfl, rfl, rfl⟩ := hcs
    rw [cellsBase] at hi
    have hnm : n ≤ m := by rw [hmm]; split <;> omega
    have hex : ∀ i, i < n → ∃ x : BaseD, BaseIn x ∧ ∀ j u, [Value.string x.file, .string x.abs, .int .i64 x.pos.base, .int .u64 x.pos.line, .int .u64 x.pos.col, .int .u64 x.line, .int .u64 x.col][j]? = some u → w.cell? ((a.add (i * 7)).add j) = some u := fun i hin => by
      obtain ⟨cs', hc, ht⟩ := hi i (by omega)
      obtain ⟨x, rfl, hx⟩ := open_baseCells ht
      obtain ⟨_, hl, hat⟩ := World.cells?_some hc
      exact ⟨x, hx, fun j u hu => by rw [hat j (by rw [← hl]; exact (List.getElem?_eq_some_iff.1 hu).1)]; exact hu⟩
    obtain ⟨X, hX⟩ := choose_lt hex
    refine ⟨_, _, _, (List.range n).map X, rfl, by simp, hlc, by unfold maxLen at hcm; exact hcm, fun hn => ?_, fun i x hx => ?_⟩
    · obtain ⟨b, o, spot⟩ := a
      have hspot : spot = none := by
        have := (hX 0 hn).2 0 _ rfl
        have := World.cell?_spot this
        simpa [Addr.add] using this
      subst hspot
      refine ⟨b, o, rfl, fun i x hx => ?_⟩
      have hin : i < n := by have := (List.getElem?_eq_some_iff.1 hx).1; simpa using this
      have ex : X i = x := by simpa [hin] using hx
      subst ex
      have hc := (hX i hin).2
      exact ⟨by have := hc 0 _ rfl; rwa [addr_plain] at this, by have := hc 1 _ rfl; rwa [addr_plain] at this, by have := hc 2 _ rfl; rwa [addr_plain] at this, by have := hc 3 _ rfl; rwa [addr_plain] at this, by have := hc 4 _ rfl; rwa [addr_plain] at this, by have := hc 5 _ rfl; rwa [addr_plain] at this, by have := hc 6 _ rfl; rwa [addr_plain] at this⟩
    · have hin : i < n := by have := (List.getElem?_eq_some_iff.1 hx).1; simpa using this
      have ex : X i = x := by simpa [hin] using hx
      subst ex
      exact (hX i hin).1

/-- A slice of positions. -/
theorem open_poss {r : Reach} {b0 : Nat} {v : Value} {d : DataW H} {p : List MemPlace} (hv : Value.okWide Tryd.prog w r b0 40 v) (h : DataW.Trod enc Tryd.prog w base spare held 40 v d p) :
    ∃ (A : Option Addr) (n c : Nat) (ps : List PosD), v = .slice A n c ∧ Poss w A n ps := by
  obtain ⟨A, n, c, rfl⟩ := okWide_slice Tryd.underlying40 hv
  obtain ⟨fuel, hf⟩ := h
  rcases open_slice Tryd.underlying40 hf with ⟨hcs, _⟩ | ⟨a, len, cap, m, k, D, Pl, hcs, _, hlc, hcm, hmm, _, hi⟩
  · simp [Value.cells] at hcs
    obtain ⟨rfl, rfl, rfl⟩ := hcs
    exact ⟨_, _, _, [], rfl, rfl, by decide, fun h => absurd h (by omega), fun i x hx => by simp at hx⟩
  · simp [Value.cells] at hcs
    obtain ⟨rfl, rfl, rfl⟩ := hcs
    rw [cellsPos] at hi
    have hnm : n ≤ m := by rw [hmm]; split <;> omega
    have hex : ∀ i, i < n → ∃ x : PosD, PosIn x ∧ ∀ j u, [Value.int .i64 x.base, .int .u64 x.line, .int .u64 x.col][j]? = some u → w.cell? ((a.add (i * 3)).add j) = some u := fun i hin => by
      obtain ⟨cs', hc, ht⟩ := hi i (by omega)
      obtain ⟨x, rfl, hx⟩ := open_posCells ht
      obtain ⟨_, hl, hat⟩ := World.cells?_some hc
      exact ⟨x, hx, fun j u hu => by rw [hat j (by rw [← hl]; exact (List.getElem?_eq_some_iff.1 hu).1)]; exact hu⟩
    obtain ⟨X, hX⟩ := choose_lt hex
    refine ⟨_, _, _, (List.range n).map X, rfl, by simp, by unfold maxLen at hcm; omega, fun hn => ?_, fun i x hx => ?_⟩
    · obtain ⟨b, o, spot⟩ := a
      have hspot : spot = none := by
        have := (hX 0 hn).2 0 _ rfl
        have := World.cell?_spot this
        simpa [Addr.add] using this
      subst hspot
      refine ⟨b, o, rfl, fun i x hx => ?_⟩
      have hin : i < n := by have := (List.getElem?_eq_some_iff.1 hx).1; simpa using this
      have ex : X i = x := by simpa [hin] using hx
      subst ex
      have hc := (hX i hin).2
      exact ⟨by have := hc 0 _ rfl; rwa [addr_plain] at this, by have := hc 1 _ rfl; rwa [addr_plain] at this, by have := hc 2 _ rfl; rwa [addr_plain] at this⟩
    · have hin : i < n := by have := (List.getElem?_eq_some_iff.1 hx).1; simpa using this
      have ex : X i = x := by simpa [hin] using hx
      subst ex
      exact (hX i hin).1
end
end Go.Proofs.YtlohgoedlkkicaaDoor
