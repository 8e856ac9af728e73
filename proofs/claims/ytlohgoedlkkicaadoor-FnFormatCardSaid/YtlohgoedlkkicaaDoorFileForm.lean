/- What a position of a file without directives tells. -/
import Derived.Test.YtlohgoedlkkicaaDoorForm
namespace Go.Proofs.YtlohgoedlkkicaaDoor
open Go.RowKit Go.Proofs.YtlohgoedlkkicaaDoor.Bits

theorem bases_1 {W : World} {g : Nat} {x : BaseD} (hk : Blk W g 29 #[.string x.file, .string x.abs, .int .i64 x.pos.base, .int .u64 x.pos.line, .int .u64 x.pos.col, .int .u64 x.line, .int .u64 x.col]) (h1 : BaseIn x) : Bases W (some ⟨g, 0, none⟩) 1 1 [x] := by
  refine ⟨rfl, Nat.le_refl _, by decide, fun _ => ⟨g, 0, rfl, fun i y hy => ?_⟩, fun i y hy => ?_⟩
  · match i, hy with
    | 0, hy => cases hy; exact ⟨hk.cell 0, hk.cell 1, hk.cell 2, hk.cell 3, hk.cell 4, hk.cell 5, hk.cell 6⟩
  · match i, hy with
    | 0, hy => cases hy; exact h1
/-- The base of a file. -/
abbrev fileD (f a : ByteArray) : BaseD := ⟨f, a, ⟨-1, 0, 0⟩, 0, 0⟩
theorem fileD_ok (f a : ByteArray) : ∀ (i : Nat) (x : BaseD), [fileD f a][i]? = some x → BaseOk [fileD f a] i x := fun i x hx => by
  match i, hx with
  | 0, hx => cases hx; exact Or.inl ⟨rfl, rfl, rfl, rfl, rfl⟩
theorem fileD_fits (f a : ByteArray) (hf : f.size ≤ 2147483647) (ha : a.size ≤ 2147483647) : FitsAll [fileD f a] := ⟨by simp, fun i x hx => by
  match i, hx with
  | 0, hx => cases hx; exact ⟨hf, ha⟩⟩
theorem fileD_in (f a : ByteArray) (hf : f.size ≤ 9223372036854775807) (ha : a.size ≤ 9223372036854775807) : BaseIn (fileD f a) :=
  ⟨⟨show (-9223372036854775808 : Int) ≤ -1 by decide, show (-1 : Int) ≤ 9223372036854775807 by decide, Int.le_refl 0, show (0 : Int) ≤ 18446744073709551615 by decide, Int.le_refl 0, show (0 : Int) ≤ 18446744073709551615 by decide⟩, Int.le_refl 0, show (0 : Int) ≤ 18446744073709551615 by decide, Int.le_refl 0, show (0 : Int) ≤ 18446744073709551615 by decide, hf, ha⟩
def fmtS (f : ByteArray) (u v : Nat) (sc : Bool) : ByteArray := ⟨(fmtB f u v sc).toArray⟩
/-- What a position of a file tells. -/
theorem file_form (f a : ByteArray) (u v : Nat) (h0 : 1 ≤ u) (h1 : u ≤ 1000000) (h2 : v ≤ 250) :
    tellV [fileD f a] 0 u v = .agg #[.bool true, .int .u64 u, .int .u64 v, .int .u64 u, .int .u64 v, .string f, .string f, .string a, .string (fmtS f u v false), .string (fmtS f u v true), .string (fmtS f u v false), .string (fmtS f u v true)] := by
  have hw := word_parts (q := (u : Int)) (s := (v : Int)) (by omega) (by omega) (by omega) (by omega)
  have hx : [fileD f a][(0 : Nat)]? = some (fileD f a) := rfl
  have e := posF_file (l := wordOf u v) hx (show (-1 : Int) < 0 by decide)
  have e1 : (relL 4112 1 (wordOf u v)).toNat = u := by
    unfold relL; rw [hw.1, wrap64, wrap64]; omega
  have e2 : (relC 4112 1 (wordOf u v)).toNat = v := by
    unfold relC
    rw [hw.1, hw.2.1, if_neg (by decide), wrap64, wrap64]
    split <;> omega
  rw [e1, e2] at e
  have e' : posF [fileD f a] 0 (wordOf u v) = ⟨true, u, v, f, f, a, true⟩ := e
  unfold tellV factsV posS posB
  rw [e']
  rfl

end Go.Proofs.YtlohgoedlkkicaaDoor
