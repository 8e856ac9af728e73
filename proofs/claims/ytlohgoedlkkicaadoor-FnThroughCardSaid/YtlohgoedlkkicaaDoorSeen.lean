/- What a position over the bases in memory tells, in plain words. -/
import Derived.Test.YtlohgoedlkkicaaDoorAbs
import Derived.Test.YtlohgoedlkkicaaDoorTab
import Derived.Test.YtlohgoedlkkicaaDoorPtr
import Derived.Test.YtlohgoedlkkicaaDoorFile
namespace Go.Proofs.YtlohgoedlkkicaaDoor
open Go.RowKit Go.Proofs.YtlohgoedlkkicaaDoor.Bits

/-- What the position of base p with the word l tells. -/
def posF (bs : List BaseD) (p l : Int) : PosF :=
  if p < 0 then nilF l else match bs[p.toNat]? with
    | none => nilF l
    | some x => if x.pos.base < 0 then ⟨true, (relL 4112 1 l).toNat, (relC 4112 1 l).toNat, x.file, x.file, x.abs, true⟩
      else ⟨true, (relL (wordOf x.pos.line x.pos.col) x.line l).toNat, (relC (wordOf x.pos.line x.pos.col) x.col l).toNat, fileB bs p, x.file, x.abs, false⟩
theorem posF_none {bs : List BaseD} {p l : Int} (h : p < 0) : posF bs p l = nilF l := by unfold posF; rw [if_pos h]
theorem posF_file {bs : List BaseD} {m : Nat} {x : BaseD} {l : Int} (hx : bs[m]? = some x) (h : x.pos.base < 0) : posF bs (m : Int) l = ⟨true, (relL 4112 1 l).toNat, (relC 4112 1 l).toNat, x.file, x.file, x.abs, true⟩ := by
  unfold posF
  rw [if_neg (by omega), Int.toNat_natCast, hx]
  simp only
  rw [if_pos h]
theorem posF_line {bs : List BaseD} {m : Nat} {x : BaseD} {l : Int} (hx : bs[m]? = some x) (h : ¬ x.pos.base < 0) :
    posF bs (m : Int) l = ⟨true, (relL (wordOf x.pos.line x.pos.col) x.line l).toNat, (relC (wordOf x.pos.line x.pos.col) x.col l).toNat, fileB bs (m : Int), x.file, x.abs, false⟩ := by
  unfold posF
  rw [if_neg (by omega), Int.toNat_natCast, hx]
  simp only
  rw [if_neg h]

theorem tells_blocks {w : World} {bs : List BaseD} {gs : List Nat} (hl : gs.length = bs.length) (hnd : gs.Nodup) (hblk : ∀ (i : Nat) (x : BaseD) (g : Nat), bs[i]? = some x → gs[i]? = some g → ∃ v : Int, Blk w g 89 (fiCells gs g x v))
    (hok : ∀ (i : Nat) (x : BaseD), bs[i]? = some x → BaseOk bs i x) (p l : Int) (hp : p < bs.length) : Tells w l (ptrA gs p) (posF bs p l) := by
  by_cases h0 : p < 0
  · have e : ptrA gs p = none := by unfold ptrA; rw [if_pos h0]
    rw [e, posF_none h0]
    exact .nil
  · obtain ⟨m, rfl⟩ : ∃ m : Nat, p = m := ⟨p.toNat, by omega⟩
    obtain ⟨g, hg⟩ : ∃ g, gs[m]? = some g := ⟨gs[m]'(by omega), List.getElem?_eq_getElem _⟩
    have e : ptrA gs (m : Int) = some ⟨g, 0, none⟩ := by unfold ptrA; rw [if_neg h0, Int.toNat_natCast]; simp [List.getD, hg]
    rw [e]
    obtain ⟨x, hx⟩ : ∃ x, bs[m]? = some x := ⟨bs[m]'(by omega), List.getElem?_eq_getElem _⟩
    obtain ⟨v, hk⟩ := hblk m x g hx hg
    by_cases hb : x.pos.base < 0
    · rw [posF_file hx hb]
      unfold fiCells baseCells at hk
      rw [if_pos hb] at hk
      have hS : Seen w g g 4112 x.file x.abs x.file 1 1 := ⟨hk.cell 0, hk.cell 1, hk.cell 2, hk.cell 3, hk.cell 4, hk.cell 5, hk.cell 2, by decide, by decide, by decide, ⟨_, _, hk⟩, ⟨_, _, hk⟩⟩
      have e2 : (⟨true, (relL 4112 1 l).toNat, (relC 4112 1 l).toNat, x.file, x.file, x.abs, true⟩ : PosF) = seenF g g 4112 x.file x.abs x.file 1 1 l := by simp [seenF]
      rw [e2]
      exact .seen hS
    · obtain ⟨k, y, hkb, hkm, hy, hyb, h5, h6, h7, h8, h9⟩ : ∃ (k : Nat) (y : BaseD), x.pos.base = k ∧ k < m ∧ bs[k]? = some y ∧ y.pos.base < 0 ∧ 1 ≤ x.pos.line ∧ x.pos.line ≤ 1000000 ∧ 1 ≤ x.pos.col ∧ x.pos.col ≤ 250 ∧ 1 ≤ x.line := by
        rcases hok m x hx with ⟨h1, _⟩ | ⟨k, y, h1, h2, h3, h4, h5, h6, h7, h8, h9, _⟩
        · omega
        · exact ⟨k, y, h1, h2, h3, by omega, h5, h6, h7, h8, h9⟩
      rw [posF_line hx hb, fileB_line hx hkb hy]
      unfold fiCells baseCells at hk
      rw [if_neg hb] at hk
      obtain ⟨g2, hg2⟩ : ∃ g, gs[k]? = some g := ⟨gs[k]'(by omega), List.getElem?_eq_getElem _⟩
      obtain ⟨v2, hk2⟩ := hblk k y g2 hy hg2
      unfold fiCells baseCells at hk2
      rw [if_pos hyb] at hk2
      have e2 : ptrOf gs x.pos.base = .pointer (some ⟨g2, 0, none⟩) := by
        unfold ptrOf; rw [if_neg hb, hkb, Int.toNat_natCast]; simp [List.getD, hg2]
      rw [e2] at hk
      have hne : g ≠ g2 := fun e => by
        have := (List.getElem?_inj (by omega) hnd).1 (hg.trans (e ▸ hg2.symm))
        omega
      have hw := wordOf_in x.pos.line x.pos.col (by omega) (by omega)
      have hS : Seen w g g2 (wordOf x.pos.line x.pos.col) x.file x.abs y.file x.line x.col := ⟨hk.cell 0, hk.cell 1, hk.cell 2, hk.cell 3, hk.cell 4, hk.cell 5, hk2.cell 2, hw.1, hw.2, by omega, ⟨_, _, hk⟩, ⟨_, _, hk2⟩⟩
      have e3 : (⟨true, (relL (wordOf x.pos.line x.pos.col) x.line l).toNat, (relC (wordOf x.pos.line x.pos.col) x.col l).toNat, y.file, x.file, x.abs, false⟩ : PosF) = seenF g g2 (wordOf x.pos.line x.pos.col) x.file x.abs y.file x.line x.col l := by simp [seenF, hne]
      rw [e3]
      exact .seen hS

theorem tells_built {w0 w : World} {bs : List BaseD} {n : Nat} {v : Value} {gs : List Nat} (hB : Built w0 w bs n v gs) (hl : bs.length = n) (hok : ∀ (i : Nat) (x : BaseD), bs[i]? = some x → BaseOk bs i x) (p l : Int) (hp : p < bs.length) : Tells w l (ptrA gs p) (posF bs p l) :=
  tells_blocks (by rw [hB.len, hl]) hB.nodup (fun i x g hx hg => ⟨-1, by rw [fiCells_start]; exact hB.blk i x g hx hg⟩) hok p l hp
theorem tells_tab {w0 w : World} {bs : List BaseD} {V : Value} {gs : List Nat} {tb : Nat} {reg : List Nat} {ns : List ByteArray} (hT : Tab w0 w bs V gs tb reg ns) (hok : ∀ (i : Nat) (x : BaseD), bs[i]? = some x → BaseOk bs i x) (p l : Int) (hp : p < bs.length) : Tells w l (ptrA gs p) (posF bs p l) :=
  tells_blocks hT.len hT.nodup (fun i x g hx hg => let ⟨fi, _, hb⟩ := hT.blk; ⟨fi i, hb i x g hx hg⟩) hok p l hp

/-- The names that are told are short if those of the bases are. -/
theorem posF_small {bs : List BaseD} (hf : ∀ (i : Nat) (x : BaseD), bs[i]? = some x → x.file.size ≤ 2147483647) (hok : ∀ (i : Nat) (x : BaseD), bs[i]? = some x → BaseOk bs i x) (p l : Int) (hp : p < bs.length) : (posF bs p l).file.size ≤ 2147483647 ∧ (posF bs p l).rfile.size ≤ 2147483647 := by
  by_cases h0 : p < 0
  · rw [posF_none h0]
    exact ⟨Nat.zero_le _, Nat.zero_le _⟩
  · obtain ⟨m, rfl⟩ : ∃ m : Nat, p = m := ⟨p.toNat, by omega⟩
    obtain ⟨x, hx⟩ : ∃ x, bs[m]? = some x := ⟨bs[m]'(by omega), List.getElem?_eq_getElem _⟩
    by_cases hb : x.pos.base < 0
    · rw [posF_file hx hb]
      exact ⟨hf m x hx, hf m x hx⟩
    · rw [posF_line hx hb]
      refine ⟨?_, hf m x hx⟩
      rcases hok m x hx with ⟨h1, _⟩ | ⟨k, y, h1, h2, h3, _⟩
      · omega
      · show (fileB bs (m : Int)).size ≤ 2147483647
        rw [fileB_line hx h1 h3]
        exact hf k y h3
theorem word_parts {q s : Int} (h0 : 0 ≤ q) (h1 : q ≤ 1000000) (h2 : 0 ≤ s) (h3 : s ≤ 250) : wordOf q s / 4096 = q.toNat ∧ wordOf q s / 16 % 256 = s.toNat ∧ 0 ≤ wordOf q s ∧ wordOf q s < 4294967296 := by
  rw [wordOf_plain _ _ (by omega) (by omega)]
  omega
end Go.Proofs.YtlohgoedlkkicaaDoor
