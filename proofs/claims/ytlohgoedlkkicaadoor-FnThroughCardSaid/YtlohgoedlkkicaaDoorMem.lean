/- Plain words for what the arguments are and how they lie in memory: positions, bases, slices of them. -/
import Derived.Below
import Derived.Lib.Hide
import Derived.OwnWalk
import Derived.Laws.OwnMore
import Derived.Laws.Rows
import Derived.Deep.Draws
namespace Go.Proofs.YtlohgoedlkkicaaDoor
open Go.RowKit

structure PosD where
  base : Int
  line : Int
  col : Int
structure BaseD where
  file : ByteArray
  abs : ByteArray
  pos : PosD
  line : Int
  col : Int

/-- A position's cells from an address on. -/
structure PosAt (w : World) (b o : Nat) (x : PosD) : Prop where
  c0 : w.cell? ⟨b, o, none⟩ = some (.int .i64 x.base)
  c1 : w.cell? ⟨b, o + 1, none⟩ = some (.int .u64 x.line)
  c2 : w.cell? ⟨b, o + 2, none⟩ = some (.int .u64 x.col)
/-- A base's cells from an address on. -/
structure BaseAt (w : World) (b o : Nat) (x : BaseD) : Prop where
  c0 : w.cell? ⟨b, o, none⟩ = some (.string x.file)
  c1 : w.cell? ⟨b, o + 1, none⟩ = some (.string x.abs)
  c2 : w.cell? ⟨b, o + 2, none⟩ = some (.int .i64 x.pos.base)
  c3 : w.cell? ⟨b, o + 3, none⟩ = some (.int .u64 x.pos.line)
  c4 : w.cell? ⟨b, o + 4, none⟩ = some (.int .u64 x.pos.col)
  c5 : w.cell? ⟨b, o + 5, none⟩ = some (.int .u64 x.line)
  c6 : w.cell? ⟨b, o + 6, none⟩ = some (.int .u64 x.col)
/-- What a position's numbers are as Go has them. -/
structure PosIn (x : PosD) : Prop where
  b0 : -9223372036854775808 ≤ x.base
  b1 : x.base ≤ 9223372036854775807
  l0 : 0 ≤ x.line
  l1 : x.line ≤ 18446744073709551615
  c0 : 0 ≤ x.col
  c1 : x.col ≤ 18446744073709551615
structure BaseIn (x : BaseD) : Prop where
  p : PosIn x.pos
  l0 : 0 ≤ x.line
  l1 : x.line ≤ 18446744073709551615
  c0 : 0 ≤ x.col
  c1 : x.col ≤ 18446744073709551615
  f : x.file.size ≤ 9223372036854775807
  a : x.abs.size ≤ 9223372036854775807

/-- A slice of bases. -/
structure Bases (w : World) (A : Option Addr) (n c : Nat) (bs : List BaseD) : Prop where
  len : bs.length = n
  cap : n ≤ c
  big : c ≤ 9223372036854775807
  lies : 0 < n → ∃ b o, A = some ⟨b, o, none⟩ ∧ ∀ (i : Nat) (x : BaseD), bs[i]? = some x → BaseAt w b (o + i * 7) x
  good : ∀ (i : Nat) (x : BaseD), bs[i]? = some x → BaseIn x
/-- A slice of positions. -/
structure Poss (w : World) (A : Option Addr) (n : Nat) (ps : List PosD) : Prop where
  len : ps.length = n
  big : n ≤ 9223372036854775807
  lies : 0 < n → ∃ b o, A = some ⟨b, o, none⟩ ∧ ∀ (i : Nat) (x : PosD), ps[i]? = some x → PosAt w b (o + i * 3) x
  good : ∀ (i : Nat) (x : PosD), ps[i]? = some x → PosIn x

theorem cell_keep {w w' : World} (h : Below w.heap.size w w') {a : Addr} {v : Value} (hc : w.cell? a = some v) : w'.cell? a = some v :=
  (h.cell (World.block_lt_of_cell? _ _ hc)).trans hc
theorem PosAt.keep {w w' : World} {b o : Nat} {x : PosD} (h : PosAt w b o x) (hb : Below w.heap.size w w') : PosAt w' b o x :=
  ⟨cell_keep hb h.c0, cell_keep hb h.c1, cell_keep hb h.c2⟩
theorem BaseAt.keep {w w' : World} {b o : Nat} {x : BaseD} (h : BaseAt w b o x) (hb : Below w.heap.size w w') : BaseAt w' b o x :=
  ⟨cell_keep hb h.c0, cell_keep hb h.c1, cell_keep hb h.c2, cell_keep hb h.c3, cell_keep hb h.c4, cell_keep hb h.c5, cell_keep hb h.c6⟩
theorem Bases.keep {w w' : World} {A : Option Addr} {n c : Nat} {bs : List BaseD} (h : Bases w A n c bs) (hb : Below w.heap.size w w') : Bases w' A n c bs :=
  ⟨h.len, h.cap, h.big, fun hn => by
    obtain ⟨b, o, e, hx⟩ := h.lies hn
    exact ⟨b, o, e, fun i x hi => (hx i x hi).keep hb⟩, h.good⟩
theorem Poss.keep {w w' : World} {A : Option Addr} {n : Nat} {ps : List PosD} (h : Poss w A n ps) (hb : Below w.heap.size w w') : Poss w' A n ps :=
  ⟨h.len, h.big, fun hn => by
    obtain ⟨b, o, e, hx⟩ := h.lies hn
    exact ⟨b, o, e, fun i x hi => (hx i x hi).keep hb⟩, h.good⟩
/-- The first elements of a slice of bases: 'bases[:i]'. -/
theorem Bases.take {w : World} {A : Option Addr} {n c : Nat} {bs : List BaseD} (h : Bases w A n c bs) (i : Nat) (hi : i ≤ n) : Bases w A i c (bs.take i) := by
  have hl := h.len
  have hc := h.cap
  refine ⟨by rw [List.length_take]; omega, by omega, h.big, fun h0 => ?_, fun j x hj => ?_⟩
  · obtain ⟨b, o, e, hx⟩ := h.lies (by omega)
    refine ⟨b, o, e, fun j x hj => hx j x ?_⟩
    rw [List.getElem?_take] at hj
    split at hj
    · exact hj
    · cases hj
  · refine h.good j x ?_
    rw [List.getElem?_take] at hj
    split at hj
    · exact hj
    · cases hj

/-- A position as a value. -/
abbrev PosD.val (x : PosD) : Value := .agg #[.int .i64 x.base, .int .u64 x.line, .int .u64 x.col]

theorem below_trans {a b c : World} (h : Below a.heap.size a b) (k : Below b.heap.size b c) : Below a.heap.size a c := h.trans (k.mono h.size)
/-- Behind one new block and a call that left all that was there alone. -/
theorem below_call {w wr w1 : World} {o : Obj} (hb : Below w.heap.size w wr) (h1 : Below (wr.alloc o).heap.size (wr.alloc o) w1) : Below w.heap.size w w1 :=
  (hb.alloc hb.size o).trans (h1.mono (by have := hb.size; rw [World.size_alloc]; omega))
theorem below_new (w : World) (o : Obj) : Below w.heap.size w (w.alloc o) := (Below.refl _ _).alloc (Nat.le_refl _) o
/-- A call or a region that left all that was there alone, behind what happened before. -/
theorem below_then {B : Nat} {w wr w1 : World} (hb : Below B w wr) (hB : B ≤ wr.heap.size) (h1 : Below wr.heap.size wr w1) : Below B w w1 := hb.trans (h1.mono hB)
/-- A block that is known whole. -/
def Blk (w : World) (g : Nat) (t : TypeId) (cs : Array Value) : Prop := w.heap[g]? = some (.cells cs t (0, 0))

section
variable {w w' : World} {g : Nat} {t : TypeId} {cs : Array Value}
theorem Blk.lt (h : Blk w g t cs) : g < w.heap.size := by
  rcases Nat.lt_or_ge g w.heap.size with hlt | hge
  · exact hlt
  · unfold Blk at h; rw [Array.getElem?_eq_none hge] at h; cases h
theorem Blk.cell (h : Blk w g t cs) (i : Nat) : w.cell? ⟨g, i, none⟩ = cs[i]? := cell_of_row w g i cs t (0, 0) h
theorem Blk.frozen (h : Blk w g t cs) (i : Nat) : w.frozen? ⟨g, i, none⟩ = false := by
  unfold Blk at h
  simp [World.frozen?, h]
theorem Blk.new (w : World) (t : TypeId) (cs : Array Value) : Blk (w.alloc (.cells cs t)) w.heap.size t cs := heap_alloc_new w _
theorem Blk.drew (h : Blk w g t cs) : Blk w.drew g t cs := h
theorem Blk.drewN (h : Blk w g t cs) (n : Nat) : Blk (w.drewN n) g t cs := h
theorem Blk.alloc (h : Blk w g t cs) (o : Obj) : Blk (w.alloc o) g t cs := (Below.heap_alloc w o g h.lt).trans h
theorem Blk.set_ (h : Blk w g t cs) (i : Nat) (u : Value) : Blk (w.setCell ⟨g, i, none⟩ u) g t (cs.setIfInBounds i u) := by
  unfold Blk at h ⊢
  simp [World.setCell, Array.getElem?_modify, h]
theorem Blk.far (h : Blk w g t cs) {p : Addr} (hp : g ≠ p.block) (u : Value) : Blk (w.setCell p u) g t cs := (Below.heap_setCell w p u g hp).trans h
theorem Blk.below {B : Nat} (h : Blk w g t cs) (hb : Below B w w') (hg : g < B) : Blk w' g t cs := (hb.block g hg).trans h
theorem Blk.keep (h : Blk w g t cs) (hb : Below w.heap.size w w') : Blk w' g t cs := (hb.block g h.lt).trans h
theorem Blk.grown {row : Option Nat} (h : Blk w g t cs) (hb : w.grownBy w' row) (hg : some g ≠ row) : Blk w' g t cs := (hb.block g h.lt hg).trans h
theorem Blk.ne_ {g' : Nat} {t' : TypeId} {cs' : Array Value} (h : Blk w g t cs) (h' : Blk w g' t' cs') (hne : t ≠ t') : g ≠ g' := by
  rintro rfl
  unfold Blk at h h'
  rw [h] at h'
  injection h' with h'
  injection h' with _ ht
  exact hne ht
theorem own_blk_ne {base : Nat} {e : TypeId} {size n : Nat} {v : Value} {xs : List Value} (h : w.ownsRow base e size v n xs) (hg : Blk w g t cs) (hne : e ≠ t) : v.ownBlock ≠ some g := by
  rcases h.2 with ⟨rfl, _⟩ | ⟨g', cap, cur, rfl, _, hh, _⟩
  · simp [Value.ownBlock]
  · intro he
    have : g' = g := by simpa [Value.ownBlock] using he
    subst this
    exact Blk.ne_ (t := e) hh hg hne rfl
end
/-- A store into a block that is newer than B. -/
theorem below_set {B : Nat} {w wr : World} (hb : Below B w wr) {p : Addr} (hp : B ≤ p.block) (u : Value) : Below B w (wr.setCell p u) := hb.setCell hp u
end Go.Proofs.YtlohgoedlkkicaaDoor
