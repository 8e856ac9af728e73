/- What the function build leaves in memory. -/
import Derived.Test.YtlohgoedlkkicaaDoorMake
import Derived.Test.YtlohgoedlkkicaaDoorValid
import Derived.Deep.AppendLies
namespace Go.Proofs.YtlohgoedlkkicaaDoor
open Go.RowKit Go.Proofs.YtlohgoedlkkicaaDoor.Bits

def ptrOf (gs : List Nat) (b : Int) : Value := if b < 0 then .pointer none else .pointer (some ⟨gs.getD b.toNat 0, 0, none⟩)
def baseCells (gs : List Nat) (g : Nat) (x : BaseD) : Array Value :=
  if x.pos.base < 0 then fileCells g x.file x.abs else lineCells (ptrOf gs x.pos.base) (wordOf x.pos.line x.pos.col) x.file x.abs x.line x.col
def ptrs (gs : List Nat) : List Value := gs.map fun g => .pointer (some ⟨g, 0, none⟩)

structure Built (w wr : World) (bs : List BaseD) (k : Nat) (v : Value) (gs : List Nat) : Prop where
  len : gs.length = k
  own : wr.ownsRow w.heap.size 46 1 v k (ptrs gs)
  blk : ∀ (i : Nat) (x : BaseD) (g : Nat), bs[i]? = some x → gs[i]? = some g → Blk wr g 89 (baseCells gs g x)
  low : ∀ g ∈ gs, w.heap.size ≤ g
  nodup : gs.Nodup
  below : Below w.heap.size w wr

theorem grown_of_below {a w : World} (h : Below a.heap.size a w) (row : Option Nat) : a.grownBy w row := ⟨h.os, h.tape, h.output, h.size, fun i hi _ => h.block i hi⟩
theorem own_keep {w w' : World} {base : Nat} {e : TypeId} {size n : Nat} {v : Value} {xs : List Value} (h : w.ownsRow base e size v n xs) (hb : Below w.heap.size w w') : w'.ownsRow base e size v n xs :=
  h.kept (grown_of_below hb none) (by cases v.ownBlock <;> simp)
theorem ptrOf_more {gs : List Nat} {b : Int} (hb : b < (gs.length : Int)) (g : Nat) : ptrOf (gs ++ [g]) b = ptrOf gs b := by
  unfold ptrOf
  by_cases h : b < 0
  · rw [if_pos h, if_pos h]
  · rw [if_neg h, if_neg h]
    have : b.toNat < gs.length := by omega
    simp [List.getD, List.getElem?_append_left this]
theorem baseCells_more {gs : List Nat} {x : BaseD} (hb : x.pos.base < (gs.length : Int)) (g' g : Nat) : baseCells (gs ++ [g]) g' x = baseCells gs g' x := by
  unfold baseCells; rw [ptrOf_more hb]

theorem built_start (w : World) (bs : List BaseD) : Built w w bs 0 (.slice none 0 0) [] :=
  ⟨rfl, World.ownsRow_nil _ _ _ _, fun i x g _ hg => by simp at hg, fun g hg => by simp at hg, List.nodup_nil, Below.refl _ _⟩

theorem built_step {w wr w1 w2 : World} {bs : List BaseD} {k : Nat} {v v' : Value} {gs : List Nat} {x : BaseD} {g : Nat} (h : Built w wr bs k v gs) (hok : ∀ (i : Nat) (x : BaseD), bs[i]? = some x → x.pos.base < (i : Int))
    (hx : bs[k]? = some x) (hb1 : Below wr.heap.size wr w1) (hblk : Blk w1 g 89 (baseCells gs g x)) (hg : wr.heap.size ≤ g)
    (hown : w2.ownsRow w.heap.size 46 1 v' (k + 1) (ptrs gs ++ [.pointer (some ⟨g, 0, none⟩)])) (hgrow : w1.grownBy w2 v.ownBlock) : Built w w2 bs (k + 1) v' (gs ++ [g]) := by
  have hl := h.len
  have hown1 := own_keep h.own hb1
  have hnin : g ∉ gs := fun hm => by
    obtain ⟨i, hi, e⟩ := List.mem_iff_getElem.1 hm
    have h1 : i < bs.length := by have := (List.getElem?_eq_some_iff.1 hx).1; omega
    have := (h.blk i bs[i] g (List.getElem?_eq_getElem h1) (by rw [List.getElem?_eq_getElem hi, e])).lt
    omega
  refine ⟨by simp [hl], by simpa [ptrs] using hown, fun i y g' hy hg' => ?_, fun g' hg' => ?_, ?_, ?_⟩
  · have hyb := hok i y hy
    by_cases e : i < gs.length
    · rw [List.getElem?_append_left e] at hg'
      have b0 := (h.blk i y g' hy hg').keep hb1
      rw [baseCells_more (by omega)]
      exact b0.grown hgrow (fun e => own_blk_ne hown1 b0 (by decide) e.symm)
    · have hi : i < (gs ++ [g]).length := (List.getElem?_eq_some_iff.1 hg').1
      have ei : i = k := by simp at hi; omega
      subst ei
      rw [hx] at hy
      cases hy
      have eg : g' = g := by
        rw [List.getElem?_append_right (by omega)] at hg'
        simp [hl] at hg'
        exact hg'.symm
      subst eg
      rw [baseCells_more (by omega)]
      exact hblk.grown hgrow (fun e => own_blk_ne hown1 hblk (by decide) e.symm)
  · rcases List.mem_append.1 hg' with hm | hm
    · exact h.low g' hm
    · have := h.below.size
      simp at hm
      omega
  · rw [List.nodup_append]
    refine ⟨h.nodup, by simp, fun a ha b hb e => ?_⟩
    simp at hb
    subst hb
    subst e
    exact hnin ha
  · exact (below_then h.below h.below.size hb1).grown hgrow (Nat.le_trans h.below.size hb1.size) (fun j hj => (h.own.lt j hj).1)
end Go.Proofs.YtlohgoedlkkicaaDoor
