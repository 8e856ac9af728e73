/- What a table of compact positions is in memory. -/
import Derived.Test.YtlohgoedlkkicaaDoorMaps
import Derived.Test.YtlohgoedlkkicaaDoorBuild
import Derived.StringKeys
namespace Go.Proofs.YtlohgoedlkkicaaDoor
open Go.RowKit Go.Proofs.YtlohgoedlkkicaaDoor.Bits
open Go.Maps (Keyed IsMap Tidy)
open Go.ChangeMaps Go.MapKept Go.WideShapes

theorem lawS : Keyed Tryd.prog 9 := Go.Maps.string_keyed Tryd.underlying9
theorem zeroI (w : World) : (zeroValue 3).run Tryd.prog w = .ok (.int .i64 0) w := by kernel_rfl
abbrev bk (s : ByteArray) : Lit := .string s.data.toList
theorem bk_inj {s s' : ByteArray} (h : bk s = bk s') : s = s' := by
  simp only [bk, Lit.string.injEq] at h
  cases s; cases s'
  simp only at h
  congr 1
  exact Array.ext' h
theorem keyS {s : ByteArray} (hs : s.size ≤ maxLen) : keyOf Tryd.prog 9 (.string s) = some (bk s)   := Go.WideMaps.keyOf_string_mk Tryd.underlying9 hs

/-- The table's names as a datum. -/
structure NameIs (D : DataW Unit) (ns : List ByteArray) : Prop where
  tidy : Tidy D
  nodup : ns.Nodup
  size : Go.Maps.size D = ns.length
  at_ : ∀ (i : Nat) (s : ByteArray), ns[i]? = some s → Go.Maps.has D (bk s) = true ∧ ∀ zd, D.atKey (bk s) zd = .lit (.int .i64 i)
  only : ∀ (s : ByteArray), Go.Maps.has D (bk s) = true → s ∈ ns
theorem nameIs_nil : NameIs (.map []) [] := ⟨Go.Maps.tidy_empty, List.nodup_nil, rfl, fun i s h => by simp at h, fun s h => by simp [Go.Maps.has] at h⟩
theorem NameIs.put {D : DataW Unit} {ns : List ByteArray} (h : NameIs D ns) {s : ByteArray} (hs : s.size ≤ maxLen) (hn : s ∉ ns) : NameIs (D.put (bk s) (.lit (.int .i64 ns.length))) (ns ++ [s]) := by
  have hk := lawS.key (keyS hs)
  have hno : Go.Maps.has D (bk s) = false := by
    cases e : Go.Maps.has D (bk s) with
    | false => rfl
    | true => exact absurd (h.only s e) hn
  refine ⟨h.tidy.put hk _, ?_, ?_, fun i x hi => ?_, fun x hx => ?_⟩
  · rw [List.nodup_append]
    exact ⟨h.nodup, by simp, fun a ha b hb e => by simp at hb; subst hb; subst e; exact hn ha⟩
  · rw [Go.Maps.size_put h.tidy, hno]
    simp [h.size]
  · by_cases e : i < ns.length
    · rw [List.getElem?_append_left e] at hi
      have hne : bk x ≠ bk s := fun e' => hn (bk_inj e' ▸ List.mem_of_getElem? hi)
      rw [Go.Maps.has_put_other hne]
      exact ⟨(h.at_ i x hi).1, fun zd => by rw [Go.Maps.atKey_put_other hne]; exact (h.at_ i x hi).2 zd⟩
    · have hi2 : i < (ns ++ [s]).length := (List.getElem?_eq_some_iff.1 hi).1
      have ei : i = ns.length := by simp at hi2; omega
      subst ei
      rw [List.getElem?_append_right (by omega)] at hi
      simp at hi
      subst hi
      exact ⟨Go.Maps.has_put_same h.tidy.isMap hk _, fun zd => Go.Maps.atKey_put_same h.tidy.isMap hk _ zd⟩
  · by_cases e : bk x = bk s
    · simp [bk_inj e]
    · rw [Go.Maps.has_put_other e] at hx
      simp [h.only x hx]

abbrev NMap (w : World) (b n : Nat) (D : DataW Unit) : Prop := w.ownsMap Tryd.prog 9 (plainElem Tryd.prog 3) b n D

/-- A name is looked up. -/
theorem name_look {b n : Nat} {D : DataW Unit} {ns : List ByteArray} (hN : NameIs D ns) {s : ByteArray} (hs : s.size ≤ maxLen) :
    (∃ i : Nat, ns[i]? = some s ∧ ∀ w : World, NMap w b n D → (Instr.lookup 75 (.map (some b)) (.string s) true).run Tryd.prog w = .ok (.tuple #[.int .i64 i, .bool true]) w) ∨
    (s ∉ ns ∧ ∀ w : World, NMap w b n D → (Instr.lookup 75 (.map (some b)) (.string s) true).run Tryd.prog w = .ok (.tuple #[.int .i64 0, .bool false]) w) := by
  by_cases hm : s ∈ ns
  · obtain ⟨i, hi, e⟩ := List.mem_iff_getElem.1 hm
    have hi' : ns[i]? = some s := by rw [List.getElem?_eq_getElem hi, e]
    refine Or.inl ⟨i, hi', fun w h => ?_⟩
    obtain ⟨v, ps, hrun, hv⟩ := h.look_ok lawS Tryd.underlying75 (zeroI w) (plainElem_int Tryd.underlying3 (by decide)) (keyS hs)
    obtain ⟨c, rfl, hc, hwc⟩ := plainElem_int_inv Tryd.underlying3 hv
    have hc1 := congrArg Prod.fst hc
    simp only at hc1
    obtain ⟨h1, h2⟩ := hN.at_ i s hi'
    rw [h2] at hc1
    simp at hc1
    subst hc1
    rw [h1] at hrun
    exact hrun
  · refine Or.inr ⟨hm, fun w h => ?_⟩
    obtain ⟨v, ps, hrun, hv⟩ := h.look_ok lawS Tryd.underlying75 (zeroI w) (plainElem_int Tryd.underlying3 (by decide)) (keyS hs)
    obtain ⟨c, rfl, hc, hwc⟩ := plainElem_int_inv Tryd.underlying3 hv
    have hc1 := congrArg Prod.fst hc
    simp only at hc1
    have hno : Go.Maps.has D (bk s) = false := by
      cases e : Go.Maps.has D (bk s) with
      | false => rfl
      | true => exact absurd (hN.only s e) hm
    rw [Go.Maps.atKey_of_not_has hno] at hc1
    simp at hc1
    subst hc1
    rw [hno] at hrun
    exact hrun
/-- A new name is laid in. -/
theorem name_store {w : World} {b n : Nat} {D : DataW Unit} {ns : List ByteArray} (h : NMap w b n D) (hN : NameIs D ns) {s : ByteArray} (hs : s.size ≤ maxLen) (hn : s ∉ ns) (hlen : n < maxLen) (hns : ns.length ≤ 9223372036854775807) :
    ∃ (w' : World) (D' : DataW Unit), (Instr.mapUpdate 75 (.map (some b)) (.string s) (.int .i64 ns.length)).run Tryd.prog w = .ok () w' ∧ NMap w' b (n + 1) D' ∧ NameIs D' (ns ++ [s]) ∧ w.grownBy w' (some b) := by
  obtain ⟨w', hrun, h1, h2⟩ := h.update lawS Tryd.underlying75 hlen (keyS hs) (plainElem_int Tryd.underlying3 (a := (ns.length : Int)) (by simp [Lit.wf, IntKind.min, IntKind.max, IntKind.signed, IntKind.bits]; omega))
  exact ⟨w', _, hrun, h1, hN.put hs hn, h2⟩
theorem nmap_es {w : World} {b n : Nat} {D : DataW Unit} (h : NMap w b n D) : ∃ es c, w.heap[b]? = some (.map es c) := by
  obtain ⟨es, c, hb, _⟩ := h
  exact ⟨es, c, hb⟩
theorem nmap_new (w : World) : NMap (w.alloc (.map #[] 0)) w.heap.size 0 (.map []) := World.ownsMap_made w _ _ _

def gOf (gs : List Nat) (i : Nat) : Nat := gs.getD i 0
/-- The cells of a base that has the number v in the table of files. -/
def fiCells (gs : List Nat) (g : Nat) (x : BaseD) (v : Int) : Array Value := (baseCells gs g x).setIfInBounds 7 (.int .i64 v)
theorem fiCells_start (gs : List Nat) (g : Nat) (x : BaseD) : fiCells gs g x (-1) = baseCells gs g x := by
  unfold fiCells baseCells
  split <;> rfl
theorem fiCells_set (gs : List Nat) (g : Nat) (x : BaseD) (u v : Int) : (fiCells gs g x u).setIfInBounds 7 (.int .i64 v) = fiCells gs g x v := by
  unfold fiCells
  simp

structure Tab (w0 wr : World) (bs : List BaseD) (V : Value) (gs : List Nat) (tb : Nat) (reg : List Nat) (ns : List ByteArray) : Prop where
  len : gs.length = bs.length
  nodup : gs.Nodup
  low : ∀ g ∈ gs, w0.heap.size ≤ g
  tlow : w0.heap.size ≤ tb
  blk : ∃ fi : Nat → Int, (∀ i, i ∉ reg → fi i = -1) ∧ ∀ (i : Nat) (x : BaseD) (g : Nat), bs[i]? = some x → gs[i]? = some g → Blk wr g 89 (fiCells gs g x (fi i))
  regs : reg.Nodup
  regl : ∀ i ∈ reg, i < bs.length
  tab : (reg = [] ∧ ns = [] ∧ Blk wr tb 77 #[.slice none 0 0, .map none, .map none]) ∨
    (reg ≠ [] ∧ ∃ (v : Value) (b1 b2 : Nat) (D : DataW Unit), Blk wr tb 77 #[v, .map (some b1), .map (some b2)] ∧
      wr.ownsRow w0.heap.size 46 1 v (reg.length + 1) (.pointer none :: reg.map fun i => ptrV (gOf gs i)) ∧ PMap wr b1 (reg.map (gOf gs)) ∧ NMap wr b2 ns.length D ∧ NameIs D ns ∧ w0.heap.size ≤ b1 ∧ w0.heap.size ≤ b2 ∧ b1 ≠ b2 ∧ ∀ k, v.ownBlock = some k → V.ownBlock ≠ some k)
  bas : wr.ownsRow w0.heap.size 46 1 V bs.length (ptrs gs)
  names : ∀ i ∈ reg, ∀ x, bs[i]? = some x → x.abs ∈ ns
  nlen : ns.length ≤ reg.length
  below : Below w0.heap.size w0 wr
end Go.Proofs.YtlohgoedlkkicaaDoor
