/- The walk of baseIndex. -/
import Derived.Test.YtlohgoedlkkicaaDoorTab
import Derived.WalkSpells
namespace Go.Proofs.YtlohgoedlkkicaaDoor
open Go.RowKit Go.Proofs.YtlohgoedlkkicaaDoor.Bits

theorem fi_size (gs : List Nat) (g : Nat) (x : BaseD) : (baseCells gs g x).size = 8 := by unfold baseCells; split <;> rfl
theorem fi_7 (gs : List Nat) (g : Nat) (x : BaseD) (v : Int) : (fiCells gs g x v)[7]? = some (.int .i64 v) := by
  unfold fiCells
  simp [fi_size]
theorem fi_3 (gs : List Nat) (g : Nat) (x : BaseD) (v : Int) : (fiCells gs g x v)[3]? = some (.string x.abs) := by
  unfold fiCells
  rw [Array.getElem?_setIfInBounds_ne (by decide)]
  unfold baseCells
  split <;> rfl
theorem nil_look (w : World) (g : Nat) : (Instr.lookup 74 (.map none) (ptrV g) true).run Tryd.prog w = .ok (.tuple #[.int .i64 0, .bool false]) w := by
  have hc : ∀ em, (Instr.checkKey em 10000 46 (ptrV g)).run Tryd.prog w = .ok () w := fun em => by
    unfold Instr.checkKey
    simp [run_underlying Tryd.underlying46]
  simp [Instr.lookup, run_underlying Tryd.underlying74, hc, Instr.findKey, run_underlying Tryd.underlying46, Instr.findNow]
theorem infoBase : (Tryd.prog.info? 89).map (fun i => i.size) = some 8 := by kernel_rfl
theorem infoB : ∃ ti, Tryd.prog.info? 89 = some ti ∧ ti.size ≠ 0 := by
  cases h : Tryd.prog.info? 89 with
  | none => have := infoBase; rw [h] at this; cases this
  | some ti =>
    have := infoBase
    rw [h] at this
    simp at this
    exact ⟨ti, rfl, by omega⟩

theorem short_nodup : ∀ (n : Nat) (l : List Nat), l.Nodup → (∀ i ∈ l, i < n) → l.length ≤ n
  | 0, l, _, h => by
    cases l with
    | nil => simp
    | cons a l => exact absurd (h a (by simp)) (by omega)
  | n + 1, l, hd, h => by
    have ih := short_nodup n (l.erase n) (hd.erase n) (fun i hi => by
      have h1 := h i (List.mem_of_mem_erase hi)
      have h2 : i ≠ n := fun e => by subst e; exact hd.not_mem_erase hi
      omega)
    have : l.length ≤ (l.erase n).length + 1 := by rw [List.length_erase]; split <;> omega
    omega

section
variable {w0 wr : World} {bs : List BaseD} {V : Value} {gs : List Nat} {tb : Nat} {reg : List Nat} {ns : List ByteArray}
theorem Tab.g_of (h : Tab w0 wr bs V gs tb reg ns) {i : Nat} (hi : i < bs.length) : gs[i]? = some (gOf gs i) := by
  have := h.len
  unfold gOf
  rw [List.getElem?_eq_getElem (by omega)]
  simp [List.getD, List.getElem?_eq_getElem (show i < gs.length by omega)]
theorem Tab.live (h : Tab w0 wr bs V gs tb reg ns) {i : Nat} (hi : i < bs.length) : Live wr (gOf gs i) := by
  obtain ⟨fi, _, hb⟩ := h.blk
  exact ⟨_, _, hb i bs[i] (gOf gs i) (List.getElem?_eq_getElem hi) (h.g_of hi)⟩
theorem Tab.lives (h : Tab w0 wr bs V gs tb reg ns) : ∀ k ∈ reg.map (gOf gs), Live wr k := fun k hk => by
  obtain ⟨i, hi, rfl⟩ := List.mem_map.1 hk
  exact h.live (h.regl i hi)
theorem Tab.g_inj (h : Tab w0 wr bs V gs tb reg ns) {i j : Nat} (hi : i < bs.length) (hj : j < bs.length) (e : gOf gs i = gOf gs j) : i = j := by
  have h1 := h.g_of hi
  have h2 := h.g_of hj
  have hl := h.len
  rw [e, ← h2] at h1
  exact (List.getElem?_inj (by omega) h.nodup).1 h1
theorem Tab.gs_nodup (h : Tab w0 wr bs V gs tb reg ns) : (reg.map (gOf gs)).Nodup := by
  refine List.pairwise_map.2 ?_
  exact List.Pairwise.imp_of_mem (fun {a b} ha hb hne e => hne (h.g_inj (h.regl a ha) (h.regl b hb) e)) h.regs
theorem Tab.g_mem (h : Tab w0 wr bs V gs tb reg ns) {i : Nat} (hi : i < bs.length) (hn : i ∉ reg) : gOf gs i ∉ reg.map (gOf gs) := fun hm => by
  obtain ⟨k, hk, e⟩ := List.mem_map.1 hm
  exact hn (h.g_inj (h.regl k hk) hi e ▸ hk)
theorem Tab.short (h : Tab w0 wr bs V gs tb reg ns) : reg.length ≤ bs.length := by
  exact short_nodup bs.length reg h.regs h.regl
end

set_option maxHeartbeats 2000000 in
theorem index_nil (V : Value) (w : World) : Calls Tryd.prog 51 #[V, .pointer none] w fun e w' => e = .returned (.int .i32 0) ∧ w' = w := by
  go_enter Tryd.func51, Tryd.ntmps51
  go_wp2
  go_ret
  exact ⟨rfl, rfl⟩

set_option maxRecDepth 100000 in
set_option maxHeartbeats 2000000 in
theorem index_hit (tb g b1 : Nat) (v : Value) (m : Value) (k : Nat) (w : World) (h : Blk w tb 77 #[v, .map (some b1), m]) (hk : k ≤ 2147483647)
    (hrun : (Instr.lookup 74 (.map (some b1)) (ptrV g) true).run Tryd.prog w = .ok (.tuple #[.int .i64 k, .bool true]) w) :
    Calls Tryd.prog 51 #[ptrV tb, ptrV g] w fun e w' => e = .returned (.int .i32 k) ∧ w' = w := by
  have c1 := h.cell 1
  simp only [List.getElem?_toArray, List.getElem?_cons_zero, List.getElem?_cons_succ] at c1
  clear h
  go_enter Tryd.func51, Tryd.ntmps51
  go_wp2
  go_ret
  exact ⟨by go_num, rfl⟩
end Go.Proofs.YtlohgoedlkkicaaDoor
