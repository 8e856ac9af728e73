/- baseIndex over a table, and XPos. -/
import Derived.Test.YtlohgoedlkkicaaDoorFirst
import Derived.Test.YtlohgoedlkkicaaDoorPtr
namespace Go.Proofs.YtlohgoedlkkicaaDoor
open Go.RowKit Go.Proofs.YtlohgoedlkkicaaDoor.Bits

def IndexAny (w0 : World) (bs : List BaseD) (V : Value) (gs : List Nat) (tb : Nat) (reg : List Nat) (i : Nat) (w : World) (e : Ending) (w' : World) : Prop :=
  ∃ (reg' : List Nat) (ns' : List ByteArray), e = .returned (.int .i32 (reg'.idxOf i + 1 : Nat)) ∧ Tab w0 w' bs V gs tb reg' ns' ∧ i ∈ reg' ∧ (∃ l, reg' = reg ++ l) ∧ Soft w w'

section
variable {w0 w w' : World} {bs : List BaseD} {V : Value} {gs : List Nat} {tb : Nat} {reg : List Nat} {ns : List ByteArray}

/-- The table behind a base that is new. -/
theorem tab_new {i b1 b2 n : Nat} {v : Value} {x : BaseD} (h : Tab w0 w bs V gs tb reg ns) (hi : i < bs.length) (hn : i ∉ reg) (hx : bs[i]? = some x) (hkn : n = reg.length + 1) {e : Ending} {xs : List Value} (hxs : xs = .pointer none :: reg.map fun i => ptrV (gOf gs i))
    {vt : Value × Value × Value} (hT : Blk w tb 77 #[v, vt.1, vt.2.1])
    (hrow : ∀ k, v.ownBlock = some k → w0.heap.size ≤ k ∧ V.ownBlock ≠ some k ∧ ∀ (cs : Array Value) (ty : TypeId) (fr : Nat × Nat), w.heap[k]? = some (.cells cs ty fr) → ty = 46)
    (hmaps : (b1 = tb ∧ b2 = tb) ∨ (w0.heap.size ≤ b1 ∧ w0.heap.size ≤ b2 ∧ b1 ≠ b2 ∧ (∃ es c, w.heap[b1]? = some (.map es c)) ∧ ∃ es c, w.heap[b2]? = some (.map es c)))
    (hp : MissPost w0.heap.size tb (gOf gs i) b1 b2 n v (fiCells gs (gOf gs i) x (-1)) xs (reg.map (gOf gs)) ns x.abs w e w') : IndexAny w0 bs V gs tb reg i w e w' := by
  obtain ⟨he, ⟨v', D', ns', fv, B1, B2, hT', hO', hP', hN', hNI', hns', hG', hB', hat'⟩, hbut⟩ := hp
  obtain ⟨fi, hfi, hblk⟩ := h.blk
  have hgl := hblk i x (gOf gs i) hx (h.g_of hi)
  have hix : (reg ++ [i]).idxOf i = reg.length := by
    rw [List.idxOf_append]
    simp [hn]
  have hlow : ∀ k ∈ [tb, gOf gs i, b1, b2] ++ ownL v, w0.heap.size ≤ k := fun k hk => by
    have hg0 : w0.heap.size ≤ gOf gs i := h.low _ (List.mem_of_getElem? (h.g_of hi))
    have ht0 := h.tlow
    simp only [List.mem_append, List.mem_cons, List.not_mem_nil, or_false] at hk
    rcases hk with (rfl | rfl | rfl | rfl) | hk
    · exact ht0
    · exact hg0
    · rcases hmaps with ⟨r1, _⟩ | ⟨r1, _⟩ <;> omega
    · rcases hmaps with ⟨_, r1⟩ | ⟨_, r1, _⟩ <;> omega
    · unfold ownL at hk
      split at hk
      · rename_i k' hk'
        simp at hk
        subst hk
        exact (hrow k hk').1
      · simp at hk
  refine ⟨reg ++ [i], ns', by rw [he, hix, hkn], ⟨h.len, h.nodup, h.low, h.tlow, ⟨fun k => if k = i then fv else fi k, fun k hk => ?_, fun k y g hy hg => ?_⟩, ?_, fun k hk => ?_, Or.inr ⟨by simp, v', B1, B2, D', hT', ?_, ?_, hN', hNI', ?_, ?_, ?_, ?_⟩, ?_, fun k hk y hy => ?_, ?_, hbut.below h.below hlow⟩, by simp, ⟨[i], rfl⟩, hbut.soft (fun k hk cs ty fr hh => ?_)⟩
  · have hki : k ≠ i := fun e => hk (by simp [e])
    simp [hki, hfi k (fun hm => hk (by simp [hm]))]
  · by_cases ek : k = i
    · subst ek
      rw [hx] at hy
      cases hy
      have : g = gOf gs k := by rw [h.g_of hi] at hg; exact (Option.some.inj hg).symm
      subst this
      rw [fiCells_set] at hG'
      simpa using hG'
    · simp only [ek, if_false]
      have hb := hblk k y g hy hg
      refine hbut.blk hb (fun hm => ?_)
      have hkl : k < bs.length := (List.getElem?_eq_some_iff.1 hy).1
      have hgk : g = gOf gs k := by rw [h.g_of hkl] at hg; exact (Option.some.inj hg).symm
      simp only [List.mem_append, List.mem_cons, List.not_mem_nil, or_false] at hm
      rcases hm with (e | e | e | e) | hm
      · exact hb.ne_ hT (by decide) e
      · exact ek (h.g_inj hkl hi (hgk ▸ e))
      · rcases hmaps with ⟨r1, _⟩ | ⟨_, _, _, ⟨es, c, r⟩, _⟩
        · exact hb.ne_ hT (by decide) (e.trans r1)
        · exact hb.ne_map r e
      · rcases hmaps with ⟨_, r1⟩ | ⟨_, _, _, _, ⟨es, c, r⟩⟩
        · exact hb.ne_ hT (by decide) (e.trans r1)
        · exact hb.ne_map r e
      · unfold ownL at hm
        split at hm
        · rename_i k' hk'
          simp at hm
          subst hm
          have := (hrow g hk').2.2 _ _ _ hb
          exact absurd this (by decide)
        · simp at hm
  · rw [List.nodup_append]
    exact ⟨h.regs, by simp, fun a ha b hb e => by simp at hb; subst hb; subst e; exact hn ha⟩
  · rcases List.mem_append.1 hk with hm | hm
    · exact h.regl k hm
    · simp at hm; subst hm; exact hi
  · have : xs ++ [ptrV (gOf gs i)] = .pointer none :: (reg ++ [i]).map fun i => ptrV (gOf gs i) := by rw [hxs]; simp
    rw [this] at hO'
    simpa [hkn] using hO'
  · simpa using hP'
  · rcases hB' with ⟨r1, r2⟩ | ⟨r1, r2, r3⟩
    · rcases hmaps with ⟨s1, s2⟩ | ⟨s1, s2, s3, _⟩
      · have := h.tlow; omega
      · omega
    · have := h.below.size; omega
  · rcases hB' with ⟨r1, r2⟩ | ⟨r1, r2, r3⟩
    · rcases hmaps with ⟨s1, s2⟩ | ⟨s1, s2, s3, _⟩
      · have := h.tlow; omega
      · omega
    · have := h.below.size; omega
  · intro e
    obtain ⟨es, c, hes⟩ := nmap_es hN'
    rcases hB' with ⟨r1, r2⟩ | ⟨r1, r2, r3⟩
    · rcases hmaps with ⟨s1, s2⟩ | ⟨s1, s2, s3, _⟩
      · exact hT'.ne_map hP' (by omega)
      · exact s3 (by omega)
    · exact r3 e
  · intro k hk hV
    rcases hat' k hk with r | r
    · exact (hrow k r).2.1 hV
    · have := (h.bas.lt k hV).2; omega
  · have hVL : ∀ k, V.ownBlock = some k → k ∉ [tb, gOf gs i, b1, b2] ++ ownL v := fun k hV hm => by
      simp only [List.mem_append, List.mem_cons, List.not_mem_nil, or_false] at hm
      rcases hm with (e | e | e | e) | hm
      · exact own_blk_ne h.bas hT (by decide) (e ▸ hV)
      · exact own_blk_ne h.bas hgl (by decide) (e ▸ hV)
      · rcases hmaps with ⟨r1, _⟩ | ⟨_, _, _, ⟨es, c, r⟩, _⟩
        · exact own_blk_ne h.bas hT (by decide) (r1 ▸ e ▸ hV)
        · exact own_ne_map h.bas r (e ▸ hV)
      · rcases hmaps with ⟨_, r1⟩ | ⟨_, _, _, _, ⟨es, c, r⟩⟩
        · exact own_blk_ne h.bas hT (by decide) (r1 ▸ e ▸ hV)
        · exact own_ne_map h.bas r (e ▸ hV)
      · unfold ownL at hm
        split at hm
        · rename_i k' hk'
          simp at hm
          subst hm
          exact (hrow k hk').2.1 hV
        · simp at hm
    refine ⟨h.bas.1, ?_⟩
    rcases h.bas.2 with r | ⟨g', cap, cur, r1, r2, r3, r4⟩
    · exact Or.inl r
    · exact Or.inr ⟨g', cap, cur, r1, r2, (hbut.block g' (heap_lt r3) (hVL g' (by rw [r1]; rfl))).trans r3, r4⟩
  · rcases List.mem_append.1 hk with hm | hm
    · have := h.names k hm y hy
      rcases hns' with ⟨r, _⟩ | r <;> simp [r, this]
    · simp at hm
      subst hm
      rw [hx] at hy
      cases hy
      rcases hns' with ⟨r, r'⟩ | r
      · rw [r]; exact r'
      · simp [r]
  · have := h.nlen
    rcases hns' with ⟨r, _⟩ | r <;> simp [r] <;> omega
  · simp only [List.mem_append, List.mem_cons, List.not_mem_nil, or_false] at hk
    rcases hk with (rfl | rfl | rfl | rfl) | hk
    · unfold Blk at hT; rw [hT] at hh; cases hh; exact Or.inl rfl
    · unfold Blk at hgl; rw [hgl] at hh; cases hh; exact Or.inr (Or.inl rfl)
    · rcases hmaps with ⟨r1, _⟩ | ⟨_, _, _, ⟨es, c, r⟩, _⟩
      · subst r1; unfold Blk at hT; rw [hT] at hh; cases hh; exact Or.inl rfl
      · rw [r] at hh; cases hh
    · rcases hmaps with ⟨_, r1⟩ | ⟨_, _, _, _, ⟨es, c, r⟩⟩
      · subst r1; unfold Blk at hT; rw [hT] at hh; cases hh; exact Or.inl rfl
      · rw [r] at hh; cases hh
    · unfold ownL at hk
      split at hk
      · rename_i k' hk'
        simp at hk
        subst hk
        exact Or.inr (Or.inr ((hrow k hk').2.2 _ _ _ hh))
      · simp at hk
end

theorem index_any {w0 w : World} {bs : List BaseD} {V : Value} {gs : List Nat} {tb : Nat} {reg : List Nat} {ns : List ByteArray} {i : Nat} {x : BaseD} (h : Tab w0 w bs V gs tb reg ns) (hx : bs[i]? = some x) (hn : bs.length ≤ 2147483647) (hs : x.abs.size ≤ maxLen) :
    Calls Tryd.prog 51 #[ptrV tb, ptrV (gOf gs i)] w (IndexAny w0 bs V gs tb reg i w) := by
  have hi : i < bs.length := (List.getElem?_eq_some_iff.1 hx).1
  have hsh := h.short
  obtain ⟨ti, hti, htz⟩ := infoB
  by_cases hm : i ∈ reg
  · rcases h.tab with ⟨r, _⟩ | ⟨hne, v, b1, b2, D, hT, hO, hP, hN, hNI, _⟩
    · rw [r] at hm; cases hm
    · have hlt : reg.idxOf i < reg.length := List.idxOf_lt_length_iff.2 hm
      have hj : (reg.map (gOf gs))[reg.idxOf i]? = some (gOf gs i) := by
        rw [List.getElem?_map, List.getElem?_eq_getElem hlt]
        simp
      refine (index_hit tb (gOf gs i) b1 v _ (reg.idxOf i + 1) w hT (by omega) (pmap_hit w Tryd.underlying74 Tryd.underlying46 hti htz hP (h.live hi) h.lives h.gs_nodup hj)).mono ?_
      rintro e w' ⟨rfl, rfl⟩
      exact ⟨reg, ns, rfl, h, hm, ⟨[], by simp⟩, Soft.refl _⟩
  · obtain ⟨fi, hfi, hblk⟩ := h.blk
    have hg := hblk i x (gOf gs i) hx (h.g_of hi)
    rw [hfi i hm] at hg
    rcases h.tab with ⟨hr, hns, hT⟩ | ⟨hne, v, b1, b2, D, hT, hO, hP, hN, hNI, hb1, hb2, h12, hvV⟩
    · subst hr; subst hns
      refine (index_first w0.heap.size tb (gOf gs i) _ x.abs w hT hg (fi_7 _ _ _ _) (fi_3 _ _ _ _) hs h.below.size).mono ?_
      intro e w' hp
      exact tab_new (vt := (.map none, .map none, .map none)) h hi hm hx rfl rfl hT (fun k hk => by simp [Value.ownBlock] at hk) (Or.inl ⟨rfl, rfl⟩) hp
    · have hes2 := nmap_es hN
      have hnl := h.nlen
      have hsh2 : (reg ++ [i]).length ≤ bs.length := by
        refine short_nodup bs.length (reg ++ [i]) ?_ (fun k hk => ?_)
        · rw [List.nodup_append]
          exact ⟨h.regs, by simp, fun a ha b hb e => by simp at hb; subst hb; subst e; exact hm ha⟩
        · rcases List.mem_append.1 hk with r | r
          · exact h.regl k r
          · simp at r; omega
      simp only [List.length_append, List.length_cons, List.length_nil] at hsh2
      refine (index_miss w0.heap.size tb (gOf gs i) b1 b2 (reg.length + 1) v _ _ _ ns x.abs D w hT hg (fi_7 _ _ _ _) (fi_3 _ _ _ _) hs hO (by omega) (by omega) h.below.size hP (by simp) hN hNI (by omega) h12 h.lives (h.g_mem hi hm)).mono ?_
      intro e w' hp
      refine tab_new (vt := (.map (some b1), .map (some b2), .map none)) h hi hm hx rfl rfl hT (fun k hk => ⟨(hO.lt k hk).1, hvV k hk, fun cs ty fr hh => ?_⟩) (Or.inr ⟨hb1, hb2, h12, ⟨_, _, hP⟩, hes2⟩) hp
      rcases hO.2 with ⟨rfl, _⟩ | ⟨g', cap, cur, rfl, _, r, _⟩
      · simp [Value.ownBlock] at hk
      · simp [Value.ownBlock] at hk
        subst hk
        rw [r] at hh
        cases hh
        rfl
end Go.Proofs.YtlohgoedlkkicaaDoor
