/- A region that draws its order, whose operations are quiet in a class of worlds but for the last one, which waits for all others: one walk in the text's order. It joins Derived.Deep.Quiet (the class) with Derived.StillTail (the last operation). -/
import Derived.Lib.QuietBelow
import Derived.StillTail
namespace Go.Proofs.YtlohgoedlkkicaaDoor
open Go.RowKit Go.Sort

section
variable {P : Program} {md : Region.Mode} {ops : Array Oper} {C : World → Prop} {n g : Nat}

/-- In whatever order the first n operations come: L holds of the state behind them. -/
def anyHead (P : Program) (md : Region.Mode) (ops : Array Oper) (C : World → Prop) (n : Nat) (L : Array Bool → Act → Prop) : Nat → Array Bool → Act → Prop
  | 0 => L
  | f + 1 => fun done a => Region.ready md ops done ≠ [] ∧ ∀ i, i ∈ Region.ready md ops done → i < n ∧ qOp P ops C i (anyHead P md ops C n L f (done.setIfInBounds i true)) a

theorem any_of_head {L : Array Bool → Act → Prop} {R : Exit → Act → World → Prop} (hL : ∀ done a w, C w → L done a → wpAny P md ops R g done a w) (f : Nat) :
    ∀ (done : Array Bool) (a : Act) (w : World), C w → anyHead P md ops C n L f done a → wpAny P md ops R (f + g) done a w := by
  induction f with
  | zero => intro done a w hw h; rw [Nat.zero_add]; exact hL done a w hw h
  | succ f ih =>
    intro done a w hw h
    obtain ⟨h0, h1⟩ := h
    have e : f + 1 + g = (f + g) + 1 := by omega
    rw [e]
    refine ⟨fun h2 => absurd h2 h0, fun i hi => ?_⟩
    exact wpOp_of_qOp hw (fun a' w' hw' h' => ih _ a' w' hw' h') (h1 i hi).2

/-- What is still to be done is not marked as done, however one asks. -/
theorem not_done {done : Array Bool} {i : Nat} (h : done.getD i true = false) : ¬ done.getD i false = true := by
  rw [getD_both h]
  exact Bool.false_ne_true

/-- What has been picked stays free of what comes later. -/
theorem free_later {done : Array Bool} {i j : Nat} {o : Oper}
    (hf : ∀ (k : Nat) (ok : Oper), ops[k]? = some ok → k ≠ i → done.getD k true = false → (∀ e ∈ ok.after, Region.binds md e = true → e.on ≠ i) → o.apart ops ok = true) (hj : done.getD j true = false) :
    ∀ (k : Nat) (ok : Oper), ops[k]? = some ok → k ≠ i → (done.setIfInBounds j true).getD k true = false → (∀ e ∈ ok.after, Region.binds md e = true → e.on ≠ i) → o.apart ops ok = true := by
  intro k ok hk hki hun hno
  rcases Nat.decEq k j with hne | heq
  · rw [getD_set_ne true (Ne.symm hne)] at hun
    exact hf k ok hk hki hun hno
  · subst heq
    exact hf k ok hk hki hj hno

theorem head_first {L : Array Bool → Act → Prop} {i : Nat} {o : Oper} {v : Value} (hi : ops[i]? = some o) (hsel : ∀ (j : Nat) (o : Oper) cs b, ops[j]? = some o → o.op ≠ .select cs b)
    (hs : Region.sinkB md ops n = true) (hc : Region.chainB md ops n = true) (hn : n < ops.size) (hin : i < n) (hdone : ∀ done a, L done a → ∀ j ∈ Region.ready md ops done, n ≤ j) (f : Nat) :
    ∀ (done : Array Bool) (a : Act), HeadInv md ops n done →
      (∀ (k : Nat) (ok : Oper), ops[k]? = some ok → k ≠ i → done.getD k true = false → (∀ e ∈ ok.after, Region.binds md e = true → e.on ≠ i) → o.apart ops ok = true) →
      i ∈ Region.ready md ops done → YieldsIn P ops C o v a → anyHead P md ops C n L f (done.setIfInBounds i true) (a.put o.dst v) → anyHead P md ops C n L (f + 1) done a := by
  induction f with
  | zero =>
    intro done a inv _ hr hy H
    have hun := (mem_ready.1 hr).1
    refine ⟨List.ne_nil_of_mem hr, fun j hj => ?_⟩
    have hjn : j < n := Nat.lt_of_not_le fun hle => tail_waits hs hc hn inv _ i rfl hin hun j hle hj
    rcases Nat.decEq j i with hne | heq
    · exact absurd (hdone _ _ H j (ready_mono hj hne)) (by omega)
    · subst heq
      exact ⟨hjn, hy.qOp hi H⟩
  | succ f ih =>
    intro done a inv hf hr hy H
    have hun := (mem_ready.1 hr).1
    refine ⟨List.ne_nil_of_mem hr, fun j hj => ?_⟩
    have hjn : j < n := Nat.lt_of_not_le fun hle => tail_waits hs hc hn inv _ i rfl hin hun j hle hj
    refine ⟨hjn, ?_⟩
    rcases Nat.decEq j i with hne | heq
    · obtain ⟨hjun, oj, hoj, hall⟩ := mem_ready.1 hj
      have hwait : ∀ e ∈ oj.after, Region.binds md e = true → e.on ≠ i := fun e he hb e1 => not_done hun (e1 ▸ hall e he hb)
      have H1 := (H.2 j (ready_mono hj hne)).2
      have H2 := qOp_put hoj (hf j oj hoj hne hjun hwait) (fun cs b => hsel i o cs b hi) (fun cs b => hsel j oj cs b hoj) hy H1
      refine qOp_mono (fun a' h => ?_) H2
      obtain ⟨hy', hh⟩ := h
      rw [Array.setIfInBounds_comm _ _ (Ne.symm hne)] at hh
      exact ih _ a' (inv.set hj hjn) (free_later hf hjun) (ready_mono hr (Ne.symm hne)) hy' hh
    · subst heq
      exact hy.qOp hi H

theorem head_lex {Lq : Act → Prop} (hsel : Region.noSelect ops = true) (hs : Region.sinkB md ops n = true) (hc : Region.chainB md ops n = true) (hn : n < ops.size) (l : List Oper) :
    ∀ (k : Nat) (done : Array Bool) (a : Act), (∀ j, j < l.length → l[j]? = ops[k + j]?) → k + l.length = n → HeadInv md ops n done → Region.lexHead md ops g l.length k done = true → wpQuiet P ops C Lq l a →
      anyHead P md ops C n (fun done' a' => Region.seqB md ops g n done' = true ∧ Lq a') l.length done a := by
  induction l with
  | nil =>
    intro k done a _ hk _ hB h
    have e : k = n := hk
    subst e
    exact ⟨hB, h⟩
  | cons o l ih =>
    intro k done a hl hk inv hB h
    have h0 : ops[k]? = some o := (hl 0 (Nat.zero_lt_succ _)).symm
    have hlen : k + (l.length + 1) = n := hk
    rw [List.length_cons, Region.lexHead, Bool.and_eq_true, Bool.and_eq_true] at hB
    obtain ⟨⟨hr, hf⟩, hB2⟩ := hB
    have hr2 : k ∈ Region.ready md ops done := List.contains_iff_mem.1 hr
    have hst : qOp P ops C k (wpQuiet P ops C Lq l) a := by
      unfold qOp
      rw [h0]
      exact h
    obtain ⟨v, hy, hK⟩ := yieldsIn_of_qOp h0 hst
    refine head_first h0 (Region.noSelect_spec hsel) hs hc hn (by omega) (fun _ _ hL => seqB_ready hL.1) l.length done a inv (Region.free_spec h0 hf) hr2 hy ?_
    refine ih (k + 1) _ _ (fun j hj => ?_) (by omega) (inv.set hr2 (by omega)) hB2 hK
    have := hl (j + 1) (Nat.succ_lt_succ hj)
    rw [List.getElem?_cons_succ] at this
    rw [this]
    congr 1
    omega

/-- The region. -/
theorem region_quiet_last {id : Nat} {Q : Exit → Act → World → Prop} {a : Act} {w : World} {l : List Oper} (n : Nat) (hm : P.follows .mixedOrders = true) (hB : Region.lexTailB .any l.toArray n = true) (hC : C { w with drawn := w.drawn + 1 })
    (h : wpQuiet P l.toArray C (fun a' => ∀ w', C w' → wpList P l.toArray Q (l.drop n) a' w') (l.take n) a) : (Code.region id l.toArray true).wp P Q a w := by
  simp only [Region.lexTailB, Bool.and_eq_true, decide_eq_true_eq] at hB
  obtain ⟨⟨⟨⟨hsel, hn⟩, hs⟩, hc⟩, hlex⟩ := hB
  have hnl : n < l.length := hn
  have hsz : l.toArray.size = l.length := rfl
  have htake : (l.take n).length = n := by rw [List.length_take]; omega
  have hdrop : (l.drop n).length = l.toArray.size - n := by rw [List.length_drop, hsz]
  have inv : HeadInv .any l.toArray n (Array.replicate l.toArray.size false) :=
    ⟨Array.size_replicate, fun j oj _ hl => absurd hl (by rw [getD_replicate_false]; exact Bool.false_ne_true), fun t _ ht => getD_in (by rw [Array.size_replicate]; exact ht) (getD_replicate_false _ _)⟩
  have H := head_lex (md := .any) (g := l.toArray.size - n) hsel hs hc hn (l.take n) 0 _ a (fun j hj => by rw [htake] at hj; simp [hj]) (by rw [htake]; omega) inv (by rw [htake]; exact hlex) h
  have hall := any_of_head (R := Q) (g := l.toArray.size - n) (fun done a' w' hw' hL => by
    have := wpAny_of_seq (md := .any) (Q' := Q) (l.drop n) n done a' w' (fun j => by simp [List.getElem?_drop]) (by rw [hdrop]; exact hL.1) (hL.2 w' hw')
    rw [hdrop] at this
    exact this) _ _ _ _ hC H
  refine wp_region_any hm ?_
  rw [htake] at hall
  have e : n + (l.toArray.size - n) = l.toArray.size := by omega
  rw [e] at hall
  exact hall
end

/-- .. in the class of the worlds in which nothing of what was there has turned. -/
theorem region_below_last {P : Program} {id : Nat} {Q : Exit → Act → World → Prop} {a : Act} {w : World} {l : List Oper} (n : Nat) (hm : P.follows .mixedOrders = true) (hB : Region.lexTailB .any l.toArray n = true)
    (h : wpQuiet P l.toArray (fun w' => ∃ p : Regrown, w' = grow (redrawn w p.d) p.os) (fun a' => ∀ w', (∃ p : Regrown, w' = grow (redrawn w p.d) p.os) → wpList P l.toArray Q (l.drop n) a' w') (l.take n) a) : (Code.region id l.toArray true).wp P Q a w :=
  region_quiet_last (C := fun w' => ∃ p : Regrown, w' = grow (redrawn w p.d) p.os) n hm hB ⟨⟨w.drawn + 1, #[]⟩, by rw [grow_empty]; rfl⟩ h
end Go.Proofs.YtlohgoedlkkicaaDoor
