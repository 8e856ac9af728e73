/- The walk of FileTable. -/
import Derived.Test.YtlohgoedlkkicaaXPosW
import Derived.Laws.IdiomRangeMap
namespace Go.Proofs.Ytlohgoedlkkicaa
open Go.RowKit Go.Proofs.Ytlohgoedlkkicaa.Bits

theorem infoStr : (Try.prog.info? 9).map (fun i => (i.zero, i.size, i.bytes)) = some (some (.string ⟨#[]⟩), 1, 16) := by kernel_rfl

/-- Strings by name. -/
def strs (ns : List ByteArray) : List Value := ns.map Value.string
/-- How far the loop over the names is: 'left' is still to come. -/
structure FRow (w wr : World) (b2 r n : Nat) (D : DataW Unit) (ns : List ByteArray) (left : Lit → Bool) (cnt : Nat) (xs : List Value) : Prop where
  rg : wr.ranges Try.prog 9 (plainElem Try.prog 3) b2 r n D left cnt
  own : wr.ownsRow w.heap.size 9 1 (.slice (some ⟨w.heap.size, 0, none⟩) ns.length ns.length) ns.length xs
  at_ : ∀ (i : Nat) (s : ByteArray), ns[i]? = some s → left (bk s) = false → xs[i]? = some (.string s)
  ne : w.heap.size ≠ r
  ge : w.heap.size ≤ r
  nb : w.heap.size ≠ b2
structure FRel (w : World) (b2 r n : Nat) (D : DataW Unit) (ns : List ByteArray) (k : Nat) (wr : World) : Prop where
  below : Below w.heap.size w wr
  row : ∃ (left : Lit → Bool) (xs : List Value), FRow w wr b2 r n D ns left k xs

/-- The step of the loop over the names. -/
theorem wpList_next_names {P : Program} (hP : P = Try.prog) (wr : World) {ops : Array Oper} {rest : List Oper} {o : Oper} {a : Act} {Q : Exit → Act → World → Prop} (hg : o.guard = none) (it : Operand) (hop : o.op = Op.next it false)
    {w : World} {b2 r n cnt : Nat} {D : DataW Unit} {ns : List ByteArray} {left : Lit → Bool} {xs : List Value} (hit : a.eval it = .pointer (some ⟨r, 0, none⟩)) (h : FRow w wr b2 r n D ns left cnt xs) (hNI : NameIs D ns)
    (hDone : (∀ kl, left kl = false) → wpList P ops Q rest (a.put o.dst (.tuple #[.bool false])) wr)
    (hMore : ∀ (i : Nat) (s : ByteArray) (u : Value) (w' : World) (cnt' : Nat), ns[i]? = some s → i < ns.length → left (bk s) = true → FRow w w' b2 r n D ns (fun z => left z && !z.sameKey (bk s)) cnt' (xs.set i (.string s)) ∨ True → wr.grownBy w' (some r) → cnt' < cnt →
      w'.cell? ⟨w.heap.size, i, none⟩ = some u → w'.frozen? ⟨w.heap.size, i, none⟩ = false → Hid (FRow w (w'.setCell ⟨w.heap.size, i, none⟩ (.string s)) b2 r n D ns (fun z => left z && !z.sameKey (bk s)) cnt' (xs.set i (.string s))) →
      (Instr.entry (.pointer (some ⟨r, 0, none⟩))).run P w' = .ok (.tuple #[.string s, .int .i64 i]) w' → wpList P ops Q rest (a.put o.dst (.tuple #[.bool true, .string s, .int .i64 i])) w') :
    wpList P ops Q (o :: rest) a wr := by
  subst hP
  refine wpList_next_ranges wr hg it hop 9 lawS (plainElem Try.prog 3) Value.string (Value.int .i64) (fun key kl hk => ?_) (fun v y hv => ?_) b2 r n D left cnt hit h.rg (fun _ hl => hDone hl) (fun s c kl y w' cnt' hkey hlx hRy hat hrg hlt hgr hsz hen => ?_)
  · rw [keyOf_string Try.underlying9] at hk
    cases key <;> simp [mapKey, Try.underlying9] at hk
    exact ⟨_, rfl⟩
  · obtain ⟨c, rfl, _⟩ := plainElem_int_inv Try.underlying3 hv
    exact ⟨c, rfl⟩
  · have hk2 : kl = bk s := by
      rw [keyOf_string Try.underlying9] at hkey
      simp [mapKey, Try.underlying9] at hkey
      exact hkey.2.symm
    subst hk2
    have hin := hNI.only s (Go.Maps.has_true_of_atKey hat)
    obtain ⟨i, hi, e⟩ := List.mem_iff_getElem.1 hin
    have hi' : ns[i]? = some s := by rw [List.getElem?_eq_getElem hi, e]
    obtain ⟨c', e1, e2, _⟩ := plainElem_int_inv Try.underlying3 hRy
    cases e1
    have hci : c = i := by
      have h1 := hat (.lit (.int .i64 0))
      rw [(hNI.at_ i s hi').2, e2] at h1
      simp at h1
      exact h1.symm
    subst hci
    have own' := h.own.kept hgr (Or.inr (by simp [Value.ownBlock, h.ne]))
    have hxl : i < xs.length := by have := h.own.1; omega
    obtain ⟨st1, st2⟩ := own'.stored i (.string s)
    refine hMore i s xs[i] w' cnt' hi' hi hlx (Or.inr trivial) hgr hlt ?_ (own'.frozenAt i) (Lib.hid ⟨hrg.kept st2 (by simp [Ne.symm h.nb]) (by simp [Ne.symm h.ne]), st1, fun k t hk hl => ?_, h.ne, h.ge, h.nb⟩) hen
    · rw [own'.cellAt i (by omega), List.getElem?_eq_getElem hxl]
    · by_cases ek : k = i
      · subst ek
        rw [hi'] at hk
        cases hk
        simp [hxl]
      · rw [List.getElem?_set_ne (Ne.symm ek)]
        refine h.at_ k t hk ?_
        have hne : bk t ≠ bk s := fun e => ek ((List.getElem?_inj (by exact (List.getElem?_eq_some_iff.1 hk).1) hNI.nodup).1 (by rw [hk, hi', bk_inj e]))
        simpa [Go.Maps.sameKey_ne hne] using hl

def TablePost (w : World) (ns : List ByteArray) (e : Ending) (w' : World) : Prop := ∃ vo, e = .returned vo ∧ w'.ownsRow w.heap.size 9 1 vo ns.length (strs ns) ∧ Below w.heap.size w w'

set_option maxRecDepth 100000 in
set_option maxHeartbeats 4000000 in
theorem table_nil (tb : Nat) (v m : Value) (w : World) (hT : Blk w tb 76 #[v, m, .map none]) : Calls Try.prog 26 #[ptrV tb] w (TablePost w []) := by
  obtain ⟨i0, hi0, hz0, hz1, hz2⟩ := info_parts infoStr
  have c2 := hT.cell 2
  simp only [List.getElem?_toArray, List.getElem?_cons_zero, List.getElem?_cons_succ] at c2
  have hlen := Go.Maps.len_nil (P := Try.prog) (w := w) Try.underlying74 3
  have HT := Lib.hid hT
  clear hT
  go_enter Try.func26, Try.ntmps26
  go_wp2_with (first
    | (at_make; refine wpList_make_full _ rfl _ _ 32 rfl w.heap.size 9 i0 (.string ⟨#[]⟩) 1 Try.underlying32 hi0 hz0 hz1 .i64 .i64 _ _ 0 rfl rfl rfl rfl (by omega) (Nat.zero_le _) (Nat.le_refl _) ?_
       intro w1 hrow1 hg1
       have c2' := (HT.out.grown hg1 (by simp)).cell 2
       simp only [List.getElem?_toArray, List.getElem?_cons_zero, List.getElem?_cons_succ] at c2'
       have hrg := run_range_nilMap (P := Try.prog) w1 74 9 3 Try.underlying74
       have hnx : ∀ ty, (Instr.next (.pointer (some ⟨w1.heap.size, 0, none⟩)) false ty).run Try.prog (w1.alloc (.mapIter none 0 #[] 0)) = _ := fun ty => run_next_nilMap _ ty 0 0 #[]
       have HROW := Lib.hid hrow1
       have HG1 := Lib.hid hg1
       clear hrow1 hg1)
    | fail)
  refine wp_loop_rounds 1 ?_
  rw [rounds_succ]
  go_wp2
  go_ret
  exact ⟨_, rfl, by simpa [madeCells, strs] using HROW.out.alloc _, ((Below.refl _ _).grown HG1.out (Nat.le_refl _) (by simp)).alloc HG1.out.size _⟩

set_option maxRecDepth 100000 in
set_option maxHeartbeats 4000000 in
theorem table_full (tb b1 b2 : Nat) (v : Value) (D : DataW Unit) (ns : List ByteArray) (w : World) (hT : Blk w tb 76 #[v, .map (some b1), .map (some b2)]) (hN : NMap w b2 ns.length D) (hNI : NameIs D ns) (hn : ns.length ≤ 2147483647) :
    Calls Try.prog 26 #[ptrV tb] w (TablePost w ns) := by
  obtain ⟨i0, hi0, hz0, hz1, hz2⟩ := info_parts infoStr
  have c2 := hT.cell 2
  simp only [List.getElem?_toArray, List.getElem?_cons_zero, List.getElem?_cons_succ] at c2
  have hlen : (Builtin.len_ #[74] 3 #[.map (some b2)]).run Try.prog w = .ok (.int .i64 ns.length) w := by
    have := hN.len Try.underlying74 3
    rw [hNI.size] at this
    exact this
  have HT := Lib.hid hT
  have HN : Hid (NMap w b2 ns.length D) := Lib.hid hN
  have hlt2 := hN.lt
  clear hT hN
  go_enter Try.func26, Try.ntmps26
  go_wp2_with (first
    | (at_make; refine wpList_make_full _ rfl _ _ 32 rfl w.heap.size 9 i0 (.string ⟨#[]⟩) 1 Try.underlying32 hi0 hz0 hz1 .i64 .i64 _ _ ns.length rfl rfl rfl rfl (by rw [hz2]; omega) (by unfold maxLen; omega) (Nat.le_refl _) ?_
       intro w1 hrow1 hg1
       have c2' := (HT.out.grown hg1 (by simp)).cell 2
       simp only [List.getElem?_toArray, List.getElem?_cons_zero, List.getElem?_cons_succ] at c2'
       have HROW := Lib.hid hrow1
       have HG1 := Lib.hid hg1
       have HN1 : Hid (NMap w1 b2 ns.length D) := Lib.hid (HN.out.kept hg1 (by simp))
       clear hrow1 hg1)
    | (at_range; refine wpList_range_own _ rfl _ 74 rfl 9 3 lawS Try.underlying74 (plainElem Try.prog 3) b2 ns.length D rfl HN1.out ?_
       intro w2 hrg2 hg2 hs2
       have HRG2 := Lib.hid hrg2
       have HG2 := Lib.hid hg2
       clear hrg2 hg2 hs2)
    | fail)
  have hne1 : w.heap.size ≠ w1.heap.size := fun e => by have := (HROW.out.lt w.heap.size rfl).2; omega
  have hge1 := HG1.out.size
  have hb2 : Below w.heap.size w w2 := ((Below.refl w.heap.size w).grown HG1.out (Nat.le_refl _) (by simp)).grown HG2.out (by omega) (by simp)
  have hF : FRow w w2 b2 w1.heap.size ns.length D ns (Go.Maps.has D) ns.length (madeCells (Value.string ⟨#[]⟩).cells (ns.length * 1)).toList := by
    refine ⟨by have := HRG2.out; rwa [hNI.size] at this, HROW.out.kept HG2.out (Or.inr (by simp [Value.ownBlock])), fun i s hi hl => ?_, hne1, hge1, by omega⟩
    rw [(hNI.at_ i s hi).1] at hl
    cases hl
  have HF := Lib.hid hF
  have HB2 := Lib.hid hb2
  clear hF hb2 c2 c2' hlen
  (try go_frame)
  go_loopg [4] ns.length (fun k u wr => FRel w b2 w1.heap.size ns.length D ns k wr)
  case atStart => exact ⟨HB2.out, _, _, HF.out⟩
  case round =>
    obtain ⟨hbr, left, xs, hrow⟩ := hrel
    have HR := Lib.hid hrow
    have HBR := Lib.hid hbr
    clear hrow hbr
    go_wp2_with (first
      | (at_next; refine wpList_next_names rfl _ rfl _ rfl rfl HR.out hNI (fun hl0 => ?_) (fun i s u w3 cnt' hi hin hlx _ hg3 hlt3 hc3 hz3 hst hen => ?_))
      | fail)
    · go_ret
      refine ⟨_, rfl, ?_, HBR.out⟩
      have hxs : xs = strs ns := by
        refine List.ext_getElem? (fun i => ?_)
        have hl := HR.out.own.1
        cases hk : ns[i]? with
        | none =>
          have h1 : ns.length ≤ i := List.getElem?_eq_none_iff.1 hk
          rw [List.getElem?_eq_none (by omega), List.getElem?_eq_none (by simp [strs]; omega)]
        | some t =>
          rw [HR.out.at_ i t hk (hl0 _)]
          simp [strs, hk]
      rw [← hxs]
      exact HR.out.own
    · go_roundg cnt'
      case measure => omega
      case rel => exact ⟨((HBR.out.grown hg3 HBR.out.size (fun k e => by cases e; exact hge1)).setCell (by simp) _), _, _, hst.out⟩

theorem table_any {w0 w : World} {bs : List BaseD} {V : Value} {gs : List Nat} {tb : Nat} {reg : List Nat} {ns : List ByteArray} (h : Tab w0 w bs V gs tb reg ns) (hn : bs.length ≤ 2147483647) :
    Calls Try.prog 26 #[ptrV tb] w (TablePost w ns) := by
  rcases h.tab with ⟨_, rfl, hT⟩ | ⟨_, v, b1, b2, D, hT, _, _, hN, hNI, _⟩
  · exact table_nil tb _ _ w hT
  · have h1 := h.nlen
    have h2 := h.short
    exact table_full tb b1 b2 v D ns w hT hN hNI (by omega)
theorem Tab.names_nodup {w0 w : World} {bs : List BaseD} {V : Value} {gs : List Nat} {tb : Nat} {reg : List Nat} {ns : List ByteArray} (h : Tab w0 w bs V gs tb reg ns) : ns.Nodup := by
  rcases h.tab with ⟨_, rfl, _⟩ | ⟨_, v, b1, b2, D, _, _, _, _, hNI, _⟩
  · exact List.nodup_nil
  · exact hNI.nodup
end Go.Proofs.Ytlohgoedlkkicaa
