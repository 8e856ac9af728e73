/- A map whose keys are pointers, a map of names, and what a call may touch. -/
import Derived.Test.YtlohgoedlkkicaaDoorBuilt
import Derived.LaidEqlPtr
import Derived.Maps.OwnSet
import Derived.Maps.RangeWalk
namespace Go.Proofs.YtlohgoedlkkicaaDoor
open Go.RowKit Go.Proofs.YtlohgoedlkkicaaDoor.Bits

section
variable {P : Program} (w : World) {tp te : TypeId} {j : TypeInfo}
theorem run_equal_ptr_same (a : Addr) (hp : P.underlying tp = some (.pointer te)) (hte : P.info? te = some j) :
    (Op.equal tp (.pointer (some a)) (.pointer (some a))).run P w = .ok true w := by
  have h : ∀ d : Nat, (Op.equalIn (d + 1) tp (.pointer (some a)) (.pointer (some a))).run P w = .ok true w := fun d => by
    simp [Op.equalIn, run_underlying hp, sizeOf, typeInfo, hte, run_sameAddr_same]
  simp [Op.equal, Op.maxDepth, h 9999]
theorem run_equal_ptr_other {a b : Addr} {ca cb : Array Value} {ta tb : TypeId} (hp : P.underlying tp = some (.pointer te)) (hte : P.info? te = some j) (hsz : j.size ≠ 0)
    (hne : a ≠ b) (ha : w.heap[a.block]? = some (.cells ca ta (0, 0))) (hb : w.heap[b.block]? = some (.cells cb tb (0, 0))) :
    (Op.equal tp (.pointer (some a)) (.pointer (some b))).run P w = .ok false w := by
  have h : ∀ d : Nat, (Op.equalIn (d + 1) tp (.pointer (some a)) (.pointer (some b))).run P w = .ok false w := fun d => by
    simp [Op.equalIn, run_underlying hp, sizeOf, typeInfo, hte, hsz, run_sameAddr_other w hne ha hb]
  simp [Op.equal, Op.maxDepth, h 9999]
end

abbrev ptrV (g : Nat) : Value := .pointer (some ⟨g, 0, none⟩)
/-- The entries of the index map: the j-th base that was met has the index j + 1. -/
def ents : List Nat → Nat → List MapEntry
  | [], _ => []
  | g :: r, o => { key := ptrV g, val := .int .i64 (o + 1 : Nat), born := o } :: ents r (o + 1)
theorem ents_snoc : ∀ (ks : List Nat) (g o : Nat), ents (ks ++ [g]) o = ents ks o ++ [{ key := ptrV g, val := .int .i64 (o + ks.length + 1 : Nat), born := o + ks.length }]
  | [], g, o => by simp [ents]
  | k :: ks, g, o => by
    simp only [List.cons_append, ents, List.length_cons]
    rw [ents_snoc ks g (o + 1), show o + 1 + ks.length = o + (ks.length + 1) by omega]

/-- The block lives. -/
def Live (w : World) (g : Nat) : Prop := ∃ T cs, Blk w g T cs

section
variable {P : Program} (w : World) {tp te : TypeId} {ti : TypeInfo} (hp : P.underlying tp = some (.pointer te)) (hte : P.info? te = some ti) (hsz : ti.size ≠ 0)
include hp hte hsz
theorem asking_none {g : Nat} (hg : Live w g) : ∀ (ks : List Nat) (o i : Nat), (∀ k ∈ ks, Live w k) → g ∉ ks → (Instr.findAsking tp (ptrV g) (ents ks o) i).run P w = .ok none w
  | [], _, _, _, _ => by simp [ents, Instr.findAsking]
  | k :: ks, o, i, hl, hn => by
    obtain ⟨T, cs, hb⟩ := hg
    obtain ⟨T', cs', hb'⟩ := hl k (by simp)
    have hne : g ≠ k := fun e => hn (by simp [e])
    have he := run_equal_ptr_other (P := P) w (a := ⟨g, 0, none⟩) (b := ⟨k, 0, none⟩) hp hte hsz (fun e => hne (congrArg Addr.block e)) hb hb'
    have ih := asking_none ⟨T, cs, hb⟩ ks (o + 1) (i + 1) (fun z hz => hl z (by simp [hz])) (fun hz => hn (by simp [hz]))
    simp [ents, Instr.findAsking, he, ih]
theorem asking_some {g : Nat} (hg : Live w g) : ∀ (ks : List Nat) (o i j : Nat), (∀ k ∈ ks, Live w k) → ks.Nodup → ks[j]? = some g → (Instr.findAsking tp (ptrV g) (ents ks o) i).run P w = .ok (some (i + j, .int .i64 (o + j + 1 : Nat))) w
  | [], _, _, _, _, _, h => by simp at h
  | k :: ks, o, i, 0, hl, hnd, h => by
    obtain ⟨T, cs, hb⟩ := hg
    have e : k = g := by simpa using h
    subst e
    have he := run_equal_ptr_same (P := P) w ⟨k, 0, none⟩ hp hte
    simp [ents, Instr.findAsking, he]
  | k :: ks, o, i, j + 1, hl, hnd, h => by
    obtain ⟨T, cs, hb⟩ := hg
    obtain ⟨T', cs', hb'⟩ := hl k (by simp)
    have h' : ks[j]? = some g := by simpa using h
    have hne : g ≠ k := fun e => by
      have h1 := List.mem_of_getElem? h'
      rw [List.nodup_cons] at hnd
      exact hnd.1 (e ▸ h1)
    have he := run_equal_ptr_other (P := P) w (a := ⟨g, 0, none⟩) (b := ⟨k, 0, none⟩) hp hte hsz (fun e => hne (congrArg Addr.block e)) hb hb'
    have ih := asking_some ⟨T, cs, hb⟩ ks (o + 1) (i + 1) j (fun z hz => hl z (by simp [hz])) (List.nodup_cons.1 hnd).2 h'
    rw [show i + 1 + j = i + (j + 1) by omega, show o + 1 + j + 1 = o + (j + 1) + 1 by omega] at ih
    simp [ents, Instr.findAsking, he, ih]
theorem find_none {g : Nat} (hg : Live w g) (ks : List Nat) (hl : ∀ k ∈ ks, Live w k) (hn : g ∉ ks) : (Instr.findKey tp (ptrV g) (ents ks 0)).run P w = .ok none w := by
  cases ks with
  | nil => simp [Instr.findKey, run_underlying hp, ents, Instr.findNow]
  | cons k ks =>
    have := asking_none w hp hte hsz hg (k :: ks) 0 0 hl hn
    simp [Instr.findKey, run_underlying hp, ents, Instr.findNow, Instr.sameNow] at this ⊢
    exact this
theorem find_some {g : Nat} (hg : Live w g) (ks : List Nat) (j : Nat) (hl : ∀ k ∈ ks, Live w k) (hnd : ks.Nodup) (hj : ks[j]? = some g) : (Instr.findKey tp (ptrV g) (ents ks 0)).run P w = .ok (some (j, .int .i64 (j + 1 : Nat))) w := by
  cases ks with
  | nil => simp at hj
  | cons k ks =>
    have := asking_some w hp hte hsz hg (k :: ks) 0 0 j hl hnd hj
    simp [Instr.findKey, run_underlying hp, ents, Instr.findNow, Instr.sameNow] at this ⊢
    exact this
end

/-- The index map. -/
def PMap (w : World) (b : Nat) (ks : List Nat) : Prop := w.heap[b]? = some (.map (ents ks 0).toArray ks.length)
theorem PMap.lt {w : World} {b : Nat} {ks : List Nat} (h : PMap w b ks) : b < w.heap.size := by
  rcases Nat.lt_or_ge b w.heap.size with hlt | hge
  · exact hlt
  · unfold PMap at h; rw [Array.getElem?_eq_none hge] at h; cases h
theorem PMap.kept {w w' : World} {b : Nat} {ks : List Nat} {row : Option Nat} (h : PMap w b ks) (hg : w.grownBy w' row) (hne : some b ≠ row) : PMap w' b ks := (hg.block b h.lt hne).trans h
theorem PMap.new (w : World) : PMap (w.alloc (.map #[] 0)) w.heap.size [] := (MapKept.heap_alloc w _).1
theorem PMap.alloc {w : World} {b : Nat} {ks : List Nat} (h : PMap w b ks) (o : Obj) : PMap (w.alloc o) b ks := ((MapKept.heap_alloc w o).2 b h.lt).trans h

section
variable {P : Program} (w : World) {t tp te e : TypeId} {ti : TypeInfo} (ht : P.underlying t = some (.map tp e)) (hp : P.underlying tp = some (.pointer te)) (hte : P.info? te = some ti) (hsz : ti.size ≠ 0)
include ht hp hte hsz
theorem pmap_miss (hz : (zeroValue e).run P w = .ok (.int .i64 0) w) {b g : Nat} {ks : List Nat} (h : PMap w b ks) (hg : Live w g) (hl : ∀ k ∈ ks, Live w k) (hn : g ∉ ks) :
    (Instr.lookup t (.map (some b)) (ptrV g) true).run P w = .ok (.tuple #[.int .i64 0, .bool false]) w := by
  have hf := find_none w hp hte hsz hg ks hl hn
  have hc : ∀ em, (Instr.checkKey em 10000 tp (ptrV g)).run P w = .ok () w := fun em => by
    unfold Instr.checkKey
    simp [run_underlying hp]
  simp [Instr.lookup, run_underlying ht, MapKept.run_getObj_map h, hc, hf, hz]
theorem pmap_hit {b g : Nat} {ks : List Nat} (h : PMap w b ks) (hg : Live w g) (hl : ∀ k ∈ ks, Live w k) (hnd : ks.Nodup) {j : Nat} (hj : ks[j]? = some g) :
    (Instr.lookup t (.map (some b)) (ptrV g) true).run P w = .ok (.tuple #[.int .i64 (j + 1 : Nat), .bool true]) w := by
  have hf := find_some w hp hte hsz hg ks j hl hnd hj
  have hc : ∀ em, (Instr.checkKey em 10000 tp (ptrV g)).run P w = .ok () w := fun em => by
    unfold Instr.checkKey
    simp [run_underlying hp]
  simp [Instr.lookup, run_underlying ht, MapKept.run_getObj_map h, hc, hf]
theorem pmap_store {b g : Nat} {ks : List Nat} (h : PMap w b ks) (hg : Live w g) (hl : ∀ k ∈ ks, Live w k) (hn : g ∉ ks) {v : Int} (hv : v = (ks.length + 1 : Nat)) :
    ∃ w', (Instr.mapUpdate t (.map (some b)) (ptrV g) (.int .i64 v)).run P w = .ok () w' ∧ PMap w' b (ks ++ [g]) ∧ w.grownBy w' (some b) ∧ w'.heap.size = w.heap.size := by
  have hf := find_none w hp hte hsz hg ks hl hn
  have hc : ∀ em, (Instr.checkKey em 10000 tp (ptrV g)).run P w = .ok () w := fun em => by
    unfold Instr.checkKey
    simp [run_underlying hp]
  refine ⟨{ w with heap := w.heap.setIfInBounds b (.map (ents ks 0 ++ [({ key := ptrV g, val := .int .i64 v, born := ks.length } : MapEntry)]).toArray (ks.length + 1)) }, by simp [Instr.mapUpdate, run_underlying ht, MapKept.run_getObj_map h, hc, hf, MapKept.run_setObj_map _ h], ?_, ⟨rfl, rfl, rfl, by simp, fun i _ hi => by
    have : i ≠ b := fun e => hi (by rw [e])
    simp [Ne.symm this]⟩, by simp⟩
  have hlt := h.lt
  unfold PMap
  rw [ents_snoc]
  simp [hlt, hv]
end

section
variable {P : Program} (w : World) {ops : Array Oper} {rest : List Oper} {o : Oper} {a : Act} {Q : Exit → Act → World → Prop}
/-- A map's element is set, by an equation on the operation's run. -/
theorem wpList_update_run (hg : o.guard = none) (m x v : Operand) (t : TypeId) (hop : o.op = Op.mapUpdate t m x v) (mv key val : Value) (hm : a.eval m = mv) (hx : a.eval x = key) (hv : a.eval v = val)
    {w' : World} (hrun : (Instr.mapUpdate t mv key val).run P w = .ok () w') (hK : wpList P ops Q rest (a.put o.dst undef) w') : wpList P ops Q (o :: rest) a w := by
  refine wpList_plain hg fun K' hK' => ?_
  unfold Oper.wp
  simp [execOp, hop, hm, hx, hv, hrun, Result.andThen]
  exact hK' _ _ hK
/-- .. at a step of a region that draws its order. -/
theorem step_update_run {K : Act → World → Prop} {E : Prop} (hgd : o.guard = none) (m x v : Operand) (t : TypeId) (hop : o.op = Op.mapUpdate t m x v) (mv key val : Value) (hm : a.eval m = mv) (hx : a.eval x = key) (hv : a.eval v = val)
    {w' : World} (hrun : (Instr.mapUpdate t mv key val).run P w = .ok () w') (hK : K (a.put o.dst undef) w') :
    if Region.wanted o (yielded ops a.tmps) = true then Oper.wp P o a w K Q else E := by
  have hw : Region.wanted o (yielded ops a.tmps) = true := by simp [Region.wanted, hgd]
  rw [if_pos hw]
  unfold Oper.wp
  simp [execOp, hop, hm, hx, hv, hrun, Result.andThen]
  exact hK
/-- An element is looked up at a step of a region that draws its order. -/
theorem step_lookup_run {K : Act → World → Prop} {E : Prop} (hgd : o.guard = none) (m x : Operand) (t : TypeId) (hop : o.op = Op.lookup t m x true) (mv key r : Value) (hm : a.eval m = mv) (hx : a.eval x = key)
    (hrun : (Instr.lookup t mv key true).run P w = .ok r w) (hK : K (a.put o.dst r) w) :
    if Region.wanted o (yielded ops a.tmps) = true then Oper.wp P o a w K Q else E := by
  have hw : Region.wanted o (yielded ops a.tmps) = true := by simp [Region.wanted, hgd]
  rw [if_pos hw]
  unfold Oper.wp
  simp [execOp, hop, hm, hx, hrun, Result.andThen]
  exact hK
end

/-- What leaves alone all blocks but those of a table. -/
structure Soft (w w' : World) : Prop where
  os : w'.os = w.os
  tape : w'.tape = w.tape
  output : w'.output = w.output
  size : w.heap.size ≤ w'.heap.size
  block : ∀ (k : Nat) (cs : Array Value) (ty : TypeId) (fr : Nat × Nat), ty ≠ 77 → ty ≠ 89 → ty ≠ 46 → w.heap[k]? = some (.cells cs ty fr) → w'.heap[k]? = some (.cells cs ty fr)
theorem Soft.refl (w : World) : Soft w w := ⟨rfl, rfl, rfl, Nat.le_refl _, fun _ _ _ _ _ _ _ h => h⟩
theorem Soft.trans {a b c : World} (h : Soft a b) (k : Soft b c) : Soft a c :=
  ⟨k.os.trans h.os, k.tape.trans h.tape, k.output.trans h.output, Nat.le_trans h.size k.size, fun i cs ty fr h1 h2 h3 h4 => k.block i cs ty fr h1 h2 h3 (h.block i cs ty fr h1 h2 h3 h4)⟩
theorem heap_lt {w : World} {k : Nat} {o : Obj} (h : w.heap[k]? = some o) : k < w.heap.size := (Array.getElem?_eq_some_iff.1 h).1
theorem Soft.of_below {a b : World} (h : Below a.heap.size a b) : Soft a b := ⟨h.os, h.tape, h.output, h.size, fun k _ _ _ _ _ _ hk => (h.block k (heap_lt hk)).trans hk⟩
theorem Soft.of_grown {a b : World} {row : Option Nat} (h : a.grownBy b row) (hr : ∀ (k : Nat) (cs : Array Value) (ty : TypeId) (fr : Nat × Nat), row = some k → a.heap[k]? = some (.cells cs ty fr) → ty = 77 ∨ ty = 89 ∨ ty = 46) : Soft a b :=
  ⟨h.os, h.tape, h.output, h.size, fun k cs ty fr h1 h2 h3 hk => (h.block k (heap_lt hk) (fun e => by rcases hr k cs ty fr e.symm hk with r | r | r <;> contradiction)).trans hk⟩
theorem Soft.blk {a b : World} (h : Soft a b) {g : Nat} {T : TypeId} {cs : Array Value} (hb : Blk a g T cs) (h1 : T ≠ 77) (h2 : T ≠ 89) (h3 : T ≠ 46) : Blk b g T cs := h.block g cs T (0, 0) h1 h2 h3 hb
theorem Soft.own {a b : World} (h : Soft a b) {base : Nat} {e : TypeId} {size n : Nat} {v : Value} {xs : List Value} (ho : a.ownsRow base e size v n xs) (h1 : e ≠ 77) (h2 : e ≠ 89) (h3 : e ≠ 46) : b.ownsRow base e size v n xs := by
  refine ⟨ho.1, ?_⟩
  rcases ho.2 with ⟨r1, r2⟩ | ⟨g, cap, cur, r1, r2, r3, r4⟩
  · exact Or.inl ⟨r1, r2⟩
  · exact Or.inr ⟨g, cap, cur, r1, r2, h.block g cur e (0, 0) h1 h2 h3 r3, r4⟩

theorem set_grown {w : World} {g i : Nat} (u : Value) : w.grownBy (w.setCell ⟨g, i, none⟩ u) (some g) := by
  have hs := Below.refl w.heap.size w
  exact ⟨rfl, rfl, rfl, by simp, fun k _ hk => Below.heap_setCell w ⟨g, i, none⟩ u k (fun e => hk (by rw [e]))⟩

/-- All is as it was but for the blocks of a list, and new ones. -/
structure But (L : List Nat) (w w' : World) : Prop where
  os : w'.os = w.os
  tape : w'.tape = w.tape
  output : w'.output = w.output
  size : w.heap.size ≤ w'.heap.size
  block : ∀ k, k < w.heap.size → k ∉ L → w'.heap[k]? = w.heap[k]?
section
variable {L : List Nat} {a b c : World}
theorem But.refl (L : List Nat) (w : World) : But L w w := ⟨rfl, rfl, rfl, Nat.le_refl _, fun _ _ _ => rfl⟩
theorem But.trans (h : But L a b) (k : But L b c) : But L a c := ⟨k.os.trans h.os, k.tape.trans h.tape, k.output.trans h.output, Nat.le_trans h.size k.size, fun i h1 h2 => (k.block i (Nat.lt_of_lt_of_le h1 h.size) h2).trans (h.block i h1 h2)⟩
theorem But.grown {row : Option Nat} (k : But L a b) (h : b.grownBy c row) (hr : ∀ k, row = some k → a.heap.size ≤ k ∨ k ∈ L) : But L a c := by
  refine ⟨h.os.trans k.os, h.tape.trans k.tape, h.output.trans k.output, Nat.le_trans k.size h.size, fun i h1 h2 => ?_⟩
  refine (h.block i (Nat.lt_of_lt_of_le h1 k.size) (fun e => ?_)).trans (k.block i h1 h2)
  rcases hr i e.symm with r | r
  · omega
  · exact h2 r
theorem But.of_grown {row : Option Nat} (h : a.grownBy b row) (hr : ∀ k, row = some k → a.heap.size ≤ k ∨ k ∈ L) : But L a b := (But.refl L a).grown h hr
theorem But.below_ (k : But L a b) (h : Below b.heap.size b c) : But L a c := k.grown (row := none) ⟨h.os, h.tape, h.output, h.size, fun i hi _ => h.block i hi⟩ (fun k e => by cases e)
theorem But.blk {g : Nat} {T : TypeId} {cs : Array Value} (h : But L a b) (hb : Blk a g T cs) (hn : g ∉ L) : Blk b g T cs := (h.block g hb.lt hn).trans hb
theorem But.below {w0 : World} (h : But L a b) (h0 : Below w0.heap.size w0 a) (hl : ∀ k ∈ L, w0.heap.size ≤ k) : Below w0.heap.size w0 b :=
  ⟨h.os.trans h0.os, h.tape.trans h0.tape, h.output.trans h0.output, Nat.le_trans h0.size h.size, fun k hk => (h.block k (Nat.lt_of_lt_of_le hk h0.size) (fun hm => by have := hl k hm; omega)).trans (h0.block k hk)⟩
theorem But.soft (h : But L a b) (hr : ∀ k ∈ L, ∀ (cs : Array Value) (ty : TypeId) (fr : Nat × Nat), a.heap[k]? = some (.cells cs ty fr) → ty = 77 ∨ ty = 89 ∨ ty = 46) : Soft a b :=
  ⟨h.os, h.tape, h.output, h.size, fun k cs ty fr h1 h2 h3 hk => (h.block k (heap_lt hk) (fun hm => by rcases hr k hm cs ty fr hk with r | r | r <;> contradiction)).trans hk⟩
end

/-- A row of one kind is no block of another kind, and no map. -/
theorem Blk.ne_map {w : World} {g b : Nat} {T : TypeId} {cs : Array Value} (h : Blk w g T cs) {es : Array MapEntry} {c : Nat} (hb : w.heap[b]? = some (.map es c)) : g ≠ b := by
  rintro rfl
  unfold Blk at h
  rw [h] at hb
  cases hb
theorem own_ne_map {w : World} {base : Nat} {e : TypeId} {size n : Nat} {v : Value} {xs : List Value} (h : w.ownsRow base e size v n xs) {b : Nat} {es : Array MapEntry} {c : Nat} (hb : w.heap[b]? = some (.map es c)) : v.ownBlock ≠ some b := by
  rcases h.2 with ⟨rfl, _⟩ | ⟨g', cap, cur, rfl, _, hh, _⟩
  · simp [Value.ownBlock]
  · intro he
    have : g' = b := by simpa [Value.ownBlock] using he
    subst this
    rw [hh] at hb
    cases hb
end Go.Proofs.YtlohgoedlkkicaaDoor
