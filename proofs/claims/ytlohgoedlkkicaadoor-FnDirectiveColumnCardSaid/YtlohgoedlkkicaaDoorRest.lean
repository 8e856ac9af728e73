/- A region that draws its order, walked by hand for its first operations; the rest of it is quiet: one walk in the text's order. -/
import Derived.Lib.QuietBelow
import Derived.StillTail
import Derived.Test.YtlohgoedlkkicaaDoorForm
import Derived.Deep.RegionWith
namespace Go.Proofs.YtlohgoedlkkicaaDoor
open Go.RowKit Go.Sort

theorem rest_below {P : Program} {Q : Exit → Act → World → Prop} {a : Act} {w : World} {l : List Oper} (k : Nat) {fuel : Nat} {listed : Array Bool} (hf : fuel = (l.drop k).length) (hs : Region.noSelect l.toArray = true) (hB : Region.lexFrom .any l.toArray (l.drop k).length k listed = true)
    (h : wpQuiet P l.toArray (fun w' => ∃ p : Regrown, w' = grow (redrawn w p.d) p.os) (fun a' => ∀ w', (∃ p : Regrown, w' = grow (redrawn w p.d) p.os) → Q .normal a' w') (l.drop k) a) : wpAny P .any l.toArray Q fuel listed a w := by
  subst hf
  refine wpAny_of_quiet (C := fun w' => ∃ p : Regrown, w' = grow (redrawn w p.d) p.os) (Q := fun a' => ∀ w', (∃ p : Regrown, w' = grow (redrawn w p.d) p.os) → Q .normal a' w') (fun _ w' hw' h => h w' hw') _ _ _ _ ⟨⟨w.drawn, #[]⟩, by rw [grow_empty]; rfl⟩ ?_
  exact wpAnyQ_lex hs (l.drop k) k listed a (fun j => by simp [List.getElem?_drop]) hB h

/-- A field of a struct, in a region that is quiet in a class of worlds. -/
theorem quiet_field {P : Program} {ops : Array Oper} {C : World → Prop} {Q : Act → Prop} {rest : List Oper} {o : Oper} {a : Act} {t : TypeId} {x : Operand} {f : Nat} (v z : Value) (hw : Region.wanted o (yielded ops a.tmps) = true) (hop : o.op = Op.field t x f) (hx : a.eval x = v)
    (hrun : ∀ w, (Instr.field t v f).run P w = .ok z w) (h : wpQuiet P ops C Q rest (a.put o.dst z)) : wpQuiet P ops C Q (o :: rest) a := by
  show if Region.wanted o (yielded ops a.tmps) then o.quiet P a C (wpQuiet P ops C Q rest) else wpQuiet P ops C Q rest (a.put o.dst undef)
  rw [if_pos hw]
  refine ⟨z, fun w _ => ?_, h⟩
  unfold Oper.quietAt
  have e : (execOp a.eval o).run P w = .ok (.value z) w := by simp [execOp, hop, hx, hrun, Result.andThen]
  rw [e]
  exact ⟨rfl, rfl⟩
theorem field_rline (v0 : Bool) (v1 v2 v3 v4 : Int) (v5 v6 v7 v8 v9 v10 v11 : ByteArray) (w : World) : (Instr.field 31 (.agg #[.bool v0, .int .u64 v1, .int .u64 v2, .int .u64 v3, .int .u64 v4, .string v5, .string v6, .string v7, .string v8, .string v9, .string v10, .string v11]) 3).run Tryd.prog w = .ok (.int .u64 v3) w := by kernel_rfl
theorem field_rcol (v0 : Bool) (v1 v2 v3 v4 : Int) (v5 v6 v7 v8 v9 v10 v11 : ByteArray) (w : World) : (Instr.field 31 (.agg #[.bool v0, .int .u64 v1, .int .u64 v2, .int .u64 v3, .int .u64 v4, .string v5, .string v6, .string v7, .string v8, .string v9, .string v10, .string v11]) 4).run Tryd.prog w = .ok (.int .u64 v4) w := by kernel_rfl
end Go.Proofs.YtlohgoedlkkicaaDoor
