/- The walk of Tell. -/
import Derived.Test.YtlohgoedlkkicaaDoorSeen
import Derived.Test.YtlohgoedlkkicaaDoorTold
import Derived.Test.YtlohgoedlkkicaaDoorBuild
import Derived.Deep.RegionHeld3
namespace Go.Proofs.YtlohgoedlkkicaaDoor
open Go.RowKit Go.Proofs.YtlohgoedlkkicaaDoor.Bits

/-- What a position tells, as a value. -/
def tellV (bs : List BaseD) (p q s : Int) : Value := factsV (posF bs p (wordOf q s)) q.toNat s.toNat

theorem facts_form (x : PosF) (ln cn : Nat) : ∃ (v0 : Bool) (v1 v2 v3 v4 : Int) (v5 v6 v7 v8 v9 v10 v11 : ByteArray), factsV x ln cn = .agg #[.bool v0, .int .u64 v1, .int .u64 v2, .int .u64 v3, .int .u64 v4, .string v5, .string v6, .string v7, .string v8, .string v9, .string v10, .string v11] :=
  ⟨_, _, _, _, _, _, _, _, _, _, _, _, rfl⟩

set_option maxRecDepth 100000 in
set_option maxHeartbeats 8000000 in
theorem Tell_any (A : Option Addr) (n c : Nat) (bs : List BaseD) (p q s : Int) (w : World) (h : Bases w A n c bs) (hfit : FitsAll bs) (hok : ∀ (i : Nat) (x : BaseD), bs[i]? = some x → BaseOk bs i x) (hpow : Pow10 w)
    (hp : p < n) (hq0 : 0 ≤ q) (hq1 : q ≤ 1000000) (hs0 : 0 ≤ s) (hs1 : s ≤ 250) :
    Calls Tryd.prog 11 #[.slice A n c, .agg #[.int .i64 p, .int .u64 q, .int .u64 s]] w fun e w' => e = .returned (tellV bs p q s) ∧ Below w.heap.size w w' := by
  obtain ⟨W, hW⟩ : ∃ W, W = (w.alloc (.cells #[.int .i64 p, .int .u64 q, .int .u64 s] 25)).alloc (.cells #[.bool false, .int .u64 0, .int .u64 0, .int .u64 0, .int .u64 0, .string ⟨#[]⟩, .string ⟨#[]⟩, .string ⟨#[]⟩, .string ⟨#[]⟩, .string ⟨#[]⟩, .string ⟨#[]⟩, .string ⟨#[]⟩] 31) := ⟨_, rfl⟩
  have hbW : Below w.heap.size w W := by rw [hW]; exact (below_new w _).trans ((below_new _ _).mono (by simp))
  have hX : Blk W w.heap.size 25 #[.int .i64 p, .int .u64 q, .int .u64 s] := by rw [hW]; exact (Blk.new _ _ _).alloc _
  have hY : Blk W (w.heap.size + 1) 31 #[.bool false, .int .u64 0, .int .u64 0, .int .u64 0, .int .u64 0, .string ⟨#[]⟩, .string ⟨#[]⟩, .string ⟨#[]⟩, .string ⟨#[]⟩, .string ⟨#[]⟩, .string ⟨#[]⟩, .string ⟨#[]⟩] := by rw [hW]; have := Blk.new (w.alloc (.cells #[.int .i64 p, .int .u64 q, .int .u64 s] 25)) 31 #[.bool false, .int .u64 0, .int .u64 0, .int .u64 0, .int .u64 0, .string ⟨#[]⟩, .string ⟨#[]⟩, .string ⟨#[]⟩, .string ⟨#[]⟩, .string ⟨#[]⟩, .string ⟨#[]⟩, .string ⟨#[]⟩]; rwa [World.size_alloc] at this
  have x0 := hX.cell 0
  have x1 := hX.cell 1
  have x2 := hX.cell 2
  simp only [List.getElem?_toArray, List.getElem?_cons_zero, List.getElem?_cons_succ] at x0 x1 x2
  have hl := h.len
  have HBW := Lib.hid hbW
  have HY := Lib.hid hY
  have H : Hid (Bases W.drew A n c bs) := Lib.hid ((h.keep hbW).keep ⟨rfl, rfl, rfl, Nat.le_refl _, fun _ _ => rfl⟩)
  have HP := Lib.hid (pow_keep hpow hbW)
  have HOK := Lib.hid hok
  have HF := Lib.hid hfit
  have hn : n ≤ 2147483647 := by have := hfit.1; omega
  have hsm := Lib.hid (posF_small (fun i x hx => (hfit.2 i x hx).1) hok p (wordOf q s) (by omega))
  have hwp := Lib.hid (word_parts hq0 hq1 hs0 hs1)
  obtain ⟨r, hr⟩ : ∃ r, r = wordOf q s := ⟨_, rfl⟩
  have HR := Lib.hid hr
  obtain ⟨v0, v1, v2, v3, v4, v5, v6, v7, v8, v9, v10, v11, hv⟩ := facts_form (posF bs p r) q.toNat s.toNat
  have HV := Lib.hid hv
  clear hbW hX hY hok h hpow hfit hr hv
  go_enter Tryd.func11, Tryd.ntmps11
  go_wp2_with fail
  rw [← hW]
  clear hW
  go_region_held3 (fun w' => w'.cell? ⟨w.heap.size, 0, none⟩ = some (.int .i64 p) ∧ w'.cell? ⟨w.heap.size, 1, none⟩ = some (.int .u64 q) ∧ w'.cell? ⟨w.heap.size, 2, none⟩ = some (.int .u64 s))
    (first
      | (go_keep; done)
      | exact ⟨y0, y1, y2⟩
      | ((try dsimp only); refine ⟨?_, ?_, ?_⟩ <;> (go_keep; done))
      | exact ⟨cell_keep hb2.out x0, cell_keep hb2.out x1, cell_keep hb2.out x2⟩
      | exact ⟨cell_keep hb1.out x0, cell_keep hb1.out x1, cell_keep hb1.out x2⟩
      | fail)
    (first
      | (go_at_call 21
         refine (build_any A n c bs _ H.out hn HOK.out).mono ?_
         rintro e w1 ⟨v, gs, rfl, hB⟩
         have hb1 := Lib.hid (drew_below hB.below)
         have HB := Lib.hid hB
         clear hB)
      | (go_at_call 20
         refine (posOf_built HB.out p q s r hp hq0 hs0 hs1 HR.out.symm w1 (Below.refl _ _)).mono ?_
         rintro e w2 ⟨rfl, hb⟩
         have hb2 := Lib.hid (below_then hb1.out hb1.out.size hb)
         have HT := Lib.hid ((tells_built HB.out hl HOK.out p r (by omega)).keep hb)
         clear hb)
      | (go_at_call 19
         refine (told_any (ptrA gs p) (posF bs p r) r q.toNat s.toNat w2 HT.out (by rw [HR.out]; exact hsm.out.1) (by rw [HR.out]; exact hsm.out.2) (pow_keep HP.out hb2.out) (by rw [HR.out]; exact hwp.out.2.2.1) (by rw [HR.out]; exact hwp.out.2.2.2) (by rw [HR.out]; exact hwp.out.1) (by rw [HR.out]; exact hwp.out.2.1)).mono ?_
         rintro e w3 ⟨he, hb⟩
         rw [HV.out] at he
         subst he
         have hb3 := Lib.hid (below_then hb2.out hb2.out.size hb)
         have y0 := cell_keep hb3.out x0
         have y1 := cell_keep hb3.out x1
         have y2 := cell_keep hb3.out x2
         have hY3 := HY.out.keep hb3.out
         have z0 := hY3.frozen 0
         have z1 := hY3.frozen 1
         have z2 := hY3.frozen 2
         have z3 := hY3.frozen 3
         have z4 := hY3.frozen 4
         have z5 := hY3.frozen 5
         have z6 := hY3.frozen 6
         have z7 := hY3.frozen 7
         have z8 := hY3.frozen 8
         have z9 := hY3.frozen 9
         have z10 := hY3.frozen 10
         have z11 := hY3.frozen 11
         have r0 := hY3.cell 0
         have r1 := hY3.cell 1
         have r2 := hY3.cell 2
         have r3 := hY3.cell 3
         have r4 := hY3.cell 4
         have r5 := hY3.cell 5
         have r6 := hY3.cell 6
         have r7 := hY3.cell 7
         have r8 := hY3.cell 8
         have r9 := hY3.cell 9
         have r10 := hY3.cell 10
         have r11 := hY3.cell 11
         simp only [List.getElem?_toArray, List.getElem?_cons_zero, List.getElem?_cons_succ] at r0 r1 r2 r3 r4 r5 r6 r7 r8 r9 r10 r11
         have HY3 := Lib.hid hY3
         clear hb hY3)
      | fail)
  go_wp2
  have hK := (((((((((((HY3.out.set_ 0 (.bool v0)).set_ 1 (.int .u64 v1)).set_ 2 (.int .u64 v2)).set_ 3 (.int .u64 v3)).set_ 4 (.int .u64 v4)).set_ 5 (.string v5)).set_ 6 (.string v6)).set_ 7 (.string v7)).set_ 8 (.string v8)).set_ 9 (.string v9)).set_ 10 (.string v10)).set_ 11 (.string v11)
  have f0 := hK.cell 0
  have f1 := hK.cell 1
  have f2 := hK.cell 2
  have f3 := hK.cell 3
  have f4 := hK.cell 4
  have f5 := hK.cell 5
  have f6 := hK.cell 6
  have f7 := hK.cell 7
  have f8 := hK.cell 8
  have f9 := hK.cell 9
  have f10 := hK.cell 10
  have f11 := hK.cell 11
  simp only [List.setIfInBounds_toArray, List.set_cons_zero, List.set_cons_succ, List.getElem?_toArray, List.getElem?_cons_zero, List.getElem?_cons_succ] at f0 f1 f2 f3 f4 f5 f6 f7 f8 f9 f10 f11
  refine bodyPost_ret (v := .agg #[.bool v0, .int .u64 v1, .int .u64 v2, .int .u64 v3, .int .u64 v4, .string v5, .string v6, .string v7, .string v8, .string v9, .string v10, .string v11]) (by simp [results, Tryd.results11, go_sem, f0, f1, f2, f3, f4, f5, f6, f7, f8, f9, f10, f11]) rfl ⟨?_, ?_⟩
  · rw [← HV.out, HR.out]
    rfl
  · have hb := below_then HBW.out HBW.out.size hb3.out
    exact (((((((((((hb.setCell (by simp) _).setCell (by simp) _).setCell (by simp) _).setCell (by simp) _).setCell (by simp) _).setCell (by simp) _).setCell (by simp) _).setCell (by simp) _).setCell (by simp) _).setCell (by simp) _).setCell (by simp) _).setCell (by simp) _
end Go.Proofs.YtlohgoedlkkicaaDoor
