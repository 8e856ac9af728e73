/- The walk of told. -/
import Derived.Test.YtlohgoedlkkicaaDoorFormatM
namespace Go.Proofs.YtlohgoedlkkicaaDoor
open Go.RowKit Go.Proofs.YtlohgoedlkkicaaDoor.Bits

/-- The facts of a position as a value. -/
def factsV (x : PosF) (ln cn : Nat) : Value := .agg #[.bool x.known, .int .u64 ln, .int .u64 cn, .int .u64 x.rline, .int .u64 x.rcol, .string x.file, .string x.rfile, .string x.abs, .string (posS x ln cn false false), .string (posS x ln cn true false), .string (posS x ln cn false true), .string (posS x ln cn true true)]

set_option maxRecDepth 100000 in
set_option maxHeartbeats 8000000 in
theorem told_any (P : Option Addr) (x : PosF) (l : Int) (ln cn : Nat) (w : World) (hT : Tells w l P x) (hf : x.file.size ≤ 2147483647) (hr : x.rfile.size ≤ 2147483647) (hp : Pow10 w) (a0 : 0 ≤ l) (a1 : l < 4294967296) (hln : l / 4096 = ln) (hcn : l / 16 % 256 = cn) :
    Calls Tryd.prog 19 #[.agg #[.pointer P, .int .u32 l]] w fun e w' => e = .returned (factsV x ln cn) ∧ Below w.heap.size w w' := by
  obtain ⟨W, hW⟩ : ∃ W, W = (w.alloc (.cells #[.pointer P, .int .u32 l] 50)).alloc (.cells #[.bool false, .int .u64 0, .int .u64 0, .int .u64 0, .int .u64 0, .string ⟨#[]⟩, .string ⟨#[]⟩, .string ⟨#[]⟩, .string ⟨#[]⟩, .string ⟨#[]⟩, .string ⟨#[]⟩, .string ⟨#[]⟩] 31) := ⟨_, rfl⟩
  have hbW : Below w.heap.size w W := by rw [hW]; exact (below_new w _).trans ((below_new _ _).mono (by simp))
  have hX : Blk W w.heap.size 50 #[.pointer P, .int .u32 l] := by rw [hW]; exact (Blk.new _ _ _).alloc _
  have hY : Blk W (w.heap.size + 1) 31 #[.bool false, .int .u64 0, .int .u64 0, .int .u64 0, .int .u64 0, .string ⟨#[]⟩, .string ⟨#[]⟩, .string ⟨#[]⟩, .string ⟨#[]⟩, .string ⟨#[]⟩, .string ⟨#[]⟩, .string ⟨#[]⟩] := by rw [hW]; have := Blk.new (w.alloc (.cells #[.pointer P, .int .u32 l] 50)) 31 #[.bool false, .int .u64 0, .int .u64 0, .int .u64 0, .int .u64 0, .string ⟨#[]⟩, .string ⟨#[]⟩, .string ⟨#[]⟩, .string ⟨#[]⟩, .string ⟨#[]⟩, .string ⟨#[]⟩, .string ⟨#[]⟩]; rwa [World.size_alloc] at this
  have HT := Lib.hid hT
  have HP := Lib.hid hp
  have HBW := Lib.hid hbW
  have HY := Lib.hid hY
  obtain ⟨kn, ekn⟩ : ∃ z, x.known = z := ⟨_, rfl⟩
  obtain ⟨rl, erl⟩ : ∃ z, x.rline = z := ⟨_, rfl⟩
  obtain ⟨rc, erc⟩ : ∃ z, x.rcol = z := ⟨_, rfl⟩
  obtain ⟨ff, eff⟩ : ∃ z, x.file = z := ⟨_, rfl⟩
  obtain ⟨rf, erf⟩ : ∃ z, x.rfile = z := ⟨_, rfl⟩
  obtain ⟨ab, eab⟩ : ∃ z, x.abs = z := ⟨_, rfl⟩
  obtain ⟨s1, es1⟩ : ∃ z, posS x ln cn false false = z := ⟨_, rfl⟩
  obtain ⟨s2, es2⟩ : ∃ z, posS x ln cn true false = z := ⟨_, rfl⟩
  obtain ⟨s3, es3⟩ : ∃ z, posS x ln cn false true = z := ⟨_, rfl⟩
  obtain ⟨s4, es4⟩ : ∃ z, posS x ln cn true true = z := ⟨_, rfl⟩
  have HV : Hid (factsV x ln cn = .agg #[.bool kn, .int .u64 ln, .int .u64 cn, .int .u64 rl, .int .u64 rc, .string ff, .string rf, .string ab, .string s1, .string s2, .string s3, .string s4]) := Lib.hid (by unfold factsV; rw [ekn, erl, erc, eff, erf, eab, es1, es2, es3, es4])
  have cK : ∀ d os, Calls Tryd.prog 26 #[.agg #[.pointer P, .int .u32 l]] (Go.Sort.grow (redrawn W d) os) fun e w'' => e = .returned (.bool kn) ∧ ∃ p : Regrown, w'' = Go.Sort.grow (redrawn W p.d) p.os := fun d os => Calls.regrown_of (by rw [← ekn]; exact tells_known HT.out a0 a1 _ (HBW.out.trans ((below_regrown W d os).mono HBW.out.size)))
  have cL : ∀ d os, Calls Tryd.prog 27 #[.int .u32 l] (Go.Sort.grow (redrawn W d) os) fun e w'' => e = .returned (.int .u64 ln) ∧ ∃ p : Regrown, w'' = Go.Sort.grow (redrawn W p.d) p.os := fun d os => Calls.regrown_of ((line_any l ln _ a0 a1 hln).mono (by rintro e w' ⟨rfl, rfl⟩; exact ⟨rfl, Below.refl _ _⟩))
  have cC : ∀ d os, Calls Tryd.prog 28 #[.int .u32 l] (Go.Sort.grow (redrawn W d) os) fun e w'' => e = .returned (.int .u64 cn) ∧ ∃ p : Regrown, w'' = Go.Sort.grow (redrawn W p.d) p.os := fun d os => Calls.regrown_of ((col_any l cn _ a0 a1 hcn).mono (by rintro e w' ⟨rfl, rfl⟩; exact ⟨rfl, Below.refl _ _⟩))
  have cR : ∀ d os, Calls Tryd.prog 29 #[.agg #[.pointer P, .int .u32 l]] (Go.Sort.grow (redrawn W d) os) fun e w'' => e = .returned (.int .u64 rl) ∧ ∃ p : Regrown, w'' = Go.Sort.grow (redrawn W p.d) p.os := fun d os => Calls.regrown_of (by rw [← erl]; exact tells_rline HT.out a0 a1 _ (HBW.out.trans ((below_regrown W d os).mono HBW.out.size)))
  have cQ : ∀ d os, Calls Tryd.prog 30 #[.agg #[.pointer P, .int .u32 l]] (Go.Sort.grow (redrawn W d) os) fun e w'' => e = .returned (.int .u64 rc) ∧ ∃ p : Regrown, w'' = Go.Sort.grow (redrawn W p.d) p.os := fun d os => Calls.regrown_of (by rw [← erc]; exact tells_rcol HT.out a0 a1 _ (HBW.out.trans ((below_regrown W d os).mono HBW.out.size)))
  have cF : ∀ d os, Calls Tryd.prog 31 #[.agg #[.pointer P, .int .u32 l]] (Go.Sort.grow (redrawn W d) os) fun e w'' => e = .returned (.string ff) ∧ ∃ p : Regrown, w'' = Go.Sort.grow (redrawn W p.d) p.os := fun d os => Calls.regrown_of (by rw [← eff]; exact tells_file HT.out _ (HBW.out.trans ((below_regrown W d os).mono HBW.out.size)))
  have cG : ∀ d os, Calls Tryd.prog 32 #[.agg #[.pointer P, .int .u32 l]] (Go.Sort.grow (redrawn W d) os) fun e w'' => e = .returned (.string rf) ∧ ∃ p : Regrown, w'' = Go.Sort.grow (redrawn W p.d) p.os := fun d os => Calls.regrown_of (by rw [← erf]; exact tells_rfile HT.out _ (HBW.out.trans ((below_regrown W d os).mono HBW.out.size)))
  have cA : ∀ d os, Calls Tryd.prog 33 #[.agg #[.pointer P, .int .u32 l]] (Go.Sort.grow (redrawn W d) os) fun e w'' => e = .returned (.string ab) ∧ ∃ p : Regrown, w'' = Go.Sort.grow (redrawn W p.d) p.os := fun d os => Calls.regrown_of (by rw [← eab]; exact tells_abs HT.out _ (HBW.out.trans ((below_regrown W d os).mono HBW.out.size)))
  have cS1 : ∀ d os, Calls Tryd.prog 34 #[.agg #[.pointer P, .int .u32 l], .bool false, .bool false] (Go.Sort.grow (redrawn W d) os) fun e w'' => e = .returned (.string s1) ∧ ∃ p : Regrown, w'' = Go.Sort.grow (redrawn W p.d) p.os := fun d os => Calls.regrown_of (by rw [← es1]; exact Format_any P x l false false ln cn _ (HT.out.keep (HBW.out.trans ((below_regrown W d os).mono HBW.out.size))) hf hr (pow_keep HP.out (HBW.out.trans ((below_regrown W d os).mono HBW.out.size))) a0 a1 hln hcn)
  have cS2 : ∀ d os, Calls Tryd.prog 34 #[.agg #[.pointer P, .int .u32 l], .bool true, .bool false] (Go.Sort.grow (redrawn W d) os) fun e w'' => e = .returned (.string s2) ∧ ∃ p : Regrown, w'' = Go.Sort.grow (redrawn W p.d) p.os := fun d os => Calls.regrown_of (by rw [← es2]; exact Format_any P x l true false ln cn _ (HT.out.keep (HBW.out.trans ((below_regrown W d os).mono HBW.out.size))) hf hr (pow_keep HP.out (HBW.out.trans ((below_regrown W d os).mono HBW.out.size))) a0 a1 hln hcn)
  have cS3 : ∀ d os, Calls Tryd.prog 34 #[.agg #[.pointer P, .int .u32 l], .bool false, .bool true] (Go.Sort.grow (redrawn W d) os) fun e w'' => e = .returned (.string s3) ∧ ∃ p : Regrown, w'' = Go.Sort.grow (redrawn W p.d) p.os := fun d os => Calls.regrown_of (by rw [← es3]; exact Format_any P x l false true ln cn _ (HT.out.keep (HBW.out.trans ((below_regrown W d os).mono HBW.out.size))) hf hr (pow_keep HP.out (HBW.out.trans ((below_regrown W d os).mono HBW.out.size))) a0 a1 hln hcn)
  have cS4 : ∀ d os, Calls Tryd.prog 34 #[.agg #[.pointer P, .int .u32 l], .bool true, .bool true] (Go.Sort.grow (redrawn W d) os) fun e w'' => e = .returned (.string s4) ∧ ∃ p : Regrown, w'' = Go.Sort.grow (redrawn W p.d) p.os := fun d os => Calls.regrown_of (by rw [← es4]; exact Format_any P x l true true ln cn _ (HT.out.keep (HBW.out.trans ((below_regrown W d os).mono HBW.out.size))) hf hr (pow_keep HP.out (HBW.out.trans ((below_regrown W d os).mono HBW.out.size))) a0 a1 hln hcn)
  have x0 := hX.cell 0
  have x1 := hX.cell 1
  simp only [List.getElem?_toArray, List.getElem?_cons_zero, List.getElem?_cons_succ] at x0 x1
  have k0 := cell_regrown x0
  have k1 := cell_regrown x1
  clear hT hp hbW hX hY x0 x1 hf hr a0 a1 hln hcn ekn erl erc eff erf eab es1 es2 es3 es4
  go_enter Tryd.func19, Tryd.ntmps19
  go_wp2_with fail
  rw [← hW]
  clear hW
  refine region_below_last 27 (by kernel_rfl) (by kernel_rfl) ?_
  simp only [List.take_succ_cons, List.take_zero, List.drop_succ_cons, List.drop_zero]
  repeat (go_big_quiet_step (first | with_reducible exact cK _ _ | with_reducible exact cL _ _ | with_reducible exact cC _ _ | with_reducible exact cR _ _ | with_reducible exact cQ _ _ | with_reducible exact cF _ _ | with_reducible exact cG _ _ | with_reducible exact cA _ _ | with_reducible exact cS1 _ _ | with_reducible exact cS2 _ _ | with_reducible exact cS3 _ _ | with_reducible exact cS4 _ _))
  refine wpQuiet_nil ?_
  intro _ hw'
  obtain ⟨⟨dq, osq⟩, hw''⟩ := hw'
  subst hw''
  have hR := HY.out.keep (below_regrown W dq osq)
  have r0 := hR.cell 0
  have r1 := hR.cell 1
  have r2 := hR.cell 2
  have r3 := hR.cell 3
  have r4 := hR.cell 4
  have r5 := hR.cell 5
  have r6 := hR.cell 6
  have r7 := hR.cell 7
  have r8 := hR.cell 8
  have r9 := hR.cell 9
  have r10 := hR.cell 10
  have r11 := hR.cell 11
  have z0 := hR.frozen 0
  have z1 := hR.frozen 1
  have z2 := hR.frozen 2
  have z3 := hR.frozen 3
  have z4 := hR.frozen 4
  have z5 := hR.frozen 5
  have z6 := hR.frozen 6
  have z7 := hR.frozen 7
  have z8 := hR.frozen 8
  have z9 := hR.frozen 9
  have z10 := hR.frozen 10
  have z11 := hR.frozen 11
  simp only [List.getElem?_toArray, List.getElem?_cons_zero, List.getElem?_cons_succ] at r0 r1 r2 r3 r4 r5 r6 r7 r8 r9 r10 r11
  have HRR := Lib.hid hR
  have HBB := Lib.hid (below_then HBW.out HBW.out.size (below_regrown W dq osq))
  clear hR k0 k1 HY HT HP cK cL cC cR cQ cF cG cA cS1 cS2 cS3 cS4
  go_wp2
  have hK := (((((((((((HRR.out.set_ 0 (.bool kn)).set_ 1 (.int .u64 ln)).set_ 2 (.int .u64 cn)).set_ 3 (.int .u64 rl)).set_ 4 (.int .u64 rc)).set_ 5 (.string ff)).set_ 6 (.string rf)).set_ 7 (.string ab)).set_ 8 (.string s1)).set_ 9 (.string s2)).set_ 10 (.string s3)).set_ 11 (.string s4)
  have f0 := hK.cell 0
  have f1 := hK.cell 1
  have f2 := hK.cell 2
  have f3 := hK.cell 3
  have f4 := hK.cell 4
  have f5 := hK.cell 5
  have f6 := hK.cell 6
  have f7 := hK.cell 7
  have f8 := hK.cell 8
  have f9 := hK.cell 9
  have f10 := hK.cell 10
  have f11 := hK.cell 11
  simp only [List.setIfInBounds_toArray, List.set_cons_zero, List.set_cons_succ, List.getElem?_toArray, List.getElem?_cons_zero, List.getElem?_cons_succ] at f0 f1 f2 f3 f4 f5 f6 f7 f8 f9 f10 f11
  refine bodyPost_ret (v := .agg #[.bool kn, .int .u64 ln, .int .u64 cn, .int .u64 rl, .int .u64 rc, .string ff, .string rf, .string ab, .string s1, .string s2, .string s3, .string s4]) (by simp [results, Tryd.results19, go_sem, f0, f1, f2, f3, f4, f5, f6, f7, f8, f9, f10, f11]) rfl ⟨by rw [HV.out], ?_⟩
  exact (((((((((((HBB.out.setCell (by simp) _).setCell (by simp) _).setCell (by simp) _).setCell (by simp) _).setCell (by simp) _).setCell (by simp) _).setCell (by simp) _).setCell (by simp) _).setCell (by simp) _).setCell (by simp) _).setCell (by simp) _).setCell (by simp) _
end Go.Proofs.YtlohgoedlkkicaaDoor
