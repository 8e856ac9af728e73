/- The walks of the functions on packed words: what each call returns, the world as it was. -/
import Derived.Test.YtlohgoedlkkicaaDoorProg
import Derived.Test.YtlohgoedlkkicaaDoorBits
import Derived.WalkKit
import Derived.Lib.Hide
import Derived.WalkSpells
import Derived.WalkLawsBesides
namespace Go.Proofs.YtlohgoedlkkicaaDoor
open Go.RowKit Go.Proofs.YtlohgoedlkkicaaDoor.Bits

theorem ret_int {k : IntKind} {a b : Int} (h : a = b) : Ending.returned (.int k a) = .returned (.int k b) := by rw [h]
theorem ret_bool {a b : Bool} (h : a = b) : Ending.returned (.bool a) = .returned (.bool b) := by rw [h]
theorem results_tmp4 {fn : Func} {t u v x : Tmp} (h : fn.results = #[.tmp t, .tmp u, .tmp v, .tmp x]) (tmps : Array Value) (P : Program) (w : World) :
    (results fn tmps).run P w = .ok (.tuple #[tmps.getD t undef, tmps.getD u undef, tmps.getD v undef, tmps.getD x undef]) w := by simp [results, h]

set_option maxHeartbeats 400000 in
theorem line_any (a r : Int) (w : World) (h0 : 0 ≤ a) (h1 : a < 4294967296) (hr : a / 4096 = r) :
    Calls Tryd.prog 27 #[.int .u32 a] w fun e w' => e = .returned (.int .u64 r) ∧ w = w' := by
  have HR := Lib.hid hr
  clear hr
  go_enter Tryd.func27, Tryd.ntmps27
  go_wp2
  go_ret
  exact ⟨ret_int HR.out, rfl⟩

set_option maxHeartbeats 400000 in
theorem col_any (a r : Int) (w : World) (h0 : 0 ≤ a) (h1 : a < 4294967296) (hr : a / 16 % 256 = r) :
    Calls Tryd.prog 28 #[.int .u32 a] w fun e w' => e = .returned (.int .u64 r) ∧ w = w' := by
  have HR := Lib.hid hr
  clear hr
  go_enter Tryd.func28, Tryd.ntmps28
  go_wp2
  go_ret
  exact ⟨ret_int ((and255 _ (by omega) (by omega)).trans HR.out), rfl⟩

set_option maxHeartbeats 400000 in
theorem isStmt_any (a r : Int) (w : World) (h0 : 0 ≤ a) (h1 : a < 4294967296) (hr : isStmtOf a = r) :
    Calls Tryd.prog 49 #[.int .u32 a] w fun e w' => e = .returned (.int .u64 r) ∧ w = w' := by
  have HR := Lib.hid hr
  clear hr
  by_cases h : a = 0
  · subst h
    go_enter Tryd.func49, Tryd.ntmps49
    go_wp2
    go_ret
    exact ⟨ret_int HR.out, rfl⟩
  · have hb : (a == 0) = false := by simpa using h
    have HS := Lib.hid h
    clear h
    go_enter Tryd.func49, Tryd.ntmps49
    go_wp2
    go_ret
    exact ⟨ret_int ((and3 _ (by omega) (by omega)).trans ((if_neg HS.out).symm.trans HR.out)), rfl⟩

set_option maxHeartbeats 400000 in
theorem xlogue_any (a r : Int) (w : World) (h0 : 0 ≤ a) (h1 : a < 4294967296) (hr : a / 4 % 4 = r) :
    Calls Tryd.prog 50 #[.int .u32 a] w fun e w' => e = .returned (.int .u64 r) ∧ w = w' := by
  have HR := Lib.hid hr
  clear hr
  go_enter Tryd.func50, Tryd.ntmps50
  go_wp2
  go_ret
  exact ⟨ret_int ((and3 _ (by omega) (by omega)).trans HR.out), rfl⟩

set_option maxHeartbeats 400000 in
theorem makeLicoRaw_any (l c r : Int) (w : World) (h0 : 0 ≤ l) (h1 : l < 1048576) (h2 : 0 ≤ c) (h3 : c < 256) (hr : l * 4096 + c * 16 = r) :
    Calls Tryd.prog 53 #[.int .u64 l, .int .u64 c] w fun e w' => e = .returned (.int .u32 r) ∧ w = w' := by
  have HR := Lib.hid hr
  clear hr
  go_enter Tryd.func53, Tryd.ntmps53
  go_wp2
  go_ret
  exact ⟨ret_int (by rw [or_word _ _ h0 h1 h2 h3, ← HR.out]; omega), rfl⟩

set_option maxHeartbeats 400000 in
theorem makeLico_any (l c r : Int) (w : World) (h0 : 0 ≤ l) (h2 : 0 ≤ c) (h4 : c < 18446744073709551616) (hr : wordOf l c = r) :
    Calls Tryd.prog 48 #[.int .u64 l, .int .u64 c] w fun e w' => e = .returned (.int .u32 r) ∧ w = w' := by
  have HR := Lib.hid hr
  clear hr
  by_cases h1 : 1048574 ≤ l
  · have HV : Hid (wordOf l c = 4294959104) := if_pos h1
    go_enter Tryd.func48, Tryd.ntmps48
    go_wp2_with (go_at_call 53; refine (makeLicoRaw_any _ _ _ _ (by omega) (by omega) (by omega) (by omega) rfl).mono ?_; rintro e w' ⟨rfl, rfl⟩)
    go_ret
    exact ⟨ret_int (by rw [← HR.out, HV.out]), rfl⟩
  · have HS := Lib.hid h1
    by_cases h3 : 255 < c
    · have HV : Hid (wordOf l c = l * 4096 + 4080) := (if_neg h1).trans (if_pos h3)
      go_enter Tryd.func48, Tryd.ntmps48
      go_wp2_with (go_at_call 53; refine (makeLicoRaw_any _ _ _ _ (by omega) (by omega) (by omega) (by omega) rfl).mono ?_; rintro e w' ⟨rfl, rfl⟩)
      go_ret
      exact ⟨ret_int (by rw [← HR.out, HV.out]), rfl⟩
    · have HV : Hid (wordOf l c = l * 4096 + c * 16) := (if_neg h1).trans (if_neg h3)
      go_enter Tryd.func48, Tryd.ntmps48
      go_wp2_with (go_at_call 53; refine (makeLicoRaw_any _ _ _ _ (by omega) (by omega) (by omega) (by omega) rfl).mono ?_; rintro e w' ⟨rfl, rfl⟩)
      go_ret
      exact ⟨ret_int (by rw [← HR.out, HV.out]), rfl⟩

set_option maxHeartbeats 400000 in
theorem LicoParts_any (a l c s m : Int) (w : World) (h0 : 0 ≤ a) (h1 : a < 4294967296) (hl : a / 4096 = l) (hc : a / 16 % 256 = c) (hs : isStmtOf a = s) (hm : a / 4 % 4 = m) :
    Calls Tryd.prog 38 #[.int .u32 a] w fun e w' => e = .returned (.tuple #[.int .u64 l, .int .u64 c, .int .u64 s, .int .u64 m]) ∧ w = w' := by
  have HL := Lib.hid hl
  have HC := Lib.hid hc
  have HS := Lib.hid hs
  have HM := Lib.hid hm
  clear hl hc hs hm
  go_enter Tryd.func38, Tryd.ntmps38
  go_wp2_with fail
  refine (line_any a l _ h0 h1 HL.out).mono ?_
  rintro e w' ⟨rfl, rfl⟩
  go_wp2_with fail
  refine (col_any a c _ h0 h1 HC.out).mono ?_
  rintro e w' ⟨rfl, rfl⟩
  go_wp2_with fail
  refine (isStmt_any a s _ h0 h1 HS.out).mono ?_
  rintro e w' ⟨rfl, rfl⟩
  go_wp2_with fail
  refine (xlogue_any a m _ h0 h1 HM.out).mono ?_
  rintro e w' ⟨rfl, rfl⟩
  go_wp2_with fail
  exact bodyPost_ret (results_tmp4 rfl _ _ _) rfl ⟨rfl, rfl⟩
  

set_option maxHeartbeats 400000 in
theorem Parts_any (a l c s m : Int) (w : World) (h0 : 0 ≤ a) (h1 : a < 4294967296) (hl : a / 4096 = l) (hc : a / 16 % 256 = c) (hs : isStmtOf a = s) (hm : a / 4 % 4 = m) :
    Calls Tryd.prog 22 #[.int .u32 a] w fun e w' => e = .returned (.tuple #[.int .u64 l, .int .u64 c, .int .u64 s, .int .u64 m]) ∧ w = w' := by
  have HL := Lib.hid hl
  have HC := Lib.hid hc
  have HS := Lib.hid hs
  have HM := Lib.hid hm
  clear hl hc hs hm
  go_enter Tryd.func22, Tryd.ntmps22
  go_wp2_with fail
  refine (LicoParts_any a l c s m _ h0 h1 HL.out HC.out HS.out HM.out).mono ?_
  rintro e w' ⟨rfl, rfl⟩
  go_wp2_with fail
  exact bodyPost_ret (results_tmp4 rfl _ _ _) rfl ⟨rfl, rfl⟩
  

set_option maxHeartbeats 400000 in
theorem Lico_any (l c r : Int) (w : World) (h0 : 0 ≤ l) (h2 : 0 ≤ c) (h4 : c < 18446744073709551616) (hr : wordOf l c = r) :
    Calls Tryd.prog 39 #[.int .u64 l, .int .u64 c] w fun e w' => e = .returned (.int .u32 r) ∧ w = w' := by
  have HR := Lib.hid hr
  clear hr
  go_enter Tryd.func39, Tryd.ntmps39
  go_wp2_with fail
  refine (makeLico_any l c r _ h0 h2 h4 HR.out).mono ?_
  rintro e w' ⟨rfl, rfl⟩
  go_wp2_with fail
  go_ret
  exact ⟨rfl, rfl⟩

set_option maxHeartbeats 400000 in
theorem Word_any (l c r : Int) (w : World) (h0 : 0 ≤ l) (h2 : 0 ≤ c) (h4 : c < 18446744073709551616) (hr : wordOf l c = r) :
    Calls Tryd.prog 23 #[.int .u64 l, .int .u64 c] w fun e w' => e = .returned (.int .u32 r) ∧ w = w' := by
  have HR := Lib.hid hr
  clear hr
  go_enter Tryd.func23, Tryd.ntmps23
  go_wp2_with fail
  refine (Lico_any l c r _ h0 h2 h4 HR.out).mono ?_
  rintro e w' ⟨rfl, rfl⟩
  go_wp2_with fail
  go_ret
  exact ⟨rfl, rfl⟩

set_option maxHeartbeats 400000 in
theorem works_any (w : World) :
    Calls Tryd.prog 15 #[] w fun e w' => e = .returned (.bool true) ∧ w = w' := by
  go_enter Tryd.func15, Tryd.ntmps15
  go_wp2_with fail
  refine (Word_any 7 3 28720 _ (by decide) (by decide) (by decide) (by decide)).mono ?_
  rintro e w' ⟨rfl, rfl⟩
  go_wp2_with fail
  refine (Parts_any 28720 7 3 0 0 _ (by decide) (by decide) (by decide) (by decide) (by decide) (by decide)).mono ?_
  rintro e w' ⟨rfl, rfl⟩
  go_wp2_with fail
  go_ret
  exact ⟨rfl, rfl⟩

end Go.Proofs.YtlohgoedlkkicaaDoor
