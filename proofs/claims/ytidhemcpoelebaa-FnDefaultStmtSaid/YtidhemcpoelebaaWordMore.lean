/- The walks of the functions that change a word, and of the helpers of the laws on words. -/
import Derived.Test.YtidhemcpoelebaaWordWalks
namespace Go.Proofs.Ytidhemcpoelebaa
open Go.RowKit Go.Proofs.Ytidhemcpoelebaa.Bits

set_option maxHeartbeats 400000 in
theorem withStmt_any (a s r : Int) (w : World) (h0 : 0 ≤ a) (h1 : a < 4294967296) (h2 : 0 ≤ s) (h3 : s < 4) (hr : withStmtOf a s = r) :
    Calls Try.prog 44 #[.int .u32 a, .int .u64 s] w fun e w' => e = .returned (.int .u32 r) ∧ w = w' := by
  have HR := Lib.hid hr
  clear hr
  by_cases h : a = 0
  · subst h
    go_enter Try.func44, Try.ntmps44
    go_wp2
    go_ret
    exact ⟨ret_int HR.out, rfl⟩
  · have hb : (a == 0) = false := by simpa using h
    have HS := Lib.hid h
    clear h
    go_enter Try.func44, Try.ntmps44
    go_wp2
    go_ret
    refine ⟨ret_int ?_, rfl⟩
    rw [and_not3 _ (by omega) (by omega), or_stmt _ _ (by omega) (by omega) h2 h3, ← HR.out]
    unfold withStmtOf
    rw [if_neg HS.out]
    omega

set_option maxHeartbeats 400000 in
theorem withXlogue_any (a s r : Int) (w : World) (h0 : 0 ≤ a) (h1 : a < 4294967296) (h2 : 0 ≤ s) (h3 : s < 4) (hr : withMarkOf a s = r) :
    Calls Try.prog 40 #[.int .u32 a, .int .u64 s] w fun e w' => e = .returned (.int .u32 r) ∧ w = w' := by
  have HR := Lib.hid hr
  clear hr
  by_cases h : a = 0
  · subst h
    by_cases hz : s = 0
    · subst hz
      go_enter Try.func40, Try.ntmps40
      go_wp2
      go_ret
      exact ⟨ret_int HR.out, rfl⟩
    · have hb : (s == 0) = false := by simpa using hz
      have HS := Lib.hid hz
      clear hz
      go_enter Try.func40, Try.ntmps40
      go_wp2
      go_ret
      refine ⟨ret_int ?_, rfl⟩
      have e2 : Go.bits .and .u64 2 18446744073709551603 = 0 * 16 + 2 := and_not12 2 (by omega) (by omega)
      rw [e2, or_mark _ _ _ (by omega) (by omega) (by omega) (by omega) h2 h3, ← HR.out]
      unfold withMarkOf
      rw [if_pos rfl, if_neg HS.out]
      omega
  · have hb : (a == 0) = false := by simpa using h
    have HS := Lib.hid h
    clear h
    go_enter Try.func40, Try.ntmps40
    go_wp2
    go_ret
    refine ⟨ret_int ?_, rfl⟩
    rw [and_not12 _ (by omega) (by omega), or_mark _ _ _ (by omega) (by omega) (by omega) (by omega) h2 h3, ← HR.out]
    unfold withMarkOf
    rw [if_neg HS.out]
    omega

set_option maxHeartbeats 400000 in
theorem withNotStmt_any (a r : Int) (w : World) (h0 : 0 ≤ a) (h1 : a < 4294967296) (hr : withStmtOf a 2 = r) :
    Calls Try.prog 39 #[.int .u32 a] w fun e w' => e = .returned (.int .u32 r) ∧ w = w' := by
  have HR := Lib.hid hr
  clear hr
  go_enter Try.func39, Try.ntmps39
  go_wp2_with fail
  refine (withStmt_any a 2 r _ h0 h1 (by decide) (by decide) HR.out).mono ?_
  rintro e w' ⟨rfl, rfl⟩
  go_wp2_with fail
  go_ret
  exact ⟨rfl, rfl⟩

set_option maxHeartbeats 400000 in
theorem LicoNotStmt_any (a r : Int) (w : World) (h0 : 0 ≤ a) (h1 : a < 4294967296) (hr : withStmtOf a 2 = r) :
    Calls Try.prog 28 #[.int .u32 a] w fun e w' => e = .returned (.int .u32 r) ∧ w = w' := by
  have HR := Lib.hid hr
  clear hr
  go_enter Try.func28, Try.ntmps28
  go_wp2_with fail
  refine (withNotStmt_any a r _ h0 h1 HR.out).mono ?_
  rintro e w' ⟨rfl, rfl⟩
  go_wp2_with fail
  go_ret
  exact ⟨rfl, rfl⟩

set_option maxHeartbeats 400000 in
theorem NotStmt_any (a r : Int) (w : World) (h0 : 0 ≤ a) (h1 : a < 4294967296) (hr : withStmtOf a 2 = r) :
    Calls Try.prog 20 #[.int .u32 a] w fun e w' => e = .returned (.int .u32 r) ∧ w = w' := by
  have HR := Lib.hid hr
  clear hr
  go_enter Try.func20, Try.ntmps20
  go_wp2_with fail
  refine (LicoNotStmt_any a r _ h0 h1 HR.out).mono ?_
  rintro e w' ⟨rfl, rfl⟩
  go_wp2_with fail
  go_ret
  exact ⟨rfl, rfl⟩

set_option maxHeartbeats 400000 in
theorem withDefaultStmt_any (a r : Int) (w : World) (h0 : 0 ≤ a) (h1 : a < 4294967296) (hr : withStmtOf a 0 = r) :
    Calls Try.prog 37 #[.int .u32 a] w fun e w' => e = .returned (.int .u32 r) ∧ w = w' := by
  have HR := Lib.hid hr
  clear hr
  go_enter Try.func37, Try.ntmps37
  go_wp2_with fail
  refine (withStmt_any a 0 r _ h0 h1 (by decide) (by decide) HR.out).mono ?_
  rintro e w' ⟨rfl, rfl⟩
  go_wp2_with fail
  go_ret
  exact ⟨rfl, rfl⟩

set_option maxHeartbeats 400000 in
theorem LicoDefaultStmt_any (a r : Int) (w : World) (h0 : 0 ≤ a) (h1 : a < 4294967296) (hr : withStmtOf a 0 = r) :
    Calls Try.prog 26 #[.int .u32 a] w fun e w' => e = .returned (.int .u32 r) ∧ w = w' := by
  have HR := Lib.hid hr
  clear hr
  go_enter Try.func26, Try.ntmps26
  go_wp2_with fail
  refine (withDefaultStmt_any a r _ h0 h1 HR.out).mono ?_
  rintro e w' ⟨rfl, rfl⟩
  go_wp2_with fail
  go_ret
  exact ⟨rfl, rfl⟩

set_option maxHeartbeats 400000 in
theorem DefaultStmt_any (a r : Int) (w : World) (h0 : 0 ≤ a) (h1 : a < 4294967296) (hr : withStmtOf a 0 = r) :
    Calls Try.prog 18 #[.int .u32 a] w fun e w' => e = .returned (.int .u32 r) ∧ w = w' := by
  have HR := Lib.hid hr
  clear hr
  go_enter Try.func18, Try.ntmps18
  go_wp2_with fail
  refine (LicoDefaultStmt_any a r _ h0 h1 HR.out).mono ?_
  rintro e w' ⟨rfl, rfl⟩
  go_wp2_with fail
  go_ret
  exact ⟨rfl, rfl⟩

set_option maxHeartbeats 400000 in
theorem withIsStmt_any (a r : Int) (w : World) (h0 : 0 ≤ a) (h1 : a < 4294967296) (hr : withStmtOf a 1 = r) :
    Calls Try.prog 38 #[.int .u32 a] w fun e w' => e = .returned (.int .u32 r) ∧ w = w' := by
  have HR := Lib.hid hr
  clear hr
  go_enter Try.func38, Try.ntmps38
  go_wp2_with fail
  refine (withStmt_any a 1 r _ h0 h1 (by decide) (by decide) HR.out).mono ?_
  rintro e w' ⟨rfl, rfl⟩
  go_wp2_with fail
  go_ret
  exact ⟨rfl, rfl⟩

set_option maxHeartbeats 400000 in
theorem LicoIsStmt_any (a r : Int) (w : World) (h0 : 0 ≤ a) (h1 : a < 4294967296) (hr : withStmtOf a 1 = r) :
    Calls Try.prog 27 #[.int .u32 a] w fun e w' => e = .returned (.int .u32 r) ∧ w = w' := by
  have HR := Lib.hid hr
  clear hr
  go_enter Try.func27, Try.ntmps27
  go_wp2_with fail
  refine (withIsStmt_any a r _ h0 h1 HR.out).mono ?_
  rintro e w' ⟨rfl, rfl⟩
  go_wp2_with fail
  go_ret
  exact ⟨rfl, rfl⟩

set_option maxHeartbeats 400000 in
theorem IsStmt_any (a r : Int) (w : World) (h0 : 0 ≤ a) (h1 : a < 4294967296) (hr : withStmtOf a 1 = r) :
    Calls Try.prog 19 #[.int .u32 a] w fun e w' => e = .returned (.int .u32 r) ∧ w = w' := by
  have HR := Lib.hid hr
  clear hr
  go_enter Try.func19, Try.ntmps19
  go_wp2_with fail
  refine (LicoIsStmt_any a r _ h0 h1 HR.out).mono ?_
  rintro e w' ⟨rfl, rfl⟩
  go_wp2_with fail
  go_ret
  exact ⟨rfl, rfl⟩

set_option maxHeartbeats 400000 in
theorem LicoXlogue_any (a s r : Int) (w : World) (h0 : 0 ≤ a) (h1 : a < 4294967296) (h2 : 0 ≤ s) (h3 : s < 4) (hr : withMarkOf a s = r) :
    Calls Try.prog 29 #[.int .u32 a, .int .u64 s] w fun e w' => e = .returned (.int .u32 r) ∧ w = w' := by
  have HR := Lib.hid hr
  clear hr
  go_enter Try.func29, Try.ntmps29
  go_wp2_with fail
  refine (withXlogue_any a s r _ h0 h1 h2 h3 HR.out).mono ?_
  rintro e w' ⟨rfl, rfl⟩
  go_wp2_with fail
  go_ret
  exact ⟨rfl, rfl⟩

set_option maxHeartbeats 400000 in
theorem Xlogue_any (a s r : Int) (w : World) (h0 : 0 ≤ a) (h1 : a < 4294967296) (h2 : 0 ≤ s) (h3 : s < 4) (hr : withMarkOf a s = r) :
    Calls Try.prog 21 #[.int .u32 a, .int .u64 s] w fun e w' => e = .returned (.int .u32 r) ∧ w = w' := by
  have HR := Lib.hid hr
  clear hr
  go_enter Try.func21, Try.ntmps21
  go_wp2_with fail
  refine (LicoXlogue_any a s r _ h0 h1 h2 h3 HR.out).mono ?_
  rintro e w' ⟨rfl, rfl⟩
  go_wp2_with fail
  go_ret
  exact ⟨rfl, rfl⟩

set_option maxHeartbeats 400000 in
theorem atColumn1_any (a r : Int) (w : World) (h0 : 0 ≤ a) (h1 : a < 4294967296) (hr : withStmtOf (wordOf (a / 4096) 1) 1 = r) :
    Calls Try.prog 41 #[.int .u32 a] w fun e w' => e = .returned (.int .u32 r) ∧ w = w' := by
  have HR := Lib.hid hr
  clear hr
  go_enter Try.func41, Try.ntmps41
  go_wp2_with fail
  refine (line_any a _ _ h0 h1 rfl).mono ?_
  rintro e w' ⟨rfl, rfl⟩
  go_wp2_with fail
  refine (makeLico_any _ 1 _ _ (by omega) (by decide) (by decide) rfl).mono ?_
  rintro e w' ⟨rfl, rfl⟩
  go_wp2_with fail
  refine (withIsStmt_any _ r _ (wordOf_in _ _ (by omega) (by decide)).1 (wordOf_in _ _ (by omega) (by decide)).2 HR.out).mono ?_
  rintro e w' ⟨rfl, rfl⟩
  go_wp2_with fail
  go_ret
  exact ⟨rfl, rfl⟩

set_option maxHeartbeats 400000 in
theorem LicoColumn1_any (a r : Int) (w : World) (h0 : 0 ≤ a) (h1 : a < 4294967296) (hr : withStmtOf (wordOf (a / 4096) 1) 1 = r) :
    Calls Try.prog 30 #[.int .u32 a] w fun e w' => e = .returned (.int .u32 r) ∧ w = w' := by
  have HR := Lib.hid hr
  clear hr
  go_enter Try.func30, Try.ntmps30
  go_wp2_with fail
  refine (atColumn1_any a r _ h0 h1 HR.out).mono ?_
  rintro e w' ⟨rfl, rfl⟩
  go_wp2_with fail
  go_ret
  exact ⟨rfl, rfl⟩

set_option maxHeartbeats 400000 in
theorem Column1_any (a r : Int) (w : World) (h0 : 0 ≤ a) (h1 : a < 4294967296) (hr : withStmtOf (wordOf (a / 4096) 1) 1 = r) :
    Calls Try.prog 22 #[.int .u32 a] w fun e w' => e = .returned (.int .u32 r) ∧ w = w' := by
  have HR := Lib.hid hr
  clear hr
  go_enter Try.func22, Try.ntmps22
  go_wp2_with fail
  refine (LicoColumn1_any a r _ h0 h1 HR.out).mono ?_
  rintro e w' ⟨rfl, rfl⟩
  go_wp2_with fail
  go_ret
  exact ⟨rfl, rfl⟩

set_option maxHeartbeats 400000 in
theorem SameLine_any (a b : Int) (r : Bool) (w : World) (h0 : 0 ≤ a) (h1 : a < 4294967296) (h2 : 0 ≤ b) (h3 : b < 4294967296) (hr : sameLineB a b = r) :
    Calls Try.prog 42 #[.int .u32 a, .int .u32 b] w fun e w' => e = .returned (.bool r) ∧ w = w' := by
  have HR := Lib.hid hr
  clear hr
  go_enter Try.func42, Try.ntmps42
  go_wp2_with fail
  go_ret
  exact ⟨ret_bool ((same_line a b h0 h1 h2 h3).trans HR.out), rfl⟩

set_option maxHeartbeats 400000 in
theorem LicoSameLine_any (a b : Int) (r : Bool) (w : World) (h0 : 0 ≤ a) (h1 : a < 4294967296) (h2 : 0 ≤ b) (h3 : b < 4294967296) (hr : sameLineB a b = r) :
    Calls Try.prog 31 #[.int .u32 a, .int .u32 b] w fun e w' => e = .returned (.bool r) ∧ w = w' := by
  have HR := Lib.hid hr
  clear hr
  go_enter Try.func31, Try.ntmps31
  go_wp2_with fail
  refine (SameLine_any a b r _ h0 h1 h2 h3 HR.out).mono ?_
  rintro e w' ⟨rfl, rfl⟩
  go_wp2_with fail
  go_ret
  exact ⟨rfl, rfl⟩

set_option maxHeartbeats 400000 in
theorem implSameLine_any (a b : Int) (r : Bool) (w : World) (h0 : 0 ≤ a) (h1 : a < 4294967296) (h2 : 0 ≤ b) (h3 : b < 4294967296) (hr : sameLineB a b = r) :
    Calls Try.prog 23 #[.int .u32 a, .int .u32 b] w fun e w' => e = .returned (.bool r) ∧ w = w' := by
  have HR := Lib.hid hr
  clear hr
  go_enter Try.func23, Try.ntmps23
  go_wp2_with fail
  refine (LicoSameLine_any a b r _ h0 h1 h2 h3 HR.out).mono ?_
  rintro e w' ⟨rfl, rfl⟩
  go_wp2_with fail
  go_ret
  exact ⟨rfl, rfl⟩

set_option maxHeartbeats 400000 in
theorem within_any (n m r : Int) (w : World) (h0 : 0 ≤ n) (h1 : n < 18446744073709551616) (h2 : 0 ≤ m) (h3 : m < 1000000000) (hr : n % (m + 1) = r) :
    Calls Try.prog 12 #[.int .u64 n, .int .u64 m] w fun e w' => e = .returned (.int .u64 r) ∧ w = w' := by
  have HR := Lib.hid hr
  clear hr
  go_enter Try.func12, Try.ntmps12
  go_wp2_with fail
  go_ret
  exact ⟨ret_int HR.out, rfl⟩

end Go.Proofs.Ytidhemcpoelebaa
