/- The walks of the helpers of the laws on words. -/
import Derived.Test.YtidhemcpoelebaaWordMore
namespace Go.Proofs.Ytidhemcpoelebaa
open Go.RowKit Go.Proofs.Ytidhemcpoelebaa.Bits

def emptyB (a : Int) : Bool := decide (a / 4096 = 0) && decide (a / 16 % 256 = 0)
theorem emptyB_yes {a : Int} (h : a / 4096 = 0 ∧ a / 16 % 256 = 0) : emptyB a = true := by simp [emptyB, h.1, h.2]
theorem emptyB_no {a : Int} (h : ¬(a / 4096 = 0 ∧ a / 16 % 256 = 0)) : emptyB a = false := by
  unfold emptyB; rw [Bool.eq_false_iff]; intro e; apply h; simpa using e

set_option maxHeartbeats 1000000 in
theorem empty_any (a : Int) (r : Bool) (w : World) (h0 : 0 ≤ a) (h1 : a < 4294967296) (hr : emptyB a = r) :
    Calls Try.prog 16 #[.int .u32 a] w fun e w' => e = .returned (.bool r) ∧ w = w' := by
  have HR := Lib.hid hr
  clear hr
  obtain ⟨l, hl⟩ : ∃ l, l = a / 4096 := ⟨_, rfl⟩
  obtain ⟨c, hc⟩ : ∃ c, c = a / 16 % 256 := ⟨_, rfl⟩
  have HB : Hid (emptyB a = (decide (l = 0) && decide (c = 0))) := by rw [hl, hc]; rfl
  have HL := Lib.hid hl.symm
  have HC := Lib.hid hc.symm
  by_cases e1 : l = 0
  · have g1 : (l == 0) = true := by rw [beq_iff_eq]; exact e1
    have HB2 : Hid (emptyB a = (c == 0)) := by
      show emptyB a = (c == 0)
      rw [HB.out, e1, Bool.eq_iff_iff]; simp
    clear hl hc e1 HB
    go_enter Try.func16, Try.ntmps16
    go_wp2_with fail
    refine (Parts_any a l c _ _ _ h0 h1 HL.out HC.out rfl rfl).mono ?_
    rintro e w' ⟨rfl, rfl⟩
    go_wp2_with fail
    go_ret
    exact ⟨ret_bool (HB2.out.symm.trans HR.out), rfl⟩
  · have g1 : (l == 0) = false := by rw [beq_eq_false_iff_ne]; exact e1
    have HB2 : Hid (emptyB a = false) := by
      show emptyB a = false
      rw [HB.out, decide_eq_false e1, Bool.false_and]
    clear hl hc e1 HB
    go_enter Try.func16, Try.ntmps16
    go_wp2_with fail
    refine (Parts_any a l c _ _ _ h0 h1 HL.out HC.out rfl rfl).mono ?_
    rintro e w' ⟨rfl, rfl⟩
    go_wp2_with fail
    go_ret
    exact ⟨ret_bool (HB2.out.symm.trans HR.out), rfl⟩

set_option maxHeartbeats 1000000 in
theorem flagged_any (x y s : Int) (w : World) (h0 : 0 ≤ x) (h1 : x < 4294967296) (h2 : 0 ≤ y) (h3 : y < 4294967296) (hl : x / 4096 = y / 4096) (hc : x / 16 % 256 = y / 16 % 256) (hs : isStmtOf x = s) (hm : x / 4 % 4 = y / 4 % 4) :
    Calls Try.prog 17 #[.int .u32 x, .int .u32 y, .int .u64 s] w fun e w' => e = .returned (.bool true) ∧ w = w' := by
  have HL := Lib.hid hl
  have HC := Lib.hid hc
  have HS := Lib.hid hs
  have HM := Lib.hid hm
  clear hl hc hs hm
  go_enter Try.func17, Try.ntmps17
  go_wp2_with fail
  refine (Parts_any y _ _ _ _ _ h2 h3 rfl rfl rfl rfl).mono ?_
  rintro e w' ⟨rfl, rfl⟩
  go_wp2_with fail
  refine (Parts_any x _ _ _ _ _ h0 h1 HL.out HC.out HS.out HM.out).mono ?_
  rintro e w' ⟨rfl, rfl⟩
  go_wp2_with fail
  refine (works_any _).mono ?_
  rintro e w' ⟨rfl, rfl⟩
  go_wp2_with fail
  go_ret
  exact ⟨rfl, rfl⟩

end Go.Proofs.Ytidhemcpoelebaa
