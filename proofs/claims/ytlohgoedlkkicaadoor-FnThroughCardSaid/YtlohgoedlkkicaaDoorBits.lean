/- Plain facts about masks, shifts and joins of whole numbers, as the words of this seat use them. No Go, no memory. -/
import Derived.Laws.BitsAllLaws
namespace Go.Proofs.YtlohgoedlkkicaaDoor.Bits

theorem nat_high (k n x : Nat) (h : x < 2 ^ (n + k)) : x &&& ((2 ^ n - 1) * 2 ^ k) = x / 2 ^ k * 2 ^ k := by
  apply Nat.eq_of_testBit_eq
  intro i
  rw [Nat.testBit_and, ← Nat.shiftLeft_eq, ← Nat.shiftLeft_eq, ← Nat.shiftRight_eq_div_pow, Nat.testBit_shiftLeft, Nat.testBit_shiftLeft, Nat.testBit_shiftRight, Nat.testBit_two_pow_sub_one]
  by_cases hk : k ≤ i
  · have e : k + (i - k) = i := by omega
    rw [e]
    by_cases hn : i - k < n
    · simp [hk, hn]
    · have hx : x.testBit i = false := Nat.testBit_lt_two_pow (Nat.lt_of_lt_of_le h (Nat.pow_le_pow_right (by omega) (by omega)))
      simp [hx]
  · simp [hk]

theorem u64_self (a : Int) (h0 : 0 ≤ a) (h1 : a < 18446744073709551616) : IntKind.u64.wrap a = a := by
  have e : IntKind.u64.wrap a = a % 18446744073709551616 := by simp [IntKind.wrap, IntKind.bits, IntKind.signed]
  rw [e]; omega

theorem and255 (x : Int) (h0 : 0 ≤ x) (h1 : x < 18446744073709551616) : Go.bits .and .u64 x 255 = x % 256 := by
  rw [u64_and x 255 h0 h1 (by omega) (by omega)]
  have e : (255 : Int).toNat = 255 := rfl
  rw [e, nat_mask8]; omega

theorem and3 (x : Int) (h0 : 0 ≤ x) (h1 : x < 18446744073709551616) : Go.bits .and .u64 x 3 = x % 4 := by
  rw [u64_and x 3 h0 h1 (by omega) (by omega)]
  have e : (3 : Int).toNat = 3 := rfl
  rw [e, nat_mask2]; omega

theorem and_not3 (x : Int) (h0 : 0 ≤ x) (h1 : x < 18446744073709551616) : Go.bits .and .u64 x 18446744073709551612 = x / 4 * 4 := by
  rw [u64_and x 18446744073709551612 h0 h1 (by omega) (by omega)]
  have e : (18446744073709551612 : Int).toNat = (2 ^ 62 - 1) * 2 ^ 2 := by decide
  rw [e, nat_high 2 62 x.toNat (by omega)]; omega

theorem nat_not12 (x : Nat) (h : x < 18446744073709551616) : x &&& 18446744073709551603 = x / 16 * 16 + x % 4 := by
  have e : (18446744073709551603 : Nat) = (2 ^ 60 - 1) * 2 ^ 4 ||| 3 := by
    rw [nat_join 4 _ _ (by decide) (by decide)]
  rw [e, Nat.and_or_distrib_left, nat_high 4 60 x (by omega), nat_mask2, nat_join 4 _ _ (by omega) (by omega)]

theorem and_not12 (x : Int) (h0 : 0 ≤ x) (h1 : x < 18446744073709551616) : Go.bits .and .u64 x 18446744073709551603 = x / 16 * 16 + x % 4 := by
  rw [u64_and x 18446744073709551603 h0 h1 (by omega) (by omega)]
  have e : (18446744073709551603 : Int).toNat = 18446744073709551603 := by decide
  rw [e, nat_not12 x.toNat (by omega)]; omega

theorem or_stmt (y s : Int) (h0 : 0 ≤ y) (h1 : y < 1073741824) (h2 : 0 ≤ s) (h3 : s < 4) : Go.bits .or .u64 (y * 4) s = y * 4 + s := by
  rw [u64_or (y * 4) s (by omega) (by omega) h2 (by omega), nat_join 2 _ _ (by omega) (by omega)]; omega

theorem or_mark (y z m : Int) (h0 : 0 ≤ y) (h1 : y < 268435456) (h2 : 0 ≤ z) (h3 : z < 4) (h4 : 0 ≤ m) (h5 : m < 4) : Go.bits .or .u64 (y * 16 + z) (m * 4) = y * 16 + z + m * 4 := by
  rw [u64_or (y * 16 + z) (m * 4) (by omega) (by omega) (by omega) (by omega)]
  have e1 : (y * 16 + z).toNat = y.toNat * 16 ||| z.toNat := by
    rw [nat_join 4 _ _ (by omega) (by omega)]; omega
  have e2 : z.toNat ||| (m * 4).toNat = (m * 4).toNat + z.toNat := by
    rw [Nat.or_comm, nat_join 2 _ _ (by omega) (by omega)]
  rw [e1, Nat.or_assoc, e2, nat_join 4 _ _ (by omega) (by omega)]; omega

theorem or_word (l c : Int) (h0 : 0 ≤ l) (h1 : l < 1048576) (h2 : 0 ≤ c) (h3 : c < 256) : Go.bits .or .u64 (l * 4096) (c * 16) = l * 4096 + c * 16 := by
  rw [u64_or (l * 4096) (c * 16) (by omega) (by omega) (by omega) (by omega), nat_join 12 _ _ (by omega) (by omega)]; omega

theorem nat_xor_zero (a b : Nat) : a ^^^ b = 0 ↔ a = b := by
  constructor
  · intro h
    have e : a ^^^ b ^^^ b = b := by rw [h, Nat.zero_xor]
    rwa [Nat.xor_assoc, Nat.xor_self, Nat.xor_zero] at e
  · rintro rfl; exact Nat.xor_self _

theorem same_line (a b : Int) (h0 : 0 ≤ a) (h1 : a < 4294967296) (h2 : 0 ≤ b) (h3 : b < 4294967296) :
    ((0 : Int) == Go.bits .andNot .u32 (Go.bits .xor .u32 a b) 4095) = decide (a / 4096 = b / 4096) := by
  have hx : a.toNat ^^^ b.toNat < 2 ^ 32 := Nat.xor_lt_two_pow (by omega) (by omega)
  rw [u32_xor a b h0 h1 h2 h3, u32_andNot _ 4095 (by omega) (by omega) (by omega) (by omega)]
  have e : (4294967295 : Nat) - (4095 : Int).toNat = (2 ^ 20 - 1) * 2 ^ 12 := by decide
  rw [e, Int.toNat_natCast, nat_high 12 20 _ (by omega)]
  have hd : (a.toNat ^^^ b.toNat) / 2 ^ 12 = a.toNat / 2 ^ 12 ^^^ b.toNat / 2 ^ 12 := Nat.xor_div_two_pow
  rw [hd]
  have hz := nat_xor_zero (a.toNat / 2 ^ 12) (b.toNat / 2 ^ 12)
  generalize a.toNat / 2 ^ 12 ^^^ b.toNat / 2 ^ 12 = t at *
  rw [Bool.eq_iff_iff]
  simp only [beq_iff_eq, decide_eq_true_eq]
  constructor
  · intro h
    have ht : t = 0 := by omega
    have := hz.1 ht
    omega
  · intro h
    have ht : t = 0 := hz.2 (by omega)
    omega

/-- The statement flag of a word. -/
def isStmtOf (a : Int) : Int := if a = 0 then 2 else a % 4
/-- A word with a statement flag. -/
def withStmtOf (a s : Int) : Int := if a = 0 then 0 else a / 4 * 4 + s
/-- A word with a mark. -/
def withMarkOf (a m : Int) : Int := if a = 0 then (if m = 0 then 0 else 2 + m * 4) else a / 16 * 16 + a % 4 + m * 4
/-- The word of a line and a column. -/
def wordOf (l c : Int) : Int := if 1048574 ≤ l then 4294959104 else if 255 < c then l * 4096 + 4080 else l * 4096 + c * 16
/-- Whether two words have one line. -/
def sameLineB (a b : Int) : Bool := decide (a / 4096 = b / 4096)

theorem wordOf_in (l c : Int) (h0 : 0 ≤ l) (h1 : 0 ≤ c) : 0 ≤ wordOf l c ∧ wordOf l c < 4294967296 := by
  unfold wordOf; split
  · omega
  · split <;> omega
theorem wordOf_plain (l c : Int) (h0 : l < 1048574) (h1 : c ≤ 255) : wordOf l c = l * 4096 + c * 16 := by
  unfold wordOf; rw [if_neg (by omega), if_neg (by omega)]
theorem isStmtOf_in (a : Int) : 0 ≤ isStmtOf a ∧ isStmtOf a < 4 := by unfold isStmtOf; split <;> omega
theorem withStmtOf_in (a s : Int) (h0 : 0 ≤ a) (h1 : a < 4294967296) (h2 : 0 ≤ s) (h3 : s < 4) : 0 ≤ withStmtOf a s ∧ withStmtOf a s < 4294967296 := by
  unfold withStmtOf; split <;> omega
theorem withMarkOf_in (a m : Int) (h0 : 0 ≤ a) (h1 : a < 4294967296) (h2 : 0 ≤ m) (h3 : m < 4) : 0 ≤ withMarkOf a m ∧ withMarkOf a m < 4294967296 := by
  unfold withMarkOf; split
  · split <;> omega
  · omega

end Go.Proofs.YtlohgoedlkkicaaDoor.Bits
