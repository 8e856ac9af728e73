/- The order of positions, in plain words; Before and After of the thin package by it. -/
import Derived.Test.YtlohgoedlkkicaaImpl
import Derived.Test.YtlohgoedlkkicaaLess
namespace Go.Proofs.Ytlohgoedlkkicaa
open Go.RowKit Go.Proofs.Ytlohgoedlkkicaa.Bits

theorem bl_irrefl : ∀ x : List UInt8, Op.bytesLess x x = false
  | [] => rfl
  | a :: x => by unfold Op.bytesLess; rw [bl_irrefl x]; simp
theorem u8_lt (a b : UInt8) : (a < b) ↔ a.toNat < b.toNat := UInt8.lt_iff_toNat_lt
theorem bl_trans : ∀ x y z : List UInt8, Op.bytesLess x y = true → Op.bytesLess y z = true → Op.bytesLess x z = true
  | _, [], _, h, _ => by unfold Op.bytesLess at h; cases h
  | _, _ :: _, [], _, h => by unfold Op.bytesLess at h; cases h
  | [], _ :: _, _ :: _, _, _ => by unfold Op.bytesLess; rfl
  | a :: x, b :: y, c :: z, h1, h2 => by
    unfold Op.bytesLess at h1 h2 ⊢
    simp only [Bool.or_eq_true, decide_eq_true_eq, Bool.and_eq_true, beq_iff_eq] at h1 h2 ⊢
    rcases h1 with h1 | ⟨rfl, h1⟩
    · rcases h2 with h2 | ⟨rfl, _⟩
      · left; rw [u8_lt] at *; omega
      · left; exact h1
    · rcases h2 with h2 | ⟨rfl, h2⟩
      · left; exact h2
      · right; exact ⟨rfl, bl_trans x y z h1 h2⟩
theorem bl_total : ∀ x y : List UInt8, x ≠ y → Op.bytesLess x y = !(Op.bytesLess y x)
  | [], [], h => absurd rfl h
  | [], _ :: _, _ => by unfold Op.bytesLess; rfl
  | _ :: _, [], _ => by unfold Op.bytesLess; rfl
  | a :: x, b :: y, h => by
    unfold Op.bytesLess
    by_cases e : a = b
    · subst e
      have hx : x ≠ y := fun e => h (by rw [e])
      have := bl_total x y hx
      simp [this]
    · have e2 : (a == b) = false := by simpa using e
      have e3 : (b == a) = false := by simpa using Ne.symm e
      rw [e2, e3]
      have hne : a.toNat ≠ b.toNat := fun h => e (UInt8.toNat_inj.1 h)
      by_cases hl : a < b
      · have hl2 : ¬ b < a := by rw [u8_lt] at *; omega
        simp [hl, hl2]
      · have hl2 : b < a := by rw [u8_lt] at *; omega
        simp [hl, hl2]

theorem strEq_iff {f g : ByteArray} : strEq f g = true ↔ f.toList = g.toList := by unfold strEq; exact beq_iff_eq
theorem strEq_comm (f g : ByteArray) : strEq f g = strEq g f := by
  rw [Bool.eq_iff_iff, strEq_iff, strEq_iff]; exact eq_comm
theorem strLt_eq {f g : ByteArray} (h : strEq f g = true) : strLt f g = false := by
  unfold strLt; rw [strEq_iff.1 h]; exact bl_irrefl _
theorem strLt_ne {f g : ByteArray} (h : strEq f g = false) : strLt f g = !strLt g f := by
  unfold strLt
  exact bl_total _ _ (fun e => by rw [strEq_iff.2 e] at h; cases h)
theorem strLt_trans {f g k : ByteArray} (h1 : strLt f g = true) (h2 : strLt g k = true) : strLt f k = true := bl_trans _ _ _ h1 h2
theorem strLt_left {f g k : ByteArray} (h1 : strEq f g = true) : strLt f k = strLt g k := by unfold strLt; rw [strEq_iff.1 h1]
theorem strLt_right {f g k : ByteArray} (h1 : strEq f g = true) : strLt k f = strLt k g := by unfold strLt; rw [strEq_iff.1 h1]

/-- The bounds of a position of which something is said. -/
structure FineP (n : Nat) (p q s : Int) : Prop where
  b1 : p < n
  l0 : 0 ≤ q
  l1 : q ≤ 1000000
  c0 : 0 ≤ s
  c1 : s ≤ 250
theorem fineP_of {n : Nat} {x : PosD} (h : posFineB n x = true) (hi : PosIn x) : FineP n x.base x.line x.col := by
  obtain ⟨_, h1, h2, h3⟩ := posFine_spec h
  exact ⟨h1, hi.l0, h2, hi.c0, h3⟩

theorem word_lt {q1 s1 q2 s2 : Int} (a1 : 0 ≤ q1) (a2 : q1 ≤ 1000000) (a3 : 0 ≤ s1) (a4 : s1 ≤ 250) (b1 : 0 ≤ q2) (b2 : q2 ≤ 1000000) (b3 : 0 ≤ s2) (b4 : s2 ≤ 250) :
    decide (wordOf q1 s1 < wordOf q2 s2) = if q1 = q2 then decide (s1 < s2) else decide (q1 < q2) := by
  rw [wordOf_plain _ _ (by omega) (by omega), wordOf_plain _ _ (by omega) (by omega)]
  by_cases e : q1 = q2
  · rw [if_pos e, Bool.eq_iff_iff, decide_eq_true_eq, decide_eq_true_eq]; omega
  · rw [if_neg e, Bool.eq_iff_iff, decide_eq_true_eq, decide_eq_true_eq]; omega

theorem posLt_less {f g : ByteArray} {n : Nat} {p1 q1 s1 p2 q2 s2 : Int} (h1 : FineP n p1 q1 s1) (h2 : FineP n p2 q2 s2) : posLt f g (wordOf q1 s1) (wordOf q2 s2) = lessB f g q1 q2 s1 s2 := by
  unfold posLt lessB
  rw [word_lt h1.l0 h1.l1 h1.c0 h1.c1 h2.l0 h2.l1 h2.c0 h2.c1]
  cases he : strEq f g with
  | true => rw [strLt_eq he]; simp
  | false => simp
theorem posGt_less {f g : ByteArray} {n : Nat} {p1 q1 s1 p2 q2 s2 : Int} (h1 : FineP n p1 q1 s1) (h2 : FineP n p2 q2 s2) : posGt f g (wordOf q1 s1) (wordOf q2 s2) = lessB g f q2 q1 s2 s1 := by
  unfold posGt lessB
  rw [word_lt h2.l0 h2.l1 h2.c0 h2.c1 h1.l0 h1.l1 h1.c0 h1.c1, strEq_comm g f]
  cases he : strEq f g with
  | true => rw [strLt_eq he]; simp
  | false => rw [strLt_ne he]; simp

theorem lessB_trans {f g k : ByteArray} {q1 q2 q3 s1 s2 s3 : Int} (h1 : lessB f g q1 q2 s1 s2 = true) (h2 : lessB g k q2 q3 s2 s3 = true) : lessB f k q1 q3 s1 s3 = true := by
  unfold lessB at *
  cases e1 : strEq f g with
  | true =>
    rw [e1] at h1
    have e3 : strEq f k = strEq g k := by unfold strEq; rw [strEq_iff.1 e1]
    rw [e3]
    cases e2 : strEq g k with
    | true =>
      rw [e2] at h2
      simp only [if_true] at *
      by_cases a : q1 = q2 <;> by_cases b : q2 = q3 <;> by_cases c : q1 = q3 <;> simp only [a, b, c, if_true, if_false, decide_eq_true_eq] at * <;> simp_all <;> omega
    | false =>
      rw [e2] at h2
      simp only [Bool.false_eq_true, if_false] at *
      rw [strLt_left e1]; exact h2
  | false =>
    rw [e1] at h1
    simp only [Bool.false_eq_true, if_false] at h1
    cases e2 : strEq g k with
    | true =>
      have e3 : strEq f k = strEq f g := by unfold strEq; rw [strEq_iff.1 e2]
      rw [e3, e1]
      simp only [Bool.false_eq_true, if_false]
      rw [← strLt_right e2]; exact h1
    | false =>
      rw [e2] at h2
      simp only [Bool.false_eq_true, if_false] at h2
      have h3 := strLt_trans h1 h2
      cases e3 : strEq f k with
      | true => rw [strLt_eq e3] at h3; cases h3
      | false => simpa using h3
theorem lessB_asymm {f g : ByteArray} {q1 q2 s1 s2 : Int} (h1 : lessB f g q1 q2 s1 s2 = true) : lessB g f q2 q1 s2 s1 = false := by
  unfold lessB at *
  rw [strEq_comm g f]
  cases e1 : strEq f g with
  | true =>
    rw [e1] at h1
    simp only [if_true] at *
    by_cases a : q1 = q2
    · rw [if_pos a, decide_eq_true_eq] at h1
      rw [if_pos a.symm, decide_eq_false_iff_not]; omega
    · rw [if_neg a, decide_eq_true_eq] at h1
      rw [if_neg (Ne.symm a), decide_eq_false_iff_not]; omega
  | false =>
    rw [e1] at h1
    simp only [Bool.false_eq_true, if_false] at *
    rw [strLt_ne e1] at h1
    simpa using h1

theorem Before_less (A : Option Addr) (n c : Nat) (bs : List BaseD) (p1 q1 s1 p2 q2 s2 : Int) (w : World) (h : Bases w A n c bs) (hn : n ≤ 2147483647) (hok : ∀ (i : Nat) (x : BaseD), bs[i]? = some x → BaseOk bs i x)
    (h1 : FineP n p1 q1 s1) (h2 : FineP n p2 q2 s2) (r : Bool) (hr : lessB (fileB bs p1) (fileB bs p2) q1 q2 s1 s2 = r) :
    Calls Try.prog 10 #[.slice A n c, .agg #[.int .i64 p1, .int .u64 q1, .int .u64 s1], .agg #[.int .i64 p2, .int .u64 q2, .int .u64 s2]] w fun e w' => e = .returned (.bool r) ∧ Below w.heap.size w w' :=
  Before_any A n c bs p1 q1 s1 p2 q2 s2 _ _ w h hn hok h1.b1 h1.l0 h1.c0 h1.c1 rfl h2.b1 h2.l0 h2.c0 h2.c1 rfl r (by rw [posLt_less h1 h2]; exact hr)

theorem After_less (A : Option Addr) (n c : Nat) (bs : List BaseD) (p1 q1 s1 p2 q2 s2 : Int) (w : World) (h : Bases w A n c bs) (hn : n ≤ 2147483647) (hok : ∀ (i : Nat) (x : BaseD), bs[i]? = some x → BaseOk bs i x)
    (h1 : FineP n p1 q1 s1) (h2 : FineP n p2 q2 s2) (r : Bool) (hr : lessB (fileB bs p2) (fileB bs p1) q2 q1 s2 s1 = r) :
    Calls Try.prog 12 #[.slice A n c, .agg #[.int .i64 p1, .int .u64 q1, .int .u64 s1], .agg #[.int .i64 p2, .int .u64 q2, .int .u64 s2]] w fun e w' => e = .returned (.bool r) ∧ Below w.heap.size w w' :=
  After_any A n c bs p1 q1 s1 p2 q2 s2 _ _ w h hn hok h1.b1 h1.l0 h1.c0 h1.c1 rfl h2.b1 h2.l0 h2.c0 h2.c1 rfl r (by rw [posGt_less h1 h2]; exact hr)

theorem works_below (w : World) : Calls Try.prog 13 #[] w fun e w' => e = .returned (.bool true) ∧ Below w.heap.size w w' :=
  (works_any w).mono fun _ _ ⟨he, hw⟩ => ⟨he, by subst hw; exact Below.refl _ _⟩
end Go.Proofs.Ytlohgoedlkkicaa
