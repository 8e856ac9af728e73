/- What format writes, whatever is asked for. -/
import Derived.Test.YtlohgoedlkkicaaDoorFormatN
import Derived.Test.YtlohgoedlkkicaaDoorFormatC
namespace Go.Proofs.YtlohgoedlkkicaaDoor
open Go.Shelf Go.RowKit Go.Sort Go.Lib

def fmtB (f : ByteArray) (line col : Nat) (sc : Bool) : List UInt8 :=
  f.data.toList ++ [58] ++ Lib.decDigits line ++ (if sc && decide (0 < col) && decide (col < 255) then [58] ++ Lib.decDigits col else [])
theorem digits_len {n : Nat} (h : n < 18446744073709551616) : (Lib.decDigits n).length ≤ 20 := by
  rw [Lib.decDigits_length]
  have := decS_small h
  rw [decS_size] at this
  exact this
theorem fmtB_len {f : ByteArray} {line col : Nat} (sc : Bool) (hf : f.size ≤ 2147483647) (hl : line < 18446744073709551616) (hc : col < 18446744073709551616) : (fmtB f line col sc).length ≤ 2147483700 := by
  have h1 := digits_len hl
  have h2 := digits_len hc
  have h3 : f.data.toList.length = f.size := by rw [Array.length_toList]; rfl
  unfold fmtB
  split <;> simp only [List.length_append, List.length_cons, List.length_nil] <;> omega

theorem format_any (B b : Nat) (l : List UInt8) (f : ByteArray) (line col : Nat) (sc : Bool) (w : World) (hb : Buf B b l w) (hB : B ≤ w.heap.size) (hl : line < 18446744073709551616) (htab : ∀ w', RowKit.Below B w w' → Pow10 w') (hf : f.size ≤ 2147483647) (hbs : l.length ≤ 17179869184) :
    Calls Tryd.prog 52 #[.iface 81 (.pointer (some ⟨b, 0, none⟩)), .string f, .int .u64 line, .int .u64 col, .bool sc] w fun e w' => e = .returned (.tuple #[]) ∧ Buf B b (l ++ fmtB f line col sc) w' ∧ RowKit.Below B w w' ∧ Lib.OthersKept 5 (some b) w w' := by
  have ea : l ++ fmtB f line col sc = l ++ f.data.toList ++ [58] ++ Lib.decDigits line ++ (if sc && decide (0 < col) && decide (col < 255) then [58] ++ Lib.decDigits col else []) := by unfold fmtB; simp only [List.append_assoc]
  rw [ea]
  cases sc with
  | false =>
    simp only [Bool.false_and, Bool.false_eq_true, if_false, List.append_nil]
    exact format_plain B b l f line col w hb hB hl htab hf hbs
  | true =>
    by_cases h0 : 0 < col
    · by_cases h1 : col < 255
      · rw [if_pos (by simp [h0, h1]), ← List.append_assoc]
        exact format_col B b l f line col w hb hB hl htab hf hbs h0 h1
      · rw [if_neg (by simp [h1]), List.append_nil]
        exact format_none B b l f line col w hb hB hl htab hf hbs (Or.inr (by omega))
    · rw [if_neg (by simp [h0]), List.append_nil]
      exact format_none B b l f line col w hb hB hl htab hf hbs (Or.inl (by omega))
end Go.Proofs.YtlohgoedlkkicaaDoor
