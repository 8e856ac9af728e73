/- spec.Decimal is the decimal numeral. -/
import Derived.Test.YtlohgoedlkkicaaDoorUint
namespace Go.Proofs.YtlohgoedlkkicaaDoor
open Go.Shelf Go.RowKit Go.Sort Go.Lib

def decS (u : Nat) : ByteArray := ⟨(Lib.decDigits u).toArray⟩
theorem decS_step {u : Nat} (h : ¬ u < 10) : decS (u / 10) ++ decS (u % 10) = decS u := by
  unfold decS
  rw [Lib.decDigits_one (show u % 10 < 10 by omega)]
  have e : Lib.decDigits u = Lib.decDigits (u / 10) ++ [UInt8.ofNat (48 + u % 10)] := by
    conv => lhs; rw [Lib.decDigits]
    rw [dif_neg h]
  rw [e]
  apply ByteArray.ext
  simp [ByteArray.data_append]

theorem decS_size (u : Nat) : (decS u).size = Lib.nDigits u := by
  unfold decS
  rw [← Lib.decDigits_length]
  simp [ByteArray.size]
theorem decS_small {u : Nat} (hu : u < 18446744073709551616) : (decS u).size ≤ 20 := by
  rw [decS_size]
  by_cases h0 : u < 10
  · rw [Lib.nDigits_small h0]; omega
  · have := Lib.numDigits_eq u (by omega) hu
    split at this <;> omega

set_option maxHeartbeats 1000000 in
theorem Decimal_one (u : Nat) (h : u < 10) (w : World) :
    Calls Tryd.prog 13 #[.int .u64 u] w fun e w' => e = .returned (.string (decS u)) ∧ RowKit.Below w.heap.size w w' := by
  have hi : (u : Int) < 10 := by omega
  have hu10 := h
  have hcv : (convert 54 9 (.slice (some ⟨w.heap.size, 0, none⟩) 1 1)).run Tryd.prog (w.alloc (.cells #[.int .u8 (48 + u)] 5)) = .ok (.string (decS u)) (w.alloc (.cells #[.int .u8 (48 + u)] 5)) := by
    have h := run_convert_bytes_back (P := Tryd.prog) (w.alloc (.cells #[.int .u8 (48 + u)] 5)) 54 9 5 ⟨w.heap.size, 0, none⟩ 1 (Lib.decDigits u) Tryd.underlying54 Tryd.underlying5 Tryd.underlying9 (fun j hj => by
      simp only [Lib.decDigits_one hu10, List.length_cons, List.length_nil] at hj ⊢
      have : j = 0 := by omega
      subst this
      rw [Lib.add_plain, World.cell?_alloc_new]
      simp
      omega)
    rw [Lib.decDigits_one hu10] at h
    unfold decS
    rw [Lib.decDigits_one hu10]
    exact h
  go_enter Tryd.func13, Tryd.ntmps13
  go_wp2
  go_ret
  exact ⟨rfl, below_new _ _⟩

set_option maxHeartbeats 1000000 in
theorem Decimal_any (u : Nat) : u < 18446744073709551616 → ∀ w : World,
    Calls Tryd.prog 13 #[.int .u64 u] w fun e w' => e = .returned (.string (decS u)) ∧ RowKit.Below w.heap.size w w' := by
  induction u using Nat.strongRecOn with
  | _ u ih =>
    intro hu w
    by_cases h : u < 10
    · exact Decimal_one u h w
    · have h10 : ¬ (u : Int) < 10 := by omega
      have i1 := ih (u / 10) (by omega) (by omega)
      have i2 := Decimal_one (u % 10) (by omega)
      have HS := Lib.hid (decS_step h)
      have s1 := decS_small (u := u / 10) (by omega)
      have s2 := decS_small (u := u % 10) (by omega)
      have hlim : ¬ 9223372036854775807 < (decS (u / 10)).size + (decS (u % 10)).size := by omega
      go_enter Tryd.func13, Tryd.ntmps13
      go_wp2_with fail
      refine (i1 _).mono ?_
      rintro e w1 ⟨rfl, hb1⟩
      go_wp2_with fail
      refine (i2 _).mono ?_
      rintro e w2 ⟨rfl, hb2⟩
      have HB := Lib.hid (below_then hb1 hb1.size hb2)
      clear hb1 hb2 i1 i2 ih
      go_wp2
      go_ret
      exact ⟨congrArg (fun z => Ending.returned (.string z)) HS.out, HB.out⟩
end Go.Proofs.YtlohgoedlkkicaaDoor
