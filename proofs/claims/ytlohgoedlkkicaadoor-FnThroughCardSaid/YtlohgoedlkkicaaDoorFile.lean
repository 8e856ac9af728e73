/- The walk of the reference's File. -/
import Derived.Test.YtlohgoedlkkicaaDoorMem
import Derived.Test.YtlohgoedlkkicaaDoorValid
namespace Go.Proofs.YtlohgoedlkkicaaDoor
open Go.RowKit

/-- The name of the file in which a position of base b is. -/
def fileB (bs : List BaseD) (b : Int) : ByteArray :=
  if b < 0 then ⟨#[]⟩ else match bs[b.toNat]? with
    | none => ⟨#[]⟩
    | some x => if x.pos.base < 0 then x.file else match bs[x.pos.base.toNat]? with
      | none => ⟨#[]⟩
      | some y => y.file
theorem fileB_none {bs : List BaseD} {b : Int} (h : b < 0) : fileB bs b = ⟨#[]⟩ := by unfold fileB; rw [if_pos h]
theorem fileB_file {bs : List BaseD} {m : Nat} {x : BaseD} (hx : bs[m]? = some x) (h : x.pos.base < 0) : fileB bs (m : Int) = x.file := by
  unfold fileB
  rw [if_neg (by omega), Int.toNat_natCast, hx]
  simp only
  rw [if_pos h]
theorem fileB_line {bs : List BaseD} {m k : Nat} {x y : BaseD} (hx : bs[m]? = some x) (h : x.pos.base = k) (hy : bs[k]? = some y) : fileB bs (m : Int) = y.file := by
  unfold fileB
  rw [if_neg (by omega), Int.toNat_natCast, hx]
  simp only
  rw [if_neg (by omega), h, Int.toNat_natCast, hy]

set_option maxHeartbeats 4000000 in
theorem File_any (A : Option Addr) (n c : Nat) (bs : List BaseD) (p q s : Int) (w : World) (h : Bases w A n c bs) (hok : ∀ (i : Nat) (x : BaseD), bs[i]? = some x → BaseOk bs i x) (hp : p < n) (f : ByteArray) (hf : fileB bs p = f) :
    Calls Tryd.prog 14 #[.slice A n c, .agg #[.int .i64 p, .int .u64 q, .int .u64 s]] w fun e w' => e = .returned (.string f) ∧ Below w.heap.size w w' := by
  have hl := h.len
  by_cases hp0 : p < 0
  · obtain rfl := (fileB_none hp0).symm.trans hf
    clear hf
    go_enter Tryd.func14, Tryd.ntmps14
    go_wp2
    go_ret
    exact ⟨rfl, below_new _ _⟩
  · obtain ⟨m, rfl⟩ : ∃ m : Nat, p = m := ⟨p.toNat, by omega⟩
    obtain ⟨b, o, rfl, hx⟩ := h.lies (by omega)
    obtain ⟨x, hxe⟩ : ∃ x, bs[m]? = some x := ⟨bs[m]'(by omega), List.getElem?_eq_getElem (by omega)⟩
    have hW1 := below_new w (.cells #[.int .i64 m, .int .u64 q, .int .u64 s] 25)
    obtain ⟨d0, d1, d2, d3, d4, d5, d6⟩ := (hx m x hxe).keep hW1
    have hmn : (m : Int) < (n : Int) := by omega
    have hm0 : (0 : Int) ≤ (m : Int) := by omega
    by_cases hb : x.pos.base < 0
    · have HF := Lib.hid ((fileB_file hxe hb).symm.trans hf)
      obtain ⟨xf, xa, ⟨xp, xq, xs⟩, xl, xc⟩ := x
      simp only at d0 d1 d2 d3 d4 d5 d6 hb HF
      have hW2 := (below_new w (.cells #[.int .i64 m, .int .u64 q, .int .u64 s] 25)).trans ((below_new (w.alloc (.cells #[.int .i64 m, .int .u64 q, .int .u64 s] 25)) (.cells #[.string xf, .string xa, .int .i64 xp, .int .u64 xq, .int .u64 xs, .int .u64 xl, .int .u64 xc] 29)).mono (by simp))
      obtain ⟨e0, _, _, _, _, _, _⟩ := (hx m _ hxe).keep hW2
      have HW2 := Lib.hid hW2
      clear hf hx hxe hW1 hW2 h hok
      go_enter Tryd.func14, Tryd.ntmps14
      go_wp2
      go_ret
      exact ⟨congrArg (fun t => Ending.returned (.string t)) HF.out, HW2.out⟩
    · obtain ⟨k, y, hk, hkm, hy⟩ : ∃ (k : Nat) (y : BaseD), x.pos.base = k ∧ k < m ∧ bs[k]? = some y := by
        rcases hok m x hxe with ⟨h1, _⟩ | ⟨k, y, h1, h2, h3, _⟩
        · omega
        · exact ⟨k, y, h1, h2, h3⟩
      have HF := Lib.hid ((fileB_line hxe hk hy).symm.trans hf)
      obtain ⟨xf, xa, ⟨xp, xq, xs⟩, xl, xc⟩ := x
      simp only at d0 d1 d2 d3 d4 d5 d6 hb hk
      subst hk
      have hW2 := (below_new w (.cells #[.int .i64 m, .int .u64 q, .int .u64 s] 25)).trans ((below_new (w.alloc (.cells #[.int .i64 m, .int .u64 q, .int .u64 s] 25)) (.cells #[.string xf, .string xa, .int .i64 k, .int .u64 xq, .int .u64 xs, .int .u64 xl, .int .u64 xc] 29)).mono (by simp))
      obtain ⟨e0, _, _, _, _, _, _⟩ := (hx k y hy).keep hW2
      have hkn : (k : Int) < (n : Int) := by omega
      have hk0 : (0 : Int) ≤ (k : Int) := by omega
      have HW2 := Lib.hid hW2
      clear hf hx hxe hy hW1 hW2 h hok hb
      go_enter Tryd.func14, Tryd.ntmps14
      go_wp2
      go_ret
      exact ⟨congrArg (fun t => Ending.returned (.string t)) HF.out, HW2.out⟩
end Go.Proofs.YtlohgoedlkkicaaDoor
