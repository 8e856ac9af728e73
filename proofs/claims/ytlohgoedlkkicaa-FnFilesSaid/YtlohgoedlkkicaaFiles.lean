/- The walk of Files. -/
import Derived.Test.YtlohgoedlkkicaaFileTable
import Derived.Test.YtlohgoedlkkicaaCompact
namespace Go.Proofs.Ytlohgoedlkkicaa
open Go.RowKit Go.Proofs.Ytlohgoedlkkicaa.Bits

structure FilesIs (bs : List BaseD) (ps : List PosD) (ns : List ByteArray) : Prop where
  nodup : ns.Nodup
  mem : ∀ p ∈ ps, 0 ≤ p.base → ∀ x, bs[p.base.toNat]? = some x → x.abs ∈ ns
def FilesPost (w : World) (bs : List BaseD) (ps : List PosD) (e : Ending) (w' : World) : Prop :=
  ∃ (vo : Value) (ns : List ByteArray), e = .returned vo ∧ w'.ownsRow w.heap.size 9 1 vo ns.length (strs ns) ∧ Below w.heap.size w w' ∧ FilesIs bs ps ns ∧ ns.length ≤ 2147483647

set_option maxHeartbeats 2000000 in
theorem Files_any (A : Option Addr) (n c : Nat) (bs : List BaseD) (A2 : Option Addr) (m c2 : Nat) (ps : List PosD) (w : World) (h : Bases w A n c bs) (h2 : Poss w A2 m ps) (hn : n ≤ 2147483647) (hm : m ≤ 2147483647) (hok : Okay bs ps) :
    Calls Try.prog 14 #[.slice A n c, .slice A2 m c2] w (FilesPost w bs ps) := by
  have hl := h.len
  go_enter Try.func14, Try.ntmps14
  go_wp2_with fail
  refine (compact_any A n c bs A2 m c2 ps _ h h2 hn hm hok).mono ?_
  rintro e w1 ⟨V, vo, gs, tb, reg, ns, rfl, hT, hmem, _⟩
  have HT := Lib.hid hT
  have HM := Lib.hid hmem
  clear hT hmem
  go_wp2_with fail
  refine (table_any HT.out (by omega)).mono ?_
  rintro e w2 ⟨vf, rfl, hO, hb⟩
  have HO := Lib.hid hO
  have HB := Lib.hid hb
  clear hO hb
  go_wp2
  go_ret
  have hsz := HT.out.below.size
  refine ⟨vf, ns, rfl, ⟨HO.out.1, ?_⟩, HT.out.below.trans (HB.out.mono hsz), ⟨HT.out.names_nodup, fun p hp h0 x hx => HT.out.names _ (HM.out p hp h0) x hx⟩, by have h1 := HT.out.nlen; have h2 := HT.out.short; omega⟩
  rcases HO.out.2 with r | ⟨g', cap, cur, r1, r2, r3⟩
  · exact Or.inl r
  · exact Or.inr ⟨g', cap, cur, r1, by omega, r3⟩
end Go.Proofs.Ytlohgoedlkkicaa
