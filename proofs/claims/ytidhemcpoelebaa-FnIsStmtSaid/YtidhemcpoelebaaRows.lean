/-
  No cell of these rows narrows 'for every input' (looked for: loops, veiled, ifaces, maps, wideKeys, modest, calm, conditions, laid).
  DERIVED. THE GIVEN ROWS OF THIS SEAT. 9 by the template 'for every input the law returns true; each argument reads behind the call as it read before'; 0 by the template 'total and deterministic' (their statements: YtidhemcpoelebaaTotals.lean).
  GIVEN WITH THE SEED: the statements are not yours to turn. If you find one false, say at which input.
  Laid BY PROGRAM, IN A SANDBOX (cutbox-rows.mjs): the forced cells as the released guide's own fill.sh prints them over the translation 29d8611757836e9b… (all of the seat's roots in one cut). By AI agents, Wed Nov 11 2026. No macro, syntax, notation, axiom, sorry.
-/
import Derived.Test.YtidhemcpoelebaaChecked
import GoSem.Claim
import GoSem.ClaimJoined
import GoSem.ClaimMapViews
import Derived.JoinedTies
import Derived.KernelRfl
namespace Go.Proofs.Ytidhemcpoelebaa
/- THE CELL 'sum', in the pinned program and in every row, IS THE sha256 OF THE DUMP (.gsa) THAT YtidhemcpoelebaaProg.lean LOADS. Nothing in Lean hashes anything: it is a label: what it is worth is what the hold of that sum in a sandbox is worth. -/
noncomputable def Try.pinned : Pinned := { name := "ytidhemcpoelebaa", sum := "29d8611757836e9bbde3b04467b86dd7f20ec6a0a8fcf7929eb6bb656b5be1a5", checked := Try.checked }
namespace Rows
def none {H : Type} : Left H := { results := [], args := [] }

/-- 'laws.FnWord': WHATEVER THE INPUT: true; the input reads as it did. -/
def fnWordSpec : ChangeSpec := { name := "fnWord", fn := fun _ => fun
  | [d1, d2] => { results := [.lit (.bool true)], args := [d1, d2] }
  | _ => none }
def fnWordRow : OpenClaim := { program := "ytidhemcpoelebaa", sum := "29d8611757836e9bbde3b04467b86dd7f20ec6a0a8fcf7929eb6bb656b5be1a5", func := "waystone/laws.FnWord", spec := "fnWord", apart := false }
def FnWordSaid : Prop := fnWordRow.holds Try.pinned (OpenSpec.ofChange fnWordSpec)

/-- ITS FALSE NEIGHBOUR: 'it returns false'. Refute it at one input. -/
def fnWordWrong : ChangeSpec := { name := "fnWord", fn := fun _ => fun
  | [d1, d2] => { results := [.lit (.bool false)], args := [d1, d2] }
  | _ => none }
def FnWordWrongFalsely : Prop := fnWordRow.holds Try.pinned (OpenSpec.ofChange fnWordWrong)

/-- 'laws.FnWords': WHATEVER THE INPUT: true; the input reads as it did. -/
def fnWordsSpec : ChangeSpec := { name := "fnWords", fn := fun _ => fun
  | [d1, d2, d3, d4] => { results := [.lit (.bool true)], args := [d1, d2, d3, d4] }
  | _ => none }
def fnWordsRow : OpenClaim := { program := "ytidhemcpoelebaa", sum := "29d8611757836e9bbde3b04467b86dd7f20ec6a0a8fcf7929eb6bb656b5be1a5", func := "waystone/laws.FnWords", spec := "fnWords", apart := false }
def FnWordsSaid : Prop := fnWordsRow.holds Try.pinned (OpenSpec.ofChange fnWordsSpec)

/-- ITS FALSE NEIGHBOUR: 'it returns false'. Refute it at one input. -/
def fnWordsWrong : ChangeSpec := { name := "fnWords", fn := fun _ => fun
  | [d1, d2, d3, d4] => { results := [.lit (.bool false)], args := [d1, d2, d3, d4] }
  | _ => none }
def FnWordsWrongFalsely : Prop := fnWordsRow.holds Try.pinned (OpenSpec.ofChange fnWordsWrong)

/-- 'laws.FnDefaultStmt': WHATEVER THE INPUT: true; the input reads as it did. -/
def fnDefaultStmtSpec : ChangeSpec := { name := "fnDefaultStmt", fn := fun _ => fun
  | [d] => { results := [.lit (.bool true)], args := [d] }
  | _ => none }
def fnDefaultStmtRow : OpenClaim := { program := "ytidhemcpoelebaa", sum := "29d8611757836e9bbde3b04467b86dd7f20ec6a0a8fcf7929eb6bb656b5be1a5", func := "waystone/laws.FnDefaultStmt", spec := "fnDefaultStmt", apart := false }
def FnDefaultStmtSaid : Prop := fnDefaultStmtRow.holds Try.pinned (OpenSpec.ofChange fnDefaultStmtSpec)

/-- ITS FALSE NEIGHBOUR: 'it returns false'. Refute it at one input. -/
def fnDefaultStmtWrong : ChangeSpec := { name := "fnDefaultStmt", fn := fun _ => fun
  | [d] => { results := [.lit (.bool false)], args := [d] }
  | _ => none }
def FnDefaultStmtWrongFalsely : Prop := fnDefaultStmtRow.holds Try.pinned (OpenSpec.ofChange fnDefaultStmtWrong)

/-- 'laws.FnIsStmt': WHATEVER THE INPUT: true; the input reads as it did. -/
def fnIsStmtSpec : ChangeSpec := { name := "fnIsStmt", fn := fun _ => fun
  | [d] => { results := [.lit (.bool true)], args := [d] }
  | _ => none }
def fnIsStmtRow : OpenClaim := { program := "ytidhemcpoelebaa", sum := "29d8611757836e9bbde3b04467b86dd7f20ec6a0a8fcf7929eb6bb656b5be1a5", func := "waystone/laws.FnIsStmt", spec := "fnIsStmt", apart := false }
def FnIsStmtSaid : Prop := fnIsStmtRow.holds Try.pinned (OpenSpec.ofChange fnIsStmtSpec)

/-- ITS FALSE NEIGHBOUR: 'it returns false'. Refute it at one input. -/
def fnIsStmtWrong : ChangeSpec := { name := "fnIsStmt", fn := fun _ => fun
  | [d] => { results := [.lit (.bool false)], args := [d] }
  | _ => none }
def FnIsStmtWrongFalsely : Prop := fnIsStmtRow.holds Try.pinned (OpenSpec.ofChange fnIsStmtWrong)

/-- 'laws.FnNotStmt': WHATEVER THE INPUT: true; the input reads as it did. -/
def fnNotStmtSpec : ChangeSpec := { name := "fnNotStmt", fn := fun _ => fun
  | [d] => { results := [.lit (.bool true)], args := [d] }
  | _ => none }
def fnNotStmtRow : OpenClaim := { program := "ytidhemcpoelebaa", sum := "29d8611757836e9bbde3b04467b86dd7f20ec6a0a8fcf7929eb6bb656b5be1a5", func := "waystone/laws.FnNotStmt", spec := "fnNotStmt", apart := false }
def FnNotStmtSaid : Prop := fnNotStmtRow.holds Try.pinned (OpenSpec.ofChange fnNotStmtSpec)

/-- ITS FALSE NEIGHBOUR: 'it returns false'. Refute it at one input. -/
def fnNotStmtWrong : ChangeSpec := { name := "fnNotStmt", fn := fun _ => fun
  | [d] => { results := [.lit (.bool false)], args := [d] }
  | _ => none }
def FnNotStmtWrongFalsely : Prop := fnNotStmtRow.holds Try.pinned (OpenSpec.ofChange fnNotStmtWrong)

/-- 'laws.FnXlogue': WHATEVER THE INPUT: true; the input reads as it did. -/
def fnXlogueSpec : ChangeSpec := { name := "fnXlogue", fn := fun _ => fun
  | [d1, d2] => { results := [.lit (.bool true)], args := [d1, d2] }
  | _ => none }
def fnXlogueRow : OpenClaim := { program := "ytidhemcpoelebaa", sum := "29d8611757836e9bbde3b04467b86dd7f20ec6a0a8fcf7929eb6bb656b5be1a5", func := "waystone/laws.FnXlogue", spec := "fnXlogue", apart := false }
def FnXlogueSaid : Prop := fnXlogueRow.holds Try.pinned (OpenSpec.ofChange fnXlogueSpec)

/-- ITS FALSE NEIGHBOUR: 'it returns false'. Refute it at one input. -/
def fnXlogueWrong : ChangeSpec := { name := "fnXlogue", fn := fun _ => fun
  | [d1, d2] => { results := [.lit (.bool false)], args := [d1, d2] }
  | _ => none }
def FnXlogueWrongFalsely : Prop := fnXlogueRow.holds Try.pinned (OpenSpec.ofChange fnXlogueWrong)

/-- 'laws.FnColumn1': WHATEVER THE INPUT: true; the input reads as it did. -/
def fnColumn1Spec : ChangeSpec := { name := "fnColumn1", fn := fun _ => fun
  | [d1, d2] => { results := [.lit (.bool true)], args := [d1, d2] }
  | _ => none }
def fnColumn1Row : OpenClaim := { program := "ytidhemcpoelebaa", sum := "29d8611757836e9bbde3b04467b86dd7f20ec6a0a8fcf7929eb6bb656b5be1a5", func := "waystone/laws.FnColumn1", spec := "fnColumn1", apart := false }
def FnColumn1Said : Prop := fnColumn1Row.holds Try.pinned (OpenSpec.ofChange fnColumn1Spec)

/-- ITS FALSE NEIGHBOUR: 'it returns false'. Refute it at one input. -/
def fnColumn1Wrong : ChangeSpec := { name := "fnColumn1", fn := fun _ => fun
  | [d1, d2] => { results := [.lit (.bool false)], args := [d1, d2] }
  | _ => none }
def FnColumn1WrongFalsely : Prop := fnColumn1Row.holds Try.pinned (OpenSpec.ofChange fnColumn1Wrong)

/-- 'laws.FnSameLine': WHATEVER THE INPUT: true; the input reads as it did. -/
def fnSameLineSpec : ChangeSpec := { name := "fnSameLine", fn := fun _ => fun
  | [d1, d2] => { results := [.lit (.bool true)], args := [d1, d2] }
  | _ => none }
def fnSameLineRow : OpenClaim := { program := "ytidhemcpoelebaa", sum := "29d8611757836e9bbde3b04467b86dd7f20ec6a0a8fcf7929eb6bb656b5be1a5", func := "waystone/laws.FnSameLine", spec := "fnSameLine", apart := false }
def FnSameLineSaid : Prop := fnSameLineRow.holds Try.pinned (OpenSpec.ofChange fnSameLineSpec)

/-- ITS FALSE NEIGHBOUR: 'it returns false'. Refute it at one input. -/
def fnSameLineWrong : ChangeSpec := { name := "fnSameLine", fn := fun _ => fun
  | [d1, d2] => { results := [.lit (.bool false)], args := [d1, d2] }
  | _ => none }
def FnSameLineWrongFalsely : Prop := fnSameLineRow.holds Try.pinned (OpenSpec.ofChange fnSameLineWrong)

/-- 'laws.FnFlags': WHATEVER THE INPUT: true; the input reads as it did. -/
def fnFlagsSpec : ChangeSpec := { name := "fnFlags", fn := fun _ => fun
  | [d] => { results := [.lit (.bool true)], args := [d] }
  | _ => none }
def fnFlagsRow : OpenClaim := { program := "ytidhemcpoelebaa", sum := "29d8611757836e9bbde3b04467b86dd7f20ec6a0a8fcf7929eb6bb656b5be1a5", func := "waystone/laws.FnFlags", spec := "fnFlags", apart := false }
def FnFlagsSaid : Prop := fnFlagsRow.holds Try.pinned (OpenSpec.ofChange fnFlagsSpec)

/-- ITS FALSE NEIGHBOUR: 'it returns false'. Refute it at one input. -/
def fnFlagsWrong : ChangeSpec := { name := "fnFlags", fn := fun _ => fun
  | [d] => { results := [.lit (.bool false)], args := [d] }
  | _ => none }
def FnFlagsWrongFalsely : Prop := fnFlagsRow.holds Try.pinned (OpenSpec.ofChange fnFlagsWrong)

/- THE SECOND FORM. 'bulk': how many values and letters a reading holds, each counted each time it is reached (what is shared counts as often as it is met; a slice's spare places count too). A statement '..UptoSaid' is the law's where the arguments, and the package variables that the reading takes, are together of bulk at most 1048576: NARROWER than '..Said'. Prove '..Said' where nothing that the law and all that it calls make is longer than what came in: it says more and counts as full. Else prove '..UptoSaid'. A law counts once. -/
mutual
def uptoBulk {H : Type} : DataW H → Nat
  | .lit (.string bytes) => bytes.length + 1
  | .lit _ => 1
  | .nil => 1
  | .ptr d => uptoBulk d + 1
  | .slice elems spare => uptoBulkAll elems + uptoBulkAll spare + 1
  | .agg parts => uptoBulkAll parts + 1
  | .iface _ d => uptoBulk d + 1
  | .map entries => uptoBulkEntries entries + 1
  | .held _ => 1
def uptoBulkAll {H : Type} : List (DataW H) → Nat
  | [] => 0
  | d :: r => uptoBulk d + uptoBulkAll r
def uptoBulkEntries {H : Type} : List (Lit × DataW H) → Nat
  | [] => 0
  | x :: r => uptoBulkEntry x + uptoBulkEntries r
def uptoBulkEntry {H : Type} : Lit × DataW H → Nat
  | (.string bytes, d) => bytes.length + uptoBulk d + 1
  | (_, d) => uptoBulk d + 1
 end
def uptoSmall : (H : Type) → List (DataW H) → Bool := fun _ ds => decide (uptoBulkAll ds ≤ 1048576)
def OpenSpec.upto (s : _root_.Go.ChangeSpec) : _root_.Go.OpenSpec := { _root_.Go.OpenSpec.ofChange s with cond := some uptoSmall }

/-- 'laws.FnWord', WHERE WHAT IT READS IS OF BULK AT MOST 1048576: true; the input reads as it did. -/
def fnWordUptoRow : OpenClaim := { program := "ytidhemcpoelebaa", sum := "29d8611757836e9bbde3b04467b86dd7f20ec6a0a8fcf7929eb6bb656b5be1a5", func := "waystone/laws.FnWord", spec := "fnWord", apart := false, narrowed := true }
def FnWordUptoSaid : Prop := fnWordUptoRow.holds Try.pinned (OpenSpec.upto fnWordSpec)

/-- 'laws.FnWords', WHERE WHAT IT READS IS OF BULK AT MOST 1048576: true; the input reads as it did. -/
def fnWordsUptoRow : OpenClaim := { program := "ytidhemcpoelebaa", sum := "29d8611757836e9bbde3b04467b86dd7f20ec6a0a8fcf7929eb6bb656b5be1a5", func := "waystone/laws.FnWords", spec := "fnWords", apart := false, narrowed := true }
def FnWordsUptoSaid : Prop := fnWordsUptoRow.holds Try.pinned (OpenSpec.upto fnWordsSpec)

/-- 'laws.FnDefaultStmt', WHERE WHAT IT READS IS OF BULK AT MOST 1048576: true; the input reads as it did. -/
def fnDefaultStmtUptoRow : OpenClaim := { program := "ytidhemcpoelebaa", sum := "29d8611757836e9bbde3b04467b86dd7f20ec6a0a8fcf7929eb6bb656b5be1a5", func := "waystone/laws.FnDefaultStmt", spec := "fnDefaultStmt", apart := false, narrowed := true }
def FnDefaultStmtUptoSaid : Prop := fnDefaultStmtUptoRow.holds Try.pinned (OpenSpec.upto fnDefaultStmtSpec)

/-- 'laws.FnIsStmt', WHERE WHAT IT READS IS OF BULK AT MOST 1048576: true; the input reads as it did. -/
def fnIsStmtUptoRow : OpenClaim := { program := "ytidhemcpoelebaa", sum := "29d8611757836e9bbde3b04467b86dd7f20ec6a0a8fcf7929eb6bb656b5be1a5", func := "waystone/laws.FnIsStmt", spec := "fnIsStmt", apart := false, narrowed := true }
def FnIsStmtUptoSaid : Prop := fnIsStmtUptoRow.holds Try.pinned (OpenSpec.upto fnIsStmtSpec)

/-- 'laws.FnNotStmt', WHERE WHAT IT READS IS OF BULK AT MOST 1048576: true; the input reads as it did. -/
def fnNotStmtUptoRow : OpenClaim := { program := "ytidhemcpoelebaa", sum := "29d8611757836e9bbde3b04467b86dd7f20ec6a0a8fcf7929eb6bb656b5be1a5", func := "waystone/laws.FnNotStmt", spec := "fnNotStmt", apart := false, narrowed := true }
def FnNotStmtUptoSaid : Prop := fnNotStmtUptoRow.holds Try.pinned (OpenSpec.upto fnNotStmtSpec)

/-- 'laws.FnXlogue', WHERE WHAT IT READS IS OF BULK AT MOST 1048576: true; the input reads as it did. -/
def fnXlogueUptoRow : OpenClaim := { program := "ytidhemcpoelebaa", sum := "29d8611757836e9bbde3b04467b86dd7f20ec6a0a8fcf7929eb6bb656b5be1a5", func := "waystone/laws.FnXlogue", spec := "fnXlogue", apart := false, narrowed := true }
def FnXlogueUptoSaid : Prop := fnXlogueUptoRow.holds Try.pinned (OpenSpec.upto fnXlogueSpec)

/-- 'laws.FnColumn1', WHERE WHAT IT READS IS OF BULK AT MOST 1048576: true; the input reads as it did. -/
def fnColumn1UptoRow : OpenClaim := { program := "ytidhemcpoelebaa", sum := "29d8611757836e9bbde3b04467b86dd7f20ec6a0a8fcf7929eb6bb656b5be1a5", func := "waystone/laws.FnColumn1", spec := "fnColumn1", apart := false, narrowed := true }
def FnColumn1UptoSaid : Prop := fnColumn1UptoRow.holds Try.pinned (OpenSpec.upto fnColumn1Spec)

/-- 'laws.FnSameLine', WHERE WHAT IT READS IS OF BULK AT MOST 1048576: true; the input reads as it did. -/
def fnSameLineUptoRow : OpenClaim := { program := "ytidhemcpoelebaa", sum := "29d8611757836e9bbde3b04467b86dd7f20ec6a0a8fcf7929eb6bb656b5be1a5", func := "waystone/laws.FnSameLine", spec := "fnSameLine", apart := false, narrowed := true }
def FnSameLineUptoSaid : Prop := fnSameLineUptoRow.holds Try.pinned (OpenSpec.upto fnSameLineSpec)

/-- 'laws.FnFlags', WHERE WHAT IT READS IS OF BULK AT MOST 1048576: true; the input reads as it did. -/
def fnFlagsUptoRow : OpenClaim := { program := "ytidhemcpoelebaa", sum := "29d8611757836e9bbde3b04467b86dd7f20ec6a0a8fcf7929eb6bb656b5be1a5", func := "waystone/laws.FnFlags", spec := "fnFlags", apart := false, narrowed := true }
def FnFlagsUptoSaid : Prop := fnFlagsUptoRow.holds Try.pinned (OpenSpec.upto fnFlagsSpec)

end Rows
end Go.Proofs.Ytidhemcpoelebaa
