/-
  No cell of these rows narrows 'for every input' (looked for: loops, veiled, ifaces, maps, wideKeys, modest, calm, conditions, laid).
  DERIVED. THE GIVEN ROWS OF THIS SEAT. 6 by the template 'for every input the law returns true; each argument reads behind the call as it read before'; 0 by the template 'total and deterministic' (their statements: YtnjbgmobobffmaaTotals.lean).
  GIVEN WITH THE SEED: the statements are not yours to turn. If you find one false, say at which input.
  Laid BY PROGRAM, IN A SANDBOX (cutbox-rows.mjs): the forced cells as the released guide's own fill.sh prints them over the translation 271b77c563a21a7c… (all of the seat's roots in one cut). By AI agents, Wed Nov 11 2026. No macro, syntax, notation, axiom, sorry.
-/
import Derived.Test.YtnjbgmobobffmaaChecked
import GoSem.Claim
import GoSem.ClaimJoined
import GoSem.ClaimMapViews
import Derived.JoinedTies
import Derived.KernelRfl
namespace Go.Proofs.Ytnjbgmobobffmaa
/- THE CELL 'sum', in the pinned program and in every row, IS THE sha256 OF THE DUMP (.gsa) THAT YtnjbgmobobffmaaProg.lean LOADS. Nothing in Lean hashes anything: it is a label: what it is worth is what the hold of that sum in a sandbox is worth. -/
noncomputable def Try.pinned : Pinned := { name := "ytnjbgmobobffmaa", sum := "271b77c563a21a7cb47da780121d728b235f3e1e30fa4502b0193987fc729479", checked := Try.checked }
namespace Rows
def none {H : Type} : Left H := { results := [], args := [] }

/-- 'laws.FnReason': WHATEVER THE INPUT: true; the input reads as it did. -/
def fnReasonSpec : ChangeSpec := { name := "fnReason", fn := fun _ => fun
  | [d] => { results := [.lit (.bool true)], args := [d] }
  | _ => none }
def fnReasonRow : OpenClaim := { program := "ytnjbgmobobffmaa", sum := "271b77c563a21a7cb47da780121d728b235f3e1e30fa4502b0193987fc729479", func := "pub-counterseal/laws.FnReason", spec := "fnReason", apart := false }
def FnReasonSaid : Prop := fnReasonRow.holds Try.pinned (OpenSpec.ofChange fnReasonSpec)

/-- ITS FALSE NEIGHBOUR: 'it returns false'. Refute it at one input. -/
def fnReasonWrong : ChangeSpec := { name := "fnReason", fn := fun _ => fun
  | [d] => { results := [.lit (.bool false)], args := [d] }
  | _ => none }
def FnReasonWrongFalsely : Prop := fnReasonRow.holds Try.pinned (OpenSpec.ofChange fnReasonWrong)

/-- 'laws.FnShiftLeft': WHATEVER THE INPUT: true; the input reads as it did. -/
def fnShiftLeftSpec : ChangeSpec := { name := "fnShiftLeft", fn := fun _ => fun
  | [d] => { results := [.lit (.bool true)], args := [d] }
  | _ => none }
def fnShiftLeftRow : OpenClaim := { program := "ytnjbgmobobffmaa", sum := "271b77c563a21a7cb47da780121d728b235f3e1e30fa4502b0193987fc729479", func := "pub-counterseal/laws.FnShiftLeft", spec := "fnShiftLeft", apart := false }
def FnShiftLeftSaid : Prop := fnShiftLeftRow.holds Try.pinned (OpenSpec.ofChange fnShiftLeftSpec)

/-- ITS FALSE NEIGHBOUR: 'it returns false'. Refute it at one input. -/
def fnShiftLeftWrong : ChangeSpec := { name := "fnShiftLeft", fn := fun _ => fun
  | [d] => { results := [.lit (.bool false)], args := [d] }
  | _ => none }
def FnShiftLeftWrongFalsely : Prop := fnShiftLeftRow.holds Try.pinned (OpenSpec.ofChange fnShiftLeftWrong)

/-- 'laws.FnCrc24': WHATEVER THE INPUT: true; the input reads as it did. -/
def fnCrc24Spec : ChangeSpec := { name := "fnCrc24", fn := fun _ => fun
  | [d1, d2] => { results := [.lit (.bool true)], args := [d1, d2] }
  | _ => none }
def fnCrc24Row : OpenClaim := { program := "ytnjbgmobobffmaa", sum := "271b77c563a21a7cb47da780121d728b235f3e1e30fa4502b0193987fc729479", func := "pub-counterseal/laws.FnCrc24", spec := "fnCrc24", apart := false }
def FnCrc24Said : Prop := fnCrc24Row.holds Try.pinned (OpenSpec.ofChange fnCrc24Spec)

/-- ITS FALSE NEIGHBOUR: 'it returns false'. Refute it at one input. -/
def fnCrc24Wrong : ChangeSpec := { name := "fnCrc24", fn := fun _ => fun
  | [d1, d2] => { results := [.lit (.bool false)], args := [d1, d2] }
  | _ => none }
def FnCrc24WrongFalsely : Prop := fnCrc24Row.holds Try.pinned (OpenSpec.ofChange fnCrc24Wrong)

/-- 'laws.FnNotation': WHATEVER THE INPUT: true; the input reads as it did. -/
def fnNotationSpec : ChangeSpec := { name := "fnNotation", fn := fun _ => fun
  | [d1, d2, d3] => { results := [.lit (.bool true)], args := [d1, d2, d3] }
  | _ => none }
def fnNotationRow : OpenClaim := { program := "ytnjbgmobobffmaa", sum := "271b77c563a21a7cb47da780121d728b235f3e1e30fa4502b0193987fc729479", func := "pub-counterseal/laws.FnNotation", spec := "fnNotation", apart := false }
def FnNotationSaid : Prop := fnNotationRow.holds Try.pinned (OpenSpec.ofChange fnNotationSpec)

/-- ITS FALSE NEIGHBOUR: 'it returns false'. Refute it at one input. -/
def fnNotationWrong : ChangeSpec := { name := "fnNotation", fn := fun _ => fun
  | [d1, d2, d3] => { results := [.lit (.bool false)], args := [d1, d2, d3] }
  | _ => none }
def FnNotationWrongFalsely : Prop := fnNotationRow.holds Try.pinned (OpenSpec.ofChange fnNotationWrong)

/-- 'laws.FnDouble': WHATEVER THE INPUT: true; the input reads as it did. -/
def fnDoubleSpec : ChangeSpec := { name := "fnDouble", fn := fun _ => fun
  | [d] => { results := [.lit (.bool true)], args := [d] }
  | _ => none }
def fnDoubleRow : OpenClaim := { program := "ytnjbgmobobffmaa", sum := "271b77c563a21a7cb47da780121d728b235f3e1e30fa4502b0193987fc729479", func := "pub-counterseal/laws.FnDouble", spec := "fnDouble", apart := false }
def FnDoubleSaid : Prop := fnDoubleRow.holds Try.pinned (OpenSpec.ofChange fnDoubleSpec)

/-- ITS FALSE NEIGHBOUR: 'it returns false'. Refute it at one input. -/
def fnDoubleWrong : ChangeSpec := { name := "fnDouble", fn := fun _ => fun
  | [d] => { results := [.lit (.bool false)], args := [d] }
  | _ => none }
def FnDoubleWrongFalsely : Prop := fnDoubleRow.holds Try.pinned (OpenSpec.ofChange fnDoubleWrong)

/-- 'laws.FnWithoutRemarks': WHATEVER THE INPUT: true; the input reads as it did. -/
def fnWithoutRemarksSpec : ChangeSpec := { name := "fnWithoutRemarks", fn := fun _ => fun
  | [d1, d2] => { results := [.lit (.bool true)], args := [d1, d2] }
  | _ => none }
def fnWithoutRemarksRow : OpenClaim := { program := "ytnjbgmobobffmaa", sum := "271b77c563a21a7cb47da780121d728b235f3e1e30fa4502b0193987fc729479", func := "pub-counterseal/laws.FnWithoutRemarks", spec := "fnWithoutRemarks", apart := false }
def FnWithoutRemarksSaid : Prop := fnWithoutRemarksRow.holds Try.pinned (OpenSpec.ofChange fnWithoutRemarksSpec)

/-- ITS FALSE NEIGHBOUR: 'it returns false'. Refute it at one input. -/
def fnWithoutRemarksWrong : ChangeSpec := { name := "fnWithoutRemarks", fn := fun _ => fun
  | [d1, d2] => { results := [.lit (.bool false)], args := [d1, d2] }
  | _ => none }
def FnWithoutRemarksWrongFalsely : Prop := fnWithoutRemarksRow.holds Try.pinned (OpenSpec.ofChange fnWithoutRemarksWrong)

/- THE SECOND FORM. 'bulk': how many values and letters a reading holds, each counted each time it is reached (what is shared counts as often as it is met; a slice's spare places count too). A statement '..UptoSaid' is the law's where the arguments, and the package variables that the reading takes, are together of bulk at most 1048576: NARROWER than '..Said'. Prove '..Said' where nothing that the law and all that it calls make is longer than what came in: it says more and counts as full. Else prove '..UptoSaid'. A law counts once. -/
mutual
def uptoBulk {H : Type} : DataW H → Nat
  | .lit (.string bytes) => bytes.length + 1
  | .lit _ => 1
  | .nil => 1
  | .ptr d => uptoBulk d + 1
  | .slice elems spare => uptoBulkAll elems + uptoBulkAll spare + 1
  | .agg parts => uptoBulkAll parts + 1
  | .iface _ d => uptoBulk d + 1
  | .map entries => uptoBulkEntries entries + 1
  | .held _ => 1
def uptoBulkAll {H : Type} : List (DataW H) → Nat
  | [] => 0
  | d :: r => uptoBulk d + uptoBulkAll r
def uptoBulkEntries {H : Type} : List (Lit × DataW H) → Nat
  | [] => 0
  | x :: r => uptoBulkEntry x + uptoBulkEntries r
def uptoBulkEntry {H : Type} : Lit × DataW H → Nat
  | (.string bytes, d) => bytes.length + uptoBulk d + 1
  | (_, d) => uptoBulk d + 1
 end
def uptoSmall : (H : Type) → List (DataW H) → Bool := fun _ ds => decide (uptoBulkAll ds ≤ 1048576)
def OpenSpec.upto (s : _root_.Go.ChangeSpec) : _root_.Go.OpenSpec := { _root_.Go.OpenSpec.ofChange s with cond := some uptoSmall }

/-- 'laws.FnReason', WHERE WHAT IT READS IS OF BULK AT MOST 1048576: true; the input reads as it did. -/
def fnReasonUptoRow : OpenClaim := { program := "ytnjbgmobobffmaa", sum := "271b77c563a21a7cb47da780121d728b235f3e1e30fa4502b0193987fc729479", func := "pub-counterseal/laws.FnReason", spec := "fnReason", apart := false, narrowed := true }
def FnReasonUptoSaid : Prop := fnReasonUptoRow.holds Try.pinned (OpenSpec.upto fnReasonSpec)

/-- 'laws.FnShiftLeft', WHERE WHAT IT READS IS OF BULK AT MOST 1048576: true; the input reads as it did. -/
def fnShiftLeftUptoRow : OpenClaim := { program := "ytnjbgmobobffmaa", sum := "271b77c563a21a7cb47da780121d728b235f3e1e30fa4502b0193987fc729479", func := "pub-counterseal/laws.FnShiftLeft", spec := "fnShiftLeft", apart := false, narrowed := true }
def FnShiftLeftUptoSaid : Prop := fnShiftLeftUptoRow.holds Try.pinned (OpenSpec.upto fnShiftLeftSpec)

/-- 'laws.FnCrc24', WHERE WHAT IT READS IS OF BULK AT MOST 1048576: true; the input reads as it did. -/
def fnCrc24UptoRow : OpenClaim := { program := "ytnjbgmobobffmaa", sum := "271b77c563a21a7cb47da780121d728b235f3e1e30fa4502b0193987fc729479", func := "pub-counterseal/laws.FnCrc24", spec := "fnCrc24", apart := false, narrowed := true }
def FnCrc24UptoSaid : Prop := fnCrc24UptoRow.holds Try.pinned (OpenSpec.upto fnCrc24Spec)

/-- 'laws.FnNotation', WHERE WHAT IT READS IS OF BULK AT MOST 1048576: true; the input reads as it did. -/
def fnNotationUptoRow : OpenClaim := { program := "ytnjbgmobobffmaa", sum := "271b77c563a21a7cb47da780121d728b235f3e1e30fa4502b0193987fc729479", func := "pub-counterseal/laws.FnNotation", spec := "fnNotation", apart := false, narrowed := true }
def FnNotationUptoSaid : Prop := fnNotationUptoRow.holds Try.pinned (OpenSpec.upto fnNotationSpec)

/-- 'laws.FnDouble', WHERE WHAT IT READS IS OF BULK AT MOST 1048576: true; the input reads as it did. -/
def fnDoubleUptoRow : OpenClaim := { program := "ytnjbgmobobffmaa", sum := "271b77c563a21a7cb47da780121d728b235f3e1e30fa4502b0193987fc729479", func := "pub-counterseal/laws.FnDouble", spec := "fnDouble", apart := false, narrowed := true }
def FnDoubleUptoSaid : Prop := fnDoubleUptoRow.holds Try.pinned (OpenSpec.upto fnDoubleSpec)

/-- 'laws.FnWithoutRemarks', WHERE WHAT IT READS IS OF BULK AT MOST 1048576: true; the input reads as it did. -/
def fnWithoutRemarksUptoRow : OpenClaim := { program := "ytnjbgmobobffmaa", sum := "271b77c563a21a7cb47da780121d728b235f3e1e30fa4502b0193987fc729479", func := "pub-counterseal/laws.FnWithoutRemarks", spec := "fnWithoutRemarks", apart := false, narrowed := true }
def FnWithoutRemarksUptoSaid : Prop := fnWithoutRemarksUptoRow.holds Try.pinned (OpenSpec.upto fnWithoutRemarksSpec)

end Rows
end Go.Proofs.Ytnjbgmobobffmaa
