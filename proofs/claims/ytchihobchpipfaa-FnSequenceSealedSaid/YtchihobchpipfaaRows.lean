/-
  No cell of these rows narrows 'for every input' (looked for: loops, veiled, ifaces, maps, wideKeys, modest, calm, conditions, laid).
  DERIVED. THE GIVEN ROWS OF THIS SEAT. 5 by the template 'for every input the law returns true; each argument reads behind the call as it read before'; 0 by the template 'total and deterministic' (their statements: YtchihobchpipfaaTotals.lean).
  GIVEN WITH THE SEED: the statements are not yours to turn. If you find one false, say at which input.
  Laid BY PROGRAM, IN A SANDBOX (cutbox-rows.mjs): the forced cells as the released guide's own fill.sh prints them over the translation 786e3e08a6761ba1… (all of the seat's roots in one cut). By AI agents, Wed Nov 11 2026. No macro, syntax, notation, axiom, sorry.
-/
import Derived.Test.YtchihobchpipfaaChecked
import GoSem.Claim
import GoSem.ClaimJoined
import GoSem.ClaimMapViews
import Derived.JoinedTies
import Derived.KernelRfl
namespace Go.Proofs.Ytchihobchpipfaa
/- THE CELL 'sum', in the pinned program and in every row, IS THE sha256 OF THE DUMP (.gsa) THAT YtchihobchpipfaaProg.lean LOADS. Nothing in Lean hashes anything: it is a label: what it is worth is what the hold of that sum in a sandbox is worth. -/
noncomputable def Try.pinned : Pinned := { name := "ytchihobchpipfaa", sum := "786e3e08a6761ba1ffd2a27abf447ec2ba1cc5503a857830809c8fcb8f436940", checked := Try.checked }
namespace Rows
def none {H : Type} : Left H := { results := [], args := [] }

/-- 'laws.FnXors': WHATEVER THE INPUT: true; the input reads as it did. -/
def fnXorsSpec : ChangeSpec := { name := "fnXors", fn := fun _ => fun
  | [d1, d2] => { results := [.lit (.bool true)], args := [d1, d2] }
  | _ => none }
def fnXorsRow : OpenClaim := { program := "ytchihobchpipfaa", sum := "786e3e08a6761ba1ffd2a27abf447ec2ba1cc5503a857830809c8fcb8f436940", func := "pub-counterseal/laws.FnXors", spec := "fnXors", apart := false }
def FnXorsSaid : Prop := fnXorsRow.holds Try.pinned (OpenSpec.ofChange fnXorsSpec)

/-- ITS FALSE NEIGHBOUR: 'it returns false'. Refute it at one input. -/
def fnXorsWrong : ChangeSpec := { name := "fnXors", fn := fun _ => fun
  | [d1, d2] => { results := [.lit (.bool false)], args := [d1, d2] }
  | _ => none }
def FnXorsWrongFalsely : Prop := fnXorsRow.holds Try.pinned (OpenSpec.ofChange fnXorsWrong)

/-- 'laws.FnHashes': WHATEVER THE INPUT: true; the input reads as it did. -/
def fnHashesSpec : ChangeSpec := { name := "fnHashes", fn := fun _ => fun
  | [d1, d2, d3] => { results := [.lit (.bool true)], args := [d1, d2, d3] }
  | _ => none }
def fnHashesRow : OpenClaim := { program := "ytchihobchpipfaa", sum := "786e3e08a6761ba1ffd2a27abf447ec2ba1cc5503a857830809c8fcb8f436940", func := "pub-counterseal/laws.FnHashes", spec := "fnHashes", apart := false }
def FnHashesSaid : Prop := fnHashesRow.holds Try.pinned (OpenSpec.ofChange fnHashesSpec)

/-- ITS FALSE NEIGHBOUR: 'it returns false'. Refute it at one input. -/
def fnHashesWrong : ChangeSpec := { name := "fnHashes", fn := fun _ => fun
  | [d1, d2, d3] => { results := [.lit (.bool false)], args := [d1, d2, d3] }
  | _ => none }
def FnHashesWrongFalsely : Prop := fnHashesRow.holds Try.pinned (OpenSpec.ofChange fnHashesWrong)

/-- 'laws.FnSequenceSealed': WHATEVER THE INPUT: true; the input reads as it did. -/
def fnSequenceSealedSpec : ChangeSpec := { name := "fnSequenceSealed", fn := fun _ => fun
  | [d1, d2] => { results := [.lit (.bool true)], args := [d1, d2] }
  | _ => none }
def fnSequenceSealedRow : OpenClaim := { program := "ytchihobchpipfaa", sum := "786e3e08a6761ba1ffd2a27abf447ec2ba1cc5503a857830809c8fcb8f436940", func := "pub-counterseal/laws.FnSequenceSealed", spec := "fnSequenceSealed", unfollowed := true, recurses := true, apart := false }
def FnSequenceSealedSaid : Prop := fnSequenceSealedRow.holds Try.pinned (OpenSpec.ofChange fnSequenceSealedSpec)

/-- ITS FALSE NEIGHBOUR: 'it returns false'. Refute it at one input. -/
def fnSequenceSealedWrong : ChangeSpec := { name := "fnSequenceSealed", fn := fun _ => fun
  | [d1, d2] => { results := [.lit (.bool false)], args := [d1, d2] }
  | _ => none }
def FnSequenceSealedWrongFalsely : Prop := fnSequenceSealedRow.holds Try.pinned (OpenSpec.ofChange fnSequenceSealedWrong)

/-- 'laws.FnExpired': WHATEVER THE INPUT: true; the input reads as it did. -/
def fnExpiredSpec : ChangeSpec := { name := "fnExpired", fn := fun _ => fun
  | [d1, d2, d3, d4, d5] => { results := [.lit (.bool true)], args := [d1, d2, d3, d4, d5] }
  | _ => none }
def fnExpiredRow : OpenClaim := { program := "ytchihobchpipfaa", sum := "786e3e08a6761ba1ffd2a27abf447ec2ba1cc5503a857830809c8fcb8f436940", func := "pub-counterseal/laws.FnExpired", spec := "fnExpired", unfollowed := true, recurses := true, apart := false }
def FnExpiredSaid : Prop := fnExpiredRow.holds Try.pinned (OpenSpec.ofChange fnExpiredSpec)

/-- ITS FALSE NEIGHBOUR: 'it returns false'. Refute it at one input. -/
def fnExpiredWrong : ChangeSpec := { name := "fnExpired", fn := fun _ => fun
  | [d1, d2, d3, d4, d5] => { results := [.lit (.bool false)], args := [d1, d2, d3, d4, d5] }
  | _ => none }
def FnExpiredWrongFalsely : Prop := fnExpiredRow.holds Try.pinned (OpenSpec.ofChange fnExpiredWrong)

/-- 'laws.FnBitMarshal': WHATEVER THE INPUT: true; the input reads as it did. -/
def fnBitMarshalSpec : ChangeSpec := { name := "fnBitMarshal", fn := fun _ => fun
  | [d1, d2, d3, d4] => { results := [.lit (.bool true)], args := [d1, d2, d3, d4] }
  | _ => none }
def fnBitMarshalRow : OpenClaim := { program := "ytchihobchpipfaa", sum := "786e3e08a6761ba1ffd2a27abf447ec2ba1cc5503a857830809c8fcb8f436940", func := "pub-counterseal/laws.FnBitMarshal", spec := "fnBitMarshal", apart := false }
def FnBitMarshalSaid : Prop := fnBitMarshalRow.holds Try.pinned (OpenSpec.ofChange fnBitMarshalSpec)

/-- ITS FALSE NEIGHBOUR: 'it returns false'. Refute it at one input. -/
def fnBitMarshalWrong : ChangeSpec := { name := "fnBitMarshal", fn := fun _ => fun
  | [d1, d2, d3, d4] => { results := [.lit (.bool false)], args := [d1, d2, d3, d4] }
  | _ => none }
def FnBitMarshalWrongFalsely : Prop := fnBitMarshalRow.holds Try.pinned (OpenSpec.ofChange fnBitMarshalWrong)

/- THE SECOND FORM. 'bulk': how many values and letters a reading holds, each counted each time it is reached (what is shared counts as often as it is met; a slice's spare places count too). A statement '..UptoSaid' is the law's where the arguments, and the package variables that the reading takes, are together of bulk at most 1048576: NARROWER than '..Said'. Prove '..Said' where nothing that the law and all that it calls make is longer than what came in: it says more and counts as full. Else prove '..UptoSaid'. A law counts once. -/
mutual
def uptoBulk {H : Type} : DataW H → Nat
  | .lit (.string bytes) => bytes.length + 1
  | .lit _ => 1
  | .nil => 1
  | .ptr d => uptoBulk d + 1
  | .slice elems spare => uptoBulkAll elems + uptoBulkAll spare + 1
  | .agg parts => uptoBulkAll parts + 1
  | .iface _ d => uptoBulk d + 1
  | .map entries => uptoBulkEntries entries + 1
  | .held _ => 1
def uptoBulkAll {H : Type} : List (DataW H) → Nat
  | [] => 0
  | d :: r => uptoBulk d + uptoBulkAll r
def uptoBulkEntries {H : Type} : List (Lit × DataW H) → Nat
  | [] => 0
  | x :: r => uptoBulkEntry x + uptoBulkEntries r
def uptoBulkEntry {H : Type} : Lit × DataW H → Nat
  | (.string bytes, d) => bytes.length + uptoBulk d + 1
  | (_, d) => uptoBulk d + 1
 end
def uptoSmall : (H : Type) → List (DataW H) → Bool := fun _ ds => decide (uptoBulkAll ds ≤ 1048576)
def OpenSpec.upto (s : _root_.Go.ChangeSpec) : _root_.Go.OpenSpec := { _root_.Go.OpenSpec.ofChange s with cond := some uptoSmall }

/-- 'laws.FnXors', WHERE WHAT IT READS IS OF BULK AT MOST 1048576: true; the input reads as it did. -/
def fnXorsUptoRow : OpenClaim := { program := "ytchihobchpipfaa", sum := "786e3e08a6761ba1ffd2a27abf447ec2ba1cc5503a857830809c8fcb8f436940", func := "pub-counterseal/laws.FnXors", spec := "fnXors", apart := false, narrowed := true }
def FnXorsUptoSaid : Prop := fnXorsUptoRow.holds Try.pinned (OpenSpec.upto fnXorsSpec)

/-- 'laws.FnHashes', WHERE WHAT IT READS IS OF BULK AT MOST 1048576: true; the input reads as it did. -/
def fnHashesUptoRow : OpenClaim := { program := "ytchihobchpipfaa", sum := "786e3e08a6761ba1ffd2a27abf447ec2ba1cc5503a857830809c8fcb8f436940", func := "pub-counterseal/laws.FnHashes", spec := "fnHashes", apart := false, narrowed := true }
def FnHashesUptoSaid : Prop := fnHashesUptoRow.holds Try.pinned (OpenSpec.upto fnHashesSpec)

/-- 'laws.FnSequenceSealed', WHERE WHAT IT READS IS OF BULK AT MOST 1048576: true; the input reads as it did. -/
def fnSequenceSealedUptoRow : OpenClaim := { program := "ytchihobchpipfaa", sum := "786e3e08a6761ba1ffd2a27abf447ec2ba1cc5503a857830809c8fcb8f436940", func := "pub-counterseal/laws.FnSequenceSealed", spec := "fnSequenceSealed", unfollowed := true, recurses := true, apart := false, narrowed := true }
def FnSequenceSealedUptoSaid : Prop := fnSequenceSealedUptoRow.holds Try.pinned (OpenSpec.upto fnSequenceSealedSpec)

/-- 'laws.FnExpired', WHERE WHAT IT READS IS OF BULK AT MOST 1048576: true; the input reads as it did. -/
def fnExpiredUptoRow : OpenClaim := { program := "ytchihobchpipfaa", sum := "786e3e08a6761ba1ffd2a27abf447ec2ba1cc5503a857830809c8fcb8f436940", func := "pub-counterseal/laws.FnExpired", spec := "fnExpired", unfollowed := true, recurses := true, apart := false, narrowed := true }
def FnExpiredUptoSaid : Prop := fnExpiredUptoRow.holds Try.pinned (OpenSpec.upto fnExpiredSpec)

/-- 'laws.FnBitMarshal', WHERE WHAT IT READS IS OF BULK AT MOST 1048576: true; the input reads as it did. -/
def fnBitMarshalUptoRow : OpenClaim := { program := "ytchihobchpipfaa", sum := "786e3e08a6761ba1ffd2a27abf447ec2ba1cc5503a857830809c8fcb8f436940", func := "pub-counterseal/laws.FnBitMarshal", spec := "fnBitMarshal", apart := false, narrowed := true }
def FnBitMarshalUptoSaid : Prop := fnBitMarshalUptoRow.holds Try.pinned (OpenSpec.upto fnBitMarshalSpec)

end Rows
end Go.Proofs.Ytchihobchpipfaa
