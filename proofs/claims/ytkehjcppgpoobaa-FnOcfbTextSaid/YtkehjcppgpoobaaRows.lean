/-
  No cell of these rows narrows 'for every input' (looked for: loops, veiled, ifaces, maps, wideKeys, modest, calm, conditions, laid).
  DERIVED. THE GIVEN ROWS OF THIS SEAT. 8 by the template 'for every input the law returns true; each argument reads behind the call as it read before'; 0 by the template 'total and deterministic' (their statements: YtkehjcppgpoobaaTotals.lean).
  GIVEN WITH THE SEED: the statements are not yours to turn. If you find one false, say at which input.
  Laid BY PROGRAM, IN A SANDBOX (cutbox-rows.mjs): the forced cells as the released guide's own fill.sh prints them over the translation 1080327b0ac115fa… (all of the seat's roots in one cut). By AI agents, Wed Nov 11 2026. No macro, syntax, notation, axiom, sorry.
-/
import Derived.Test.YtkehjcppgpoobaaChecked
import GoSem.Claim
import GoSem.ClaimJoined
import GoSem.ClaimMapViews
import Derived.JoinedTies
import Derived.KernelRfl
namespace Go.Proofs.Ytkehjcppgpoobaa
/- THE CELL 'sum', in the pinned program and in every row, IS THE sha256 OF THE DUMP (.gsa) THAT YtkehjcppgpoobaaProg.lean LOADS. Nothing in Lean hashes anything: it is a label: what it is worth is what the hold of that sum in a sandbox is worth. -/
noncomputable def Try.pinned : Pinned := { name := "ytkehjcppgpoobaa", sum := "1080327b0ac115facc1cfad0ae07b0407acd3553c8499b04e1a726f6ed80b7e5", checked := Try.checked }
namespace Rows
def none {H : Type} : Left H := { results := [], args := [] }

/-- 'laws.FnS2kSimple': WHATEVER THE INPUT: true; the input reads as it did. -/
def fnS2kSimpleSpec : ChangeSpec := { name := "fnS2kSimple", fn := fun _ => fun
  | [d1, d2, d3] => { results := [.lit (.bool true)], args := [d1, d2, d3] }
  | _ => none }
def fnS2kSimpleRow : OpenClaim := { program := "ytkehjcppgpoobaa", sum := "1080327b0ac115facc1cfad0ae07b0407acd3553c8499b04e1a726f6ed80b7e5", func := "pub-counterseal/laws.FnS2kSimple", spec := "fnS2kSimple", unfollowed := true, recurses := true, apart := false }
def FnS2kSimpleSaid : Prop := fnS2kSimpleRow.holds Try.pinned (OpenSpec.ofChange fnS2kSimpleSpec)

/-- ITS FALSE NEIGHBOUR: 'it returns false'. Refute it at one input. -/
def fnS2kSimpleWrong : ChangeSpec := { name := "fnS2kSimple", fn := fun _ => fun
  | [d1, d2, d3] => { results := [.lit (.bool false)], args := [d1, d2, d3] }
  | _ => none }
def FnS2kSimpleWrongFalsely : Prop := fnS2kSimpleRow.holds Try.pinned (OpenSpec.ofChange fnS2kSimpleWrong)

/-- 'laws.FnS2kIterated': WHATEVER THE INPUT: true; the input reads as it did. -/
def fnS2kIteratedSpec : ChangeSpec := { name := "fnS2kIterated", fn := fun _ => fun
  | [d1, d2, d3, d4, d5] => { results := [.lit (.bool true)], args := [d1, d2, d3, d4, d5] }
  | _ => none }
def fnS2kIteratedRow : OpenClaim := { program := "ytkehjcppgpoobaa", sum := "1080327b0ac115facc1cfad0ae07b0407acd3553c8499b04e1a726f6ed80b7e5", func := "pub-counterseal/laws.FnS2kIterated", spec := "fnS2kIterated", unfollowed := true, recurses := true, apart := false }
def FnS2kIteratedSaid : Prop := fnS2kIteratedRow.holds Try.pinned (OpenSpec.ofChange fnS2kIteratedSpec)

/-- ITS FALSE NEIGHBOUR: 'it returns false'. Refute it at one input. -/
def fnS2kIteratedWrong : ChangeSpec := { name := "fnS2kIterated", fn := fun _ => fun
  | [d1, d2, d3, d4, d5] => { results := [.lit (.bool false)], args := [d1, d2, d3, d4, d5] }
  | _ => none }
def FnS2kIteratedWrongFalsely : Prop := fnS2kIteratedRow.holds Try.pinned (OpenSpec.ofChange fnS2kIteratedWrong)

/-- 'laws.FnOcfbText': WHATEVER THE INPUT: true; the input reads as it did. -/
def fnOcfbTextSpec : ChangeSpec := { name := "fnOcfbText", fn := fun _ => fun
  | [d1, d2, d3, d4] => { results := [.lit (.bool true)], args := [d1, d2, d3, d4] }
  | _ => none }
def fnOcfbTextRow : OpenClaim := { program := "ytkehjcppgpoobaa", sum := "1080327b0ac115facc1cfad0ae07b0407acd3553c8499b04e1a726f6ed80b7e5", func := "pub-counterseal/laws.FnOcfbText", spec := "fnOcfbText", unfollowed := true, recurses := true, apart := false }
def FnOcfbTextSaid : Prop := fnOcfbTextRow.holds Try.pinned (OpenSpec.ofChange fnOcfbTextSpec)

/-- ITS FALSE NEIGHBOUR: 'it returns false'. Refute it at one input. -/
def fnOcfbTextWrong : ChangeSpec := { name := "fnOcfbText", fn := fun _ => fun
  | [d1, d2, d3, d4] => { results := [.lit (.bool false)], args := [d1, d2, d3, d4] }
  | _ => none }
def FnOcfbTextWrongFalsely : Prop := fnOcfbTextRow.holds Try.pinned (OpenSpec.ofChange fnOcfbTextWrong)

/-- 'laws.FnOcfb': WHATEVER THE INPUT: true; the input reads as it did. -/
def fnOcfbSpec : ChangeSpec := { name := "fnOcfb", fn := fun _ => fun
  | [d1, d2, d3, d4] => { results := [.lit (.bool true)], args := [d1, d2, d3, d4] }
  | _ => none }
def fnOcfbRow : OpenClaim := { program := "ytkehjcppgpoobaa", sum := "1080327b0ac115facc1cfad0ae07b0407acd3553c8499b04e1a726f6ed80b7e5", func := "pub-counterseal/laws.FnOcfb", spec := "fnOcfb", unfollowed := true, recurses := true, apart := false }
def FnOcfbSaid : Prop := fnOcfbRow.holds Try.pinned (OpenSpec.ofChange fnOcfbSpec)

/-- ITS FALSE NEIGHBOUR: 'it returns false'. Refute it at one input. -/
def fnOcfbWrong : ChangeSpec := { name := "fnOcfb", fn := fun _ => fun
  | [d1, d2, d3, d4] => { results := [.lit (.bool false)], args := [d1, d2, d3, d4] }
  | _ => none }
def FnOcfbWrongFalsely : Prop := fnOcfbRow.holds Try.pinned (OpenSpec.ofChange fnOcfbWrong)

/-- 'laws.FnEax': WHATEVER THE INPUT: true; the input reads as it did. -/
def fnEaxSpec : ChangeSpec := { name := "fnEax", fn := fun _ => fun
  | [d1, d2, d3, d4] => { results := [.lit (.bool true)], args := [d1, d2, d3, d4] }
  | _ => none }
def fnEaxRow : OpenClaim := { program := "ytkehjcppgpoobaa", sum := "1080327b0ac115facc1cfad0ae07b0407acd3553c8499b04e1a726f6ed80b7e5", func := "pub-counterseal/laws.FnEax", spec := "fnEax", unfollowed := true, recurses := true, apart := false }
def FnEaxSaid : Prop := fnEaxRow.holds Try.pinned (OpenSpec.ofChange fnEaxSpec)

/-- ITS FALSE NEIGHBOUR: 'it returns false'. Refute it at one input. -/
def fnEaxWrong : ChangeSpec := { name := "fnEax", fn := fun _ => fun
  | [d1, d2, d3, d4] => { results := [.lit (.bool false)], args := [d1, d2, d3, d4] }
  | _ => none }
def FnEaxWrongFalsely : Prop := fnEaxRow.holds Try.pinned (OpenSpec.ofChange fnEaxWrong)

/-- 'laws.FnEaxBack': WHATEVER THE INPUT: true; the input reads as it did. -/
def fnEaxBackSpec : ChangeSpec := { name := "fnEaxBack", fn := fun _ => fun
  | [d1, d2, d3, d4, d5] => { results := [.lit (.bool true)], args := [d1, d2, d3, d4, d5] }
  | _ => none }
def fnEaxBackRow : OpenClaim := { program := "ytkehjcppgpoobaa", sum := "1080327b0ac115facc1cfad0ae07b0407acd3553c8499b04e1a726f6ed80b7e5", func := "pub-counterseal/laws.FnEaxBack", spec := "fnEaxBack", unfollowed := true, recurses := true, apart := false }
def FnEaxBackSaid : Prop := fnEaxBackRow.holds Try.pinned (OpenSpec.ofChange fnEaxBackSpec)

/-- ITS FALSE NEIGHBOUR: 'it returns false'. Refute it at one input. -/
def fnEaxBackWrong : ChangeSpec := { name := "fnEaxBack", fn := fun _ => fun
  | [d1, d2, d3, d4, d5] => { results := [.lit (.bool false)], args := [d1, d2, d3, d4, d5] }
  | _ => none }
def FnEaxBackWrongFalsely : Prop := fnEaxBackRow.holds Try.pinned (OpenSpec.ofChange fnEaxBackWrong)

/-- 'laws.FnOcb': WHATEVER THE INPUT: true; the input reads as it did. -/
def fnOcbSpec : ChangeSpec := { name := "fnOcb", fn := fun _ => fun
  | [d1, d2, d3, d4] => { results := [.lit (.bool true)], args := [d1, d2, d3, d4] }
  | _ => none }
def fnOcbRow : OpenClaim := { program := "ytkehjcppgpoobaa", sum := "1080327b0ac115facc1cfad0ae07b0407acd3553c8499b04e1a726f6ed80b7e5", func := "pub-counterseal/laws.FnOcb", spec := "fnOcb", unfollowed := true, recurses := true, apart := false }
def FnOcbSaid : Prop := fnOcbRow.holds Try.pinned (OpenSpec.ofChange fnOcbSpec)

/-- ITS FALSE NEIGHBOUR: 'it returns false'. Refute it at one input. -/
def fnOcbWrong : ChangeSpec := { name := "fnOcb", fn := fun _ => fun
  | [d1, d2, d3, d4] => { results := [.lit (.bool false)], args := [d1, d2, d3, d4] }
  | _ => none }
def FnOcbWrongFalsely : Prop := fnOcbRow.holds Try.pinned (OpenSpec.ofChange fnOcbWrong)

/-- 'laws.FnOcbBack': WHATEVER THE INPUT: true; the input reads as it did. -/
def fnOcbBackSpec : ChangeSpec := { name := "fnOcbBack", fn := fun _ => fun
  | [d1, d2, d3, d4, d5] => { results := [.lit (.bool true)], args := [d1, d2, d3, d4, d5] }
  | _ => none }
def fnOcbBackRow : OpenClaim := { program := "ytkehjcppgpoobaa", sum := "1080327b0ac115facc1cfad0ae07b0407acd3553c8499b04e1a726f6ed80b7e5", func := "pub-counterseal/laws.FnOcbBack", spec := "fnOcbBack", unfollowed := true, recurses := true, apart := false }
def FnOcbBackSaid : Prop := fnOcbBackRow.holds Try.pinned (OpenSpec.ofChange fnOcbBackSpec)

/-- ITS FALSE NEIGHBOUR: 'it returns false'. Refute it at one input. -/
def fnOcbBackWrong : ChangeSpec := { name := "fnOcbBack", fn := fun _ => fun
  | [d1, d2, d3, d4, d5] => { results := [.lit (.bool false)], args := [d1, d2, d3, d4, d5] }
  | _ => none }
def FnOcbBackWrongFalsely : Prop := fnOcbBackRow.holds Try.pinned (OpenSpec.ofChange fnOcbBackWrong)

/- THE SECOND FORM. 'bulk': how many values and letters a reading holds, each counted each time it is reached (what is shared counts as often as it is met; a slice's spare places count too). A statement '..UptoSaid' is the law's where the arguments, and the package variables that the reading takes, are together of bulk at most 1048576: NARROWER than '..Said'. Prove '..Said' where nothing that the law and all that it calls make is longer than what came in: it says more and counts as full. Else prove '..UptoSaid'. A law counts once. -/
mutual
def uptoBulk {H : Type} : DataW H → Nat
  | .lit (.string bytes) => bytes.length + 1
  | .lit _ => 1
  | .nil => 1
  | .ptr d => uptoBulk d + 1
  | .slice elems spare => uptoBulkAll elems + uptoBulkAll spare + 1
  | .agg parts => uptoBulkAll parts + 1
  | .iface _ d => uptoBulk d + 1
  | .map entries => uptoBulkEntries entries + 1
  | .held _ => 1
def uptoBulkAll {H : Type} : List (DataW H) → Nat
  | [] => 0
  | d :: r => uptoBulk d + uptoBulkAll r
def uptoBulkEntries {H : Type} : List (Lit × DataW H) → Nat
  | [] => 0
  | x :: r => uptoBulkEntry x + uptoBulkEntries r
def uptoBulkEntry {H : Type} : Lit × DataW H → Nat
  | (.string bytes, d) => bytes.length + uptoBulk d + 1
  | (_, d) => uptoBulk d + 1
 end
def uptoSmall : (H : Type) → List (DataW H) → Bool := fun _ ds => decide (uptoBulkAll ds ≤ 1048576)
def OpenSpec.upto (s : _root_.Go.ChangeSpec) : _root_.Go.OpenSpec := { _root_.Go.OpenSpec.ofChange s with cond := some uptoSmall }

/-- 'laws.FnS2kSimple', WHERE WHAT IT READS IS OF BULK AT MOST 1048576: true; the input reads as it did. -/
def fnS2kSimpleUptoRow : OpenClaim := { program := "ytkehjcppgpoobaa", sum := "1080327b0ac115facc1cfad0ae07b0407acd3553c8499b04e1a726f6ed80b7e5", func := "pub-counterseal/laws.FnS2kSimple", spec := "fnS2kSimple", unfollowed := true, recurses := true, apart := false, narrowed := true }
def FnS2kSimpleUptoSaid : Prop := fnS2kSimpleUptoRow.holds Try.pinned (OpenSpec.upto fnS2kSimpleSpec)

/-- 'laws.FnS2kIterated', WHERE WHAT IT READS IS OF BULK AT MOST 1048576: true; the input reads as it did. -/
def fnS2kIteratedUptoRow : OpenClaim := { program := "ytkehjcppgpoobaa", sum := "1080327b0ac115facc1cfad0ae07b0407acd3553c8499b04e1a726f6ed80b7e5", func := "pub-counterseal/laws.FnS2kIterated", spec := "fnS2kIterated", unfollowed := true, recurses := true, apart := false, narrowed := true }
def FnS2kIteratedUptoSaid : Prop := fnS2kIteratedUptoRow.holds Try.pinned (OpenSpec.upto fnS2kIteratedSpec)

/-- 'laws.FnOcfbText', WHERE WHAT IT READS IS OF BULK AT MOST 1048576: true; the input reads as it did. -/
def fnOcfbTextUptoRow : OpenClaim := { program := "ytkehjcppgpoobaa", sum := "1080327b0ac115facc1cfad0ae07b0407acd3553c8499b04e1a726f6ed80b7e5", func := "pub-counterseal/laws.FnOcfbText", spec := "fnOcfbText", unfollowed := true, recurses := true, apart := false, narrowed := true }
def FnOcfbTextUptoSaid : Prop := fnOcfbTextUptoRow.holds Try.pinned (OpenSpec.upto fnOcfbTextSpec)

/-- 'laws.FnOcfb', WHERE WHAT IT READS IS OF BULK AT MOST 1048576: true; the input reads as it did. -/
def fnOcfbUptoRow : OpenClaim := { program := "ytkehjcppgpoobaa", sum := "1080327b0ac115facc1cfad0ae07b0407acd3553c8499b04e1a726f6ed80b7e5", func := "pub-counterseal/laws.FnOcfb", spec := "fnOcfb", unfollowed := true, recurses := true, apart := false, narrowed := true }
def FnOcfbUptoSaid : Prop := fnOcfbUptoRow.holds Try.pinned (OpenSpec.upto fnOcfbSpec)

/-- 'laws.FnEax', WHERE WHAT IT READS IS OF BULK AT MOST 1048576: true; the input reads as it did. -/
def fnEaxUptoRow : OpenClaim := { program := "ytkehjcppgpoobaa", sum := "1080327b0ac115facc1cfad0ae07b0407acd3553c8499b04e1a726f6ed80b7e5", func := "pub-counterseal/laws.FnEax", spec := "fnEax", unfollowed := true, recurses := true, apart := false, narrowed := true }
def FnEaxUptoSaid : Prop := fnEaxUptoRow.holds Try.pinned (OpenSpec.upto fnEaxSpec)

/-- 'laws.FnEaxBack', WHERE WHAT IT READS IS OF BULK AT MOST 1048576: true; the input reads as it did. -/
def fnEaxBackUptoRow : OpenClaim := { program := "ytkehjcppgpoobaa", sum := "1080327b0ac115facc1cfad0ae07b0407acd3553c8499b04e1a726f6ed80b7e5", func := "pub-counterseal/laws.FnEaxBack", spec := "fnEaxBack", unfollowed := true, recurses := true, apart := false, narrowed := true }
def FnEaxBackUptoSaid : Prop := fnEaxBackUptoRow.holds Try.pinned (OpenSpec.upto fnEaxBackSpec)

/-- 'laws.FnOcb', WHERE WHAT IT READS IS OF BULK AT MOST 1048576: true; the input reads as it did. -/
def fnOcbUptoRow : OpenClaim := { program := "ytkehjcppgpoobaa", sum := "1080327b0ac115facc1cfad0ae07b0407acd3553c8499b04e1a726f6ed80b7e5", func := "pub-counterseal/laws.FnOcb", spec := "fnOcb", unfollowed := true, recurses := true, apart := false, narrowed := true }
def FnOcbUptoSaid : Prop := fnOcbUptoRow.holds Try.pinned (OpenSpec.upto fnOcbSpec)

/-- 'laws.FnOcbBack', WHERE WHAT IT READS IS OF BULK AT MOST 1048576: true; the input reads as it did. -/
def fnOcbBackUptoRow : OpenClaim := { program := "ytkehjcppgpoobaa", sum := "1080327b0ac115facc1cfad0ae07b0407acd3553c8499b04e1a726f6ed80b7e5", func := "pub-counterseal/laws.FnOcbBack", spec := "fnOcbBack", unfollowed := true, recurses := true, apart := false, narrowed := true }
def FnOcbBackUptoSaid : Prop := fnOcbBackUptoRow.holds Try.pinned (OpenSpec.upto fnOcbBackSpec)

end Rows
end Go.Proofs.Ytkehjcppgpoobaa
