/-
  No cell of these rows narrows 'for every input' (looked for: loops, veiled, ifaces, maps, wideKeys, modest, calm, conditions, laid).
  DERIVED. THE GIVEN ROWS OF THIS SEAT. 6 by the template 'for every input the law returns true; each argument reads behind the call as it read before'; 0 by the template 'total and deterministic' (their statements: YtnjbgmobobffmabTotals.lean).
  GIVEN WITH THE SEED: the statements are not yours to turn. If you find one false, say at which input.
  Laid BY PROGRAM, IN A SANDBOX (cutbox-rows.mjs): the forced cells as the released guide's own fill.sh prints them over the translation 6756e888f1f9f8c4… (all of the seat's roots in one cut). By AI agents, Wed Nov 11 2026. No macro, syntax, notation, axiom, sorry.
-/
import Derived.Test.YtnjbgmobobffmabChecked
import GoSem.Claim
import GoSem.ClaimJoined
import GoSem.ClaimMapViews
import Derived.JoinedTies
import Derived.KernelRfl
namespace Go.Proofs.Ytnjbgmobobffmab
/- THE CELL 'sum', in the pinned program and in every row, IS THE sha256 OF THE DUMP (.gsa) THAT YtnjbgmobobffmabProg.lean LOADS. Nothing in Lean hashes anything: it is a label: what it is worth is what the hold of that sum in a sandbox is worth. -/
noncomputable def Try.pinned : Pinned := { name := "ytnjbgmobobffmab", sum := "6756e888f1f9f8c4c0ea75e40dcca321550e8211e4a705bec6ab9ceecd71c303", checked := Try.checked }
namespace Rows
def none {H : Type} : Left H := { results := [], args := [] }

/-- 'laws.FnImages': WHATEVER THE INPUT: true; the input reads as it did. -/
def fnImagesSpec : ChangeSpec := { name := "fnImages", fn := fun _ => fun
  | [d] => { results := [.lit (.bool true)], args := [d] }
  | _ => none }
def fnImagesRow : OpenClaim := { program := "ytnjbgmobobffmab", sum := "6756e888f1f9f8c4c0ea75e40dcca321550e8211e4a705bec6ab9ceecd71c303", func := "pub-counterseal/laws.FnImages", spec := "fnImages", apart := false }
def FnImagesSaid : Prop := fnImagesRow.holds Try.pinned (OpenSpec.ofChange fnImagesSpec)

/-- ITS FALSE NEIGHBOUR: 'it returns false'. Refute it at one input. -/
def fnImagesWrong : ChangeSpec := { name := "fnImages", fn := fun _ => fun
  | [d] => { results := [.lit (.bool false)], args := [d] }
  | _ => none }
def FnImagesWrongFalsely : Prop := fnImagesRow.holds Try.pinned (OpenSpec.ofChange fnImagesWrong)

/-- 'laws.FnIncrement': WHATEVER THE INPUT: true; the input reads as it did. -/
def fnIncrementSpec : ChangeSpec := { name := "fnIncrement", fn := fun _ => fun
  | [d] => { results := [.lit (.bool true)], args := [d] }
  | _ => none }
def fnIncrementRow : OpenClaim := { program := "ytnjbgmobobffmab", sum := "6756e888f1f9f8c4c0ea75e40dcca321550e8211e4a705bec6ab9ceecd71c303", func := "pub-counterseal/laws.FnIncrement", spec := "fnIncrement", apart := false }
def FnIncrementSaid : Prop := fnIncrementRow.holds Try.pinned (OpenSpec.ofChange fnIncrementSpec)

/-- ITS FALSE NEIGHBOUR: 'it returns false'. Refute it at one input. -/
def fnIncrementWrong : ChangeSpec := { name := "fnIncrement", fn := fun _ => fun
  | [d] => { results := [.lit (.bool false)], args := [d] }
  | _ => none }
def FnIncrementWrongFalsely : Prop := fnIncrementRow.holds Try.pinned (OpenSpec.ofChange fnIncrementWrong)

/-- 'laws.FnGetLine': WHATEVER THE INPUT: true; the input reads as it did. -/
def fnGetLineSpec : ChangeSpec := { name := "fnGetLine", fn := fun _ => fun
  | [d] => { results := [.lit (.bool true)], args := [d] }
  | _ => none }
def fnGetLineRow : OpenClaim := { program := "ytnjbgmobobffmab", sum := "6756e888f1f9f8c4c0ea75e40dcca321550e8211e4a705bec6ab9ceecd71c303", func := "pub-counterseal/laws.FnGetLine", spec := "fnGetLine", inPlace := ["internal/bytealg.IndexByte"], apart := false }
def FnGetLineSaid : Prop := fnGetLineRow.holds Try.pinned (OpenSpec.ofChange fnGetLineSpec)

/-- ITS FALSE NEIGHBOUR: 'it returns false'. Refute it at one input. -/
def fnGetLineWrong : ChangeSpec := { name := "fnGetLine", fn := fun _ => fun
  | [d] => { results := [.lit (.bool false)], args := [d] }
  | _ => none }
def FnGetLineWrongFalsely : Prop := fnGetLineRow.holds Try.pinned (OpenSpec.ofChange fnGetLineWrong)

/-- 'laws.FnCounts': WHATEVER THE INPUT: true; the input reads as it did. -/
def fnCountsSpec : ChangeSpec := { name := "fnCounts", fn := fun _ => fun
  | [d1, d2] => { results := [.lit (.bool true)], args := [d1, d2] }
  | _ => none }
def fnCountsRow : OpenClaim := { program := "ytnjbgmobobffmab", sum := "6756e888f1f9f8c4c0ea75e40dcca321550e8211e4a705bec6ab9ceecd71c303", func := "pub-counterseal/laws.FnCounts", spec := "fnCounts", unfollowed := true, recurses := true, apart := false }
def FnCountsSaid : Prop := fnCountsRow.holds Try.pinned (OpenSpec.ofChange fnCountsSpec)

/-- ITS FALSE NEIGHBOUR: 'it returns false'. Refute it at one input. -/
def fnCountsWrong : ChangeSpec := { name := "fnCounts", fn := fun _ => fun
  | [d1, d2] => { results := [.lit (.bool false)], args := [d1, d2] }
  | _ => none }
def FnCountsWrongFalsely : Prop := fnCountsRow.holds Try.pinned (OpenSpec.ofChange fnCountsWrong)

/-- 'laws.FnCountOf': WHATEVER THE INPUT: true; the input reads as it did. -/
def fnCountOfSpec : ChangeSpec := { name := "fnCountOf", fn := fun _ => fun
  | [d] => { results := [.lit (.bool true)], args := [d] }
  | _ => none }
def fnCountOfRow : OpenClaim := { program := "ytnjbgmobobffmab", sum := "6756e888f1f9f8c4c0ea75e40dcca321550e8211e4a705bec6ab9ceecd71c303", func := "pub-counterseal/laws.FnCountOf", spec := "fnCountOf", apart := false }
def FnCountOfSaid : Prop := fnCountOfRow.holds Try.pinned (OpenSpec.ofChange fnCountOfSpec)

/-- ITS FALSE NEIGHBOUR: 'it returns false'. Refute it at one input. -/
def fnCountOfWrong : ChangeSpec := { name := "fnCountOf", fn := fun _ => fun
  | [d] => { results := [.lit (.bool false)], args := [d] }
  | _ => none }
def FnCountOfWrongFalsely : Prop := fnCountOfRow.holds Try.pinned (OpenSpec.ofChange fnCountOfWrong)

/-- 'laws.FnMemoryOf': WHATEVER THE INPUT: true; the input reads as it did. -/
def fnMemoryOfSpec : ChangeSpec := { name := "fnMemoryOf", fn := fun _ => fun
  | [d1, d2] => { results := [.lit (.bool true)], args := [d1, d2] }
  | _ => none }
def fnMemoryOfRow : OpenClaim := { program := "ytnjbgmobobffmab", sum := "6756e888f1f9f8c4c0ea75e40dcca321550e8211e4a705bec6ab9ceecd71c303", func := "pub-counterseal/laws.FnMemoryOf", spec := "fnMemoryOf", apart := false }
def FnMemoryOfSaid : Prop := fnMemoryOfRow.holds Try.pinned (OpenSpec.ofChange fnMemoryOfSpec)

/-- ITS FALSE NEIGHBOUR: 'it returns false'. Refute it at one input. -/
def fnMemoryOfWrong : ChangeSpec := { name := "fnMemoryOf", fn := fun _ => fun
  | [d1, d2] => { results := [.lit (.bool false)], args := [d1, d2] }
  | _ => none }
def FnMemoryOfWrongFalsely : Prop := fnMemoryOfRow.holds Try.pinned (OpenSpec.ofChange fnMemoryOfWrong)

/- THE SECOND FORM. 'bulk': how many values and letters a reading holds, each counted each time it is reached (what is shared counts as often as it is met; a slice's spare places count too). A statement '..UptoSaid' is the law's where the arguments, and the package variables that the reading takes, are together of bulk at most 1048576: NARROWER than '..Said'. Prove '..Said' where nothing that the law and all that it calls make is longer than what came in: it says more and counts as full. Else prove '..UptoSaid'. A law counts once. -/
mutual
def uptoBulk {H : Type} : DataW H → Nat
  | .lit (.string bytes) => bytes.length + 1
  | .lit _ => 1
  | .nil => 1
  | .ptr d => uptoBulk d + 1
  | .slice elems spare => uptoBulkAll elems + uptoBulkAll spare + 1
  | .agg parts => uptoBulkAll parts + 1
  | .iface _ d => uptoBulk d + 1
  | .map entries => uptoBulkEntries entries + 1
  | .held _ => 1
def uptoBulkAll {H : Type} : List (DataW H) → Nat
  | [] => 0
  | d :: r => uptoBulk d + uptoBulkAll r
def uptoBulkEntries {H : Type} : List (Lit × DataW H) → Nat
  | [] => 0
  | x :: r => uptoBulkEntry x + uptoBulkEntries r
def uptoBulkEntry {H : Type} : Lit × DataW H → Nat
  | (.string bytes, d) => bytes.length + uptoBulk d + 1
  | (_, d) => uptoBulk d + 1
 end
def uptoSmall : (H : Type) → List (DataW H) → Bool := fun _ ds => decide (uptoBulkAll ds ≤ 1048576)
def OpenSpec.upto (s : _root_.Go.ChangeSpec) : _root_.Go.OpenSpec := { _root_.Go.OpenSpec.ofChange s with cond := some uptoSmall }

/-- 'laws.FnImages', WHERE WHAT IT READS IS OF BULK AT MOST 1048576: true; the input reads as it did. -/
def fnImagesUptoRow : OpenClaim := { program := "ytnjbgmobobffmab", sum := "6756e888f1f9f8c4c0ea75e40dcca321550e8211e4a705bec6ab9ceecd71c303", func := "pub-counterseal/laws.FnImages", spec := "fnImages", apart := false, narrowed := true }
def FnImagesUptoSaid : Prop := fnImagesUptoRow.holds Try.pinned (OpenSpec.upto fnImagesSpec)

/-- 'laws.FnIncrement', WHERE WHAT IT READS IS OF BULK AT MOST 1048576: true; the input reads as it did. -/
def fnIncrementUptoRow : OpenClaim := { program := "ytnjbgmobobffmab", sum := "6756e888f1f9f8c4c0ea75e40dcca321550e8211e4a705bec6ab9ceecd71c303", func := "pub-counterseal/laws.FnIncrement", spec := "fnIncrement", apart := false, narrowed := true }
def FnIncrementUptoSaid : Prop := fnIncrementUptoRow.holds Try.pinned (OpenSpec.upto fnIncrementSpec)

/-- 'laws.FnGetLine', WHERE WHAT IT READS IS OF BULK AT MOST 1048576: true; the input reads as it did. -/
def fnGetLineUptoRow : OpenClaim := { program := "ytnjbgmobobffmab", sum := "6756e888f1f9f8c4c0ea75e40dcca321550e8211e4a705bec6ab9ceecd71c303", func := "pub-counterseal/laws.FnGetLine", spec := "fnGetLine", inPlace := ["internal/bytealg.IndexByte"], apart := false, narrowed := true }
def FnGetLineUptoSaid : Prop := fnGetLineUptoRow.holds Try.pinned (OpenSpec.upto fnGetLineSpec)

/-- 'laws.FnCounts', WHERE WHAT IT READS IS OF BULK AT MOST 1048576: true; the input reads as it did. -/
def fnCountsUptoRow : OpenClaim := { program := "ytnjbgmobobffmab", sum := "6756e888f1f9f8c4c0ea75e40dcca321550e8211e4a705bec6ab9ceecd71c303", func := "pub-counterseal/laws.FnCounts", spec := "fnCounts", unfollowed := true, recurses := true, apart := false, narrowed := true }
def FnCountsUptoSaid : Prop := fnCountsUptoRow.holds Try.pinned (OpenSpec.upto fnCountsSpec)

/-- 'laws.FnCountOf', WHERE WHAT IT READS IS OF BULK AT MOST 1048576: true; the input reads as it did. -/
def fnCountOfUptoRow : OpenClaim := { program := "ytnjbgmobobffmab", sum := "6756e888f1f9f8c4c0ea75e40dcca321550e8211e4a705bec6ab9ceecd71c303", func := "pub-counterseal/laws.FnCountOf", spec := "fnCountOf", apart := false, narrowed := true }
def FnCountOfUptoSaid : Prop := fnCountOfUptoRow.holds Try.pinned (OpenSpec.upto fnCountOfSpec)

/-- 'laws.FnMemoryOf', WHERE WHAT IT READS IS OF BULK AT MOST 1048576: true; the input reads as it did. -/
def fnMemoryOfUptoRow : OpenClaim := { program := "ytnjbgmobobffmab", sum := "6756e888f1f9f8c4c0ea75e40dcca321550e8211e4a705bec6ab9ceecd71c303", func := "pub-counterseal/laws.FnMemoryOf", spec := "fnMemoryOf", apart := false, narrowed := true }
def FnMemoryOfUptoSaid : Prop := fnMemoryOfUptoRow.holds Try.pinned (OpenSpec.upto fnMemoryOfSpec)

end Rows
end Go.Proofs.Ytnjbgmobobffmab
