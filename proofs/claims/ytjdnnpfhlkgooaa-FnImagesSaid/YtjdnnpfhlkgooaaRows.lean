/-
  No cell of these rows narrows 'for every input' (looked for: loops, veiled, ifaces, maps, wideKeys, modest, calm, conditions, laid).
  DERIVED. THE GIVEN ROWS OF THIS SEAT. 4 by the template 'for every input the law returns true; each argument reads behind the call as it read before'; 0 by the template 'total and deterministic' (their statements: YtjdnnpfhlkgooaaTotals.lean).
  GIVEN WITH THE SEED: the statements are not yours to turn. If you find one false, say at which input.
  Laid BY PROGRAM, IN A SANDBOX (cutbox-rows.mjs): the forced cells as the released guide's own fill.sh prints them over the translation 52a5afe02fa50882… (all of the seat's roots in one cut). By AI agents, Wed Nov 11 2026. No macro, syntax, notation, axiom, sorry.
-/
import Derived.Test.YtjdnnpfhlkgooaaChecked
import GoSem.Claim
import GoSem.ClaimJoined
import GoSem.ClaimMapViews
import Derived.JoinedTies
import Derived.KernelRfl
namespace Go.Proofs.Ytjdnnpfhlkgooaa
/- THE CELL 'sum', in the pinned program and in every row, IS THE sha256 OF THE DUMP (.gsa) THAT YtjdnnpfhlkgooaaProg.lean LOADS. Nothing in Lean hashes anything: it is a label: what it is worth is what the hold of that sum in a sandbox is worth. -/
noncomputable def Try.pinned : Pinned := { name := "ytjdnnpfhlkgooaa", sum := "52a5afe02fa50882ed69deaec040f003552119cad81b2fe1a8e46f876eeabe0d", checked := Try.checked }
namespace Rows
def none {H : Type} : Left H := { results := [], args := [] }

/-- 'laws.FnImages': WHATEVER THE INPUT: true; the input reads as it did. -/
def fnImagesSpec : ChangeSpec := { name := "fnImages", fn := fun _ => fun
  | [d] => { results := [.lit (.bool true)], args := [d] }
  | _ => none }
def fnImagesRow : OpenClaim := { program := "ytjdnnpfhlkgooaa", sum := "52a5afe02fa50882ed69deaec040f003552119cad81b2fe1a8e46f876eeabe0d", func := "pub-counterseal/laws.FnImages", spec := "fnImages", apart := false }
def FnImagesSaid : Prop := fnImagesRow.holds Try.pinned (OpenSpec.ofChange fnImagesSpec)

/-- ITS FALSE NEIGHBOUR: 'it returns false'. Refute it at one input. -/
def fnImagesWrong : ChangeSpec := { name := "fnImages", fn := fun _ => fun
  | [d] => { results := [.lit (.bool false)], args := [d] }
  | _ => none }
def FnImagesWrongFalsely : Prop := fnImagesRow.holds Try.pinned (OpenSpec.ofChange fnImagesWrong)

/-- 'laws.FnWithoutRemarks': WHATEVER THE INPUT: true; the input reads as it did. -/
def fnWithoutRemarksSpec : ChangeSpec := { name := "fnWithoutRemarks", fn := fun _ => fun
  | [d1, d2] => { results := [.lit (.bool true)], args := [d1, d2] }
  | _ => none }
def fnWithoutRemarksRow : OpenClaim := { program := "ytjdnnpfhlkgooaa", sum := "52a5afe02fa50882ed69deaec040f003552119cad81b2fe1a8e46f876eeabe0d", func := "pub-counterseal/laws.FnWithoutRemarks", spec := "fnWithoutRemarks", apart := false }
def FnWithoutRemarksSaid : Prop := fnWithoutRemarksRow.holds Try.pinned (OpenSpec.ofChange fnWithoutRemarksSpec)

/-- ITS FALSE NEIGHBOUR: 'it returns false'. Refute it at one input. -/
def fnWithoutRemarksWrong : ChangeSpec := { name := "fnWithoutRemarks", fn := fun _ => fun
  | [d1, d2] => { results := [.lit (.bool false)], args := [d1, d2] }
  | _ => none }
def FnWithoutRemarksWrongFalsely : Prop := fnWithoutRemarksRow.holds Try.pinned (OpenSpec.ofChange fnWithoutRemarksWrong)

/-- 'laws.FnExpired': WHATEVER THE INPUT: true; the input reads as it did. -/
def fnExpiredSpec : ChangeSpec := { name := "fnExpired", fn := fun _ => fun
  | [d1, d2, d3, d4, d5] => { results := [.lit (.bool true)], args := [d1, d2, d3, d4, d5] }
  | _ => none }
def fnExpiredRow : OpenClaim := { program := "ytjdnnpfhlkgooaa", sum := "52a5afe02fa50882ed69deaec040f003552119cad81b2fe1a8e46f876eeabe0d", func := "pub-counterseal/laws.FnExpired", spec := "fnExpired", unfollowed := true, recurses := true, apart := false }
def FnExpiredSaid : Prop := fnExpiredRow.holds Try.pinned (OpenSpec.ofChange fnExpiredSpec)

/-- ITS FALSE NEIGHBOUR: 'it returns false'. Refute it at one input. -/
def fnExpiredWrong : ChangeSpec := { name := "fnExpired", fn := fun _ => fun
  | [d1, d2, d3, d4, d5] => { results := [.lit (.bool false)], args := [d1, d2, d3, d4, d5] }
  | _ => none }
def FnExpiredWrongFalsely : Prop := fnExpiredRow.holds Try.pinned (OpenSpec.ofChange fnExpiredWrong)

/-- 'laws.FnLineBreak': WHATEVER THE INPUT: true; the input reads as it did. -/
def fnLineBreakSpec : ChangeSpec := { name := "fnLineBreak", fn := fun _ => fun
  | [d1, d2] => { results := [.lit (.bool true)], args := [d1, d2] }
  | _ => none }
def fnLineBreakRow : OpenClaim := { program := "ytjdnnpfhlkgooaa", sum := "52a5afe02fa50882ed69deaec040f003552119cad81b2fe1a8e46f876eeabe0d", func := "pub-counterseal/laws.FnLineBreak", spec := "fnLineBreak", unfollowed := true, recurses := true, apart := false }
def FnLineBreakSaid : Prop := fnLineBreakRow.holds Try.pinned (OpenSpec.ofChange fnLineBreakSpec)

/-- ITS FALSE NEIGHBOUR: 'it returns false'. Refute it at one input. -/
def fnLineBreakWrong : ChangeSpec := { name := "fnLineBreak", fn := fun _ => fun
  | [d1, d2] => { results := [.lit (.bool false)], args := [d1, d2] }
  | _ => none }
def FnLineBreakWrongFalsely : Prop := fnLineBreakRow.holds Try.pinned (OpenSpec.ofChange fnLineBreakWrong)

/- THE SECOND FORM. 'bulk': how many values and letters a reading holds, each counted each time it is reached (what is shared counts as often as it is met; a slice's spare places count too). A statement '..UptoSaid' is the law's where the arguments, and the package variables that the reading takes, are together of bulk at most 1048576: NARROWER than '..Said'. Prove '..Said' where nothing that the law and all that it calls make is longer than what came in: it says more and counts as full. Else prove '..UptoSaid'. A law counts once. -/
mutual
def uptoBulk {H : Type} : DataW H → Nat
  | .lit (.string bytes) => bytes.length + 1
  | .lit _ => 1
  | .nil => 1
  | .ptr d => uptoBulk d + 1
  | .slice elems spare => uptoBulkAll elems + uptoBulkAll spare + 1
  | .agg parts => uptoBulkAll parts + 1
  | .iface _ d => uptoBulk d + 1
  | .map entries => uptoBulkEntries entries + 1
  | .held _ => 1
def uptoBulkAll {H : Type} : List (DataW H) → Nat
  | [] => 0
  | d :: r => uptoBulk d + uptoBulkAll r
def uptoBulkEntries {H : Type} : List (Lit × DataW H) → Nat
  | [] => 0
  | x :: r => uptoBulkEntry x + uptoBulkEntries r
def uptoBulkEntry {H : Type} : Lit × DataW H → Nat
  | (.string bytes, d) => bytes.length + uptoBulk d + 1
  | (_, d) => uptoBulk d + 1
 end
def uptoSmall : (H : Type) → List (DataW H) → Bool := fun _ ds => decide (uptoBulkAll ds ≤ 1048576)
def OpenSpec.upto (s : _root_.Go.ChangeSpec) : _root_.Go.OpenSpec := { _root_.Go.OpenSpec.ofChange s with cond := some uptoSmall }

/-- 'laws.FnImages', WHERE WHAT IT READS IS OF BULK AT MOST 1048576: true; the input reads as it did. -/
def fnImagesUptoRow : OpenClaim := { program := "ytjdnnpfhlkgooaa", sum := "52a5afe02fa50882ed69deaec040f003552119cad81b2fe1a8e46f876eeabe0d", func := "pub-counterseal/laws.FnImages", spec := "fnImages", apart := false, narrowed := true }
def FnImagesUptoSaid : Prop := fnImagesUptoRow.holds Try.pinned (OpenSpec.upto fnImagesSpec)

/-- 'laws.FnWithoutRemarks', WHERE WHAT IT READS IS OF BULK AT MOST 1048576: true; the input reads as it did. -/
def fnWithoutRemarksUptoRow : OpenClaim := { program := "ytjdnnpfhlkgooaa", sum := "52a5afe02fa50882ed69deaec040f003552119cad81b2fe1a8e46f876eeabe0d", func := "pub-counterseal/laws.FnWithoutRemarks", spec := "fnWithoutRemarks", apart := false, narrowed := true }
def FnWithoutRemarksUptoSaid : Prop := fnWithoutRemarksUptoRow.holds Try.pinned (OpenSpec.upto fnWithoutRemarksSpec)

/-- 'laws.FnExpired', WHERE WHAT IT READS IS OF BULK AT MOST 1048576: true; the input reads as it did. -/
def fnExpiredUptoRow : OpenClaim := { program := "ytjdnnpfhlkgooaa", sum := "52a5afe02fa50882ed69deaec040f003552119cad81b2fe1a8e46f876eeabe0d", func := "pub-counterseal/laws.FnExpired", spec := "fnExpired", unfollowed := true, recurses := true, apart := false, narrowed := true }
def FnExpiredUptoSaid : Prop := fnExpiredUptoRow.holds Try.pinned (OpenSpec.upto fnExpiredSpec)

/-- 'laws.FnLineBreak', WHERE WHAT IT READS IS OF BULK AT MOST 1048576: true; the input reads as it did. -/
def fnLineBreakUptoRow : OpenClaim := { program := "ytjdnnpfhlkgooaa", sum := "52a5afe02fa50882ed69deaec040f003552119cad81b2fe1a8e46f876eeabe0d", func := "pub-counterseal/laws.FnLineBreak", spec := "fnLineBreak", unfollowed := true, recurses := true, apart := false, narrowed := true }
def FnLineBreakUptoSaid : Prop := fnLineBreakUptoRow.holds Try.pinned (OpenSpec.upto fnLineBreakSpec)

end Rows
end Go.Proofs.Ytjdnnpfhlkgooaa
