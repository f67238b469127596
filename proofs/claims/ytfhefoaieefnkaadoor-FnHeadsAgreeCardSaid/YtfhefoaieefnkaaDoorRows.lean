/-
  NARROWER THAN 'FOR EVERY INPUT', by the rows' own cells (each row's printed sentence says how): FnReadLength: laid · FnReadOid: laid · FnReadAnyMpi: laid · FnLengthBack: laid · FnWriteSubs: laid · FnReadAttribute: laid · FnMarker: laid · FnBodyReads: laid · FnOpaqueBack: laid · FnReadLiteral: laid · FnHeadBack: laid · FnHeadsAgree: laid.
  DERIVED. THE GIVEN ROWS OF THIS SEAT. 12 by the template 'for every input the law returns true; each argument reads behind the call as it read before'; 0 by the template 'total and deterministic' (their statements: YtfhefoaieefnkaaDoorTotals.lean).
  GIVEN WITH THE SEED: the statements are not yours to turn. If you find one false, say at which input.
  Laid BY PROGRAM, IN A SANDBOX (cutbox-rows.mjs): the forced cells as the released guide's own fill.sh prints them over the translation 6542c0a819344340… (all of the seat's roots in one cut). By AI agents, Wed Nov 11 2026. No macro, syntax, notation, axiom, sorry.
-/
import Derived.Test.YtfhefoaieefnkaaDoorChecked
import GoSem.Claim
import GoSem.ClaimJoined
import GoSem.ClaimMapViews
import Derived.JoinedTies
import Derived.KernelRfl
namespace Go.Proofs.YtfhefoaieefnkaaDoor
/- THE CELL 'sum', in the pinned program and in every row, IS THE sha256 OF THE DUMP (.gsa) THAT YtfhefoaieefnkaaDoorProg.lean LOADS. Nothing in Lean hashes anything: it is a label: what it is worth is what the hold of that sum in a sandbox is worth. -/
noncomputable def Tryd.pinned : Pinned := { name := "ytfhefoaieefnkaadoor", sum := "6542c0a8193443403d81ce1e06d2080def6fd27444338875de97960456cc889f", checked := Tryd.checked }
namespace Rows
def none {H : Type} : Left H := { results := [], args := [] }

/- WHAT THE LISTED PACKAGE-LEVEL VARIABLES READ AS WHEN THE CALL BEGINS. Each datum BY PROGRAM (the guide's laid-datum.mjs) off the statement by which the dump's own 'gosem.cut.vars' lays the variable. In a bare row this is a premise. The card (YtfhefoaieefnkaaDoorCards.lean) ties it to the program's text. -/
def laid_io_ErrShortBuffer {H : Type} : DataW H := .iface "*errors.errorString" (.ptr (.agg [.lit (.string [115, 104, 111, 114, 116, 32, 98, 117, 102, 102, 101, 114])]))
def laid_io_EOF {H : Type} : DataW H := .iface "*errors.errorString" (.ptr (.agg [.lit (.string [69, 79, 70])]))
def laid_io_ErrUnexpectedEOF {H : Type} : DataW H := .iface "*errors.errorString" (.ptr (.agg [.lit (.string [117, 110, 101, 120, 112, 101, 99, 116, 101, 100, 32, 69, 79, 70])]))

/-- 'laws.FnReadLength': WHATEVER THE INPUT: true; the input reads as it did. -/
def fnReadLengthSpec : ChangeSpec := { name := "fnReadLength", fn := fun _ => fun
  | [d] => { results := [.lit (.bool true)], args := [d] }
  | _ => none }
def fnReadLengthRow : OpenClaim := { program := "ytfhefoaieefnkaadoor", sum := "6542c0a8193443403d81ce1e06d2080def6fd27444338875de97960456cc889f", func := "pub-counterseal/laws.FnReadLength", spec := "fnReadLength", unfollowed := true, recurses := true, named := ["io.EOF", "io.ErrUnexpectedEOF", "io.ErrShortBuffer"], apart := false, laid := [("io.ErrShortBuffer", laid_io_ErrShortBuffer), ("io.EOF", laid_io_EOF), ("io.ErrUnexpectedEOF", laid_io_ErrUnexpectedEOF)] }
def FnReadLengthSaid : Prop := fnReadLengthRow.holds Tryd.pinned (OpenSpec.ofChange fnReadLengthSpec)

/-- ITS FALSE NEIGHBOUR: 'it returns false'. Refute it at one input. -/
def fnReadLengthWrong : ChangeSpec := { name := "fnReadLength", fn := fun _ => fun
  | [d] => { results := [.lit (.bool false)], args := [d] }
  | _ => none }
def FnReadLengthWrongFalsely : Prop := fnReadLengthRow.holds Tryd.pinned (OpenSpec.ofChange fnReadLengthWrong)

/-- 'laws.FnReadOid': WHATEVER THE INPUT: true; the input reads as it did. -/
def fnReadOidSpec : ChangeSpec := { name := "fnReadOid", fn := fun _ => fun
  | [d1, d2] => { results := [.lit (.bool true)], args := [d1, d2] }
  | _ => none }
def fnReadOidRow : OpenClaim := { program := "ytfhefoaieefnkaadoor", sum := "6542c0a8193443403d81ce1e06d2080def6fd27444338875de97960456cc889f", func := "pub-counterseal/laws.FnReadOid", spec := "fnReadOid", unfollowed := true, recurses := true, named := ["io.EOF", "io.ErrUnexpectedEOF", "io.ErrShortBuffer"], apart := false, laid := [("io.ErrShortBuffer", laid_io_ErrShortBuffer), ("io.EOF", laid_io_EOF), ("io.ErrUnexpectedEOF", laid_io_ErrUnexpectedEOF)] }
def FnReadOidSaid : Prop := fnReadOidRow.holds Tryd.pinned (OpenSpec.ofChange fnReadOidSpec)

/-- ITS FALSE NEIGHBOUR: 'it returns false'. Refute it at one input. -/
def fnReadOidWrong : ChangeSpec := { name := "fnReadOid", fn := fun _ => fun
  | [d1, d2] => { results := [.lit (.bool false)], args := [d1, d2] }
  | _ => none }
def FnReadOidWrongFalsely : Prop := fnReadOidRow.holds Tryd.pinned (OpenSpec.ofChange fnReadOidWrong)

/-- 'laws.FnReadAnyMpi': WHATEVER THE INPUT: true; the input reads as it did. -/
def fnReadAnyMpiSpec : ChangeSpec := { name := "fnReadAnyMpi", fn := fun _ => fun
  | [d1, d2] => { results := [.lit (.bool true)], args := [d1, d2] }
  | _ => none }
def fnReadAnyMpiRow : OpenClaim := { program := "ytfhefoaieefnkaadoor", sum := "6542c0a8193443403d81ce1e06d2080def6fd27444338875de97960456cc889f", func := "pub-counterseal/laws.FnReadAnyMpi", spec := "fnReadAnyMpi", unfollowed := true, recurses := true, named := ["io.EOF", "io.ErrUnexpectedEOF", "io.ErrShortBuffer"], apart := false, laid := [("io.ErrShortBuffer", laid_io_ErrShortBuffer), ("io.EOF", laid_io_EOF), ("io.ErrUnexpectedEOF", laid_io_ErrUnexpectedEOF)] }
def FnReadAnyMpiSaid : Prop := fnReadAnyMpiRow.holds Tryd.pinned (OpenSpec.ofChange fnReadAnyMpiSpec)

/-- ITS FALSE NEIGHBOUR: 'it returns false'. Refute it at one input. -/
def fnReadAnyMpiWrong : ChangeSpec := { name := "fnReadAnyMpi", fn := fun _ => fun
  | [d1, d2] => { results := [.lit (.bool false)], args := [d1, d2] }
  | _ => none }
def FnReadAnyMpiWrongFalsely : Prop := fnReadAnyMpiRow.holds Tryd.pinned (OpenSpec.ofChange fnReadAnyMpiWrong)

/-- 'laws.FnLengthBack': WHATEVER THE INPUT: true; the input reads as it did. -/
def fnLengthBackSpec : ChangeSpec := { name := "fnLengthBack", fn := fun _ => fun
  | [d1, d2] => { results := [.lit (.bool true)], args := [d1, d2] }
  | _ => none }
def fnLengthBackRow : OpenClaim := { program := "ytfhefoaieefnkaadoor", sum := "6542c0a8193443403d81ce1e06d2080def6fd27444338875de97960456cc889f", func := "pub-counterseal/laws.FnLengthBack", spec := "fnLengthBack", unfollowed := true, recurses := true, named := ["io.EOF", "io.ErrUnexpectedEOF", "io.ErrShortBuffer"], apart := false, laid := [("io.ErrShortBuffer", laid_io_ErrShortBuffer), ("io.EOF", laid_io_EOF), ("io.ErrUnexpectedEOF", laid_io_ErrUnexpectedEOF)] }
def FnLengthBackSaid : Prop := fnLengthBackRow.holds Tryd.pinned (OpenSpec.ofChange fnLengthBackSpec)

/-- ITS FALSE NEIGHBOUR: 'it returns false'. Refute it at one input. -/
def fnLengthBackWrong : ChangeSpec := { name := "fnLengthBack", fn := fun _ => fun
  | [d1, d2] => { results := [.lit (.bool false)], args := [d1, d2] }
  | _ => none }
def FnLengthBackWrongFalsely : Prop := fnLengthBackRow.holds Tryd.pinned (OpenSpec.ofChange fnLengthBackWrong)

/-- 'laws.FnWriteSubs': WHATEVER THE INPUT: true; the input reads as it did. -/
def fnWriteSubsSpec : ChangeSpec := { name := "fnWriteSubs", fn := fun _ => fun
  | [d] => { results := [.lit (.bool true)], args := [d] }
  | _ => none }
def fnWriteSubsRow : OpenClaim := { program := "ytfhefoaieefnkaadoor", sum := "6542c0a8193443403d81ce1e06d2080def6fd27444338875de97960456cc889f", func := "pub-counterseal/laws.FnWriteSubs", spec := "fnWriteSubs", unfollowed := true, recurses := true, named := ["io.EOF", "io.ErrUnexpectedEOF"], apart := false, laid := [("io.EOF", laid_io_EOF), ("io.ErrUnexpectedEOF", laid_io_ErrUnexpectedEOF)] }
def FnWriteSubsSaid : Prop := fnWriteSubsRow.holds Tryd.pinned (OpenSpec.ofChange fnWriteSubsSpec)

/-- ITS FALSE NEIGHBOUR: 'it returns false'. Refute it at one input. -/
def fnWriteSubsWrong : ChangeSpec := { name := "fnWriteSubs", fn := fun _ => fun
  | [d] => { results := [.lit (.bool false)], args := [d] }
  | _ => none }
def FnWriteSubsWrongFalsely : Prop := fnWriteSubsRow.holds Tryd.pinned (OpenSpec.ofChange fnWriteSubsWrong)

/-- 'laws.FnReadAttribute': WHATEVER THE INPUT: true; the input reads as it did. -/
def fnReadAttributeSpec : ChangeSpec := { name := "fnReadAttribute", fn := fun _ => fun
  | [d] => { results := [.lit (.bool true)], args := [d] }
  | _ => none }
def fnReadAttributeRow : OpenClaim := { program := "ytfhefoaieefnkaadoor", sum := "6542c0a8193443403d81ce1e06d2080def6fd27444338875de97960456cc889f", func := "pub-counterseal/laws.FnReadAttribute", spec := "fnReadAttribute", unfollowed := true, recurses := true, named := ["io.EOF", "io.ErrUnexpectedEOF"], apart := false, laid := [("io.EOF", laid_io_EOF), ("io.ErrUnexpectedEOF", laid_io_ErrUnexpectedEOF)] }
def FnReadAttributeSaid : Prop := fnReadAttributeRow.holds Tryd.pinned (OpenSpec.ofChange fnReadAttributeSpec)

/-- ITS FALSE NEIGHBOUR: 'it returns false'. Refute it at one input. -/
def fnReadAttributeWrong : ChangeSpec := { name := "fnReadAttribute", fn := fun _ => fun
  | [d] => { results := [.lit (.bool false)], args := [d] }
  | _ => none }
def FnReadAttributeWrongFalsely : Prop := fnReadAttributeRow.holds Tryd.pinned (OpenSpec.ofChange fnReadAttributeWrong)

/-- 'laws.FnMarker': WHATEVER THE INPUT: true; the input reads as it did. -/
def fnMarkerSpec : ChangeSpec := { name := "fnMarker", fn := fun _ => fun
  | [d] => { results := [.lit (.bool true)], args := [d] }
  | _ => none }
def fnMarkerRow : OpenClaim := { program := "ytfhefoaieefnkaadoor", sum := "6542c0a8193443403d81ce1e06d2080def6fd27444338875de97960456cc889f", func := "pub-counterseal/laws.FnMarker", spec := "fnMarker", unfollowed := true, recurses := true, named := ["io.EOF", "io.ErrUnexpectedEOF"], apart := false, laid := [("io.EOF", laid_io_EOF), ("io.ErrUnexpectedEOF", laid_io_ErrUnexpectedEOF)] }
def FnMarkerSaid : Prop := fnMarkerRow.holds Tryd.pinned (OpenSpec.ofChange fnMarkerSpec)

/-- ITS FALSE NEIGHBOUR: 'it returns false'. Refute it at one input. -/
def fnMarkerWrong : ChangeSpec := { name := "fnMarker", fn := fun _ => fun
  | [d] => { results := [.lit (.bool false)], args := [d] }
  | _ => none }
def FnMarkerWrongFalsely : Prop := fnMarkerRow.holds Tryd.pinned (OpenSpec.ofChange fnMarkerWrong)

/-- 'laws.FnBodyReads': WHATEVER THE INPUT: true; the input reads as it did. -/
def fnBodyReadsSpec : ChangeSpec := { name := "fnBodyReads", fn := fun _ => fun
  | [d1, d2, d3] => { results := [.lit (.bool true)], args := [d1, d2, d3] }
  | _ => none }
def fnBodyReadsRow : OpenClaim := { program := "ytfhefoaieefnkaadoor", sum := "6542c0a8193443403d81ce1e06d2080def6fd27444338875de97960456cc889f", func := "pub-counterseal/laws.FnBodyReads", spec := "fnBodyReads", unfollowed := true, recurses := true, named := ["io.ErrShortBuffer", "io.EOF", "io.ErrUnexpectedEOF"], apart := false, laid := [("io.ErrShortBuffer", laid_io_ErrShortBuffer), ("io.EOF", laid_io_EOF), ("io.ErrUnexpectedEOF", laid_io_ErrUnexpectedEOF)] }
def FnBodyReadsSaid : Prop := fnBodyReadsRow.holds Tryd.pinned (OpenSpec.ofChange fnBodyReadsSpec)

/-- ITS FALSE NEIGHBOUR: 'it returns false'. Refute it at one input. -/
def fnBodyReadsWrong : ChangeSpec := { name := "fnBodyReads", fn := fun _ => fun
  | [d1, d2, d3] => { results := [.lit (.bool false)], args := [d1, d2, d3] }
  | _ => none }
def FnBodyReadsWrongFalsely : Prop := fnBodyReadsRow.holds Tryd.pinned (OpenSpec.ofChange fnBodyReadsWrong)

/-- 'laws.FnOpaqueBack': WHATEVER THE INPUT: true; the input reads as it did. -/
def fnOpaqueBackSpec : ChangeSpec := { name := "fnOpaqueBack", fn := fun _ => fun
  | [d1, d2] => { results := [.lit (.bool true)], args := [d1, d2] }
  | _ => none }
def fnOpaqueBackRow : OpenClaim := { program := "ytfhefoaieefnkaadoor", sum := "6542c0a8193443403d81ce1e06d2080def6fd27444338875de97960456cc889f", func := "pub-counterseal/laws.FnOpaqueBack", spec := "fnOpaqueBack", unfollowed := true, recurses := true, named := ["io.ErrShortBuffer", "io.EOF", "io.ErrUnexpectedEOF"], apart := false, laid := [("io.ErrShortBuffer", laid_io_ErrShortBuffer), ("io.EOF", laid_io_EOF), ("io.ErrUnexpectedEOF", laid_io_ErrUnexpectedEOF)] }
def FnOpaqueBackSaid : Prop := fnOpaqueBackRow.holds Tryd.pinned (OpenSpec.ofChange fnOpaqueBackSpec)

/-- ITS FALSE NEIGHBOUR: 'it returns false'. Refute it at one input. -/
def fnOpaqueBackWrong : ChangeSpec := { name := "fnOpaqueBack", fn := fun _ => fun
  | [d1, d2] => { results := [.lit (.bool false)], args := [d1, d2] }
  | _ => none }
def FnOpaqueBackWrongFalsely : Prop := fnOpaqueBackRow.holds Tryd.pinned (OpenSpec.ofChange fnOpaqueBackWrong)

/-- 'laws.FnReadLiteral': WHATEVER THE INPUT: true; the input reads as it did. -/
def fnReadLiteralSpec : ChangeSpec := { name := "fnReadLiteral", fn := fun _ => fun
  | [d1, d2] => { results := [.lit (.bool true)], args := [d1, d2] }
  | _ => none }
def fnReadLiteralRow : OpenClaim := { program := "ytfhefoaieefnkaadoor", sum := "6542c0a8193443403d81ce1e06d2080def6fd27444338875de97960456cc889f", func := "pub-counterseal/laws.FnReadLiteral", spec := "fnReadLiteral", unfollowed := true, recurses := true, named := ["io.ErrShortBuffer", "io.EOF", "io.ErrUnexpectedEOF"], apart := false, laid := [("io.ErrShortBuffer", laid_io_ErrShortBuffer), ("io.EOF", laid_io_EOF), ("io.ErrUnexpectedEOF", laid_io_ErrUnexpectedEOF)] }
def FnReadLiteralSaid : Prop := fnReadLiteralRow.holds Tryd.pinned (OpenSpec.ofChange fnReadLiteralSpec)

/-- ITS FALSE NEIGHBOUR: 'it returns false'. Refute it at one input. -/
def fnReadLiteralWrong : ChangeSpec := { name := "fnReadLiteral", fn := fun _ => fun
  | [d1, d2] => { results := [.lit (.bool false)], args := [d1, d2] }
  | _ => none }
def FnReadLiteralWrongFalsely : Prop := fnReadLiteralRow.holds Tryd.pinned (OpenSpec.ofChange fnReadLiteralWrong)

/-- 'laws.FnHeadBack': WHATEVER THE INPUT: true; the input reads as it did. -/
def fnHeadBackSpec : ChangeSpec := { name := "fnHeadBack", fn := fun _ => fun
  | [d1, d2, d3, d4] => { results := [.lit (.bool true)], args := [d1, d2, d3, d4] }
  | _ => none }
def fnHeadBackRow : OpenClaim := { program := "ytfhefoaieefnkaadoor", sum := "6542c0a8193443403d81ce1e06d2080def6fd27444338875de97960456cc889f", func := "pub-counterseal/laws.FnHeadBack", spec := "fnHeadBack", unfollowed := true, recurses := true, named := ["io.ErrShortBuffer", "io.EOF", "io.ErrUnexpectedEOF"], apart := false, laid := [("io.ErrShortBuffer", laid_io_ErrShortBuffer), ("io.EOF", laid_io_EOF), ("io.ErrUnexpectedEOF", laid_io_ErrUnexpectedEOF)] }
def FnHeadBackSaid : Prop := fnHeadBackRow.holds Tryd.pinned (OpenSpec.ofChange fnHeadBackSpec)

/-- ITS FALSE NEIGHBOUR: 'it returns false'. Refute it at one input. -/
def fnHeadBackWrong : ChangeSpec := { name := "fnHeadBack", fn := fun _ => fun
  | [d1, d2, d3, d4] => { results := [.lit (.bool false)], args := [d1, d2, d3, d4] }
  | _ => none }
def FnHeadBackWrongFalsely : Prop := fnHeadBackRow.holds Tryd.pinned (OpenSpec.ofChange fnHeadBackWrong)

/-- 'laws.FnHeadsAgree': WHATEVER THE INPUT: true; the input reads as it did. -/
def fnHeadsAgreeSpec : ChangeSpec := { name := "fnHeadsAgree", fn := fun _ => fun
  | [d1, d2] => { results := [.lit (.bool true)], args := [d1, d2] }
  | _ => none }
def fnHeadsAgreeRow : OpenClaim := { program := "ytfhefoaieefnkaadoor", sum := "6542c0a8193443403d81ce1e06d2080def6fd27444338875de97960456cc889f", func := "pub-counterseal/laws.FnHeadsAgree", spec := "fnHeadsAgree", unfollowed := true, recurses := true, named := ["io.ErrShortBuffer", "io.EOF", "io.ErrUnexpectedEOF"], apart := false, laid := [("io.ErrShortBuffer", laid_io_ErrShortBuffer), ("io.EOF", laid_io_EOF), ("io.ErrUnexpectedEOF", laid_io_ErrUnexpectedEOF)] }
def FnHeadsAgreeSaid : Prop := fnHeadsAgreeRow.holds Tryd.pinned (OpenSpec.ofChange fnHeadsAgreeSpec)

/-- ITS FALSE NEIGHBOUR: 'it returns false'. Refute it at one input. -/
def fnHeadsAgreeWrong : ChangeSpec := { name := "fnHeadsAgree", fn := fun _ => fun
  | [d1, d2] => { results := [.lit (.bool false)], args := [d1, d2] }
  | _ => none }
def FnHeadsAgreeWrongFalsely : Prop := fnHeadsAgreeRow.holds Tryd.pinned (OpenSpec.ofChange fnHeadsAgreeWrong)

/- THE SECOND FORM. 'bulk': how many values and letters a reading holds, each counted each time it is reached (what is shared counts as often as it is met; a slice's spare places count too). A statement '..UptoSaid' is the law's where the arguments, and the package variables that the reading takes, are together of bulk at most 1048576: NARROWER than '..Said'. Prove '..Said' where nothing that the law and all that it calls make is longer than what came in: it says more and counts as full. Else prove '..UptoSaid'. A law counts once. -/
mutual
def uptoBulk {H : Type} : DataW H → Nat
  | .lit (.string bytes) => bytes.length + 1
  | .lit _ => 1
  | .nil => 1
  | .ptr d => uptoBulk d + 1
  | .slice elems spare => uptoBulkAll elems + uptoBulkAll spare + 1
  | .agg parts => uptoBulkAll parts + 1
  | .iface _ d => uptoBulk d + 1
  | .map entries => uptoBulkEntries entries + 1
  | .held _ => 1
def uptoBulkAll {H : Type} : List (DataW H) → Nat
  | [] => 0
  | d :: r => uptoBulk d + uptoBulkAll r
def uptoBulkEntries {H : Type} : List (Lit × DataW H) → Nat
  | [] => 0
  | x :: r => uptoBulkEntry x + uptoBulkEntries r
def uptoBulkEntry {H : Type} : Lit × DataW H → Nat
  | (.string bytes, d) => bytes.length + uptoBulk d + 1
  | (_, d) => uptoBulk d + 1
 end
def uptoSmall : (H : Type) → List (DataW H) → Bool := fun _ ds => decide (uptoBulkAll ds ≤ 1048576)
def OpenSpec.upto (s : _root_.Go.ChangeSpec) : _root_.Go.OpenSpec := { _root_.Go.OpenSpec.ofChange s with cond := some uptoSmall }

/-- 'laws.FnReadLength', WHERE WHAT IT READS IS OF BULK AT MOST 1048576: true; the input reads as it did. -/
def fnReadLengthUptoRow : OpenClaim := { program := "ytfhefoaieefnkaadoor", sum := "6542c0a8193443403d81ce1e06d2080def6fd27444338875de97960456cc889f", func := "pub-counterseal/laws.FnReadLength", spec := "fnReadLength", unfollowed := true, recurses := true, named := ["io.EOF", "io.ErrUnexpectedEOF", "io.ErrShortBuffer"], apart := false, laid := [("io.ErrShortBuffer", laid_io_ErrShortBuffer), ("io.EOF", laid_io_EOF), ("io.ErrUnexpectedEOF", laid_io_ErrUnexpectedEOF)], narrowed := true }
def FnReadLengthUptoSaid : Prop := fnReadLengthUptoRow.holds Tryd.pinned (OpenSpec.upto fnReadLengthSpec)

/-- 'laws.FnReadOid', WHERE WHAT IT READS IS OF BULK AT MOST 1048576: true; the input reads as it did. -/
def fnReadOidUptoRow : OpenClaim := { program := "ytfhefoaieefnkaadoor", sum := "6542c0a8193443403d81ce1e06d2080def6fd27444338875de97960456cc889f", func := "pub-counterseal/laws.FnReadOid", spec := "fnReadOid", unfollowed := true, recurses := true, named := ["io.EOF", "io.ErrUnexpectedEOF", "io.ErrShortBuffer"], apart := false, laid := [("io.ErrShortBuffer", laid_io_ErrShortBuffer), ("io.EOF", laid_io_EOF), ("io.ErrUnexpectedEOF", laid_io_ErrUnexpectedEOF)], narrowed := true }
def FnReadOidUptoSaid : Prop := fnReadOidUptoRow.holds Tryd.pinned (OpenSpec.upto fnReadOidSpec)

/-- 'laws.FnReadAnyMpi', WHERE WHAT IT READS IS OF BULK AT MOST 1048576: true; the input reads as it did. -/
def fnReadAnyMpiUptoRow : OpenClaim := { program := "ytfhefoaieefnkaadoor", sum := "6542c0a8193443403d81ce1e06d2080def6fd27444338875de97960456cc889f", func := "pub-counterseal/laws.FnReadAnyMpi", spec := "fnReadAnyMpi", unfollowed := true, recurses := true, named := ["io.EOF", "io.ErrUnexpectedEOF", "io.ErrShortBuffer"], apart := false, laid := [("io.ErrShortBuffer", laid_io_ErrShortBuffer), ("io.EOF", laid_io_EOF), ("io.ErrUnexpectedEOF", laid_io_ErrUnexpectedEOF)], narrowed := true }
def FnReadAnyMpiUptoSaid : Prop := fnReadAnyMpiUptoRow.holds Tryd.pinned (OpenSpec.upto fnReadAnyMpiSpec)

/-- 'laws.FnLengthBack', WHERE WHAT IT READS IS OF BULK AT MOST 1048576: true; the input reads as it did. -/
def fnLengthBackUptoRow : OpenClaim := { program := "ytfhefoaieefnkaadoor", sum := "6542c0a8193443403d81ce1e06d2080def6fd27444338875de97960456cc889f", func := "pub-counterseal/laws.FnLengthBack", spec := "fnLengthBack", unfollowed := true, recurses := true, named := ["io.EOF", "io.ErrUnexpectedEOF", "io.ErrShortBuffer"], apart := false, laid := [("io.ErrShortBuffer", laid_io_ErrShortBuffer), ("io.EOF", laid_io_EOF), ("io.ErrUnexpectedEOF", laid_io_ErrUnexpectedEOF)], narrowed := true }
def FnLengthBackUptoSaid : Prop := fnLengthBackUptoRow.holds Tryd.pinned (OpenSpec.upto fnLengthBackSpec)

/-- 'laws.FnWriteSubs', WHERE WHAT IT READS IS OF BULK AT MOST 1048576: true; the input reads as it did. -/
def fnWriteSubsUptoRow : OpenClaim := { program := "ytfhefoaieefnkaadoor", sum := "6542c0a8193443403d81ce1e06d2080def6fd27444338875de97960456cc889f", func := "pub-counterseal/laws.FnWriteSubs", spec := "fnWriteSubs", unfollowed := true, recurses := true, named := ["io.EOF", "io.ErrUnexpectedEOF"], apart := false, laid := [("io.EOF", laid_io_EOF), ("io.ErrUnexpectedEOF", laid_io_ErrUnexpectedEOF)], narrowed := true }
def FnWriteSubsUptoSaid : Prop := fnWriteSubsUptoRow.holds Tryd.pinned (OpenSpec.upto fnWriteSubsSpec)

/-- 'laws.FnReadAttribute', WHERE WHAT IT READS IS OF BULK AT MOST 1048576: true; the input reads as it did. -/
def fnReadAttributeUptoRow : OpenClaim := { program := "ytfhefoaieefnkaadoor", sum := "6542c0a8193443403d81ce1e06d2080def6fd27444338875de97960456cc889f", func := "pub-counterseal/laws.FnReadAttribute", spec := "fnReadAttribute", unfollowed := true, recurses := true, named := ["io.EOF", "io.ErrUnexpectedEOF"], apart := false, laid := [("io.EOF", laid_io_EOF), ("io.ErrUnexpectedEOF", laid_io_ErrUnexpectedEOF)], narrowed := true }
def FnReadAttributeUptoSaid : Prop := fnReadAttributeUptoRow.holds Tryd.pinned (OpenSpec.upto fnReadAttributeSpec)

/-- 'laws.FnMarker', WHERE WHAT IT READS IS OF BULK AT MOST 1048576: true; the input reads as it did. -/
def fnMarkerUptoRow : OpenClaim := { program := "ytfhefoaieefnkaadoor", sum := "6542c0a8193443403d81ce1e06d2080def6fd27444338875de97960456cc889f", func := "pub-counterseal/laws.FnMarker", spec := "fnMarker", unfollowed := true, recurses := true, named := ["io.EOF", "io.ErrUnexpectedEOF"], apart := false, laid := [("io.EOF", laid_io_EOF), ("io.ErrUnexpectedEOF", laid_io_ErrUnexpectedEOF)], narrowed := true }
def FnMarkerUptoSaid : Prop := fnMarkerUptoRow.holds Tryd.pinned (OpenSpec.upto fnMarkerSpec)

/-- 'laws.FnBodyReads', WHERE WHAT IT READS IS OF BULK AT MOST 1048576: true; the input reads as it did. -/
def fnBodyReadsUptoRow : OpenClaim := { program := "ytfhefoaieefnkaadoor", sum := "6542c0a8193443403d81ce1e06d2080def6fd27444338875de97960456cc889f", func := "pub-counterseal/laws.FnBodyReads", spec := "fnBodyReads", unfollowed := true, recurses := true, named := ["io.ErrShortBuffer", "io.EOF", "io.ErrUnexpectedEOF"], apart := false, laid := [("io.ErrShortBuffer", laid_io_ErrShortBuffer), ("io.EOF", laid_io_EOF), ("io.ErrUnexpectedEOF", laid_io_ErrUnexpectedEOF)], narrowed := true }
def FnBodyReadsUptoSaid : Prop := fnBodyReadsUptoRow.holds Tryd.pinned (OpenSpec.upto fnBodyReadsSpec)

/-- 'laws.FnOpaqueBack', WHERE WHAT IT READS IS OF BULK AT MOST 1048576: true; the input reads as it did. -/
def fnOpaqueBackUptoRow : OpenClaim := { program := "ytfhefoaieefnkaadoor", sum := "6542c0a8193443403d81ce1e06d2080def6fd27444338875de97960456cc889f", func := "pub-counterseal/laws.FnOpaqueBack", spec := "fnOpaqueBack", unfollowed := true, recurses := true, named := ["io.ErrShortBuffer", "io.EOF", "io.ErrUnexpectedEOF"], apart := false, laid := [("io.ErrShortBuffer", laid_io_ErrShortBuffer), ("io.EOF", laid_io_EOF), ("io.ErrUnexpectedEOF", laid_io_ErrUnexpectedEOF)], narrowed := true }
def FnOpaqueBackUptoSaid : Prop := fnOpaqueBackUptoRow.holds Tryd.pinned (OpenSpec.upto fnOpaqueBackSpec)

/-- 'laws.FnReadLiteral', WHERE WHAT IT READS IS OF BULK AT MOST 1048576: true; the input reads as it did. -/
def fnReadLiteralUptoRow : OpenClaim := { program := "ytfhefoaieefnkaadoor", sum := "6542c0a8193443403d81ce1e06d2080def6fd27444338875de97960456cc889f", func := "pub-counterseal/laws.FnReadLiteral", spec := "fnReadLiteral", unfollowed := true, recurses := true, named := ["io.ErrShortBuffer", "io.EOF", "io.ErrUnexpectedEOF"], apart := false, laid := [("io.ErrShortBuffer", laid_io_ErrShortBuffer), ("io.EOF", laid_io_EOF), ("io.ErrUnexpectedEOF", laid_io_ErrUnexpectedEOF)], narrowed := true }
def FnReadLiteralUptoSaid : Prop := fnReadLiteralUptoRow.holds Tryd.pinned (OpenSpec.upto fnReadLiteralSpec)

/-- 'laws.FnHeadBack', WHERE WHAT IT READS IS OF BULK AT MOST 1048576: true; the input reads as it did. -/
def fnHeadBackUptoRow : OpenClaim := { program := "ytfhefoaieefnkaadoor", sum := "6542c0a8193443403d81ce1e06d2080def6fd27444338875de97960456cc889f", func := "pub-counterseal/laws.FnHeadBack", spec := "fnHeadBack", unfollowed := true, recurses := true, named := ["io.ErrShortBuffer", "io.EOF", "io.ErrUnexpectedEOF"], apart := false, laid := [("io.ErrShortBuffer", laid_io_ErrShortBuffer), ("io.EOF", laid_io_EOF), ("io.ErrUnexpectedEOF", laid_io_ErrUnexpectedEOF)], narrowed := true }
def FnHeadBackUptoSaid : Prop := fnHeadBackUptoRow.holds Tryd.pinned (OpenSpec.upto fnHeadBackSpec)

/-- 'laws.FnHeadsAgree', WHERE WHAT IT READS IS OF BULK AT MOST 1048576: true; the input reads as it did. -/
def fnHeadsAgreeUptoRow : OpenClaim := { program := "ytfhefoaieefnkaadoor", sum := "6542c0a8193443403d81ce1e06d2080def6fd27444338875de97960456cc889f", func := "pub-counterseal/laws.FnHeadsAgree", spec := "fnHeadsAgree", unfollowed := true, recurses := true, named := ["io.ErrShortBuffer", "io.EOF", "io.ErrUnexpectedEOF"], apart := false, laid := [("io.ErrShortBuffer", laid_io_ErrShortBuffer), ("io.EOF", laid_io_EOF), ("io.ErrUnexpectedEOF", laid_io_ErrUnexpectedEOF)], narrowed := true }
def FnHeadsAgreeUptoSaid : Prop := fnHeadsAgreeUptoRow.holds Tryd.pinned (OpenSpec.upto fnHeadsAgreeSpec)

end Rows
end Go.Proofs.YtfhefoaieefnkaaDoor
