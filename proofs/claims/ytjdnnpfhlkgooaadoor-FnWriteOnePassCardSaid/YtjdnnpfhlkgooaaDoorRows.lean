/-
  NARROWER THAN 'FOR EVERY INPUT', by the rows' own cells (each row's printed sentence says how): FnBodyReads: laid · FnWriteOnePass: laid · FnOnePassBack: laid · FnWriteS2k: laid · FnStreamBack: laid · FnUserBack: laid.
  DERIVED. THE GIVEN ROWS OF THIS SEAT. 6 by the template 'for every input the law returns true; each argument reads behind the call as it read before'; 0 by the template 'total and deterministic' (their statements: YtjdnnpfhlkgooaaDoorTotals.lean).
  GIVEN WITH THE SEED: the statements are not yours to turn. If you find one false, say at which input.
  Laid BY PROGRAM, IN A SANDBOX (cutbox-rows.mjs): the forced cells as the released guide's own fill.sh prints them over the translation 1972a0ce3558f9d3… (all of the seat's roots in one cut). By AI agents, Wed Nov 11 2026. No macro, syntax, notation, axiom, sorry.
-/
import Derived.Test.YtjdnnpfhlkgooaaDoorChecked
import GoSem.PinnedTables
import GoSem.Claim
import GoSem.ClaimJoined
import GoSem.ClaimMapViews
import Derived.JoinedTies
import Derived.KernelRfl
namespace Go.Proofs.YtjdnnpfhlkgooaaDoor
/- THE CELL 'sum', in the pinned program and in every row, IS THE sha256 OF THE DUMP (.gsa) THAT YtjdnnpfhlkgooaaDoorProg.lean LOADS. Nothing in Lean hashes anything: it is a label: what it is worth is what the hold of that sum in a sandbox is worth. -/
noncomputable def Tryd.pinned : Pinned := { name := "ytjdnnpfhlkgooaadoor", sum := "1972a0ce3558f9d3f9c0906ef413feeb1dedfdfc75acf11ebad4bf98086ff0d8", checked := Tryd.checked }
namespace Rows
def none {H : Type} : Left H := { results := [], args := [] }

/- WHAT THE LISTED PACKAGE-LEVEL VARIABLES READ AS WHEN THE CALL BEGINS. Each datum BY PROGRAM (the guide's laid-datum.mjs) off the statement by which the dump's own 'gosem.cut.vars' lays the variable. In a bare row this is a premise. The card (YtjdnnpfhlkgooaaDoorCards.lean) ties it to the program's text. -/
def laid_io_ErrShortBuffer {H : Type} : DataW H := .iface "*errors.errorString" (.ptr (.agg [.lit (.string [115, 104, 111, 114, 116, 32, 98, 117, 102, 102, 101, 114])]))
def laid_io_EOF {H : Type} : DataW H := .iface "*errors.errorString" (.ptr (.agg [.lit (.string [69, 79, 70])]))
def laid_io_ErrUnexpectedEOF {H : Type} : DataW H := .iface "*errors.errorString" (.ptr (.agg [.lit (.string [117, 110, 101, 120, 112, 101, 99, 116, 101, 100, 32, 69, 79, 70])]))
def laid_math_bits_deBruijn32tab {H : Type} : DataW H := .agg [.lit (.int .u8 0), .lit (.int .u8 1), .lit (.int .u8 28), .lit (.int .u8 2), .lit (.int .u8 29), .lit (.int .u8 14), .lit (.int .u8 24), .lit (.int .u8 3), .lit (.int .u8 30), .lit (.int .u8 22), .lit (.int .u8 20), .lit (.int .u8 15), .lit (.int .u8 25), .lit (.int .u8 17), .lit (.int .u8 4), .lit (.int .u8 8), .lit (.int .u8 31), .lit (.int .u8 27), .lit (.int .u8 13), .lit (.int .u8 23), .lit (.int .u8 21), .lit (.int .u8 19), .lit (.int .u8 16), .lit (.int .u8 7), .lit (.int .u8 26), .lit (.int .u8 12), .lit (.int .u8 18), .lit (.int .u8 6), .lit (.int .u8 11), .lit (.int .u8 5), .lit (.int .u8 10), .lit (.int .u8 9)]
def laid_math_bits_deBruijn64tab {H : Type} : DataW H := .agg [.lit (.int .u8 0), .lit (.int .u8 1), .lit (.int .u8 56), .lit (.int .u8 2), .lit (.int .u8 57), .lit (.int .u8 49), .lit (.int .u8 28), .lit (.int .u8 3), .lit (.int .u8 61), .lit (.int .u8 58), .lit (.int .u8 42), .lit (.int .u8 50), .lit (.int .u8 38), .lit (.int .u8 29), .lit (.int .u8 17), .lit (.int .u8 4), .lit (.int .u8 62), .lit (.int .u8 47), .lit (.int .u8 59), .lit (.int .u8 36), .lit (.int .u8 45), .lit (.int .u8 43), .lit (.int .u8 51), .lit (.int .u8 22), .lit (.int .u8 53), .lit (.int .u8 39), .lit (.int .u8 33), .lit (.int .u8 30), .lit (.int .u8 24), .lit (.int .u8 18), .lit (.int .u8 12), .lit (.int .u8 5), .lit (.int .u8 63), .lit (.int .u8 55), .lit (.int .u8 48), .lit (.int .u8 27), .lit (.int .u8 60), .lit (.int .u8 41), .lit (.int .u8 37), .lit (.int .u8 16), .lit (.int .u8 46), .lit (.int .u8 35), .lit (.int .u8 44), .lit (.int .u8 21), .lit (.int .u8 52), .lit (.int .u8 32), .lit (.int .u8 23), .lit (.int .u8 11), .lit (.int .u8 54), .lit (.int .u8 26), .lit (.int .u8 40), .lit (.int .u8 15), .lit (.int .u8 34), .lit (.int .u8 20), .lit (.int .u8 31), .lit (.int .u8 10), .lit (.int .u8 25), .lit (.int .u8 14), .lit (.int .u8 19), .lit (.int .u8 9), .lit (.int .u8 13), .lit (.int .u8 8), .lit (.int .u8 7), .lit (.int .u8 6)]
def laid_internal_strconv_uint64pow10 {H : Type} : DataW H := .agg [.lit (.int .u64 1), .lit (.int .u64 10), .lit (.int .u64 100), .lit (.int .u64 1000), .lit (.int .u64 10000), .lit (.int .u64 100000), .lit (.int .u64 1000000), .lit (.int .u64 10000000), .lit (.int .u64 100000000), .lit (.int .u64 1000000000), .lit (.int .u64 10000000000), .lit (.int .u64 100000000000), .lit (.int .u64 1000000000000), .lit (.int .u64 10000000000000), .lit (.int .u64 100000000000000), .lit (.int .u64 1000000000000000), .lit (.int .u64 10000000000000000), .lit (.int .u64 100000000000000000), .lit (.int .u64 1000000000000000000), .lit (.int .u64 10000000000000000000)]
def laid_unicode_utf8_acceptRanges {H : Type} : DataW H := .agg [.agg [.lit (.int .u8 128), .lit (.int .u8 191)], .agg [.lit (.int .u8 160), .lit (.int .u8 191)], .agg [.lit (.int .u8 128), .lit (.int .u8 159)], .agg [.lit (.int .u8 144), .lit (.int .u8 191)], .agg [.lit (.int .u8 128), .lit (.int .u8 143)], .agg [.lit (.int .u8 0), .lit (.int .u8 0)], .agg [.lit (.int .u8 0), .lit (.int .u8 0)], .agg [.lit (.int .u8 0), .lit (.int .u8 0)], .agg [.lit (.int .u8 0), .lit (.int .u8 0)], .agg [.lit (.int .u8 0), .lit (.int .u8 0)], .agg [.lit (.int .u8 0), .lit (.int .u8 0)], .agg [.lit (.int .u8 0), .lit (.int .u8 0)], .agg [.lit (.int .u8 0), .lit (.int .u8 0)], .agg [.lit (.int .u8 0), .lit (.int .u8 0)], .agg [.lit (.int .u8 0), .lit (.int .u8 0)], .agg [.lit (.int .u8 0), .lit (.int .u8 0)]]
/-- One of Go's own tables, pinned by name: the form's constant. -/
def laid_unicode_utf8_first : DataW Unit := Go.Pinned.utf8First

/-- 'laws.FnBodyReads': WHATEVER THE INPUT: true; the input reads as it did. -/
def fnBodyReadsSpec : ChangeSpec := { name := "fnBodyReads", fn := fun _ => fun
  | [d1, d2, d3] => { results := [.lit (.bool true)], args := [d1, d2, d3] }
  | _ => none }
def fnBodyReadsRow : OpenClaim := { program := "ytjdnnpfhlkgooaadoor", sum := "1972a0ce3558f9d3f9c0906ef413feeb1dedfdfc75acf11ebad4bf98086ff0d8", func := "pub-counterseal/laws.FnBodyReads", spec := "fnBodyReads", unfollowed := true, recurses := true, named := ["io.ErrShortBuffer", "io.EOF", "io.ErrUnexpectedEOF"], apart := false, laid := [("io.ErrShortBuffer", laid_io_ErrShortBuffer), ("io.EOF", laid_io_EOF), ("io.ErrUnexpectedEOF", laid_io_ErrUnexpectedEOF)] }
def FnBodyReadsSaid : Prop := fnBodyReadsRow.holds Tryd.pinned (OpenSpec.ofChange fnBodyReadsSpec)

/-- ITS FALSE NEIGHBOUR: 'it returns false'. Refute it at one input. -/
def fnBodyReadsWrong : ChangeSpec := { name := "fnBodyReads", fn := fun _ => fun
  | [d1, d2, d3] => { results := [.lit (.bool false)], args := [d1, d2, d3] }
  | _ => none }
def FnBodyReadsWrongFalsely : Prop := fnBodyReadsRow.holds Tryd.pinned (OpenSpec.ofChange fnBodyReadsWrong)

/-- 'laws.FnWriteOnePass': WHATEVER THE INPUT: true; the input reads as it did. -/
def fnWriteOnePassSpec : ChangeSpec := { name := "fnWriteOnePass", fn := fun _ => fun
  | [d1, d2] => { results := [.lit (.bool true)], args := [d1, d2] }
  | _ => none }
def fnWriteOnePassRow : OpenClaim := { program := "ytjdnnpfhlkgooaadoor", sum := "1972a0ce3558f9d3f9c0906ef413feeb1dedfdfc75acf11ebad4bf98086ff0d8", func := "pub-counterseal/laws.FnWriteOnePass", spec := "fnWriteOnePass", unfollowed := true, recurses := true, named := ["encoding/binary.BigEndian", "internal/strconv.uint64pow10", "math/bits.deBruijn32tab", "math/bits.deBruijn64tab", "io.EOF", "io.ErrUnexpectedEOF"], apart := false, laid := [("math/bits.deBruijn32tab", laid_math_bits_deBruijn32tab), ("math/bits.deBruijn64tab", laid_math_bits_deBruijn64tab), ("internal/strconv.uint64pow10", laid_internal_strconv_uint64pow10), ("io.EOF", laid_io_EOF), ("io.ErrUnexpectedEOF", laid_io_ErrUnexpectedEOF)] }
def FnWriteOnePassSaid : Prop := fnWriteOnePassRow.holds Tryd.pinned (OpenSpec.ofChange fnWriteOnePassSpec)

/-- ITS FALSE NEIGHBOUR: 'it returns false'. Refute it at one input. -/
def fnWriteOnePassWrong : ChangeSpec := { name := "fnWriteOnePass", fn := fun _ => fun
  | [d1, d2] => { results := [.lit (.bool false)], args := [d1, d2] }
  | _ => none }
def FnWriteOnePassWrongFalsely : Prop := fnWriteOnePassRow.holds Tryd.pinned (OpenSpec.ofChange fnWriteOnePassWrong)

/-- 'laws.FnOnePassBack': WHATEVER THE INPUT: true; the input reads as it did. -/
def fnOnePassBackSpec : ChangeSpec := { name := "fnOnePassBack", fn := fun _ => fun
  | [d1, d2] => { results := [.lit (.bool true)], args := [d1, d2] }
  | _ => none }
def fnOnePassBackRow : OpenClaim := { program := "ytjdnnpfhlkgooaadoor", sum := "1972a0ce3558f9d3f9c0906ef413feeb1dedfdfc75acf11ebad4bf98086ff0d8", func := "pub-counterseal/laws.FnOnePassBack", spec := "fnOnePassBack", unfollowed := true, recurses := true, named := ["encoding/binary.BigEndian", "internal/strconv.uint64pow10", "math/bits.deBruijn32tab", "math/bits.deBruijn64tab", "io.EOF", "io.ErrUnexpectedEOF"], apart := false, laid := [("math/bits.deBruijn32tab", laid_math_bits_deBruijn32tab), ("math/bits.deBruijn64tab", laid_math_bits_deBruijn64tab), ("internal/strconv.uint64pow10", laid_internal_strconv_uint64pow10), ("io.EOF", laid_io_EOF), ("io.ErrUnexpectedEOF", laid_io_ErrUnexpectedEOF)] }
def FnOnePassBackSaid : Prop := fnOnePassBackRow.holds Tryd.pinned (OpenSpec.ofChange fnOnePassBackSpec)

/-- ITS FALSE NEIGHBOUR: 'it returns false'. Refute it at one input. -/
def fnOnePassBackWrong : ChangeSpec := { name := "fnOnePassBack", fn := fun _ => fun
  | [d1, d2] => { results := [.lit (.bool false)], args := [d1, d2] }
  | _ => none }
def FnOnePassBackWrongFalsely : Prop := fnOnePassBackRow.holds Tryd.pinned (OpenSpec.ofChange fnOnePassBackWrong)

/-- 'laws.FnWriteS2k': WHATEVER THE INPUT: true; the input reads as it did. -/
def fnWriteS2kSpec : ChangeSpec := { name := "fnWriteS2k", fn := fun _ => fun
  | [d1, d2] => { results := [.lit (.bool true)], args := [d1, d2] }
  | _ => none }
def fnWriteS2kRow : OpenClaim := { program := "ytjdnnpfhlkgooaadoor", sum := "1972a0ce3558f9d3f9c0906ef413feeb1dedfdfc75acf11ebad4bf98086ff0d8", func := "pub-counterseal/laws.FnWriteS2k", spec := "fnWriteS2k", unfollowed := true, recurses := true, named := ["io.EOF", "io.ErrUnexpectedEOF", "io.ErrShortBuffer"], apart := false, laid := [("io.ErrShortBuffer", laid_io_ErrShortBuffer), ("io.EOF", laid_io_EOF), ("io.ErrUnexpectedEOF", laid_io_ErrUnexpectedEOF)] }
def FnWriteS2kSaid : Prop := fnWriteS2kRow.holds Tryd.pinned (OpenSpec.ofChange fnWriteS2kSpec)

/-- ITS FALSE NEIGHBOUR: 'it returns false'. Refute it at one input. -/
def fnWriteS2kWrong : ChangeSpec := { name := "fnWriteS2k", fn := fun _ => fun
  | [d1, d2] => { results := [.lit (.bool false)], args := [d1, d2] }
  | _ => none }
def FnWriteS2kWrongFalsely : Prop := fnWriteS2kRow.holds Tryd.pinned (OpenSpec.ofChange fnWriteS2kWrong)

/-- 'laws.FnStreamBack': WHATEVER THE INPUT: true; the input reads as it did. -/
def fnStreamBackSpec : ChangeSpec := { name := "fnStreamBack", fn := fun _ => fun
  | [d1, d2, d3, d4] => { results := [.lit (.bool true)], args := [d1, d2, d3, d4] }
  | _ => none }
def fnStreamBackRow : OpenClaim := { program := "ytjdnnpfhlkgooaadoor", sum := "1972a0ce3558f9d3f9c0906ef413feeb1dedfdfc75acf11ebad4bf98086ff0d8", func := "pub-counterseal/laws.FnStreamBack", spec := "fnStreamBack", unfollowed := true, recurses := true, named := ["io.ErrShortBuffer", "io.EOF", "io.ErrUnexpectedEOF"], apart := false, laid := [("io.ErrShortBuffer", laid_io_ErrShortBuffer), ("io.EOF", laid_io_EOF), ("io.ErrUnexpectedEOF", laid_io_ErrUnexpectedEOF)] }
def FnStreamBackSaid : Prop := fnStreamBackRow.holds Tryd.pinned (OpenSpec.ofChange fnStreamBackSpec)

/-- ITS FALSE NEIGHBOUR: 'it returns false'. Refute it at one input. -/
def fnStreamBackWrong : ChangeSpec := { name := "fnStreamBack", fn := fun _ => fun
  | [d1, d2, d3, d4] => { results := [.lit (.bool false)], args := [d1, d2, d3, d4] }
  | _ => none }
def FnStreamBackWrongFalsely : Prop := fnStreamBackRow.holds Tryd.pinned (OpenSpec.ofChange fnStreamBackWrong)

/-- 'laws.FnUserBack': WHATEVER THE INPUT: true; the input reads as it did. -/
def fnUserBackSpec : ChangeSpec := { name := "fnUserBack", fn := fun _ => fun
  | [d1, d2, d3] => { results := [.lit (.bool true)], args := [d1, d2, d3] }
  | _ => none }
def fnUserBackRow : OpenClaim := { program := "ytjdnnpfhlkgooaadoor", sum := "1972a0ce3558f9d3f9c0906ef413feeb1dedfdfc75acf11ebad4bf98086ff0d8", func := "pub-counterseal/laws.FnUserBack", spec := "fnUserBack", named := ["unicode/utf8.first", "unicode/utf8.acceptRanges"], apart := false, laid := [("unicode/utf8.acceptRanges", laid_unicode_utf8_acceptRanges), ("unicode/utf8.first", laid_unicode_utf8_first)] }
def FnUserBackSaid : Prop := fnUserBackRow.holds Tryd.pinned (OpenSpec.ofChange fnUserBackSpec)

/-- ITS FALSE NEIGHBOUR: 'it returns false'. Refute it at one input. -/
def fnUserBackWrong : ChangeSpec := { name := "fnUserBack", fn := fun _ => fun
  | [d1, d2, d3] => { results := [.lit (.bool false)], args := [d1, d2, d3] }
  | _ => none }
def FnUserBackWrongFalsely : Prop := fnUserBackRow.holds Tryd.pinned (OpenSpec.ofChange fnUserBackWrong)

/- THE SECOND FORM. 'bulk': how many values and letters a reading holds, each counted each time it is reached (what is shared counts as often as it is met; a slice's spare places count too). A statement '..UptoSaid' is the law's where the arguments, and the package variables that the reading takes, are together of bulk at most 1048576: NARROWER than '..Said'. Prove '..Said' where nothing that the law and all that it calls make is longer than what came in: it says more and counts as full. Else prove '..UptoSaid'. A law counts once. -/
mutual
def uptoBulk {H : Type} : DataW H → Nat
  | .lit (.string bytes) => bytes.length + 1
  | .lit _ => 1
  | .nil => 1
  | .ptr d => uptoBulk d + 1
  | .slice elems spare => uptoBulkAll elems + uptoBulkAll spare + 1
  | .agg parts => uptoBulkAll parts + 1
  | .iface _ d => uptoBulk d + 1
  | .map entries => uptoBulkEntries entries + 1
  | .held _ => 1
def uptoBulkAll {H : Type} : List (DataW H) → Nat
  | [] => 0
  | d :: r => uptoBulk d + uptoBulkAll r
def uptoBulkEntries {H : Type} : List (Lit × DataW H) → Nat
  | [] => 0
  | x :: r => uptoBulkEntry x + uptoBulkEntries r
def uptoBulkEntry {H : Type} : Lit × DataW H → Nat
  | (.string bytes, d) => bytes.length + uptoBulk d + 1
  | (_, d) => uptoBulk d + 1
 end
def uptoSmall : (H : Type) → List (DataW H) → Bool := fun _ ds => decide (uptoBulkAll ds ≤ 1048576)
def OpenSpec.upto (s : _root_.Go.ChangeSpec) : _root_.Go.OpenSpec := { _root_.Go.OpenSpec.ofChange s with cond := some uptoSmall }

/-- 'laws.FnBodyReads', WHERE WHAT IT READS IS OF BULK AT MOST 1048576: true; the input reads as it did. -/
def fnBodyReadsUptoRow : OpenClaim := { program := "ytjdnnpfhlkgooaadoor", sum := "1972a0ce3558f9d3f9c0906ef413feeb1dedfdfc75acf11ebad4bf98086ff0d8", func := "pub-counterseal/laws.FnBodyReads", spec := "fnBodyReads", unfollowed := true, recurses := true, named := ["io.ErrShortBuffer", "io.EOF", "io.ErrUnexpectedEOF"], apart := false, laid := [("io.ErrShortBuffer", laid_io_ErrShortBuffer), ("io.EOF", laid_io_EOF), ("io.ErrUnexpectedEOF", laid_io_ErrUnexpectedEOF)], narrowed := true }
def FnBodyReadsUptoSaid : Prop := fnBodyReadsUptoRow.holds Tryd.pinned (OpenSpec.upto fnBodyReadsSpec)

/-- 'laws.FnWriteOnePass', WHERE WHAT IT READS IS OF BULK AT MOST 1048576: true; the input reads as it did. -/
def fnWriteOnePassUptoRow : OpenClaim := { program := "ytjdnnpfhlkgooaadoor", sum := "1972a0ce3558f9d3f9c0906ef413feeb1dedfdfc75acf11ebad4bf98086ff0d8", func := "pub-counterseal/laws.FnWriteOnePass", spec := "fnWriteOnePass", unfollowed := true, recurses := true, named := ["encoding/binary.BigEndian", "internal/strconv.uint64pow10", "math/bits.deBruijn32tab", "math/bits.deBruijn64tab", "io.EOF", "io.ErrUnexpectedEOF"], apart := false, laid := [("math/bits.deBruijn32tab", laid_math_bits_deBruijn32tab), ("math/bits.deBruijn64tab", laid_math_bits_deBruijn64tab), ("internal/strconv.uint64pow10", laid_internal_strconv_uint64pow10), ("io.EOF", laid_io_EOF), ("io.ErrUnexpectedEOF", laid_io_ErrUnexpectedEOF)], narrowed := true }
def FnWriteOnePassUptoSaid : Prop := fnWriteOnePassUptoRow.holds Tryd.pinned (OpenSpec.upto fnWriteOnePassSpec)

/-- 'laws.FnOnePassBack', WHERE WHAT IT READS IS OF BULK AT MOST 1048576: true; the input reads as it did. -/
def fnOnePassBackUptoRow : OpenClaim := { program := "ytjdnnpfhlkgooaadoor", sum := "1972a0ce3558f9d3f9c0906ef413feeb1dedfdfc75acf11ebad4bf98086ff0d8", func := "pub-counterseal/laws.FnOnePassBack", spec := "fnOnePassBack", unfollowed := true, recurses := true, named := ["encoding/binary.BigEndian", "internal/strconv.uint64pow10", "math/bits.deBruijn32tab", "math/bits.deBruijn64tab", "io.EOF", "io.ErrUnexpectedEOF"], apart := false, laid := [("math/bits.deBruijn32tab", laid_math_bits_deBruijn32tab), ("math/bits.deBruijn64tab", laid_math_bits_deBruijn64tab), ("internal/strconv.uint64pow10", laid_internal_strconv_uint64pow10), ("io.EOF", laid_io_EOF), ("io.ErrUnexpectedEOF", laid_io_ErrUnexpectedEOF)], narrowed := true }
def FnOnePassBackUptoSaid : Prop := fnOnePassBackUptoRow.holds Tryd.pinned (OpenSpec.upto fnOnePassBackSpec)

/-- 'laws.FnWriteS2k', WHERE WHAT IT READS IS OF BULK AT MOST 1048576: true; the input reads as it did. -/
def fnWriteS2kUptoRow : OpenClaim := { program := "ytjdnnpfhlkgooaadoor", sum := "1972a0ce3558f9d3f9c0906ef413feeb1dedfdfc75acf11ebad4bf98086ff0d8", func := "pub-counterseal/laws.FnWriteS2k", spec := "fnWriteS2k", unfollowed := true, recurses := true, named := ["io.EOF", "io.ErrUnexpectedEOF", "io.ErrShortBuffer"], apart := false, laid := [("io.ErrShortBuffer", laid_io_ErrShortBuffer), ("io.EOF", laid_io_EOF), ("io.ErrUnexpectedEOF", laid_io_ErrUnexpectedEOF)], narrowed := true }
def FnWriteS2kUptoSaid : Prop := fnWriteS2kUptoRow.holds Tryd.pinned (OpenSpec.upto fnWriteS2kSpec)

/-- 'laws.FnStreamBack', WHERE WHAT IT READS IS OF BULK AT MOST 1048576: true; the input reads as it did. -/
def fnStreamBackUptoRow : OpenClaim := { program := "ytjdnnpfhlkgooaadoor", sum := "1972a0ce3558f9d3f9c0906ef413feeb1dedfdfc75acf11ebad4bf98086ff0d8", func := "pub-counterseal/laws.FnStreamBack", spec := "fnStreamBack", unfollowed := true, recurses := true, named := ["io.ErrShortBuffer", "io.EOF", "io.ErrUnexpectedEOF"], apart := false, laid := [("io.ErrShortBuffer", laid_io_ErrShortBuffer), ("io.EOF", laid_io_EOF), ("io.ErrUnexpectedEOF", laid_io_ErrUnexpectedEOF)], narrowed := true }
def FnStreamBackUptoSaid : Prop := fnStreamBackUptoRow.holds Tryd.pinned (OpenSpec.upto fnStreamBackSpec)

/-- 'laws.FnUserBack', WHERE WHAT IT READS IS OF BULK AT MOST 1048576: true; the input reads as it did. -/
def fnUserBackUptoRow : OpenClaim := { program := "ytjdnnpfhlkgooaadoor", sum := "1972a0ce3558f9d3f9c0906ef413feeb1dedfdfc75acf11ebad4bf98086ff0d8", func := "pub-counterseal/laws.FnUserBack", spec := "fnUserBack", named := ["unicode/utf8.first", "unicode/utf8.acceptRanges"], apart := false, laid := [("unicode/utf8.acceptRanges", laid_unicode_utf8_acceptRanges), ("unicode/utf8.first", laid_unicode_utf8_first)], narrowed := true }
def FnUserBackUptoSaid : Prop := fnUserBackUptoRow.holds Tryd.pinned (OpenSpec.upto fnUserBackSpec)

end Rows
end Go.Proofs.YtjdnnpfhlkgooaaDoor
