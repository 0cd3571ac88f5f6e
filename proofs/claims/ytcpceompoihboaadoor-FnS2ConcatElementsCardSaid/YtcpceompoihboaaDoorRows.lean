/-
  NARROWER THAN 'FOR EVERY INPUT', by the rows' own cells (each row's printed sentence says how): FnIndexFinds: laid · FnS2Elements: laid · FnEmitLiteral: laid · FnS2ConcatElements: laid · FnEmitRepeat: laid · FnLz4Any: laid · FnLz4Converts: laid.
  DERIVED. THE GIVEN ROWS OF THIS SEAT. 7 by the template 'for every input the law returns true; each argument reads behind the call as it read before'; 0 by the template 'total and deterministic' (their statements: YtcpceompoihboaaDoorTotals.lean).
  GIVEN WITH THE SEED: the statements are not yours to turn. If you find one false, say at which input.
  Laid BY PROGRAM, IN A SANDBOX (cutbox-rows.mjs): the forced cells as the released guide's own fill.sh prints them over the translation 7c1c25956d884c77… (all of the seat's roots in one cut). By AI agents, Wed Nov 11 2026. No macro, syntax, notation, axiom, sorry.
-/
import Derived.Test.YtcpceompoihboaaDoorChecked
import GoSem.Claim
import GoSem.ClaimJoined
import GoSem.ClaimMapViews
import Derived.JoinedTies
import Derived.KernelRfl
namespace Go.Proofs.YtcpceompoihboaaDoor
/- THE CELL 'sum', in the pinned program and in every row, IS THE sha256 OF THE DUMP (.gsa) THAT YtcpceompoihboaaDoorProg.lean LOADS. Nothing in Lean hashes anything: it is a label: what it is worth is what the hold of that sum in a sandbox is worth. -/
noncomputable def Tryd.pinned : Pinned := { name := "ytcpceompoihboaadoor", sum := "7c1c25956d884c7759c65dcbdb8e80d4dd4fd3363a8a6407706728f58977865d", checked := Tryd.checked }
namespace Rows
def none {H : Type} : Left H := { results := [], args := [] }

/- WHAT THE LISTED PACKAGE-LEVEL VARIABLES READ AS WHEN THE CALL BEGINS. Each datum BY PROGRAM (the guide's laid-datum.mjs) off the statement by which the dump's own 'gosem.cut.vars' lays the variable. In a bare row this is a premise. The card (YtcpceompoihboaaDoorCards.lean) ties it to the program's text. -/
def laid_io_ErrUnexpectedEOF {H : Type} : DataW H := .iface "*errors.errorString" (.ptr (.agg [.lit (.string [117, 110, 101, 120, 112, 101, 99, 116, 101, 100, 32, 69, 79, 70])]))
def laid_pub_pemmican_pub_compress_s2_ErrCorrupt {H : Type} : DataW H := .iface "*errors.errorString" (.ptr (.agg [.lit (.string [115, 50, 58, 32, 99, 111, 114, 114, 117, 112, 116, 32, 105, 110, 112, 117, 116])]))
def laid_pub_pemmican_pub_compress_s2_ErrUnsupported {H : Type} : DataW H := .iface "*errors.errorString" (.ptr (.agg [.lit (.string [115, 50, 58, 32, 117, 110, 115, 117, 112, 112, 111, 114, 116, 101, 100, 32, 105, 110, 112, 117, 116])]))
def laid_pub_pemmican_pub_compress_s2_ErrTooLarge {H : Type} : DataW H := .iface "*errors.errorString" (.ptr (.agg [.lit (.string [115, 50, 58, 32, 100, 101, 99, 111, 100, 101, 100, 32, 98, 108, 111, 99, 107, 32, 105, 115, 32, 116, 111, 111, 32, 108, 97, 114, 103, 101])]))
def laid_pub_pemmican_pub_compress_s2_ErrDstTooSmall {H : Type} : DataW H := .iface "*errors.errorString" (.ptr (.agg [.lit (.string [115, 50, 58, 32, 100, 101, 115, 116, 105, 110, 97, 116, 105, 111, 110, 32, 116, 111, 111, 32, 115, 109, 97, 108, 108])]))

/-- 'laws.FnIndexFinds': WHATEVER THE INPUT: true; the input reads as it did. -/
def fnIndexFindsSpec : ChangeSpec := { name := "fnIndexFinds", fn := fun _ => fun
  | [d1, d2] => { results := [.lit (.bool true)], args := [d1, d2] }
  | _ => none }
def fnIndexFindsRow : OpenClaim := { program := "ytcpceompoihboaadoor", sum := "7c1c25956d884c7759c65dcbdb8e80d4dd4fd3363a8a6407706728f58977865d", func := "pub-pemmican/laws.FnIndexFinds", spec := "fnIndexFinds", unfollowed := true, recurses := true, named := ["encoding/binary.LittleEndian", "io.ErrUnexpectedEOF", "pub-pemmican/pub/compress/s2.ErrCorrupt", "pub-pemmican/pub/compress/s2.ErrUnsupported"], apart := false, laid := [("io.ErrUnexpectedEOF", laid_io_ErrUnexpectedEOF), ("pub-pemmican/pub/compress/s2.ErrCorrupt", laid_pub_pemmican_pub_compress_s2_ErrCorrupt), ("pub-pemmican/pub/compress/s2.ErrUnsupported", laid_pub_pemmican_pub_compress_s2_ErrUnsupported)] }
def FnIndexFindsSaid : Prop := fnIndexFindsRow.holds Tryd.pinned (OpenSpec.ofChange fnIndexFindsSpec)

/-- ITS FALSE NEIGHBOUR: 'it returns false'. Refute it at one input. -/
def fnIndexFindsWrong : ChangeSpec := { name := "fnIndexFinds", fn := fun _ => fun
  | [d1, d2] => { results := [.lit (.bool false)], args := [d1, d2] }
  | _ => none }
def FnIndexFindsWrongFalsely : Prop := fnIndexFindsRow.holds Tryd.pinned (OpenSpec.ofChange fnIndexFindsWrong)

/-- 'laws.FnS2Elements': WHATEVER THE INPUT: true; the input reads as it did. -/
def fnS2ElementsSpec : ChangeSpec := { name := "fnS2Elements", fn := fun _ => fun
  | [d1, d2, d3] => { results := [.lit (.bool true)], args := [d1, d2, d3] }
  | _ => none }
def fnS2ElementsRow : OpenClaim := { program := "ytcpceompoihboaadoor", sum := "7c1c25956d884c7759c65dcbdb8e80d4dd4fd3363a8a6407706728f58977865d", func := "pub-pemmican/laws.FnS2Elements", spec := "fnS2Elements", named := ["pub-pemmican/pub/compress/s2.ErrCorrupt", "pub-pemmican/pub/compress/s2.ErrTooLarge", "encoding/binary.LittleEndian"], apart := false, laid := [("pub-pemmican/pub/compress/s2.ErrCorrupt", laid_pub_pemmican_pub_compress_s2_ErrCorrupt), ("pub-pemmican/pub/compress/s2.ErrTooLarge", laid_pub_pemmican_pub_compress_s2_ErrTooLarge)] }
def FnS2ElementsSaid : Prop := fnS2ElementsRow.holds Tryd.pinned (OpenSpec.ofChange fnS2ElementsSpec)

/-- ITS FALSE NEIGHBOUR: 'it returns false'. Refute it at one input. -/
def fnS2ElementsWrong : ChangeSpec := { name := "fnS2Elements", fn := fun _ => fun
  | [d1, d2, d3] => { results := [.lit (.bool false)], args := [d1, d2, d3] }
  | _ => none }
def FnS2ElementsWrongFalsely : Prop := fnS2ElementsRow.holds Tryd.pinned (OpenSpec.ofChange fnS2ElementsWrong)

/-- 'laws.FnEmitLiteral': WHATEVER THE INPUT: true; the input reads as it did. -/
def fnEmitLiteralSpec : ChangeSpec := { name := "fnEmitLiteral", fn := fun _ => fun
  | [d] => { results := [.lit (.bool true)], args := [d] }
  | _ => none }
def fnEmitLiteralRow : OpenClaim := { program := "ytcpceompoihboaadoor", sum := "7c1c25956d884c7759c65dcbdb8e80d4dd4fd3363a8a6407706728f58977865d", func := "pub-pemmican/laws.FnEmitLiteral", spec := "fnEmitLiteral", named := ["pub-pemmican/pub/compress/s2.ErrCorrupt", "pub-pemmican/pub/compress/s2.ErrTooLarge", "encoding/binary.LittleEndian"], apart := false, laid := [("pub-pemmican/pub/compress/s2.ErrCorrupt", laid_pub_pemmican_pub_compress_s2_ErrCorrupt), ("pub-pemmican/pub/compress/s2.ErrTooLarge", laid_pub_pemmican_pub_compress_s2_ErrTooLarge)] }
def FnEmitLiteralSaid : Prop := fnEmitLiteralRow.holds Tryd.pinned (OpenSpec.ofChange fnEmitLiteralSpec)

/-- ITS FALSE NEIGHBOUR: 'it returns false'. Refute it at one input. -/
def fnEmitLiteralWrong : ChangeSpec := { name := "fnEmitLiteral", fn := fun _ => fun
  | [d] => { results := [.lit (.bool false)], args := [d] }
  | _ => none }
def FnEmitLiteralWrongFalsely : Prop := fnEmitLiteralRow.holds Tryd.pinned (OpenSpec.ofChange fnEmitLiteralWrong)

/-- 'laws.FnS2ConcatElements': WHATEVER THE INPUT: true; the input reads as it did. -/
def fnS2ConcatElementsSpec : ChangeSpec := { name := "fnS2ConcatElements", fn := fun _ => fun
  | [d1, d2] => { results := [.lit (.bool true)], args := [d1, d2] }
  | _ => none }
def fnS2ConcatElementsRow : OpenClaim := { program := "ytcpceompoihboaadoor", sum := "7c1c25956d884c7759c65dcbdb8e80d4dd4fd3363a8a6407706728f58977865d", func := "pub-pemmican/laws.FnS2ConcatElements", spec := "fnS2ConcatElements", named := ["pub-pemmican/pub/compress/s2.ErrTooLarge", "pub-pemmican/pub/compress/s2.ErrCorrupt", "encoding/binary.LittleEndian"], apart := false, laid := [("pub-pemmican/pub/compress/s2.ErrCorrupt", laid_pub_pemmican_pub_compress_s2_ErrCorrupt), ("pub-pemmican/pub/compress/s2.ErrTooLarge", laid_pub_pemmican_pub_compress_s2_ErrTooLarge)] }
def FnS2ConcatElementsSaid : Prop := fnS2ConcatElementsRow.holds Tryd.pinned (OpenSpec.ofChange fnS2ConcatElementsSpec)

/-- ITS FALSE NEIGHBOUR: 'it returns false'. Refute it at one input. -/
def fnS2ConcatElementsWrong : ChangeSpec := { name := "fnS2ConcatElements", fn := fun _ => fun
  | [d1, d2] => { results := [.lit (.bool false)], args := [d1, d2] }
  | _ => none }
def FnS2ConcatElementsWrongFalsely : Prop := fnS2ConcatElementsRow.holds Tryd.pinned (OpenSpec.ofChange fnS2ConcatElementsWrong)

/-- 'laws.FnEmitRepeat': WHATEVER THE INPUT: true; the input reads as it did. -/
def fnEmitRepeatSpec : ChangeSpec := { name := "fnEmitRepeat", fn := fun _ => fun
  | [d1, d2, d3] => { results := [.lit (.bool true)], args := [d1, d2, d3] }
  | _ => none }
def fnEmitRepeatRow : OpenClaim := { program := "ytcpceompoihboaadoor", sum := "7c1c25956d884c7759c65dcbdb8e80d4dd4fd3363a8a6407706728f58977865d", func := "pub-pemmican/laws.FnEmitRepeat", spec := "fnEmitRepeat", recurses := true, named := ["pub-pemmican/pub/compress/s2.ErrCorrupt", "pub-pemmican/pub/compress/s2.ErrTooLarge", "encoding/binary.LittleEndian"], apart := false, laid := [("pub-pemmican/pub/compress/s2.ErrCorrupt", laid_pub_pemmican_pub_compress_s2_ErrCorrupt), ("pub-pemmican/pub/compress/s2.ErrTooLarge", laid_pub_pemmican_pub_compress_s2_ErrTooLarge)] }
def FnEmitRepeatSaid : Prop := fnEmitRepeatRow.holds Tryd.pinned (OpenSpec.ofChange fnEmitRepeatSpec)

/-- ITS FALSE NEIGHBOUR: 'it returns false'. Refute it at one input. -/
def fnEmitRepeatWrong : ChangeSpec := { name := "fnEmitRepeat", fn := fun _ => fun
  | [d1, d2, d3] => { results := [.lit (.bool false)], args := [d1, d2, d3] }
  | _ => none }
def FnEmitRepeatWrongFalsely : Prop := fnEmitRepeatRow.holds Tryd.pinned (OpenSpec.ofChange fnEmitRepeatWrong)

/-- 'laws.FnLz4Any': WHATEVER THE INPUT: true; the input reads as it did. -/
def fnLz4AnySpec : ChangeSpec := { name := "fnLz4Any", fn := fun _ => fun
  | [d1, d2, d3, d4] => { results := [.lit (.bool true)], args := [d1, d2, d3, d4] }
  | _ => none }
def fnLz4AnyRow : OpenClaim := { program := "ytcpceompoihboaadoor", sum := "7c1c25956d884c7759c65dcbdb8e80d4dd4fd3363a8a6407706728f58977865d", func := "pub-pemmican/laws.FnLz4Any", spec := "fnLz4Any", unfollowed := true, recurses := true, named := ["pub-pemmican/pub/compress/s2.ErrCorrupt", "pub-pemmican/pub/compress/s2.ErrDstTooSmall", "encoding/binary.LittleEndian", "pub-pemmican/pub/compress/s2.ErrTooLarge"], apart := false, laid := [("pub-pemmican/pub/compress/s2.ErrCorrupt", laid_pub_pemmican_pub_compress_s2_ErrCorrupt), ("pub-pemmican/pub/compress/s2.ErrTooLarge", laid_pub_pemmican_pub_compress_s2_ErrTooLarge), ("pub-pemmican/pub/compress/s2.ErrDstTooSmall", laid_pub_pemmican_pub_compress_s2_ErrDstTooSmall)] }
def FnLz4AnySaid : Prop := fnLz4AnyRow.holds Tryd.pinned (OpenSpec.ofChange fnLz4AnySpec)

/-- ITS FALSE NEIGHBOUR: 'it returns false'. Refute it at one input. -/
def fnLz4AnyWrong : ChangeSpec := { name := "fnLz4Any", fn := fun _ => fun
  | [d1, d2, d3, d4] => { results := [.lit (.bool false)], args := [d1, d2, d3, d4] }
  | _ => none }
def FnLz4AnyWrongFalsely : Prop := fnLz4AnyRow.holds Tryd.pinned (OpenSpec.ofChange fnLz4AnyWrong)

/-- 'laws.FnLz4Converts': WHATEVER THE INPUT: true; the input reads as it did. -/
def fnLz4ConvertsSpec : ChangeSpec := { name := "fnLz4Converts", fn := fun _ => fun
  | [d1, d2] => { results := [.lit (.bool true)], args := [d1, d2] }
  | _ => none }
def fnLz4ConvertsRow : OpenClaim := { program := "ytcpceompoihboaadoor", sum := "7c1c25956d884c7759c65dcbdb8e80d4dd4fd3363a8a6407706728f58977865d", func := "pub-pemmican/laws.FnLz4Converts", spec := "fnLz4Converts", unfollowed := true, recurses := true, named := ["pub-pemmican/pub/compress/s2.ErrCorrupt", "pub-pemmican/pub/compress/s2.ErrDstTooSmall", "encoding/binary.LittleEndian", "pub-pemmican/pub/compress/s2.ErrTooLarge"], apart := false, laid := [("pub-pemmican/pub/compress/s2.ErrCorrupt", laid_pub_pemmican_pub_compress_s2_ErrCorrupt), ("pub-pemmican/pub/compress/s2.ErrTooLarge", laid_pub_pemmican_pub_compress_s2_ErrTooLarge), ("pub-pemmican/pub/compress/s2.ErrDstTooSmall", laid_pub_pemmican_pub_compress_s2_ErrDstTooSmall)] }
def FnLz4ConvertsSaid : Prop := fnLz4ConvertsRow.holds Tryd.pinned (OpenSpec.ofChange fnLz4ConvertsSpec)

/-- ITS FALSE NEIGHBOUR: 'it returns false'. Refute it at one input. -/
def fnLz4ConvertsWrong : ChangeSpec := { name := "fnLz4Converts", fn := fun _ => fun
  | [d1, d2] => { results := [.lit (.bool false)], args := [d1, d2] }
  | _ => none }
def FnLz4ConvertsWrongFalsely : Prop := fnLz4ConvertsRow.holds Tryd.pinned (OpenSpec.ofChange fnLz4ConvertsWrong)

/- THE SECOND FORM. 'bulk': how many values and letters a reading holds, each counted each time it is reached (what is shared counts as often as it is met; a slice's spare places count too). A statement '..UptoSaid' is the law's where the arguments, and the package variables that the reading takes, are together of bulk at most 1048576: NARROWER than '..Said'. Prove '..Said' where nothing that the law and all that it calls make is longer than what came in: it says more and counts as full. Else prove '..UptoSaid'. A law counts once. -/
mutual
def uptoBulk {H : Type} : DataW H → Nat
  | .lit (.string bytes) => bytes.length + 1
  | .lit _ => 1
  | .nil => 1
  | .ptr d => uptoBulk d + 1
  | .slice elems spare => uptoBulkAll elems + uptoBulkAll spare + 1
  | .agg parts => uptoBulkAll parts + 1
  | .iface _ d => uptoBulk d + 1
  | .map entries => uptoBulkEntries entries + 1
  | .held _ => 1
def uptoBulkAll {H : Type} : List (DataW H) → Nat
  | [] => 0
  | d :: r => uptoBulk d + uptoBulkAll r
def uptoBulkEntries {H : Type} : List (Lit × DataW H) → Nat
  | [] => 0
  | x :: r => uptoBulkEntry x + uptoBulkEntries r
def uptoBulkEntry {H : Type} : Lit × DataW H → Nat
  | (.string bytes, d) => bytes.length + uptoBulk d + 1
  | (_, d) => uptoBulk d + 1
 end
def uptoSmall : (H : Type) → List (DataW H) → Bool := fun _ ds => decide (uptoBulkAll ds ≤ 1048576)
def OpenSpec.upto (s : _root_.Go.ChangeSpec) : _root_.Go.OpenSpec := { _root_.Go.OpenSpec.ofChange s with cond := some uptoSmall }

/-- 'laws.FnIndexFinds', WHERE WHAT IT READS IS OF BULK AT MOST 1048576: true; the input reads as it did. -/
def fnIndexFindsUptoRow : OpenClaim := { program := "ytcpceompoihboaadoor", sum := "7c1c25956d884c7759c65dcbdb8e80d4dd4fd3363a8a6407706728f58977865d", func := "pub-pemmican/laws.FnIndexFinds", spec := "fnIndexFinds", unfollowed := true, recurses := true, named := ["encoding/binary.LittleEndian", "io.ErrUnexpectedEOF", "pub-pemmican/pub/compress/s2.ErrCorrupt", "pub-pemmican/pub/compress/s2.ErrUnsupported"], apart := false, laid := [("io.ErrUnexpectedEOF", laid_io_ErrUnexpectedEOF), ("pub-pemmican/pub/compress/s2.ErrCorrupt", laid_pub_pemmican_pub_compress_s2_ErrCorrupt), ("pub-pemmican/pub/compress/s2.ErrUnsupported", laid_pub_pemmican_pub_compress_s2_ErrUnsupported)], narrowed := true }
def FnIndexFindsUptoSaid : Prop := fnIndexFindsUptoRow.holds Tryd.pinned (OpenSpec.upto fnIndexFindsSpec)

/-- 'laws.FnS2Elements', WHERE WHAT IT READS IS OF BULK AT MOST 1048576: true; the input reads as it did. -/
def fnS2ElementsUptoRow : OpenClaim := { program := "ytcpceompoihboaadoor", sum := "7c1c25956d884c7759c65dcbdb8e80d4dd4fd3363a8a6407706728f58977865d", func := "pub-pemmican/laws.FnS2Elements", spec := "fnS2Elements", named := ["pub-pemmican/pub/compress/s2.ErrCorrupt", "pub-pemmican/pub/compress/s2.ErrTooLarge", "encoding/binary.LittleEndian"], apart := false, laid := [("pub-pemmican/pub/compress/s2.ErrCorrupt", laid_pub_pemmican_pub_compress_s2_ErrCorrupt), ("pub-pemmican/pub/compress/s2.ErrTooLarge", laid_pub_pemmican_pub_compress_s2_ErrTooLarge)], narrowed := true }
def FnS2ElementsUptoSaid : Prop := fnS2ElementsUptoRow.holds Tryd.pinned (OpenSpec.upto fnS2ElementsSpec)

/-- 'laws.FnEmitLiteral', WHERE WHAT IT READS IS OF BULK AT MOST 1048576: true; the input reads as it did. -/
def fnEmitLiteralUptoRow : OpenClaim := { program := "ytcpceompoihboaadoor", sum := "7c1c25956d884c7759c65dcbdb8e80d4dd4fd3363a8a6407706728f58977865d", func := "pub-pemmican/laws.FnEmitLiteral", spec := "fnEmitLiteral", named := ["pub-pemmican/pub/compress/s2.ErrCorrupt", "pub-pemmican/pub/compress/s2.ErrTooLarge", "encoding/binary.LittleEndian"], apart := false, laid := [("pub-pemmican/pub/compress/s2.ErrCorrupt", laid_pub_pemmican_pub_compress_s2_ErrCorrupt), ("pub-pemmican/pub/compress/s2.ErrTooLarge", laid_pub_pemmican_pub_compress_s2_ErrTooLarge)], narrowed := true }
def FnEmitLiteralUptoSaid : Prop := fnEmitLiteralUptoRow.holds Tryd.pinned (OpenSpec.upto fnEmitLiteralSpec)

/-- 'laws.FnS2ConcatElements', WHERE WHAT IT READS IS OF BULK AT MOST 1048576: true; the input reads as it did. -/
def fnS2ConcatElementsUptoRow : OpenClaim := { program := "ytcpceompoihboaadoor", sum := "7c1c25956d884c7759c65dcbdb8e80d4dd4fd3363a8a6407706728f58977865d", func := "pub-pemmican/laws.FnS2ConcatElements", spec := "fnS2ConcatElements", named := ["pub-pemmican/pub/compress/s2.ErrTooLarge", "pub-pemmican/pub/compress/s2.ErrCorrupt", "encoding/binary.LittleEndian"], apart := false, laid := [("pub-pemmican/pub/compress/s2.ErrCorrupt", laid_pub_pemmican_pub_compress_s2_ErrCorrupt), ("pub-pemmican/pub/compress/s2.ErrTooLarge", laid_pub_pemmican_pub_compress_s2_ErrTooLarge)], narrowed := true }
def FnS2ConcatElementsUptoSaid : Prop := fnS2ConcatElementsUptoRow.holds Tryd.pinned (OpenSpec.upto fnS2ConcatElementsSpec)

/-- 'laws.FnEmitRepeat', WHERE WHAT IT READS IS OF BULK AT MOST 1048576: true; the input reads as it did. -/
def fnEmitRepeatUptoRow : OpenClaim := { program := "ytcpceompoihboaadoor", sum := "7c1c25956d884c7759c65dcbdb8e80d4dd4fd3363a8a6407706728f58977865d", func := "pub-pemmican/laws.FnEmitRepeat", spec := "fnEmitRepeat", recurses := true, named := ["pub-pemmican/pub/compress/s2.ErrCorrupt", "pub-pemmican/pub/compress/s2.ErrTooLarge", "encoding/binary.LittleEndian"], apart := false, laid := [("pub-pemmican/pub/compress/s2.ErrCorrupt", laid_pub_pemmican_pub_compress_s2_ErrCorrupt), ("pub-pemmican/pub/compress/s2.ErrTooLarge", laid_pub_pemmican_pub_compress_s2_ErrTooLarge)], narrowed := true }
def FnEmitRepeatUptoSaid : Prop := fnEmitRepeatUptoRow.holds Tryd.pinned (OpenSpec.upto fnEmitRepeatSpec)

/-- 'laws.FnLz4Any', WHERE WHAT IT READS IS OF BULK AT MOST 1048576: true; the input reads as it did. -/
def fnLz4AnyUptoRow : OpenClaim := { program := "ytcpceompoihboaadoor", sum := "7c1c25956d884c7759c65dcbdb8e80d4dd4fd3363a8a6407706728f58977865d", func := "pub-pemmican/laws.FnLz4Any", spec := "fnLz4Any", unfollowed := true, recurses := true, named := ["pub-pemmican/pub/compress/s2.ErrCorrupt", "pub-pemmican/pub/compress/s2.ErrDstTooSmall", "encoding/binary.LittleEndian", "pub-pemmican/pub/compress/s2.ErrTooLarge"], apart := false, laid := [("pub-pemmican/pub/compress/s2.ErrCorrupt", laid_pub_pemmican_pub_compress_s2_ErrCorrupt), ("pub-pemmican/pub/compress/s2.ErrTooLarge", laid_pub_pemmican_pub_compress_s2_ErrTooLarge), ("pub-pemmican/pub/compress/s2.ErrDstTooSmall", laid_pub_pemmican_pub_compress_s2_ErrDstTooSmall)], narrowed := true }
def FnLz4AnyUptoSaid : Prop := fnLz4AnyUptoRow.holds Tryd.pinned (OpenSpec.upto fnLz4AnySpec)

/-- 'laws.FnLz4Converts', WHERE WHAT IT READS IS OF BULK AT MOST 1048576: true; the input reads as it did. -/
def fnLz4ConvertsUptoRow : OpenClaim := { program := "ytcpceompoihboaadoor", sum := "7c1c25956d884c7759c65dcbdb8e80d4dd4fd3363a8a6407706728f58977865d", func := "pub-pemmican/laws.FnLz4Converts", spec := "fnLz4Converts", unfollowed := true, recurses := true, named := ["pub-pemmican/pub/compress/s2.ErrCorrupt", "pub-pemmican/pub/compress/s2.ErrDstTooSmall", "encoding/binary.LittleEndian", "pub-pemmican/pub/compress/s2.ErrTooLarge"], apart := false, laid := [("pub-pemmican/pub/compress/s2.ErrCorrupt", laid_pub_pemmican_pub_compress_s2_ErrCorrupt), ("pub-pemmican/pub/compress/s2.ErrTooLarge", laid_pub_pemmican_pub_compress_s2_ErrTooLarge), ("pub-pemmican/pub/compress/s2.ErrDstTooSmall", laid_pub_pemmican_pub_compress_s2_ErrDstTooSmall)], narrowed := true }
def FnLz4ConvertsUptoSaid : Prop := fnLz4ConvertsUptoRow.holds Tryd.pinned (OpenSpec.upto fnLz4ConvertsSpec)

end Rows
end Go.Proofs.YtcpceompoihboaaDoor
