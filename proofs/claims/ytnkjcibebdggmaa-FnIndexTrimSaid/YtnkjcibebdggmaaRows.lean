/-
  No cell of these rows narrows 'for every input' (looked for: loops, veiled, ifaces, maps, wideKeys, modest, calm, conditions, laid).
  DERIVED. THE GIVEN ROWS OF THIS SEAT. 3 by the template 'for every input the law returns true; each argument reads behind the call as it read before'; 0 by the template 'total and deterministic' (their statements: YtnkjcibebdggmaaTotals.lean).
  GIVEN WITH THE SEED: the statements are not yours to turn. If you find one false, say at which input.
  Laid BY PROGRAM, IN A SANDBOX (cutbox-rows.mjs): the forced cells as the released guide's own fill.sh prints them over the translation 0cfb545dc2b76d2a… (all of the seat's roots in one cut). By AI agents, Wed Nov 11 2026. No macro, syntax, notation, axiom, sorry.
-/
import Derived.Test.YtnkjcibebdggmaaChecked
import GoSem.Claim
import GoSem.ClaimJoined
import GoSem.ClaimMapViews
import Derived.JoinedTies
import Derived.KernelRfl
namespace Go.Proofs.Ytnkjcibebdggmaa
/- THE CELL 'sum', in the pinned program and in every row, IS THE sha256 OF THE DUMP (.gsa) THAT YtnkjcibebdggmaaProg.lean LOADS. Nothing in Lean hashes anything: it is a label: what it is worth is what the hold of that sum in a sandbox is worth. -/
noncomputable def Try.pinned : Pinned := { name := "ytnkjcibebdggmaa", sum := "0cfb545dc2b76d2ad81da9b4e34dc037fe1b12239b1f659c14775ad982627a07", checked := Try.checked }
namespace Rows
def none {H : Type} : Left H := { results := [], args := [] }

/-- 'laws.FnIndexWrap': WHATEVER THE INPUT: true; the input reads as it did. -/
def fnIndexWrapSpec : ChangeSpec := { name := "fnIndexWrap", fn := fun _ => fun
  | [d] => { results := [.lit (.bool true)], args := [d] }
  | _ => none }
def fnIndexWrapRow : OpenClaim := { program := "ytnkjcibebdggmaa", sum := "0cfb545dc2b76d2ad81da9b4e34dc037fe1b12239b1f659c14775ad982627a07", func := "pub-pemmican/laws.FnIndexWrap", spec := "fnIndexWrap", named := ["encoding/binary.LittleEndian"], apart := false }
def FnIndexWrapSaid : Prop := fnIndexWrapRow.holds Try.pinned (OpenSpec.ofChange fnIndexWrapSpec)

/-- ITS FALSE NEIGHBOUR: 'it returns false'. Refute it at one input. -/
def fnIndexWrapWrong : ChangeSpec := { name := "fnIndexWrap", fn := fun _ => fun
  | [d] => { results := [.lit (.bool false)], args := [d] }
  | _ => none }
def FnIndexWrapWrongFalsely : Prop := fnIndexWrapRow.holds Try.pinned (OpenSpec.ofChange fnIndexWrapWrong)

/-- 'laws.FnS2MaxLen': WHATEVER THE INPUT: true; the input reads as it did. -/
def fnS2MaxLenSpec : ChangeSpec := { name := "fnS2MaxLen", fn := fun _ => fun
  | [d1, d2] => { results := [.lit (.bool true)], args := [d1, d2] }
  | _ => none }
def fnS2MaxLenRow : OpenClaim := { program := "ytnkjcibebdggmaa", sum := "0cfb545dc2b76d2ad81da9b4e34dc037fe1b12239b1f659c14775ad982627a07", func := "pub-pemmican/laws.FnS2MaxLen", spec := "fnS2MaxLen", apart := false }
def FnS2MaxLenSaid : Prop := fnS2MaxLenRow.holds Try.pinned (OpenSpec.ofChange fnS2MaxLenSpec)

/-- ITS FALSE NEIGHBOUR: 'it returns false'. Refute it at one input. -/
def fnS2MaxLenWrong : ChangeSpec := { name := "fnS2MaxLen", fn := fun _ => fun
  | [d1, d2] => { results := [.lit (.bool false)], args := [d1, d2] }
  | _ => none }
def FnS2MaxLenWrongFalsely : Prop := fnS2MaxLenRow.holds Try.pinned (OpenSpec.ofChange fnS2MaxLenWrong)

/-- 'laws.FnIndexTrim': WHATEVER THE INPUT: true; the input reads as it did. -/
def fnIndexTrimSpec : ChangeSpec := { name := "fnIndexTrim", fn := fun _ => fun
  | [d] => { results := [.lit (.bool true)], args := [d] }
  | _ => none }
def fnIndexTrimRow : OpenClaim := { program := "ytnkjcibebdggmaa", sum := "0cfb545dc2b76d2ad81da9b4e34dc037fe1b12239b1f659c14775ad982627a07", func := "pub-pemmican/laws.FnIndexTrim", spec := "fnIndexTrim", named := ["encoding/binary.LittleEndian"], apart := false }
def FnIndexTrimSaid : Prop := fnIndexTrimRow.holds Try.pinned (OpenSpec.ofChange fnIndexTrimSpec)

/-- ITS FALSE NEIGHBOUR: 'it returns false'. Refute it at one input. -/
def fnIndexTrimWrong : ChangeSpec := { name := "fnIndexTrim", fn := fun _ => fun
  | [d] => { results := [.lit (.bool false)], args := [d] }
  | _ => none }
def FnIndexTrimWrongFalsely : Prop := fnIndexTrimRow.holds Try.pinned (OpenSpec.ofChange fnIndexTrimWrong)

/- THE SECOND FORM. 'bulk': how many values and letters a reading holds, each counted each time it is reached (what is shared counts as often as it is met; a slice's spare places count too). A statement '..UptoSaid' is the law's where the arguments, and the package variables that the reading takes, are together of bulk at most 1048576: NARROWER than '..Said'. Prove '..Said' where nothing that the law and all that it calls make is longer than what came in: it says more and counts as full. Else prove '..UptoSaid'. A law counts once. -/
mutual
def uptoBulk {H : Type} : DataW H → Nat
  | .lit (.string bytes) => bytes.length + 1
  | .lit _ => 1
  | .nil => 1
  | .ptr d => uptoBulk d + 1
  | .slice elems spare => uptoBulkAll elems + uptoBulkAll spare + 1
  | .agg parts => uptoBulkAll parts + 1
  | .iface _ d => uptoBulk d + 1
  | .map entries => uptoBulkEntries entries + 1
  | .held _ => 1
def uptoBulkAll {H : Type} : List (DataW H) → Nat
  | [] => 0
  | d :: r => uptoBulk d + uptoBulkAll r
def uptoBulkEntries {H : Type} : List (Lit × DataW H) → Nat
  | [] => 0
  | x :: r => uptoBulkEntry x + uptoBulkEntries r
def uptoBulkEntry {H : Type} : Lit × DataW H → Nat
  | (.string bytes, d) => bytes.length + uptoBulk d + 1
  | (_, d) => uptoBulk d + 1
 end
def uptoSmall : (H : Type) → List (DataW H) → Bool := fun _ ds => decide (uptoBulkAll ds ≤ 1048576)
def OpenSpec.upto (s : _root_.Go.ChangeSpec) : _root_.Go.OpenSpec := { _root_.Go.OpenSpec.ofChange s with cond := some uptoSmall }

/-- 'laws.FnIndexWrap', WHERE WHAT IT READS IS OF BULK AT MOST 1048576: true; the input reads as it did. -/
def fnIndexWrapUptoRow : OpenClaim := { program := "ytnkjcibebdggmaa", sum := "0cfb545dc2b76d2ad81da9b4e34dc037fe1b12239b1f659c14775ad982627a07", func := "pub-pemmican/laws.FnIndexWrap", spec := "fnIndexWrap", named := ["encoding/binary.LittleEndian"], apart := false, narrowed := true }
def FnIndexWrapUptoSaid : Prop := fnIndexWrapUptoRow.holds Try.pinned (OpenSpec.upto fnIndexWrapSpec)

/-- 'laws.FnS2MaxLen', WHERE WHAT IT READS IS OF BULK AT MOST 1048576: true; the input reads as it did. -/
def fnS2MaxLenUptoRow : OpenClaim := { program := "ytnkjcibebdggmaa", sum := "0cfb545dc2b76d2ad81da9b4e34dc037fe1b12239b1f659c14775ad982627a07", func := "pub-pemmican/laws.FnS2MaxLen", spec := "fnS2MaxLen", apart := false, narrowed := true }
def FnS2MaxLenUptoSaid : Prop := fnS2MaxLenUptoRow.holds Try.pinned (OpenSpec.upto fnS2MaxLenSpec)

/-- 'laws.FnIndexTrim', WHERE WHAT IT READS IS OF BULK AT MOST 1048576: true; the input reads as it did. -/
def fnIndexTrimUptoRow : OpenClaim := { program := "ytnkjcibebdggmaa", sum := "0cfb545dc2b76d2ad81da9b4e34dc037fe1b12239b1f659c14775ad982627a07", func := "pub-pemmican/laws.FnIndexTrim", spec := "fnIndexTrim", named := ["encoding/binary.LittleEndian"], apart := false, narrowed := true }
def FnIndexTrimUptoSaid : Prop := fnIndexTrimUptoRow.holds Try.pinned (OpenSpec.upto fnIndexTrimSpec)

end Rows
end Go.Proofs.Ytnkjcibebdggmaa
