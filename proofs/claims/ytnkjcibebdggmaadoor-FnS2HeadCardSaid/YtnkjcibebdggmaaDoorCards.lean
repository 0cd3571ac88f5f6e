/-
  DERIVED. GIVEN WITH THE SEED: THE CARDS: each row of YtnkjcibebdggmaaDoorRows.lean that lists a variable, with what it lists TIED to the program's text (the seventh form; the later family's looks); each row that meets fmt, with fmt's text TOLD by the authors' own Lean function (tested against real Go, not proved from fmt's source: count such statements apart). THE CARD IS WHAT COUNTS. Prove the row's statement (the work); the ties are given (YtnkjcibebdggmaaDoorTie.lean); close each card by the builder's one call (the guide's Derived/Test/ToyasCard.lean, 'card_holds'). Laid BY PROGRAM, IN A SANDBOX (cutbox-door.mjs). By AI agents, Wed Nov 11 2026. No macro, syntax, notation, axiom, sorry.
-/
import Derived.Test.YtnkjcibebdggmaaDoorRows
import GoSem.ClaimSeven
namespace Go.Proofs.YtnkjcibebdggmaaDoor
namespace Rows

/-- THE TIED CARD OF 'laws.FnS2Head'. -/
def fnS2HeadCard : Claim7 := { stood := { row := fnS2HeadRow, standIns := [], harness := (true, "3a238343be9e3a708ef1a9dc29b28678643dddb9e36d6850be9dd044689e30be"), looks := false }, kinds := [], alts := [], laidByText := true, laidKinds := [.sentinel, .sentinel], laidTests := true, laidLooks := .later }
def FnS2HeadCardSaid : Prop := Claim7.holds Tryd.pinned (.plain (OpenSpec.ofChange fnS2HeadSpec)) fnS2HeadCard

/-- THE SECOND FORM's CARD OF 'laws.FnS2Head'. -/
def fnS2HeadUptoCard : Claim7 := { stood := { row := fnS2HeadUptoRow, standIns := [], harness := (true, "3a238343be9e3a708ef1a9dc29b28678643dddb9e36d6850be9dd044689e30be"), looks := false }, kinds := [], alts := [], laidByText := true, laidKinds := [.sentinel, .sentinel], laidTests := true, laidLooks := .later }
def FnS2HeadUptoCardSaid : Prop := Claim7.holds Tryd.pinned (.plain (OpenSpec.upto fnS2HeadSpec)) fnS2HeadUptoCard
end Rows
end Go.Proofs.YtnkjcibebdggmaaDoor
