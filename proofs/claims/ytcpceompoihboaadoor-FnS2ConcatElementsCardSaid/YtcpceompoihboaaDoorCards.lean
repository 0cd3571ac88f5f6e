/-
  DERIVED. GIVEN WITH THE SEED: THE CARDS: each row of YtcpceompoihboaaDoorRows.lean that lists a variable, with what it lists TIED to the program's text (the seventh form; the later family's looks); each row that meets fmt, with fmt's text TOLD by the authors' own Lean function (tested against real Go, not proved from fmt's source: count such statements apart). THE CARD IS WHAT COUNTS. Prove the row's statement (the work); the ties are given (YtcpceompoihboaaDoorTie.lean); close each card by the builder's one call (the guide's Derived/Test/ToyasCard.lean, 'card_holds'). Laid BY PROGRAM, IN A SANDBOX (cutbox-door.mjs). By AI agents, Wed Nov 11 2026. No macro, syntax, notation, axiom, sorry.
-/
import Derived.Test.YtcpceompoihboaaDoorRows
import GoSem.ClaimSeven
namespace Go.Proofs.YtcpceompoihboaaDoor
namespace Rows

/-- THE TIED CARD OF 'laws.FnIndexFinds'. -/
def fnIndexFindsCard : Claim7 := { stood := { row := fnIndexFindsRow, standIns := [], harness := (true, "b38b9127397d8834fb18ddf3b54d876a99e6e2a6bbc83a58cd7168304ebd651a"), looks := false }, kinds := [], alts := [], laidByText := true, laidKinds := [.sentinel, .sentinel, .sentinel], laidTests := true, laidLooks := .later }
def FnIndexFindsCardSaid : Prop := Claim7.holds Tryd.pinned (.plain (OpenSpec.ofChange fnIndexFindsSpec)) fnIndexFindsCard

/-- THE TIED CARD OF 'laws.FnS2Elements'. -/
def fnS2ElementsCard : Claim7 := { stood := { row := fnS2ElementsRow, standIns := [], harness := (true, "b38b9127397d8834fb18ddf3b54d876a99e6e2a6bbc83a58cd7168304ebd651a"), looks := false }, kinds := [], alts := [], laidByText := true, laidKinds := [.sentinel, .sentinel], laidTests := true, laidLooks := .later }
def FnS2ElementsCardSaid : Prop := Claim7.holds Tryd.pinned (.plain (OpenSpec.ofChange fnS2ElementsSpec)) fnS2ElementsCard

/-- THE TIED CARD OF 'laws.FnEmitLiteral'. -/
def fnEmitLiteralCard : Claim7 := { stood := { row := fnEmitLiteralRow, standIns := [], harness := (true, "b38b9127397d8834fb18ddf3b54d876a99e6e2a6bbc83a58cd7168304ebd651a"), looks := false }, kinds := [], alts := [], laidByText := true, laidKinds := [.sentinel, .sentinel], laidTests := true, laidLooks := .later }
def FnEmitLiteralCardSaid : Prop := Claim7.holds Tryd.pinned (.plain (OpenSpec.ofChange fnEmitLiteralSpec)) fnEmitLiteralCard

/-- THE TIED CARD OF 'laws.FnS2ConcatElements'. -/
def fnS2ConcatElementsCard : Claim7 := { stood := { row := fnS2ConcatElementsRow, standIns := [], harness := (true, "b38b9127397d8834fb18ddf3b54d876a99e6e2a6bbc83a58cd7168304ebd651a"), looks := false }, kinds := [], alts := [], laidByText := true, laidKinds := [.sentinel, .sentinel], laidTests := true, laidLooks := .later }
def FnS2ConcatElementsCardSaid : Prop := Claim7.holds Tryd.pinned (.plain (OpenSpec.ofChange fnS2ConcatElementsSpec)) fnS2ConcatElementsCard

/-- THE TIED CARD OF 'laws.FnEmitRepeat'. -/
def fnEmitRepeatCard : Claim7 := { stood := { row := fnEmitRepeatRow, standIns := [], harness := (true, "b38b9127397d8834fb18ddf3b54d876a99e6e2a6bbc83a58cd7168304ebd651a"), looks := false }, kinds := [], alts := [], laidByText := true, laidKinds := [.sentinel, .sentinel], laidTests := true, laidLooks := .later }
def FnEmitRepeatCardSaid : Prop := Claim7.holds Tryd.pinned (.plain (OpenSpec.ofChange fnEmitRepeatSpec)) fnEmitRepeatCard

/-- THE TIED CARD OF 'laws.FnLz4Any'. -/
def fnLz4AnyCard : Claim7 := { stood := { row := fnLz4AnyRow, standIns := [], harness := (true, "b38b9127397d8834fb18ddf3b54d876a99e6e2a6bbc83a58cd7168304ebd651a"), looks := false }, kinds := [], alts := [], laidByText := true, laidKinds := [.sentinel, .sentinel, .sentinel], laidTests := true, laidLooks := .later }
def FnLz4AnyCardSaid : Prop := Claim7.holds Tryd.pinned (.plain (OpenSpec.ofChange fnLz4AnySpec)) fnLz4AnyCard

/-- THE TIED CARD OF 'laws.FnLz4Converts'. -/
def fnLz4ConvertsCard : Claim7 := { stood := { row := fnLz4ConvertsRow, standIns := [], harness := (true, "b38b9127397d8834fb18ddf3b54d876a99e6e2a6bbc83a58cd7168304ebd651a"), looks := false }, kinds := [], alts := [], laidByText := true, laidKinds := [.sentinel, .sentinel, .sentinel], laidTests := true, laidLooks := .later }
def FnLz4ConvertsCardSaid : Prop := Claim7.holds Tryd.pinned (.plain (OpenSpec.ofChange fnLz4ConvertsSpec)) fnLz4ConvertsCard

/-- THE SECOND FORM's CARD OF 'laws.FnIndexFinds'. -/
def fnIndexFindsUptoCard : Claim7 := { stood := { row := fnIndexFindsUptoRow, standIns := [], harness := (true, "b38b9127397d8834fb18ddf3b54d876a99e6e2a6bbc83a58cd7168304ebd651a"), looks := false }, kinds := [], alts := [], laidByText := true, laidKinds := [.sentinel, .sentinel, .sentinel], laidTests := true, laidLooks := .later }
def FnIndexFindsUptoCardSaid : Prop := Claim7.holds Tryd.pinned (.plain (OpenSpec.upto fnIndexFindsSpec)) fnIndexFindsUptoCard

/-- THE SECOND FORM's CARD OF 'laws.FnS2Elements'. -/
def fnS2ElementsUptoCard : Claim7 := { stood := { row := fnS2ElementsUptoRow, standIns := [], harness := (true, "b38b9127397d8834fb18ddf3b54d876a99e6e2a6bbc83a58cd7168304ebd651a"), looks := false }, kinds := [], alts := [], laidByText := true, laidKinds := [.sentinel, .sentinel], laidTests := true, laidLooks := .later }
def FnS2ElementsUptoCardSaid : Prop := Claim7.holds Tryd.pinned (.plain (OpenSpec.upto fnS2ElementsSpec)) fnS2ElementsUptoCard

/-- THE SECOND FORM's CARD OF 'laws.FnEmitLiteral'. -/
def fnEmitLiteralUptoCard : Claim7 := { stood := { row := fnEmitLiteralUptoRow, standIns := [], harness := (true, "b38b9127397d8834fb18ddf3b54d876a99e6e2a6bbc83a58cd7168304ebd651a"), looks := false }, kinds := [], alts := [], laidByText := true, laidKinds := [.sentinel, .sentinel], laidTests := true, laidLooks := .later }
def FnEmitLiteralUptoCardSaid : Prop := Claim7.holds Tryd.pinned (.plain (OpenSpec.upto fnEmitLiteralSpec)) fnEmitLiteralUptoCard

/-- THE SECOND FORM's CARD OF 'laws.FnS2ConcatElements'. -/
def fnS2ConcatElementsUptoCard : Claim7 := { stood := { row := fnS2ConcatElementsUptoRow, standIns := [], harness := (true, "b38b9127397d8834fb18ddf3b54d876a99e6e2a6bbc83a58cd7168304ebd651a"), looks := false }, kinds := [], alts := [], laidByText := true, laidKinds := [.sentinel, .sentinel], laidTests := true, laidLooks := .later }
def FnS2ConcatElementsUptoCardSaid : Prop := Claim7.holds Tryd.pinned (.plain (OpenSpec.upto fnS2ConcatElementsSpec)) fnS2ConcatElementsUptoCard

/-- THE SECOND FORM's CARD OF 'laws.FnEmitRepeat'. -/
def fnEmitRepeatUptoCard : Claim7 := { stood := { row := fnEmitRepeatUptoRow, standIns := [], harness := (true, "b38b9127397d8834fb18ddf3b54d876a99e6e2a6bbc83a58cd7168304ebd651a"), looks := false }, kinds := [], alts := [], laidByText := true, laidKinds := [.sentinel, .sentinel], laidTests := true, laidLooks := .later }
def FnEmitRepeatUptoCardSaid : Prop := Claim7.holds Tryd.pinned (.plain (OpenSpec.upto fnEmitRepeatSpec)) fnEmitRepeatUptoCard

/-- THE SECOND FORM's CARD OF 'laws.FnLz4Any'. -/
def fnLz4AnyUptoCard : Claim7 := { stood := { row := fnLz4AnyUptoRow, standIns := [], harness := (true, "b38b9127397d8834fb18ddf3b54d876a99e6e2a6bbc83a58cd7168304ebd651a"), looks := false }, kinds := [], alts := [], laidByText := true, laidKinds := [.sentinel, .sentinel, .sentinel], laidTests := true, laidLooks := .later }
def FnLz4AnyUptoCardSaid : Prop := Claim7.holds Tryd.pinned (.plain (OpenSpec.upto fnLz4AnySpec)) fnLz4AnyUptoCard

/-- THE SECOND FORM's CARD OF 'laws.FnLz4Converts'. -/
def fnLz4ConvertsUptoCard : Claim7 := { stood := { row := fnLz4ConvertsUptoRow, standIns := [], harness := (true, "b38b9127397d8834fb18ddf3b54d876a99e6e2a6bbc83a58cd7168304ebd651a"), looks := false }, kinds := [], alts := [], laidByText := true, laidKinds := [.sentinel, .sentinel, .sentinel], laidTests := true, laidLooks := .later }
def FnLz4ConvertsUptoCardSaid : Prop := Claim7.holds Tryd.pinned (.plain (OpenSpec.upto fnLz4ConvertsSpec)) fnLz4ConvertsUptoCard
end Rows
end Go.Proofs.YtcpceompoihboaaDoor
