/-
  DERIVED. GIVEN WITH THE SEED: THE CARDS: each row of YtklcoppfkfenfaaGreatDoorRows.lean that lists a variable, with what it lists TIED to the program's text (the seventh form; the later family's looks); each row that meets fmt, with fmt's text TOLD by the authors' own Lean function (tested against real Go, not proved from fmt's source: count such statements apart). THE CARD IS WHAT COUNTS. Prove the row's statement (the work); the ties are given (YtklcoppfkfenfaaGreatDoorTie.lean); close each card by the builder's one call (the guide's Derived/Test/ToyasCard.lean, 'card_holds'). Laid BY PROGRAM, IN A SANDBOX (cutbox-door.mjs). By AI agents, Wed Nov 11 2026. No macro, syntax, notation, axiom, sorry.
-/
import Derived.Test.YtklcoppfkfenfaaGreatDoorRows
import GoSem.ClaimSeven
namespace Go.Proofs.YtklcoppfkfenfaaGreatDoor
namespace Rows

/-- THE TIED CARD OF 'laws.FnPointers'. -/
def fnPointersCard : Claim7 := { stood := { row := fnPointersRow, standIns := [], harness := (true, "6cf71b5b9de0284f79d7229ad9916b34c71dfc44479f947574fa049e0fcaaeba"), looks := true }, kinds := [], alts := [], laidByText := true, laidKinds := [.data, .data, .data, .mapped, .mapped], laidTests := true, laidLooks := .later }
def FnPointersCardSaid : Prop := Claim7.holds Tryz.pinned (.plain (OpenSpec.ofChange fnPointersSpec)) fnPointersCard

/-- THE TIED CARD OF 'laws.FnRanges'. -/
def fnRangesCard : Claim7 := { stood := { row := fnRangesRow, standIns := [], harness := (true, "6cf71b5b9de0284f79d7229ad9916b34c71dfc44479f947574fa049e0fcaaeba"), looks := true }, kinds := [], alts := [], laidByText := true, laidKinds := [.data, .data, .data, .mapped, .mapped], laidTests := true, laidLooks := .later }
def FnRangesCardSaid : Prop := Claim7.holds Tryz.pinned (.plain (OpenSpec.ofChange fnRangesSpec)) fnRangesCard

/-- THE TIED CARD OF 'laws.FnRangesAlike'. -/
def fnRangesAlikeCard : Claim7 := { stood := { row := fnRangesAlikeRow, standIns := [], harness := (true, "6cf71b5b9de0284f79d7229ad9916b34c71dfc44479f947574fa049e0fcaaeba"), looks := true }, kinds := [], alts := [], laidByText := true, laidKinds := [.data, .data, .data, .mapped, .mapped], laidTests := true, laidLooks := .later }
def FnRangesAlikeCardSaid : Prop := Claim7.holds Tryz.pinned (.plain (OpenSpec.ofChange fnRangesAlikeSpec)) fnRangesAlikeCard

/-- THE TIED CARD OF 'laws.FnUnitOf'. -/
def fnUnitOfCard : Claim7 := { stood := { row := fnUnitOfRow, standIns := [], harness := (true, "6cf71b5b9de0284f79d7229ad9916b34c71dfc44479f947574fa049e0fcaaeba"), looks := true }, kinds := [], alts := [], laidByText := true, laidKinds := [.data, .data, .data, .mapped, .mapped, .sentinel], laidTests := true, laidLooks := .later }
def FnUnitOfCardSaid : Prop := Claim7.holds Tryz.pinned (.plain (OpenSpec.ofChange fnUnitOfSpec)) fnUnitOfCard

/-- THE SECOND FORM's CARD OF 'laws.FnPointers'. -/
def fnPointersUptoCard : Claim7 := { stood := { row := fnPointersUptoRow, standIns := [], harness := (true, "6cf71b5b9de0284f79d7229ad9916b34c71dfc44479f947574fa049e0fcaaeba"), looks := true }, kinds := [], alts := [], laidByText := true, laidKinds := [.data, .data, .data, .mapped, .mapped], laidTests := true, laidLooks := .later }
def FnPointersUptoCardSaid : Prop := Claim7.holds Tryz.pinned (.plain (OpenSpec.upto fnPointersSpec)) fnPointersUptoCard

/-- THE SECOND FORM's CARD OF 'laws.FnRanges'. -/
def fnRangesUptoCard : Claim7 := { stood := { row := fnRangesUptoRow, standIns := [], harness := (true, "6cf71b5b9de0284f79d7229ad9916b34c71dfc44479f947574fa049e0fcaaeba"), looks := true }, kinds := [], alts := [], laidByText := true, laidKinds := [.data, .data, .data, .mapped, .mapped], laidTests := true, laidLooks := .later }
def FnRangesUptoCardSaid : Prop := Claim7.holds Tryz.pinned (.plain (OpenSpec.upto fnRangesSpec)) fnRangesUptoCard

/-- THE SECOND FORM's CARD OF 'laws.FnRangesAlike'. -/
def fnRangesAlikeUptoCard : Claim7 := { stood := { row := fnRangesAlikeUptoRow, standIns := [], harness := (true, "6cf71b5b9de0284f79d7229ad9916b34c71dfc44479f947574fa049e0fcaaeba"), looks := true }, kinds := [], alts := [], laidByText := true, laidKinds := [.data, .data, .data, .mapped, .mapped], laidTests := true, laidLooks := .later }
def FnRangesAlikeUptoCardSaid : Prop := Claim7.holds Tryz.pinned (.plain (OpenSpec.upto fnRangesAlikeSpec)) fnRangesAlikeUptoCard

/-- THE SECOND FORM's CARD OF 'laws.FnUnitOf'. -/
def fnUnitOfUptoCard : Claim7 := { stood := { row := fnUnitOfUptoRow, standIns := [], harness := (true, "6cf71b5b9de0284f79d7229ad9916b34c71dfc44479f947574fa049e0fcaaeba"), looks := true }, kinds := [], alts := [], laidByText := true, laidKinds := [.data, .data, .data, .mapped, .mapped, .sentinel], laidTests := true, laidLooks := .later }
def FnUnitOfUptoCardSaid : Prop := Claim7.holds Tryz.pinned (.plain (OpenSpec.upto fnUnitOfSpec)) fnUnitOfUptoCard
end Rows
end Go.Proofs.YtklcoppfkfenfaaGreatDoor
