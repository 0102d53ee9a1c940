/-
  DERIVED. GIVEN WITH THE SEED: THE CARDS: each row of YtnkhfdnahnphdaaDoorRows.lean that lists a variable, with what it lists TIED to the program's text (the seventh form; the later family's looks); each row that meets fmt, with fmt's text TOLD by the authors' own Lean function (tested against real Go, not proved from fmt's source: count such statements apart). THE CARD IS WHAT COUNTS. Prove the row's statement (the work); the ties are given (YtnkhfdnahnphdaaDoorTie.lean); close each card by the builder's one call (the guide's Derived/Test/ToyasCard.lean, 'card_holds'). Laid BY PROGRAM, IN A SANDBOX (cutbox-door.mjs). By AI agents, Wed Nov 11 2026. No macro, syntax, notation, axiom, sorry.
-/
import Derived.Test.YtnkhfdnahnphdaaDoorRows
import GoSem.ClaimSeven
namespace Go.Proofs.YtnkhfdnahnphdaaDoor
namespace Rows

/-- THE TIED CARD OF 'laws.FnHandlePlaces'. -/
def fnHandlePlacesCard : Claim7 := { stood := { row := fnHandlePlacesRow, standIns := [], harness := (true, "33f1773deeb95d0d18b25d7a772efeecaf8475f0575dfe6ec116d68dcef7ede9"), looks := true }, kinds := [], alts := [], laidByText := true, laidKinds := [.sentinel, .sentinel, .sentinel, .sentinel, .sentinel, .sentinel, .sentinel, .sentinel, .sentinel, .sentinel, .sentinel], laidTests := true, laidLooks := .later }
def FnHandlePlacesCardSaid : Prop := Claim7.holds Tryd.pinned (.plain (OpenSpec.ofChange fnHandlePlacesSpec)) fnHandlePlacesCard

/-- THE TIED CARD OF 'laws.FnSeekByEnds'. -/
def fnSeekByEndsCard : Claim7 := { stood := { row := fnSeekByEndsRow, standIns := [], harness := (true, "33f1773deeb95d0d18b25d7a772efeecaf8475f0575dfe6ec116d68dcef7ede9"), looks := true }, kinds := [], alts := [], laidByText := true, laidKinds := [.sentinel, .sentinel, .sentinel, .sentinel, .sentinel, .sentinel, .sentinel, .sentinel, .sentinel, .sentinel, .sentinel], laidTests := true, laidLooks := .later }
def FnSeekByEndsCardSaid : Prop := Claim7.holds Tryd.pinned (.plain (OpenSpec.ofChange fnSeekByEndsSpec)) fnSeekByEndsCard

/-- THE TIED CARD OF 'laws.FnTruncateCuts'. -/
def fnTruncateCutsCard : Claim7 := { stood := { row := fnTruncateCutsRow, standIns := [], harness := (true, "33f1773deeb95d0d18b25d7a772efeecaf8475f0575dfe6ec116d68dcef7ede9"), looks := true }, kinds := [], alts := [], laidByText := true, laidKinds := [.sentinel, .sentinel, .sentinel, .sentinel, .sentinel, .sentinel, .sentinel, .sentinel, .sentinel, .sentinel, .sentinel], laidTests := true, laidLooks := .later }
def FnTruncateCutsCardSaid : Prop := Claim7.holds Tryd.pinned (.plain (OpenSpec.ofChange fnTruncateCutsSpec)) fnTruncateCutsCard

/-- THE TIED CARD OF 'laws.FnWritesApart'. -/
def fnWritesApartCard : Claim7 := { stood := { row := fnWritesApartRow, standIns := [], harness := (true, "33f1773deeb95d0d18b25d7a772efeecaf8475f0575dfe6ec116d68dcef7ede9"), looks := true }, kinds := [], alts := [], laidByText := true, laidKinds := [.sentinel, .sentinel, .sentinel, .sentinel, .sentinel, .sentinel, .sentinel, .sentinel, .sentinel, .sentinel, .sentinel], laidTests := true, laidLooks := .later }
def FnWritesApartCardSaid : Prop := Claim7.holds Tryd.pinned (.plain (OpenSpec.ofChange fnWritesApartSpec)) fnWritesApartCard

/-- THE TIED CARD OF 'laws.FnUnionReadOnly'. -/
def fnUnionReadOnlyCard : Claim7 := { stood := { row := fnUnionReadOnlyRow, standIns := [], harness := (true, "33f1773deeb95d0d18b25d7a772efeecaf8475f0575dfe6ec116d68dcef7ede9"), looks := true }, kinds := [], alts := [], laidByText := true, laidKinds := [.sentinel, .sentinel, .sentinel, .sentinel, .sentinel, .sentinel, .sentinel, .sentinel, .sentinel, .sentinel, .sentinel], laidTests := true, laidLooks := .later }
def FnUnionReadOnlyCardSaid : Prop := Claim7.holds Tryd.pinned (.plain (OpenSpec.ofChange fnUnionReadOnlySpec)) fnUnionReadOnlyCard

/-- THE TIED CARD OF 'laws.FnUnionReadsLayer'. -/
def fnUnionReadsLayerCard : Claim7 := { stood := { row := fnUnionReadsLayerRow, standIns := [], harness := (true, "33f1773deeb95d0d18b25d7a772efeecaf8475f0575dfe6ec116d68dcef7ede9"), looks := true }, kinds := [], alts := [], laidByText := true, laidKinds := [.sentinel, .sentinel, .sentinel, .sentinel, .sentinel, .sentinel, .sentinel, .sentinel, .sentinel, .sentinel, .sentinel], laidTests := true, laidLooks := .later }
def FnUnionReadsLayerCardSaid : Prop := Claim7.holds Tryd.pinned (.plain (OpenSpec.ofChange fnUnionReadsLayerSpec)) fnUnionReadsLayerCard

/-- THE SECOND FORM's CARD OF 'laws.FnHandlePlaces'. -/
def fnHandlePlacesUptoCard : Claim7 := { stood := { row := fnHandlePlacesUptoRow, standIns := [], harness := (true, "33f1773deeb95d0d18b25d7a772efeecaf8475f0575dfe6ec116d68dcef7ede9"), looks := true }, kinds := [], alts := [], laidByText := true, laidKinds := [.sentinel, .sentinel, .sentinel, .sentinel, .sentinel, .sentinel, .sentinel, .sentinel, .sentinel, .sentinel, .sentinel], laidTests := true, laidLooks := .later }
def FnHandlePlacesUptoCardSaid : Prop := Claim7.holds Tryd.pinned (.plain (OpenSpec.upto fnHandlePlacesSpec)) fnHandlePlacesUptoCard

/-- THE SECOND FORM's CARD OF 'laws.FnSeekByEnds'. -/
def fnSeekByEndsUptoCard : Claim7 := { stood := { row := fnSeekByEndsUptoRow, standIns := [], harness := (true, "33f1773deeb95d0d18b25d7a772efeecaf8475f0575dfe6ec116d68dcef7ede9"), looks := true }, kinds := [], alts := [], laidByText := true, laidKinds := [.sentinel, .sentinel, .sentinel, .sentinel, .sentinel, .sentinel, .sentinel, .sentinel, .sentinel, .sentinel, .sentinel], laidTests := true, laidLooks := .later }
def FnSeekByEndsUptoCardSaid : Prop := Claim7.holds Tryd.pinned (.plain (OpenSpec.upto fnSeekByEndsSpec)) fnSeekByEndsUptoCard

/-- THE SECOND FORM's CARD OF 'laws.FnTruncateCuts'. -/
def fnTruncateCutsUptoCard : Claim7 := { stood := { row := fnTruncateCutsUptoRow, standIns := [], harness := (true, "33f1773deeb95d0d18b25d7a772efeecaf8475f0575dfe6ec116d68dcef7ede9"), looks := true }, kinds := [], alts := [], laidByText := true, laidKinds := [.sentinel, .sentinel, .sentinel, .sentinel, .sentinel, .sentinel, .sentinel, .sentinel, .sentinel, .sentinel, .sentinel], laidTests := true, laidLooks := .later }
def FnTruncateCutsUptoCardSaid : Prop := Claim7.holds Tryd.pinned (.plain (OpenSpec.upto fnTruncateCutsSpec)) fnTruncateCutsUptoCard

/-- THE SECOND FORM's CARD OF 'laws.FnWritesApart'. -/
def fnWritesApartUptoCard : Claim7 := { stood := { row := fnWritesApartUptoRow, standIns := [], harness := (true, "33f1773deeb95d0d18b25d7a772efeecaf8475f0575dfe6ec116d68dcef7ede9"), looks := true }, kinds := [], alts := [], laidByText := true, laidKinds := [.sentinel, .sentinel, .sentinel, .sentinel, .sentinel, .sentinel, .sentinel, .sentinel, .sentinel, .sentinel, .sentinel], laidTests := true, laidLooks := .later }
def FnWritesApartUptoCardSaid : Prop := Claim7.holds Tryd.pinned (.plain (OpenSpec.upto fnWritesApartSpec)) fnWritesApartUptoCard

/-- THE SECOND FORM's CARD OF 'laws.FnUnionReadOnly'. -/
def fnUnionReadOnlyUptoCard : Claim7 := { stood := { row := fnUnionReadOnlyUptoRow, standIns := [], harness := (true, "33f1773deeb95d0d18b25d7a772efeecaf8475f0575dfe6ec116d68dcef7ede9"), looks := true }, kinds := [], alts := [], laidByText := true, laidKinds := [.sentinel, .sentinel, .sentinel, .sentinel, .sentinel, .sentinel, .sentinel, .sentinel, .sentinel, .sentinel, .sentinel], laidTests := true, laidLooks := .later }
def FnUnionReadOnlyUptoCardSaid : Prop := Claim7.holds Tryd.pinned (.plain (OpenSpec.upto fnUnionReadOnlySpec)) fnUnionReadOnlyUptoCard

/-- THE SECOND FORM's CARD OF 'laws.FnUnionReadsLayer'. -/
def fnUnionReadsLayerUptoCard : Claim7 := { stood := { row := fnUnionReadsLayerUptoRow, standIns := [], harness := (true, "33f1773deeb95d0d18b25d7a772efeecaf8475f0575dfe6ec116d68dcef7ede9"), looks := true }, kinds := [], alts := [], laidByText := true, laidKinds := [.sentinel, .sentinel, .sentinel, .sentinel, .sentinel, .sentinel, .sentinel, .sentinel, .sentinel, .sentinel, .sentinel], laidTests := true, laidLooks := .later }
def FnUnionReadsLayerUptoCardSaid : Prop := Claim7.holds Tryd.pinned (.plain (OpenSpec.upto fnUnionReadsLayerSpec)) fnUnionReadsLayerUptoCard
end Rows
end Go.Proofs.YtnkhfdnahnphdaaDoor
