/-
  DERIVED. GIVEN WITH THE SEED: THE CARDS: each row of YtlmcoaidngnomaaDoorRows.lean that lists a variable, with what it lists TIED to the program's text (the seventh form; the later family's looks); each row that meets fmt, with fmt's text TOLD by the authors' own Lean function (tested against real Go, not proved from fmt's source: count such statements apart). THE CARD IS WHAT COUNTS. Prove the row's statement (the work); the ties are given (YtlmcoaidngnomaaDoorTie.lean); close each card by the builder's one call (the guide's Derived/Test/ToyasCard.lean, 'card_holds'). Laid BY PROGRAM, IN A SANDBOX (cutbox-door.mjs). By AI agents, Wed Nov 11 2026. No macro, syntax, notation, axiom, sorry.
-/
import Derived.Test.YtlmcoaidngnomaaDoorRows
import GoSem.ClaimSeven
namespace Go.Proofs.YtlmcoaidngnomaaDoor
namespace Rows

/-- THE TIED CARD OF 'laws.FnRecordLong'. -/
def fnRecordLongCard : Claim7 := { stood := { row := fnRecordLongRow, standIns := [], harness := (true, "b38d04c9e06e42867f488c1d5c584522f347e9e2fe808c2a6915562f2f062dfe"), looks := false }, kinds := [], alts := [], laidByText := true, laidKinds := [.sentinel], laidTests := true, laidLooks := .later }
def FnRecordLongCardSaid : Prop := Claim7.holds Tryd.pinned (.plain (OpenSpec.ofChange fnRecordLongSpec)) fnRecordLongCard

/-- THE TIED CARD OF 'laws.FnRecordRoot'. -/
def fnRecordRootCard : Claim7 := { stood := { row := fnRecordRootRow, standIns := [], harness := (true, "b38d04c9e06e42867f488c1d5c584522f347e9e2fe808c2a6915562f2f062dfe"), looks := false }, kinds := [], alts := [], laidByText := true, laidKinds := [.sentinel], laidTests := true, laidLooks := .later }
def FnRecordRootCardSaid : Prop := Claim7.holds Tryd.pinned (.plain (OpenSpec.ofChange fnRecordRootSpec)) fnRecordRootCard

/-- THE TIED CARD OF 'laws.FnStoredMany'. -/
def fnStoredManyCard : Claim7 := { stood := { row := fnStoredManyRow, standIns := [], harness := (true, "b38d04c9e06e42867f488c1d5c584522f347e9e2fe808c2a6915562f2f062dfe"), looks := false }, kinds := [], alts := [], laidByText := true, laidKinds := [.data, .sentinel], laidTests := true, laidLooks := .later }
def FnStoredManyCardSaid : Prop := Claim7.holds Tryd.pinned (.plain (OpenSpec.ofChange fnStoredManySpec)) fnStoredManyCard

/-- THE TIED CARD OF 'laws.FnTreeEmpty'. -/
def fnTreeEmptyCard : Claim7 := { stood := { row := fnTreeEmptyRow, standIns := [], harness := (true, "b38d04c9e06e42867f488c1d5c584522f347e9e2fe808c2a6915562f2f062dfe"), looks := false }, kinds := [], alts := [], laidByText := true, laidKinds := [.data, .sentinel], laidTests := true, laidLooks := .later }
def FnTreeEmptyCardSaid : Prop := Claim7.holds Tryd.pinned (.plain (OpenSpec.ofChange fnTreeEmptySpec)) fnTreeEmptyCard

/-- THE TIED CARD OF 'laws.FnStoredIsFor'. -/
def fnStoredIsForCard : Claim7 := { stood := { row := fnStoredIsForRow, standIns := [], harness := (true, "b38d04c9e06e42867f488c1d5c584522f347e9e2fe808c2a6915562f2f062dfe"), looks := false }, kinds := [], alts := [], laidByText := true, laidKinds := [.data, .sentinel], laidTests := true, laidLooks := .later }
def FnStoredIsForCardSaid : Prop := Claim7.holds Tryd.pinned (.plain (OpenSpec.ofChange fnStoredIsForSpec)) fnStoredIsForCard

/-- THE TIED CARD OF 'laws.FnTreeStored'. -/
def fnTreeStoredCard : Claim7 := { stood := { row := fnTreeStoredRow, standIns := [], harness := (true, "b38d04c9e06e42867f488c1d5c584522f347e9e2fe808c2a6915562f2f062dfe"), looks := false }, kinds := [], alts := [], laidByText := true, laidKinds := [.data, .sentinel], laidTests := true, laidLooks := .later }
def FnTreeStoredCardSaid : Prop := Claim7.holds Tryd.pinned (.plain (OpenSpec.ofChange fnTreeStoredSpec)) fnTreeStoredCard

/-- THE TIED CARD OF 'laws.FnStoreBegins'. -/
def fnStoreBeginsCard : Claim7 := { stood := { row := fnStoreBeginsRow, standIns := [], harness := (true, "b38d04c9e06e42867f488c1d5c584522f347e9e2fe808c2a6915562f2f062dfe"), looks := false }, kinds := [], alts := [], laidByText := true, laidKinds := [.data, .sentinel], laidTests := true, laidLooks := .later }
def FnStoreBeginsCardSaid : Prop := Claim7.holds Tryd.pinned (.plain (OpenSpec.ofChange fnStoreBeginsSpec)) fnStoreBeginsCard

/-- THE TIED CARD OF 'laws.FnRecordShort'. -/
def fnRecordShortCard : Claim7 := { stood := { row := fnRecordShortRow, standIns := [], harness := (true, "b38d04c9e06e42867f488c1d5c584522f347e9e2fe808c2a6915562f2f062dfe"), looks := false }, kinds := [], alts := [], laidByText := true, laidKinds := [.sentinel], laidTests := true, laidLooks := .later }
def FnRecordShortCardSaid : Prop := Claim7.holds Tryd.pinned (.plain (OpenSpec.ofChange fnRecordShortSpec)) fnRecordShortCard

/-- THE TIED CARD OF 'laws.FnTreeShort'. -/
def fnTreeShortCard : Claim7 := { stood := { row := fnTreeShortRow, standIns := [], harness := (true, "b38d04c9e06e42867f488c1d5c584522f347e9e2fe808c2a6915562f2f062dfe"), looks := false }, kinds := [], alts := [], laidByText := true, laidKinds := [.sentinel], laidTests := true, laidLooks := .later }
def FnTreeShortCardSaid : Prop := Claim7.holds Tryd.pinned (.plain (OpenSpec.ofChange fnTreeShortSpec)) fnTreeShortCard

/-- THE TIED CARD OF 'laws.FnTreeParts'. -/
def fnTreePartsCard : Claim7 := { stood := { row := fnTreePartsRow, standIns := [], harness := (true, "b38d04c9e06e42867f488c1d5c584522f347e9e2fe808c2a6915562f2f062dfe"), looks := false }, kinds := [], alts := [], laidByText := true, laidKinds := [.data, .data, .sentinel], laidTests := true, laidLooks := .later }
def FnTreePartsCardSaid : Prop := Claim7.holds Tryd.pinned (.plain (OpenSpec.ofChange fnTreePartsSpec)) fnTreePartsCard

/-- THE SECOND FORM's CARD OF 'laws.FnRecordLong'. -/
def fnRecordLongUptoCard : Claim7 := { stood := { row := fnRecordLongUptoRow, standIns := [], harness := (true, "b38d04c9e06e42867f488c1d5c584522f347e9e2fe808c2a6915562f2f062dfe"), looks := false }, kinds := [], alts := [], laidByText := true, laidKinds := [.sentinel], laidTests := true, laidLooks := .later }
def FnRecordLongUptoCardSaid : Prop := Claim7.holds Tryd.pinned (.plain (OpenSpec.upto fnRecordLongSpec)) fnRecordLongUptoCard

/-- THE SECOND FORM's CARD OF 'laws.FnRecordRoot'. -/
def fnRecordRootUptoCard : Claim7 := { stood := { row := fnRecordRootUptoRow, standIns := [], harness := (true, "b38d04c9e06e42867f488c1d5c584522f347e9e2fe808c2a6915562f2f062dfe"), looks := false }, kinds := [], alts := [], laidByText := true, laidKinds := [.sentinel], laidTests := true, laidLooks := .later }
def FnRecordRootUptoCardSaid : Prop := Claim7.holds Tryd.pinned (.plain (OpenSpec.upto fnRecordRootSpec)) fnRecordRootUptoCard

/-- THE SECOND FORM's CARD OF 'laws.FnStoredMany'. -/
def fnStoredManyUptoCard : Claim7 := { stood := { row := fnStoredManyUptoRow, standIns := [], harness := (true, "b38d04c9e06e42867f488c1d5c584522f347e9e2fe808c2a6915562f2f062dfe"), looks := false }, kinds := [], alts := [], laidByText := true, laidKinds := [.data, .sentinel], laidTests := true, laidLooks := .later }
def FnStoredManyUptoCardSaid : Prop := Claim7.holds Tryd.pinned (.plain (OpenSpec.upto fnStoredManySpec)) fnStoredManyUptoCard

/-- THE SECOND FORM's CARD OF 'laws.FnTreeEmpty'. -/
def fnTreeEmptyUptoCard : Claim7 := { stood := { row := fnTreeEmptyUptoRow, standIns := [], harness := (true, "b38d04c9e06e42867f488c1d5c584522f347e9e2fe808c2a6915562f2f062dfe"), looks := false }, kinds := [], alts := [], laidByText := true, laidKinds := [.data, .sentinel], laidTests := true, laidLooks := .later }
def FnTreeEmptyUptoCardSaid : Prop := Claim7.holds Tryd.pinned (.plain (OpenSpec.upto fnTreeEmptySpec)) fnTreeEmptyUptoCard

/-- THE SECOND FORM's CARD OF 'laws.FnStoredIsFor'. -/
def fnStoredIsForUptoCard : Claim7 := { stood := { row := fnStoredIsForUptoRow, standIns := [], harness := (true, "b38d04c9e06e42867f488c1d5c584522f347e9e2fe808c2a6915562f2f062dfe"), looks := false }, kinds := [], alts := [], laidByText := true, laidKinds := [.data, .sentinel], laidTests := true, laidLooks := .later }
def FnStoredIsForUptoCardSaid : Prop := Claim7.holds Tryd.pinned (.plain (OpenSpec.upto fnStoredIsForSpec)) fnStoredIsForUptoCard

/-- THE SECOND FORM's CARD OF 'laws.FnTreeStored'. -/
def fnTreeStoredUptoCard : Claim7 := { stood := { row := fnTreeStoredUptoRow, standIns := [], harness := (true, "b38d04c9e06e42867f488c1d5c584522f347e9e2fe808c2a6915562f2f062dfe"), looks := false }, kinds := [], alts := [], laidByText := true, laidKinds := [.data, .sentinel], laidTests := true, laidLooks := .later }
def FnTreeStoredUptoCardSaid : Prop := Claim7.holds Tryd.pinned (.plain (OpenSpec.upto fnTreeStoredSpec)) fnTreeStoredUptoCard

/-- THE SECOND FORM's CARD OF 'laws.FnStoreBegins'. -/
def fnStoreBeginsUptoCard : Claim7 := { stood := { row := fnStoreBeginsUptoRow, standIns := [], harness := (true, "b38d04c9e06e42867f488c1d5c584522f347e9e2fe808c2a6915562f2f062dfe"), looks := false }, kinds := [], alts := [], laidByText := true, laidKinds := [.data, .sentinel], laidTests := true, laidLooks := .later }
def FnStoreBeginsUptoCardSaid : Prop := Claim7.holds Tryd.pinned (.plain (OpenSpec.upto fnStoreBeginsSpec)) fnStoreBeginsUptoCard

/-- THE SECOND FORM's CARD OF 'laws.FnRecordShort'. -/
def fnRecordShortUptoCard : Claim7 := { stood := { row := fnRecordShortUptoRow, standIns := [], harness := (true, "b38d04c9e06e42867f488c1d5c584522f347e9e2fe808c2a6915562f2f062dfe"), looks := false }, kinds := [], alts := [], laidByText := true, laidKinds := [.sentinel], laidTests := true, laidLooks := .later }
def FnRecordShortUptoCardSaid : Prop := Claim7.holds Tryd.pinned (.plain (OpenSpec.upto fnRecordShortSpec)) fnRecordShortUptoCard

/-- THE SECOND FORM's CARD OF 'laws.FnTreeShort'. -/
def fnTreeShortUptoCard : Claim7 := { stood := { row := fnTreeShortUptoRow, standIns := [], harness := (true, "b38d04c9e06e42867f488c1d5c584522f347e9e2fe808c2a6915562f2f062dfe"), looks := false }, kinds := [], alts := [], laidByText := true, laidKinds := [.sentinel], laidTests := true, laidLooks := .later }
def FnTreeShortUptoCardSaid : Prop := Claim7.holds Tryd.pinned (.plain (OpenSpec.upto fnTreeShortSpec)) fnTreeShortUptoCard

/-- THE SECOND FORM's CARD OF 'laws.FnTreeParts'. -/
def fnTreePartsUptoCard : Claim7 := { stood := { row := fnTreePartsUptoRow, standIns := [], harness := (true, "b38d04c9e06e42867f488c1d5c584522f347e9e2fe808c2a6915562f2f062dfe"), looks := false }, kinds := [], alts := [], laidByText := true, laidKinds := [.data, .data, .sentinel], laidTests := true, laidLooks := .later }
def FnTreePartsUptoCardSaid : Prop := Claim7.holds Tryd.pinned (.plain (OpenSpec.upto fnTreePartsSpec)) fnTreePartsUptoCard
end Rows
end Go.Proofs.YtlmcoaidngnomaaDoor
