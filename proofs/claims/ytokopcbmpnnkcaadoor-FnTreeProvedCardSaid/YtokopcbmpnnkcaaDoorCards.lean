/-
  DERIVED. GIVEN WITH THE SEED: THE CARDS: each row of YtokopcbmpnnkcaaDoorRows.lean that lists a variable, with what it lists TIED to the program's text (the seventh form; the later family's looks); each row that meets fmt, with fmt's text TOLD by the authors' own Lean function (tested against real Go, not proved from fmt's source: count such statements apart). THE CARD IS WHAT COUNTS. Prove the row's statement (the work); the ties are given (YtokopcbmpnnkcaaDoorTie.lean); close each card by the builder's one call (the guide's Derived/Test/ToyasCard.lean, 'card_holds'). Laid BY PROGRAM, IN A SANDBOX (cutbox-door.mjs). By AI agents, Wed Nov 11 2026. No macro, syntax, notation, axiom, sorry.
-/
import Derived.Test.YtokopcbmpnnkcaaDoorRows
import GoSem.ClaimSeven
namespace Go.Proofs.YtokopcbmpnnkcaaDoor
namespace Rows

/-- THE TIED CARD OF 'laws.FnRecordNone'. -/
def fnRecordNoneCard : Claim7 := { stood := { row := fnRecordNoneRow, standIns := [], harness := (true, "6af82d59042b3f3ce73363010183f5ea92a4d22751661b4429af0008d25e7cc6"), looks := false }, kinds := [], alts := [], laidByText := true, laidKinds := [.sentinel, .sentinel], laidTests := true, laidLooks := .later }
def FnRecordNoneCardSaid : Prop := Claim7.holds Tryd.pinned (.plain (OpenSpec.ofChange fnRecordNoneSpec)) fnRecordNoneCard

/-- THE TIED CARD OF 'laws.FnTreeNone'. -/
def fnTreeNoneCard : Claim7 := { stood := { row := fnTreeNoneRow, standIns := [], harness := (true, "6af82d59042b3f3ce73363010183f5ea92a4d22751661b4429af0008d25e7cc6"), looks := false }, kinds := [], alts := [], laidByText := true, laidKinds := [.sentinel, .sentinel], laidTests := true, laidLooks := .later }
def FnTreeNoneCardSaid : Prop := Claim7.holds Tryd.pinned (.plain (OpenSpec.ofChange fnTreeNoneSpec)) fnTreeNoneCard

/-- THE TIED CARD OF 'laws.FnTreeSelf'. -/
def fnTreeSelfCard : Claim7 := { stood := { row := fnTreeSelfRow, standIns := [], harness := (true, "6af82d59042b3f3ce73363010183f5ea92a4d22751661b4429af0008d25e7cc6"), looks := false }, kinds := [], alts := [], laidByText := true, laidKinds := [.sentinel, .sentinel], laidTests := true, laidLooks := .later }
def FnTreeSelfCardSaid : Prop := Claim7.holds Tryd.pinned (.plain (OpenSpec.ofChange fnTreeSelfSpec)) fnTreeSelfCard

/-- THE TIED CARD OF 'laws.FnRecordPath'. -/
def fnRecordPathCard : Claim7 := { stood := { row := fnRecordPathRow, standIns := [], harness := (true, "6af82d59042b3f3ce73363010183f5ea92a4d22751661b4429af0008d25e7cc6"), looks := false }, kinds := [], alts := [], laidByText := true, laidKinds := [.data, .data, .sentinel], laidTests := true, laidLooks := .later }
def FnRecordPathCardSaid : Prop := Claim7.holds Tryd.pinned (.plain (OpenSpec.ofChange fnRecordPathSpec)) fnRecordPathCard

/-- THE TIED CARD OF 'laws.FnTreePath'. -/
def fnTreePathCard : Claim7 := { stood := { row := fnTreePathRow, standIns := [], harness := (true, "6af82d59042b3f3ce73363010183f5ea92a4d22751661b4429af0008d25e7cc6"), looks := false }, kinds := [], alts := [], laidByText := true, laidKinds := [.data, .data, .sentinel], laidTests := true, laidLooks := .later }
def FnTreePathCardSaid : Prop := Claim7.holds Tryd.pinned (.plain (OpenSpec.ofChange fnTreePathSpec)) fnTreePathCard

/-- THE TIED CARD OF 'laws.FnRecordProved'. -/
def fnRecordProvedCard : Claim7 := { stood := { row := fnRecordProvedRow, standIns := [], harness := (true, "6af82d59042b3f3ce73363010183f5ea92a4d22751661b4429af0008d25e7cc6"), looks := false }, kinds := [], alts := [], laidByText := true, laidKinds := [.data, .data, .sentinel, .sentinel], laidTests := true, laidLooks := .later }
def FnRecordProvedCardSaid : Prop := Claim7.holds Tryd.pinned (.plain (OpenSpec.ofChange fnRecordProvedSpec)) fnRecordProvedCard

/-- THE TIED CARD OF 'laws.FnTreeProved'. -/
def fnTreeProvedCard : Claim7 := { stood := { row := fnTreeProvedRow, standIns := [], harness := (true, "6af82d59042b3f3ce73363010183f5ea92a4d22751661b4429af0008d25e7cc6"), looks := false }, kinds := [], alts := [], laidByText := true, laidKinds := [.data, .data, .sentinel, .sentinel], laidTests := true, laidLooks := .later }
def FnTreeProvedCardSaid : Prop := Claim7.holds Tryd.pinned (.plain (OpenSpec.ofChange fnTreeProvedSpec)) fnTreeProvedCard

/-- THE TIED CARD OF 'laws.FnTreeSteps'. -/
def fnTreeStepsCard : Claim7 := { stood := { row := fnTreeStepsRow, standIns := [], harness := (true, "6af82d59042b3f3ce73363010183f5ea92a4d22751661b4429af0008d25e7cc6"), looks := false }, kinds := [], alts := [], laidByText := true, laidKinds := [.data, .data, .sentinel, .sentinel], laidTests := true, laidLooks := .later }
def FnTreeStepsCardSaid : Prop := Claim7.holds Tryd.pinned (.plain (OpenSpec.ofChange fnTreeStepsSpec)) fnTreeStepsCard

/-- THE SECOND FORM's CARD OF 'laws.FnRecordNone'. -/
def fnRecordNoneUptoCard : Claim7 := { stood := { row := fnRecordNoneUptoRow, standIns := [], harness := (true, "6af82d59042b3f3ce73363010183f5ea92a4d22751661b4429af0008d25e7cc6"), looks := false }, kinds := [], alts := [], laidByText := true, laidKinds := [.sentinel, .sentinel], laidTests := true, laidLooks := .later }
def FnRecordNoneUptoCardSaid : Prop := Claim7.holds Tryd.pinned (.plain (OpenSpec.upto fnRecordNoneSpec)) fnRecordNoneUptoCard

/-- THE SECOND FORM's CARD OF 'laws.FnTreeNone'. -/
def fnTreeNoneUptoCard : Claim7 := { stood := { row := fnTreeNoneUptoRow, standIns := [], harness := (true, "6af82d59042b3f3ce73363010183f5ea92a4d22751661b4429af0008d25e7cc6"), looks := false }, kinds := [], alts := [], laidByText := true, laidKinds := [.sentinel, .sentinel], laidTests := true, laidLooks := .later }
def FnTreeNoneUptoCardSaid : Prop := Claim7.holds Tryd.pinned (.plain (OpenSpec.upto fnTreeNoneSpec)) fnTreeNoneUptoCard

/-- THE SECOND FORM's CARD OF 'laws.FnTreeSelf'. -/
def fnTreeSelfUptoCard : Claim7 := { stood := { row := fnTreeSelfUptoRow, standIns := [], harness := (true, "6af82d59042b3f3ce73363010183f5ea92a4d22751661b4429af0008d25e7cc6"), looks := false }, kinds := [], alts := [], laidByText := true, laidKinds := [.sentinel, .sentinel], laidTests := true, laidLooks := .later }
def FnTreeSelfUptoCardSaid : Prop := Claim7.holds Tryd.pinned (.plain (OpenSpec.upto fnTreeSelfSpec)) fnTreeSelfUptoCard

/-- THE SECOND FORM's CARD OF 'laws.FnRecordPath'. -/
def fnRecordPathUptoCard : Claim7 := { stood := { row := fnRecordPathUptoRow, standIns := [], harness := (true, "6af82d59042b3f3ce73363010183f5ea92a4d22751661b4429af0008d25e7cc6"), looks := false }, kinds := [], alts := [], laidByText := true, laidKinds := [.data, .data, .sentinel], laidTests := true, laidLooks := .later }
def FnRecordPathUptoCardSaid : Prop := Claim7.holds Tryd.pinned (.plain (OpenSpec.upto fnRecordPathSpec)) fnRecordPathUptoCard

/-- THE SECOND FORM's CARD OF 'laws.FnTreePath'. -/
def fnTreePathUptoCard : Claim7 := { stood := { row := fnTreePathUptoRow, standIns := [], harness := (true, "6af82d59042b3f3ce73363010183f5ea92a4d22751661b4429af0008d25e7cc6"), looks := false }, kinds := [], alts := [], laidByText := true, laidKinds := [.data, .data, .sentinel], laidTests := true, laidLooks := .later }
def FnTreePathUptoCardSaid : Prop := Claim7.holds Tryd.pinned (.plain (OpenSpec.upto fnTreePathSpec)) fnTreePathUptoCard

/-- THE SECOND FORM's CARD OF 'laws.FnRecordProved'. -/
def fnRecordProvedUptoCard : Claim7 := { stood := { row := fnRecordProvedUptoRow, standIns := [], harness := (true, "6af82d59042b3f3ce73363010183f5ea92a4d22751661b4429af0008d25e7cc6"), looks := false }, kinds := [], alts := [], laidByText := true, laidKinds := [.data, .data, .sentinel, .sentinel], laidTests := true, laidLooks := .later }
def FnRecordProvedUptoCardSaid : Prop := Claim7.holds Tryd.pinned (.plain (OpenSpec.upto fnRecordProvedSpec)) fnRecordProvedUptoCard

/-- THE SECOND FORM's CARD OF 'laws.FnTreeProved'. -/
def fnTreeProvedUptoCard : Claim7 := { stood := { row := fnTreeProvedUptoRow, standIns := [], harness := (true, "6af82d59042b3f3ce73363010183f5ea92a4d22751661b4429af0008d25e7cc6"), looks := false }, kinds := [], alts := [], laidByText := true, laidKinds := [.data, .data, .sentinel, .sentinel], laidTests := true, laidLooks := .later }
def FnTreeProvedUptoCardSaid : Prop := Claim7.holds Tryd.pinned (.plain (OpenSpec.upto fnTreeProvedSpec)) fnTreeProvedUptoCard

/-- THE SECOND FORM's CARD OF 'laws.FnTreeSteps'. -/
def fnTreeStepsUptoCard : Claim7 := { stood := { row := fnTreeStepsUptoRow, standIns := [], harness := (true, "6af82d59042b3f3ce73363010183f5ea92a4d22751661b4429af0008d25e7cc6"), looks := false }, kinds := [], alts := [], laidByText := true, laidKinds := [.data, .data, .sentinel, .sentinel], laidTests := true, laidLooks := .later }
def FnTreeStepsUptoCardSaid : Prop := Claim7.holds Tryd.pinned (.plain (OpenSpec.upto fnTreeStepsSpec)) fnTreeStepsUptoCard
end Rows
end Go.Proofs.YtokopcbmpnnkcaaDoor
