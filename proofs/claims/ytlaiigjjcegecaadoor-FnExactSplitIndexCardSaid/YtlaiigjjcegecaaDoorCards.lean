/-
  DERIVED. GIVEN WITH THE SEED: THE CARDS: each row of YtlaiigjjcegecaaDoorRows.lean that lists a variable, with what it lists TIED to the program's text (the seventh form; the later family's looks); each row that meets fmt, with fmt's text TOLD by the authors' own Lean function (tested against real Go, not proved from fmt's source: count such statements apart). THE CARD IS WHAT COUNTS. Prove the row's statement (the work); the ties are given (YtlaiigjjcegecaaDoorTie.lean); close each card by the builder's one call (the guide's Derived/Test/ToyasCard.lean, 'card_holds'). Laid BY PROGRAM, IN A SANDBOX (cutbox-door.mjs). By AI agents, Wed Nov 11 2026. No macro, syntax, notation, axiom, sorry.
-/
import Derived.Test.YtlaiigjjcegecaaDoorRows
import GoSem.ClaimSeven
namespace Go.Proofs.YtlaiigjjcegecaaDoor
namespace Rows

/-- THE TIED CARD OF 'laws.FnExactSplitIndex'. -/
def fnExactSplitIndexCard : Claim7 := { stood := { row := fnExactSplitIndexRow, standIns := [], harness := (true, "02570ecd4538763db93069fe8b2071f6cebc14443ccd9b61a4261664fae0d4d0"), looks := false }, kinds := [], alts := [], laidByText := true, laidKinds := [.data], laidTests := true, laidLooks := .later }
def FnExactSplitIndexCardSaid : Prop := Claim7.holds Tryd.pinned (.plain (OpenSpec.ofChange fnExactSplitIndexSpec)) fnExactSplitIndexCard

/-- THE TIED CARD OF 'laws.FnIndexSplit'. -/
def fnIndexSplitCard : Claim7 := { stood := { row := fnIndexSplitRow, standIns := [], harness := (true, "02570ecd4538763db93069fe8b2071f6cebc14443ccd9b61a4261664fae0d4d0"), looks := false }, kinds := [], alts := [], laidByText := true, laidKinds := [.data], laidTests := true, laidLooks := .later }
def FnIndexSplitCardSaid : Prop := Claim7.holds Tryd.pinned (.plain (OpenSpec.ofChange fnIndexSplitSpec)) fnIndexSplitCard

/-- THE TIED CARD OF 'laws.FnIndexWhole'. -/
def fnIndexWholeCard : Claim7 := { stood := { row := fnIndexWholeRow, standIns := [], harness := (true, "02570ecd4538763db93069fe8b2071f6cebc14443ccd9b61a4261664fae0d4d0"), looks := false }, kinds := [], alts := [], laidByText := true, laidKinds := [.data], laidTests := true, laidLooks := .later }
def FnIndexWholeCardSaid : Prop := Claim7.holds Tryd.pinned (.plain (OpenSpec.ofChange fnIndexWholeSpec)) fnIndexWholeCard

/-- THE SECOND FORM's CARD OF 'laws.FnExactSplitIndex'. -/
def fnExactSplitIndexUptoCard : Claim7 := { stood := { row := fnExactSplitIndexUptoRow, standIns := [], harness := (true, "02570ecd4538763db93069fe8b2071f6cebc14443ccd9b61a4261664fae0d4d0"), looks := false }, kinds := [], alts := [], laidByText := true, laidKinds := [.data], laidTests := true, laidLooks := .later }
def FnExactSplitIndexUptoCardSaid : Prop := Claim7.holds Tryd.pinned (.plain (OpenSpec.upto fnExactSplitIndexSpec)) fnExactSplitIndexUptoCard

/-- THE SECOND FORM's CARD OF 'laws.FnIndexSplit'. -/
def fnIndexSplitUptoCard : Claim7 := { stood := { row := fnIndexSplitUptoRow, standIns := [], harness := (true, "02570ecd4538763db93069fe8b2071f6cebc14443ccd9b61a4261664fae0d4d0"), looks := false }, kinds := [], alts := [], laidByText := true, laidKinds := [.data], laidTests := true, laidLooks := .later }
def FnIndexSplitUptoCardSaid : Prop := Claim7.holds Tryd.pinned (.plain (OpenSpec.upto fnIndexSplitSpec)) fnIndexSplitUptoCard

/-- THE SECOND FORM's CARD OF 'laws.FnIndexWhole'. -/
def fnIndexWholeUptoCard : Claim7 := { stood := { row := fnIndexWholeUptoRow, standIns := [], harness := (true, "02570ecd4538763db93069fe8b2071f6cebc14443ccd9b61a4261664fae0d4d0"), looks := false }, kinds := [], alts := [], laidByText := true, laidKinds := [.data], laidTests := true, laidLooks := .later }
def FnIndexWholeUptoCardSaid : Prop := Claim7.holds Tryd.pinned (.plain (OpenSpec.upto fnIndexWholeSpec)) fnIndexWholeUptoCard
end Rows
end Go.Proofs.YtlaiigjjcegecaaDoor
