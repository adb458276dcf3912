/-
  DERIVED. GIVEN WITH THE SEED: THE CARDS: each row of YtnapeengjbjjoaaDoorRows.lean that lists a variable, with what it lists TIED to the program's text (the seventh form; the later family's looks); each row that meets fmt, with fmt's text TOLD by the authors' own Lean function (tested against real Go, not proved from fmt's source: count such statements apart). THE CARD IS WHAT COUNTS. Prove the row's statement (the work); the ties are given (YtnapeengjbjjoaaDoorTie.lean); close each card by the builder's one call (the guide's Derived/Test/ToyasCard.lean, 'card_holds'). Laid BY PROGRAM, IN A SANDBOX (cutbox-door.mjs). By AI agents, Wed Nov 11 2026. No macro, syntax, notation, axiom, sorry.
-/
import Derived.Test.YtnapeengjbjjoaaDoorRows
import GoSem.ClaimSeven
namespace Go.Proofs.YtnapeengjbjjoaaDoor
namespace Rows

/-- THE TIED CARD OF 'laws.FnIndexSplit'. -/
def fnIndexSplitCard : Claim7 := { stood := { row := fnIndexSplitRow, standIns := [], harness := (true, "d5fc65c7b5170786005f4959e1838535173485057e4b05b0926ae10a0ad2276b"), looks := false }, kinds := [], alts := [], laidByText := true, laidKinds := [.data], laidTests := true, laidLooks := .later }
def FnIndexSplitCardSaid : Prop := Claim7.holds Tryd.pinned (.plain (OpenSpec.ofChange fnIndexSplitSpec)) fnIndexSplitCard

/-- THE TIED CARD OF 'laws.FnIndexWhole'. -/
def fnIndexWholeCard : Claim7 := { stood := { row := fnIndexWholeRow, standIns := [], harness := (true, "d5fc65c7b5170786005f4959e1838535173485057e4b05b0926ae10a0ad2276b"), looks := false }, kinds := [], alts := [], laidByText := true, laidKinds := [.data], laidTests := true, laidLooks := .later }
def FnIndexWholeCardSaid : Prop := Claim7.holds Tryd.pinned (.plain (OpenSpec.ofChange fnIndexWholeSpec)) fnIndexWholeCard

/-- THE SECOND FORM's CARD OF 'laws.FnIndexSplit'. -/
def fnIndexSplitUptoCard : Claim7 := { stood := { row := fnIndexSplitUptoRow, standIns := [], harness := (true, "d5fc65c7b5170786005f4959e1838535173485057e4b05b0926ae10a0ad2276b"), looks := false }, kinds := [], alts := [], laidByText := true, laidKinds := [.data], laidTests := true, laidLooks := .later }
def FnIndexSplitUptoCardSaid : Prop := Claim7.holds Tryd.pinned (.plain (OpenSpec.upto fnIndexSplitSpec)) fnIndexSplitUptoCard

/-- THE SECOND FORM's CARD OF 'laws.FnIndexWhole'. -/
def fnIndexWholeUptoCard : Claim7 := { stood := { row := fnIndexWholeUptoRow, standIns := [], harness := (true, "d5fc65c7b5170786005f4959e1838535173485057e4b05b0926ae10a0ad2276b"), looks := false }, kinds := [], alts := [], laidByText := true, laidKinds := [.data], laidTests := true, laidLooks := .later }
def FnIndexWholeUptoCardSaid : Prop := Claim7.holds Tryd.pinned (.plain (OpenSpec.upto fnIndexWholeSpec)) fnIndexWholeUptoCard
end Rows
end Go.Proofs.YtnapeengjbjjoaaDoor
