/-
  No cell of these rows narrows 'for every input' (looked for: loops, veiled, ifaces, maps, wideKeys, modest, calm, conditions, laid).
  DERIVED. THE GIVEN ROWS OF THIS SEAT. 8 by the template 'for every input the law returns true; each argument reads behind the call as it read before'; 0 by the template 'total and deterministic' (their statements: YtlaiigjjcegecaaTotals.lean).
  GIVEN WITH THE SEED: the statements are not yours to turn. If you find one false, say at which input.
  Laid BY PROGRAM, IN A SANDBOX (cutbox-rows.mjs): the forced cells as the released guide's own fill.sh prints them over the translation a9c89dbf36e15770… (all of the seat's roots in one cut). By AI agents, Wed Nov 11 2026. No macro, syntax, notation, axiom, sorry.
-/
import Derived.Test.YtlaiigjjcegecaaChecked
import GoSem.Claim
import GoSem.ClaimJoined
import GoSem.ClaimMapViews
import Derived.JoinedTies
import Derived.KernelRfl
namespace Go.Proofs.Ytlaiigjjcegecaa
/- THE CELL 'sum', in the pinned program and in every row, IS THE sha256 OF THE DUMP (.gsa) THAT YtlaiigjjcegecaaProg.lean LOADS. Nothing in Lean hashes anything: it is a label: what it is worth is what the hold of that sum in a sandbox is worth. -/
noncomputable def Try.pinned : Pinned := { name := "ytlaiigjjcegecaa", sum := "a9c89dbf36e157704ceff305ed46b7f8d876145f009434df2cb112d7c0a3f57a", checked := Try.checked }
namespace Rows
def none {H : Type} : Left H := { results := [], args := [] }

/-- 'laws.FnExactStoredIndex': WHATEVER THE INPUT: true; the input reads as it did. -/
def fnExactStoredIndexSpec : ChangeSpec := { name := "fnExactStoredIndex", fn := fun _ => fun
  | [d1, d2] => { results := [.lit (.bool true)], args := [d1, d2] }
  | _ => none }
def fnExactStoredIndexRow : OpenClaim := { program := "ytlaiigjjcegecaa", sum := "a9c89dbf36e157704ceff305ed46b7f8d876145f009434df2cb112d7c0a3f57a", func := "loop.example/pub-g01440/laws.FnExactStoredIndex", spec := "fnExactStoredIndex", apart := false }
def FnExactStoredIndexSaid : Prop := fnExactStoredIndexRow.holds Try.pinned (OpenSpec.ofChange fnExactStoredIndexSpec)

/-- ITS FALSE NEIGHBOUR: 'it returns false'. Refute it at one input. -/
def fnExactStoredIndexWrong : ChangeSpec := { name := "fnExactStoredIndex", fn := fun _ => fun
  | [d1, d2] => { results := [.lit (.bool false)], args := [d1, d2] }
  | _ => none }
def FnExactStoredIndexWrongFalsely : Prop := fnExactStoredIndexRow.holds Try.pinned (OpenSpec.ofChange fnExactStoredIndexWrong)

/-- 'laws.FnCountGrows': WHATEVER THE INPUT: true; the input reads as it did. -/
def fnCountGrowsSpec : ChangeSpec := { name := "fnCountGrows", fn := fun _ => fun
  | [d] => { results := [.lit (.bool true)], args := [d] }
  | _ => none }
def fnCountGrowsRow : OpenClaim := { program := "ytlaiigjjcegecaa", sum := "a9c89dbf36e157704ceff305ed46b7f8d876145f009434df2cb112d7c0a3f57a", func := "loop.example/pub-g01440/laws.FnCountGrows", spec := "fnCountGrows", apart := false }
def FnCountGrowsSaid : Prop := fnCountGrowsRow.holds Try.pinned (OpenSpec.ofChange fnCountGrowsSpec)

/-- ITS FALSE NEIGHBOUR: 'it returns false'. Refute it at one input. -/
def fnCountGrowsWrong : ChangeSpec := { name := "fnCountGrows", fn := fun _ => fun
  | [d] => { results := [.lit (.bool false)], args := [d] }
  | _ => none }
def FnCountGrowsWrongFalsely : Prop := fnCountGrowsRow.holds Try.pinned (OpenSpec.ofChange fnCountGrowsWrong)

/-- 'laws.FnExactStoredCount': WHATEVER THE INPUT: true; the input reads as it did. -/
def fnExactStoredCountSpec : ChangeSpec := { name := "fnExactStoredCount", fn := fun _ => fun
  | [d] => { results := [.lit (.bool true)], args := [d] }
  | _ => none }
def fnExactStoredCountRow : OpenClaim := { program := "ytlaiigjjcegecaa", sum := "a9c89dbf36e157704ceff305ed46b7f8d876145f009434df2cb112d7c0a3f57a", func := "loop.example/pub-g01440/laws.FnExactStoredCount", spec := "fnExactStoredCount", apart := false }
def FnExactStoredCountSaid : Prop := fnExactStoredCountRow.holds Try.pinned (OpenSpec.ofChange fnExactStoredCountSpec)

/-- ITS FALSE NEIGHBOUR: 'it returns false'. Refute it at one input. -/
def fnExactStoredCountWrong : ChangeSpec := { name := "fnExactStoredCount", fn := fun _ => fun
  | [d] => { results := [.lit (.bool false)], args := [d] }
  | _ => none }
def FnExactStoredCountWrongFalsely : Prop := fnExactStoredCountRow.holds Try.pinned (OpenSpec.ofChange fnExactStoredCountWrong)

/-- 'laws.FnExactRecordHash': WHATEVER THE INPUT: true; the input reads as it did. -/
def fnExactRecordHashSpec : ChangeSpec := { name := "fnExactRecordHash", fn := fun _ => fun
  | [d] => { results := [.lit (.bool true)], args := [d] }
  | _ => none }
def fnExactRecordHashRow : OpenClaim := { program := "ytlaiigjjcegecaa", sum := "a9c89dbf36e157704ceff305ed46b7f8d876145f009434df2cb112d7c0a3f57a", func := "loop.example/pub-g01440/laws.FnExactRecordHash", spec := "fnExactRecordHash", unfollowed := true, recurses := true, apart := false }
def FnExactRecordHashSaid : Prop := fnExactRecordHashRow.holds Try.pinned (OpenSpec.ofChange fnExactRecordHashSpec)

/-- ITS FALSE NEIGHBOUR: 'it returns false'. Refute it at one input. -/
def fnExactRecordHashWrong : ChangeSpec := { name := "fnExactRecordHash", fn := fun _ => fun
  | [d] => { results := [.lit (.bool false)], args := [d] }
  | _ => none }
def FnExactRecordHashWrongFalsely : Prop := fnExactRecordHashRow.holds Try.pinned (OpenSpec.ofChange fnExactRecordHashWrong)

/-- 'laws.FnExactNodeHash': WHATEVER THE INPUT: true; the input reads as it did. -/
def fnExactNodeHashSpec : ChangeSpec := { name := "fnExactNodeHash", fn := fun _ => fun
  | [d1, d2] => { results := [.lit (.bool true)], args := [d1, d2] }
  | _ => none }
def fnExactNodeHashRow : OpenClaim := { program := "ytlaiigjjcegecaa", sum := "a9c89dbf36e157704ceff305ed46b7f8d876145f009434df2cb112d7c0a3f57a", func := "loop.example/pub-g01440/laws.FnExactNodeHash", spec := "fnExactNodeHash", unfollowed := true, recurses := true, apart := false }
def FnExactNodeHashSaid : Prop := fnExactNodeHashRow.holds Try.pinned (OpenSpec.ofChange fnExactNodeHashSpec)

/-- ITS FALSE NEIGHBOUR: 'it returns false'. Refute it at one input. -/
def fnExactNodeHashWrong : ChangeSpec := { name := "fnExactNodeHash", fn := fun _ => fun
  | [d1, d2] => { results := [.lit (.bool false)], args := [d1, d2] }
  | _ => none }
def FnExactNodeHashWrongFalsely : Prop := fnExactNodeHashRow.holds Try.pinned (OpenSpec.ofChange fnExactNodeHashWrong)

/-- 'laws.FnHashSizes': WHATEVER THE INPUT: true; the input reads as it did. -/
def fnHashSizesSpec : ChangeSpec := { name := "fnHashSizes", fn := fun _ => fun
  | [d1, d2] => { results := [.lit (.bool true)], args := [d1, d2] }
  | _ => none }
def fnHashSizesRow : OpenClaim := { program := "ytlaiigjjcegecaa", sum := "a9c89dbf36e157704ceff305ed46b7f8d876145f009434df2cb112d7c0a3f57a", func := "loop.example/pub-g01440/laws.FnHashSizes", spec := "fnHashSizes", unfollowed := true, recurses := true, apart := false }
def FnHashSizesSaid : Prop := fnHashSizesRow.holds Try.pinned (OpenSpec.ofChange fnHashSizesSpec)

/-- ITS FALSE NEIGHBOUR: 'it returns false'. Refute it at one input. -/
def fnHashSizesWrong : ChangeSpec := { name := "fnHashSizes", fn := fun _ => fun
  | [d1, d2] => { results := [.lit (.bool false)], args := [d1, d2] }
  | _ => none }
def FnHashSizesWrongFalsely : Prop := fnHashSizesRow.holds Try.pinned (OpenSpec.ofChange fnHashSizesWrong)

/-- 'laws.FnIndexEnds': WHATEVER THE INPUT: true; the input reads as it did. -/
def fnIndexEndsSpec : ChangeSpec := { name := "fnIndexEnds", fn := fun _ => fun
  | [d1, d2, d3] => { results := [.lit (.bool true)], args := [d1, d2, d3] }
  | _ => none }
def fnIndexEndsRow : OpenClaim := { program := "ytlaiigjjcegecaa", sum := "a9c89dbf36e157704ceff305ed46b7f8d876145f009434df2cb112d7c0a3f57a", func := "loop.example/pub-g01440/laws.FnIndexEnds", spec := "fnIndexEnds", unfollowed := true, recurses := true, apart := false }
def FnIndexEndsSaid : Prop := fnIndexEndsRow.holds Try.pinned (OpenSpec.ofChange fnIndexEndsSpec)

/-- ITS FALSE NEIGHBOUR: 'it returns false'. Refute it at one input. -/
def fnIndexEndsWrong : ChangeSpec := { name := "fnIndexEnds", fn := fun _ => fun
  | [d1, d2, d3] => { results := [.lit (.bool false)], args := [d1, d2, d3] }
  | _ => none }
def FnIndexEndsWrongFalsely : Prop := fnIndexEndsRow.holds Try.pinned (OpenSpec.ofChange fnIndexEndsWrong)

/-- 'laws.FnNodeApart': WHATEVER THE INPUT: true; the input reads as it did. -/
def fnNodeApartSpec : ChangeSpec := { name := "fnNodeApart", fn := fun _ => fun
  | [d1, d2] => { results := [.lit (.bool true)], args := [d1, d2] }
  | _ => none }
def fnNodeApartRow : OpenClaim := { program := "ytlaiigjjcegecaa", sum := "a9c89dbf36e157704ceff305ed46b7f8d876145f009434df2cb112d7c0a3f57a", func := "loop.example/pub-g01440/laws.FnNodeApart", spec := "fnNodeApart", unfollowed := true, recurses := true, apart := false }
def FnNodeApartSaid : Prop := fnNodeApartRow.holds Try.pinned (OpenSpec.ofChange fnNodeApartSpec)

/-- ITS FALSE NEIGHBOUR: 'it returns false'. Refute it at one input. -/
def fnNodeApartWrong : ChangeSpec := { name := "fnNodeApart", fn := fun _ => fun
  | [d1, d2] => { results := [.lit (.bool false)], args := [d1, d2] }
  | _ => none }
def FnNodeApartWrongFalsely : Prop := fnNodeApartRow.holds Try.pinned (OpenSpec.ofChange fnNodeApartWrong)

/- THE SECOND FORM. 'bulk': how many values and letters a reading holds, each counted each time it is reached (what is shared counts as often as it is met; a slice's spare places count too). A statement '..UptoSaid' is the law's where the arguments, and the package variables that the reading takes, are together of bulk at most 1048576: NARROWER than '..Said'. Prove '..Said' where nothing that the law and all that it calls make is longer than what came in: it says more and counts as full. Else prove '..UptoSaid'. A law counts once. -/
mutual
def uptoBulk {H : Type} : DataW H → Nat
  | .lit (.string bytes) => bytes.length + 1
  | .lit _ => 1
  | .nil => 1
  | .ptr d => uptoBulk d + 1
  | .slice elems spare => uptoBulkAll elems + uptoBulkAll spare + 1
  | .agg parts => uptoBulkAll parts + 1
  | .iface _ d => uptoBulk d + 1
  | .map entries => uptoBulkEntries entries + 1
  | .held _ => 1
def uptoBulkAll {H : Type} : List (DataW H) → Nat
  | [] => 0
  | d :: r => uptoBulk d + uptoBulkAll r
def uptoBulkEntries {H : Type} : List (Lit × DataW H) → Nat
  | [] => 0
  | x :: r => uptoBulkEntry x + uptoBulkEntries r
def uptoBulkEntry {H : Type} : Lit × DataW H → Nat
  | (.string bytes, d) => bytes.length + uptoBulk d + 1
  | (_, d) => uptoBulk d + 1
 end
def uptoSmall : (H : Type) → List (DataW H) → Bool := fun _ ds => decide (uptoBulkAll ds ≤ 1048576)
def OpenSpec.upto (s : _root_.Go.ChangeSpec) : _root_.Go.OpenSpec := { _root_.Go.OpenSpec.ofChange s with cond := some uptoSmall }

/-- 'laws.FnExactStoredIndex', WHERE WHAT IT READS IS OF BULK AT MOST 1048576: true; the input reads as it did. -/
def fnExactStoredIndexUptoRow : OpenClaim := { program := "ytlaiigjjcegecaa", sum := "a9c89dbf36e157704ceff305ed46b7f8d876145f009434df2cb112d7c0a3f57a", func := "loop.example/pub-g01440/laws.FnExactStoredIndex", spec := "fnExactStoredIndex", apart := false, narrowed := true }
def FnExactStoredIndexUptoSaid : Prop := fnExactStoredIndexUptoRow.holds Try.pinned (OpenSpec.upto fnExactStoredIndexSpec)

/-- 'laws.FnCountGrows', WHERE WHAT IT READS IS OF BULK AT MOST 1048576: true; the input reads as it did. -/
def fnCountGrowsUptoRow : OpenClaim := { program := "ytlaiigjjcegecaa", sum := "a9c89dbf36e157704ceff305ed46b7f8d876145f009434df2cb112d7c0a3f57a", func := "loop.example/pub-g01440/laws.FnCountGrows", spec := "fnCountGrows", apart := false, narrowed := true }
def FnCountGrowsUptoSaid : Prop := fnCountGrowsUptoRow.holds Try.pinned (OpenSpec.upto fnCountGrowsSpec)

/-- 'laws.FnExactStoredCount', WHERE WHAT IT READS IS OF BULK AT MOST 1048576: true; the input reads as it did. -/
def fnExactStoredCountUptoRow : OpenClaim := { program := "ytlaiigjjcegecaa", sum := "a9c89dbf36e157704ceff305ed46b7f8d876145f009434df2cb112d7c0a3f57a", func := "loop.example/pub-g01440/laws.FnExactStoredCount", spec := "fnExactStoredCount", apart := false, narrowed := true }
def FnExactStoredCountUptoSaid : Prop := fnExactStoredCountUptoRow.holds Try.pinned (OpenSpec.upto fnExactStoredCountSpec)

/-- 'laws.FnExactRecordHash', WHERE WHAT IT READS IS OF BULK AT MOST 1048576: true; the input reads as it did. -/
def fnExactRecordHashUptoRow : OpenClaim := { program := "ytlaiigjjcegecaa", sum := "a9c89dbf36e157704ceff305ed46b7f8d876145f009434df2cb112d7c0a3f57a", func := "loop.example/pub-g01440/laws.FnExactRecordHash", spec := "fnExactRecordHash", unfollowed := true, recurses := true, apart := false, narrowed := true }
def FnExactRecordHashUptoSaid : Prop := fnExactRecordHashUptoRow.holds Try.pinned (OpenSpec.upto fnExactRecordHashSpec)

/-- 'laws.FnExactNodeHash', WHERE WHAT IT READS IS OF BULK AT MOST 1048576: true; the input reads as it did. -/
def fnExactNodeHashUptoRow : OpenClaim := { program := "ytlaiigjjcegecaa", sum := "a9c89dbf36e157704ceff305ed46b7f8d876145f009434df2cb112d7c0a3f57a", func := "loop.example/pub-g01440/laws.FnExactNodeHash", spec := "fnExactNodeHash", unfollowed := true, recurses := true, apart := false, narrowed := true }
def FnExactNodeHashUptoSaid : Prop := fnExactNodeHashUptoRow.holds Try.pinned (OpenSpec.upto fnExactNodeHashSpec)

/-- 'laws.FnHashSizes', WHERE WHAT IT READS IS OF BULK AT MOST 1048576: true; the input reads as it did. -/
def fnHashSizesUptoRow : OpenClaim := { program := "ytlaiigjjcegecaa", sum := "a9c89dbf36e157704ceff305ed46b7f8d876145f009434df2cb112d7c0a3f57a", func := "loop.example/pub-g01440/laws.FnHashSizes", spec := "fnHashSizes", unfollowed := true, recurses := true, apart := false, narrowed := true }
def FnHashSizesUptoSaid : Prop := fnHashSizesUptoRow.holds Try.pinned (OpenSpec.upto fnHashSizesSpec)

/-- 'laws.FnIndexEnds', WHERE WHAT IT READS IS OF BULK AT MOST 1048576: true; the input reads as it did. -/
def fnIndexEndsUptoRow : OpenClaim := { program := "ytlaiigjjcegecaa", sum := "a9c89dbf36e157704ceff305ed46b7f8d876145f009434df2cb112d7c0a3f57a", func := "loop.example/pub-g01440/laws.FnIndexEnds", spec := "fnIndexEnds", unfollowed := true, recurses := true, apart := false, narrowed := true }
def FnIndexEndsUptoSaid : Prop := fnIndexEndsUptoRow.holds Try.pinned (OpenSpec.upto fnIndexEndsSpec)

/-- 'laws.FnNodeApart', WHERE WHAT IT READS IS OF BULK AT MOST 1048576: true; the input reads as it did. -/
def fnNodeApartUptoRow : OpenClaim := { program := "ytlaiigjjcegecaa", sum := "a9c89dbf36e157704ceff305ed46b7f8d876145f009434df2cb112d7c0a3f57a", func := "loop.example/pub-g01440/laws.FnNodeApart", spec := "fnNodeApart", unfollowed := true, recurses := true, apart := false, narrowed := true }
def FnNodeApartUptoSaid : Prop := fnNodeApartUptoRow.holds Try.pinned (OpenSpec.upto fnNodeApartSpec)

end Rows
end Go.Proofs.Ytlaiigjjcegecaa
