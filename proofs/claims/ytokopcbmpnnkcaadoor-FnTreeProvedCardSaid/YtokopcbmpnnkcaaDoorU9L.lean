/- What a call leaves of the cells that are there. No condition. -/
import Derived.Test.YtokopcbmpnnkcaaDoorU9
namespace Go.Proofs.YtokopcbmpnnkcaaDoor
open Go.RowKit

theorem rangeAt_bel {w w' : World} {b o : Nat} {cs : List Value} (h : w.rangeAt b o cs) (hb : Below w.heap.size w w') : w'.rangeAt b o cs := fun j v hv => (hb.cell (p := ⟨b, o + j, none⟩) (World.block_lt_of_cell? w _ (h j v hv))).trans (h j v hv)
theorem there_bel {w w' : World} {b n : Nat} (h : w.there b 0 n) (hb : Below w.heap.size w w') : w'.there b 0 n := fun j hj => by
  obtain ⟨u, hu⟩ := Option.isSome_iff_exists.1 (h j hj).1
  have hlt := World.block_lt_of_cell? w ⟨b, 0 + j, none⟩ hu
  have := h j hj
  rw [← World.cell?_of_block (w := w) (w' := w') (a := ⟨b, 0 + j, none⟩) (hb.block b hlt), ← World.frozen?_of_block (w := w) (w' := w') (a := ⟨b, 0 + j, none⟩) (hb.block b hlt)] at this
  exact this

end Go.Proofs.YtokopcbmpnnkcaaDoor
