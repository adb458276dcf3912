/- A region that draws its order, whose operations only read old cells and whose callees leave every old block as it was: walked once, in the order of the text, over the class of the worlds that leave the blocks of w as they were. No condition. -/
import Derived.Test.YtokopcbmpnnkcaaDoorRows
import Derived.Below
import Derived.BigQuiet
import Derived.Deep.Quiet
import Derived.Deep.QuietTactic
import Derived.IntWalk
import Derived.WalkKit
namespace Go.Proofs.YtokopcbmpnnkcaaDoor
open Go.RowKit

theorem bl_step {B : Nat} {w w' w'' : World} (h : Below B w w') (hb : Below w'.heap.size w' w'') (hB : B ≤ w.heap.size) : Below B w w'' := h.trans (hb.mono (Nat.le_trans hB h.size))
/-- a world that has the blocks of w as they were -/
structure BW (w : World) where
  val : World
  bel : Below w.heap.size w val
instance (w : World) : Nonempty (BW w) := ⟨⟨w, Below.refl _ _⟩⟩

theorem bw_cell {w : World} (p : BW w) (b off : Nat) (h : b < w.heap.size) : p.val.cell? ⟨b, off, none⟩ = w.cell? ⟨b, off, none⟩ := p.bel.cell (p := ⟨b, off, none⟩) h
theorem wp_region_bw {P : Program} {id : Nat} {Q : Exit → Act → World → Prop} {a : Act} {w : World} {l : List Oper} (hm : P.follows .mixedOrders = true) (hB : Region.lexB .any l.toArray = true)
    (h : wpQuiet P l.toArray (fun w' => ∃ p : BW w, w' = p.val) (fun a' => ∀ w', (∃ p : BW w, w' = p.val) → Q .normal a' w') l a) : (Code.region id l.toArray true).wp P Q a w :=
  wp_region_quiet (C := fun w' => ∃ p : BW w, w' = p.val) hm hB ⟨⟨w.drew, (Below.refl _ _).drew⟩, rfl⟩ (by simpa using h)
theorem bw_call {P : Program} {f : FuncId} {args : Array Value} {w : World} {p : BW w} {v : Value}
    (h : Calls P f args p.val fun e w' => e = .returned v ∧ Below p.val.heap.size p.val w') : Calls P f args p.val fun e w'' => e = .returned v ∧ ∃ q : BW w, w'' = q.val :=
  h.mono fun _ w'' ⟨he, hb⟩ => ⟨he, ⟨w'', bl_step p.bel hb (Nat.le_refl _)⟩, rfl⟩
theorem bw_same {P : Program} {f : FuncId} {args : Array Value} {w : World} {p : BW w} {v : Value}
    (h : Calls P f args p.val fun e w' => e = .returned v ∧ p.val = w') : Calls P f args p.val fun e w'' => e = .returned v ∧ ∃ q : BW w, w'' = q.val :=
  h.mono fun _ _ ⟨he, hb⟩ => ⟨he, p, hb.symm⟩

end Go.Proofs.YtokopcbmpnnkcaaDoor
