/- The contract of impl.bytesOf: the bytes of a hash, in memory of their own. Condition: 32 cells. -/
import Derived.Test.YtokopcbmpnnkcaaDoorSha1
import Derived.Maps.AppendAt
import Derived.OwnWalk
namespace Go.Proofs.YtokopcbmpnnkcaaDoor
open Go.RowKit

theorem info_byte : (Tryd.prog.info? 5).map (fun i => (i.zero, i.size, i.bytes)) = some (some (.int .u8 0), 1, 1) := by kernel_rfl
theorem own_none8 (w : World) (o : Obj) : ((w.alloc o).alloc (Obj.cells #[] 5)).ownsRow (w.heap.size + 1) 5 1 (.slice (some ⟨w.heap.size + 1, 0, none⟩) 0 0) 0 [] := by
  refine ⟨rfl, .inr ⟨w.heap.size + 1, 0, #[], rfl, Nat.le_refl _, ?_, Nat.le_refl _, by simp [maxLen], rfl, rfl⟩⟩
  have := heap_alloc_new (w.alloc o) (Obj.cells #[] 5)
  simpa using this

set_option maxHeartbeats 1000000 in
theorem bytesOf_any (cs : List Int) (w : World) (hl : cs.length = 32) :
    Calls Tryd.prog 37 #[.agg (cs.map (Value.int .u8)).toArray] w fun e w' => (∃ g cap, e = .returned (.slice (some ⟨g, 0, none⟩) 32 cap) ∧ w'.ownsRow (w.heap.size + 1) 5 1 (.slice (some ⟨g, 0, none⟩) 32 cap) 32 (cs.map (Value.int .u8))) ∧ Below w.heap.size w w' := by
  obtain ⟨i0, hi, hz0, hz1, hz2⟩ := info_parts info_byte
  have hcells : ∀ j u, (cs.map (Value.int .u8))[j]? = some u → ((w.alloc (Obj.cells (cs.map (Value.int .u8)).toArray 54)).alloc (Obj.cells #[] 5)).cell? ((⟨w.heap.size, 0, none⟩ : Addr).add j) = some u := by
    intro j u hu
    have e : (⟨w.heap.size, 0, none⟩ : Addr).add j = ⟨w.heap.size, j, none⟩ := by unfold Addr.add; split <;> simp_all
    rw [e, World.cell?_alloc_lt _ _ _ (by simp), cell_of_row (w.alloc _) _ _ _ 54 (0, 0) (heap_alloc_new w _), ← hu]
    simp
  have HC := Lib.hid hcells
  have hone : ∀ u ∈ cs.map (Value.int .u8), u.oneCell' = true := by
    intro u hu
    obtain ⟨x, _, rfl⟩ := List.mem_map.1 hu
    rfl
  have HO := Lib.hid hone
  have hlm : (cs.map (Value.int .u8)).length = 32 := by simpa using hl
  have HLM := Lib.hid hlm
  clear hcells hone hlm hl
  generalize cs.map (Value.int .u8) = vs at *
  go_enter Tryd.func37, Tryd.ntmps37
  go_wp2_with (at_builtin; refine wpList_append_own_at _ rfl (.tmp 3) (.tmp 4) 23 rfl (w.heap.size + 1) 5 i0 (.int .u8 0) 1 1 Tryd.underlying23 hi hz0 hz1 hz2 rfl (by decide) _ 0 [] rfl (own_none8 w _) ⟨w.heap.size, 0, none⟩ 32 32 vs rfl (by rw [HLM.out]) HC.out HO.out (by unfold maxLen; omega) (by omega) (by simp) ?_; intro v' w1 hown hgrow hnil hloc)
  have hbw : Below w.heap.size w w1 := (((Below.refl w.heap.size w).alloc (Nat.le_refl _) (Obj.cells vs.toArray 54)).alloc (by simp) (Obj.cells #[] 5)).grown hgrow (by simp; omega) (fun g hg => by have : w.heap.size + 1 = g := Option.some.inj hg; omega)
  rw [List.nil_append, Nat.zero_add] at hown
  have hv : v' ≠ .slice none 0 0 := fun e => by have := (hnil.1 e).2; omega
  have hown' := hown
  obtain ⟨g, cap, rfl⟩ : ∃ g cap, v' = .slice (some ⟨g, 0, none⟩) 32 cap := by
    rcases hown.2 with ⟨e, _⟩ | ⟨g, cap, cur, e, _⟩
    · exact absurd e hv
    · exact ⟨g, cap, e⟩
  clear hgrow hnil hloc hown
  go_ret
  exact ⟨⟨g, cap, rfl, hown'⟩, hbw⟩

end Go.Proofs.YtokopcbmpnnkcaaDoor
