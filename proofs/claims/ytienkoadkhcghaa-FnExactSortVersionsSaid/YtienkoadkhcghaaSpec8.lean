/- The contract of the reference's veThree. Condition: one to three numbers. -/
import Derived.Test.YtienkoadkhcghaaSpec7
namespace Go.Proofs.Ytienkoadkhcghaa
open Go.RowKit
attribute [local go_sem] app_str

def three (ns : List (List UInt8)) : List (List UInt8) := ns ++ List.replicate (3 - ns.length) [48]
theorem strs_one (xs : List (List UInt8)) : ∀ u ∈ xs.map str, u.oneCell' = true := by
  intro u hu
  obtain ⟨x, _, rfl⟩ := List.mem_map.1 hu
  rfl

theorem own_empty' (w : World) (o : Obj) : ((w.alloc o).alloc (Obj.cells #[] 9)).ownsRow (w.heap.size + 1) 9 1 (.slice (some ⟨w.heap.size + 1, 0, none⟩) 0 0) 0 [] := by
  have := own_empty (w.alloc o)
  simpa using this
theorem src_cells {w : World} {b off : Nat} {ns : List (List UInt8)} (h : ∀ k u, ns[k]? = some u → w.cell? ⟨b, off + k, none⟩ = some (str u)) (hlt : b < w.heap.size) (o1 o2 : Obj) :
    ∀ j u, (ns.map str)[j]? = some u → ((w.alloc o1).alloc o2).cell? ((⟨b, off, none⟩ : Addr).add j) = some u := by
  intro j u hu
  have e : (⟨b, off, none⟩ : Addr).add j = ⟨b, off + j, none⟩ := by unfold Addr.add; split <;> simp_all
  rw [e, World.cell?_alloc_lt _ _ _ (by simp; omega), World.cell?_alloc_lt _ _ _ hlt]
  rw [List.getElem?_map] at hu
  cases hx : ns[j]? with
  | none => rw [hx] at hu; cases hu
  | some x => rw [hx] at hu; cases hu; exact h j x hx

theorem own_form {w : World} {base size n : Nat} {e : TypeId} {v : Value} {xs : List Value} (h : w.ownsRow base e size v n xs) : ∃ A c, v = .slice A n c := by
  rcases h.2 with ⟨rfl, rfl⟩ | ⟨g, cap, cur, rfl, _⟩
  · exact ⟨none, 0, rfl⟩
  · exact ⟨_, cap, rfl⟩

set_option maxHeartbeats 1000000 in
theorem veThree_any (v1 v2 v3 : Value) (ns : List (List UInt8)) (w : World) (h : StrsAt w v1 ns) (hn : 1 ≤ ns.length ∧ ns.length ≤ 3) :
    Calls Try.prog 48 #[.agg #[v1, v2, v3]] w fun e w' => (∃ v, e = .returned v ∧ StrsAt w' v (three ns) ∧ ∀ g, v.ownBlock = some g → w.heap.size ≤ g) ∧ Below w.heap.size w w' := by
  obtain ⟨A, c, rfl, hc, hm, h⟩ := h
  obtain ⟨hn1, hn3⟩ := hn
  obtain ⟨i0, hi, hz0, hz1, hz2⟩ := info_parts info_string
  rcases h with h | ⟨b, off, rfl, hlt, hcell⟩
  · rw [h] at hn1; simp at hn1
  · have HC := Lib.hid hcell
    clear hcell
    go_enter Try.func48, Try.ntmps48
    go_wp2_with (at_builtin; refine wpList_append_own_at _ rfl (.tmp 4) (.tmp 6) 22 rfl (w.heap.size + 1) 9 i0 (str []) 1 16 Try.underlying22 hi hz0 hz1 hz2 rfl (by decide) _ 0 [] rfl (own_empty' w _) ⟨b, off, none⟩ ns.length c (ns.map str) rfl (by simp) (src_cells HC.out hlt _ _) (strs_one ns) (by unfold maxLen; omega) (by omega) (by simp) ?_; intro v' w1 hown hgrow hnil hloc)
    have hbw := ((bl_new w (Obj.cells #[Value.slice (some ⟨b, off, none⟩) ns.length c, v2, v3] 51)).alloc (by simp) (Obj.cells #[] 9)).grown hgrow (by simp; omega) (fun g hg => by have : w.heap.size + 1 = g := Option.some.inj hg; omega)
    rw [Nat.zero_add, List.nil_append] at hown
    have hown' : w1.ownsRow (w.heap.size + 1) 9 1 v' ns.length (ns.map str) := hown
    have hsz1 : w.heap.size + 1 ≤ w1.heap.size := by have := hgrow.size; simp at this; omega
    clear hown hgrow hnil hloc
    go_wp2_with fail
    go_loopw [3] (fun v wr => ∃ (A : Option Addr) (cap k : Nat), v = .slice A (ns.length + k) cap ∧ ns.length + k ≤ 3 ∧ wr.ownsRow (w.heap.size + 1) 9 1 v (ns ++ List.replicate k [48]).length ((ns ++ List.replicate k [48]).map str) ∧ Below w.heap.size w wr ∧ w.heap.size + 1 ≤ wr.heap.size) (fun v _ => match v with | .slice _ n _ => 3 - n | _ => 0)
    case atStart =>
      obtain ⟨A', c', e⟩ := own_form hown'
      exact ⟨A', c', 0, by rw [e]; rfl, by omega, by simpa using hown', hbw, hsz1⟩
    case round =>
      obtain ⟨A', cap, k, rfl, hk, hown, hb, hsz⟩ := hrel
      by_cases hlt3 : ns.length + k < 3
      · go_wp2_with (at_builtin; refine wpList_append_own_at _ rfl (.tmp 11) (.tmp 12) 22 rfl (w.heap.size + 1) 9 i0 (str []) 1 16 Try.underlying22 hi hz0 hz1 hz2 rfl (by decide) _ _ _ rfl (hown.alloc _) ⟨wr.heap.size, 0, none⟩ 1 1 [str [48]] rfl rfl (cell_one_new _ _ _) (str_one _) (by unfold maxLen; simp; omega) (by simp; omega) (by simp; omega) ?_; intro v2 w2 hown2 hgrow hnil hloc)
        have hb2 := (hb.alloc (by omega) (Obj.cells #[str [48]] 9)).grown hgrow (by simp; omega) (fun g hg => Nat.le_trans (Nat.le_succ _) (own_base hown g hg))
        have hs2 : w.heap.size + 1 ≤ w2.heap.size := by have := hgrow.size; simp at this; omega
        have hown3 : w2.ownsRow (w.heap.size + 1) 9 1 v2 (ns ++ List.replicate (k + 1) [48]).length ((ns ++ List.replicate (k + 1) [48]).map str) := by
          have := own_snoc hown2
          rw [List.append_assoc, ← List.replicate_succ'] at this
          exact this
        obtain ⟨A2, cap2, e2⟩ := own_form hown3
        have el : (ns ++ List.replicate (k + 1) [48]).length = ns.length + (k + 1) := by simp
        rw [el] at e2
        clear hgrow hnil hloc hown2 hown
        go_wp2
        refine ⟨⟨A2, cap2, k + 1, e2, by omega, hown3, hb2, hs2⟩, ?_⟩
        rw [e2]
        simp only
        omega
      · have hk3 : k = 3 - ns.length := by omega
        go_wp2
        go_ret
        refine ⟨⟨_, rfl, ?_, fun g hg => Nat.le_trans (Nat.le_succ _) (own_base hown g hg)⟩, hb⟩
        subst hk3
        exact strs_of_own hown

end Go.Proofs.Ytienkoadkhcghaa
