/- What the stored hashes of records give: plain facts. The walks of FnStoredIsFor, FnStoreBegins, FnTreeParts: they return true at every input, whatever words the table of SHA-256 holds. Conditions: impl.errMissing holds an error; bits.deBruijn64tab holds its table. -/
import Derived.Test.YtokopcbmpnnkcaaDoorT17
import Derived.Test.YtokopcbmpnnkcaaDoorRec2
import Derived.Deep.RegionWith
namespace Go.Proofs.YtokopcbmpnnkcaaDoor
open Go.RowKit
set_option linter.unusedVariables false

theorem treeH_stored {ks : List Int} {rs : List (List Int)} {t : Nat} (h1 : t ≠ 0) (h2 : t ≤ rs.length) : treeH ks (stored ks rs) t = some (Tr.T (nhK ks) (recF ks rs) 0 t) := by
  unfold treeH stored
  rw [rd_St (recF_len ks rs) (fun c hc => by have := Tr.parts_in (Tr.Al.zero t) hc; omega), Option.map_some, Tr.fold_parts _ _ (Tr.Al.zero t) h1]
theorem recF_take {ks : List Int} {rs : List (List Int)} {i k : Nat} (h : i < k) : recF ks (rs.take k) i = recF ks rs i := by
  simp [recF, List.getD, h]
theorem recF_drop (ks : List Int) (rs : List (List Int)) (k : Nat) : recF ks (rs.drop k) = fun i => recF ks rs (i + k) := by
  funext i
  simp [recF, List.getD, List.getElem?_drop, Nat.add_comm]
theorem treeH_take {ks : List Int} {rs : List (List Int)} {k : Nat} (h1 : k ≠ 0) (h2 : k ≤ rs.length) : treeH ks (stored ks (rs.take k)) k = some (Tr.T (nhK ks) (recF ks rs) 0 k) := by
  rw [treeH_stored h1 (by simp; omega), Tr.T_congr (nhK ks) (recF ks (rs.take k)) (g := recF ks rs) h1 (fun i _ hi => recF_take (by omega))]
theorem treeH_drop {ks : List Int} {rs : List (List Int)} {k : Nat} (h2 : k < rs.length) : treeH ks (stored ks (rs.drop k)) (rs.length - k) = some (Tr.T (nhK ks) (recF ks rs) k (rs.length - k)) := by
  rw [treeH_stored (by omega) (by simp), recF_drop, Tr.T_shift, Nat.zero_add]
theorem stored_len (ks : List Int) (rs : List (List Int)) : (stored ks rs).length = Idx.wh rs.length := Tr.St_len _ _ _
theorem stored_take {ks : List Int} {rs : List (List Int)} {k : Nat} (h : k ≤ rs.length) : stored ks (rs.take k) = (stored ks rs).take (Idx.wh k) := by
  unfold stored
  rw [Tr.St_take (nhK ks) (recF ks rs) h, show (rs.take k).length = k by simp; omega]
  exact Tr.St_congr (nhK ks) _ (fun i hi => recF_take hi)
theorem T_len {ks : List Int} {f : Nat → List Int} (hf : ∀ n, (f n).length = 32) (lo d : Nat) : (Tr.T (nhK ks) f lo d).length = 32 := by
  by_cases h : d ≤ 1
  · rw [Tr.T_one _ _ h]; exact hf _
  · rw [Tr.T_two _ _ (by omega)]; exact nhK_len _ _ _
theorem RowsIn.take_ {w : World} {A : Option Addr} {n c k : Nat} {ls : List (List Int)} (h : RowsIn w (.slice A n c) ls) (hk : k ≤ n) : RowsIn w (.slice A k c) (ls.take k) := by
  obtain ⟨A', c', e, h2, h3, h4⟩ := h
  cases e
  refine ⟨A, c, by rw [List.length_take, Nat.min_eq_left hk], by rw [List.length_take]; omega, h3, ?_⟩
  rcases h4 with h4 | ⟨b, off, e', hlt, hr⟩
  · exact .inl h4
  · refine .inr ⟨b, off, e', hlt, fun j l hj => hr j l ?_⟩
    have hj' := (List.getElem?_eq_some_iff.1 hj).1
    rw [List.length_take] at hj'
    rw [List.getElem?_take, if_pos (by omega)] at hj
    exact hj
theorem RowsIn.drop_ {w : World} {b off n c k : Nat} {ls : List (List Int)} (h : RowsIn w (.slice (some ⟨b, off, none⟩) n c) ls) (hk : k < n) : RowsIn w (.slice (some ⟨b, off + k, none⟩) (n - k) (c - k)) (ls.drop k) := by
  obtain ⟨A', c', e, h2, h3, h4⟩ := h
  cases e
  refine ⟨_, c - k, by rw [List.length_drop], by rw [List.length_drop]; omega, by omega, ?_⟩
  obtain ⟨b', off', e', hlt, hr⟩ := h4.resolve_left (by omega)
  cases e'
  refine .inr ⟨b, off + k, rfl, hlt, fun j l hj => ?_⟩
  rw [List.getElem?_drop] at hj
  have := hr (k + j) l hj
  rwa [← Nat.add_assoc] at this

end Go.Proofs.YtokopcbmpnnkcaaDoor
