/- tlog.runTreeProof of a proof that ends well; impl.CheckTree of such a proof. Conditions: the numbers of records are below 2 to the power of 41; the hashes lie in memory; the variable errProofFailed holds an error. -/
import Derived.Test.YtokopcbmpnnkcaaDoorU10
import Derived.Test.YtokopcbmpnnkcaaDoorU10R
import Derived.Test.YtokopcbmpnnkcaaDoorU7
import Derived.Test.YtokopcbmpnnkcaaDoorU2
namespace Go.Proofs.YtokopcbmpnnkcaaDoor
open Go.RowKit
set_option linter.unusedVariables false

theorem runTree_len {ks : List Int} {old : List Int} {d : Nat} : ∀ {ps : List (List Int)} {x : List Int × List Int} {lo n : Nat}, (∀ h ∈ ps, h.length = 32) → old.length = 32 → Tr.runTree (nhK ks) ps lo d n old = some x → x.1.length = 32 ∧ x.2.length = 32 := by
  induction d using Nat.strongRecOn with
  | ind d ih =>
    intro ps x lo n hp hl h
    by_cases he : n = lo + d ∨ d ≤ 1
    · rw [Tr.runTree, dif_pos he] at h
      by_cases h0 : lo = 0
      · rw [if_pos h0] at h
        split at h
        · cases h; exact ⟨hl, hl⟩
        · cases h
      · rw [if_neg h0] at h
        split at h
        · next hl1 =>
          obtain ⟨q, rfl⟩ : ∃ q, ps = [q] := by match ps, hl1 with | [q], _ => exact ⟨q, rfl⟩
          cases h
          exact ⟨hp q (by simp), hp q (by simp)⟩
        · cases h
    · rcases List.eq_nil_or_concat ps with rfl | ⟨p, q, rfl⟩
      · rw [Tr.runTree_nil _ (by omega) (by omega)] at h; cases h
      · rw [List.concat_eq_append] at h hp
        by_cases hn : n ≤ lo + Tr.half d
        · rw [Tr.runTree_left _ (by omega) (by omega) hn, Option.map_eq_some_iff] at h
          obtain ⟨y, hy, rfl⟩ := h
          dsimp only
          exact ⟨(ih _ (Tr.half_lt (by omega)) (fun h hh => hp h (by simp [hh])) hl hy).1, nhK_len ks _ _⟩
        · rw [Tr.runTree_right _ (by omega) (by omega) hn, Option.map_eq_some_iff] at h
          obtain ⟨y, hy, rfl⟩ := h
          dsimp only
          exact ⟨nhK_len ks _ _, nhK_len ks _ _⟩
theorem runTree_some (ks : List Int) (d : Nat) : ∀ (lo hi n : Nat) (v : Value) (ps : List (List Int)) (old : List Int) (x : List Int × List Int) (w : World), hi - lo = d → lo < n → n ≤ hi → hi < 2199023255552 → HIn w v ps → old.length = 32 → WAt w 4 ks → Tr.runTree (nhK ks) ps lo d n old = some x →
    Calls Tryd.prog 47 #[v, .int .i64 lo, .int .i64 hi, .int .i64 n, .agg (hcs old).toArray] w fun e w' => e = .returned (treeOut .nilIface (some x)) ∧ Below w.heap.size w w' := by
  induction d using Nat.strongRecOn with
  | ind d ih =>
    intro lo hi n v ps old x w hd h1 h2 hb hv hl hK hx
    have hk0 : 4 < w.heap.size := (Array.getElem?_eq_some_iff.1 hK.2.2).1
    by_cases he : n = hi
    · subst he
      rw [Tr.runTree_self _ (by omega)] at hx
      by_cases h0 : lo = 0
      · subst h0
        rw [if_pos rfl] at hx
        split at hx
        · next hp =>
          subst hp
          cases hx
          obtain ⟨_, A, c, rfl, _⟩ := hv
          exact runTree_self n A c old w (by omega) hb hl
        · cases hx
      · rw [if_neg h0] at hx
        split at hx
        · next hl1 =>
          obtain ⟨q, rfl⟩ : ∃ q, ps = [q] := by match ps, hl1 with | [q], _ => exact ⟨q, rfl⟩
          cases hx
          exact runTree_ten lo n v q old w h0 h1 hb hv hl
        · cases hx
    · rcases List.eq_nil_or_concat ps with rfl | ⟨p, q, rfl⟩
      · rw [Tr.runTree_nil _ (by omega) (by omega)] at hx; cases hx
      · rw [List.concat_eq_append] at hx hv
        have hp : ∀ h ∈ p, h.length = 32 := fun h hh => hv.1 h (by simp [hh])
        have hhl := Tr.half_lt (d := d) (by omega)
        have hhp := Tr.half_pos d
        by_cases hn : n ≤ lo + Tr.half d
        · rw [Tr.runTree_left _ (by omega) (by omega) hn, Option.map_eq_some_iff] at hx
          obtain ⟨⟨x1, x2⟩, hy, rfl⟩ := hx
          have hlen := runTree_len hp hl hy
          refine runTree_stepL ks lo hi n v p q old x1 x2 w h1 (by omega) hb (by rw [hd]; exact hn) hv hl hK hlen.1 hlen.2 (fun v' w' hv' hb' => ?_)
          have := ih (Tr.half d) hhl lo (lo + Tr.half d) n v' p old (x1, x2) w' (by omega) h1 hn (by omega) hv' hl (hK.below hb' hk0) hy
          rw [hd, ← Int.natCast_add]
          exact this
        · rw [Tr.runTree_right _ (by omega) (by omega) hn, Option.map_eq_some_iff] at hx
          obtain ⟨⟨x1, x2⟩, hy, rfl⟩ := hx
          have hlen := runTree_len hp hl hy
          refine runTree_stepR ks lo hi n v p q old x1 x2 w h1 (by omega) hb (by rw [hd]; exact hn) hv hl hK hlen.1 hlen.2 (fun v' w' hv' hb' => ?_)
          have := ih (d - Tr.half d) (by omega) (lo + Tr.half d) hi n v' p old (x1, x2) w' (by omega) (by omega) h2 hb hv' hl (hK.below hb' hk0) hy
          rw [hd, ← Int.natCast_add]
          exact this

theorem implCheckTree_good (ks : List Int) (P0t : TypeId) (P0a : Addr) (t n : Nat) (v tv ev : Value) (ps : List (List Int)) (th h : List Int) (w : World) (hn1 : 1 ≤ n) (hnt : n ≤ t) (ht20 : t ≤ 1048576) (hv : RowsIn w v ps) (hl : ps.length ≤ 5864062014640) (hth : BIn w tv th) (hh : BIn w ev h)
    (h1 : th.length = 32) (h2 : h.length = 32) (h3 : ∀ p ∈ ps, p.length = 32) (hK : WAt w 4 ks) (hP : w.cell? ⟨1, 0, none⟩ = some (.iface P0t (.pointer (some P0a)))) (hP0 : 1 < w.heap.size) (hr : Tr.runTree (nhK ks) ps 0 t n h = some (h, th)) :
    Calls Tryd.prog 16 #[v, .int .i64 t, tv, .int .i64 n, ev] w fun e w' => e = .returned (.bool true) ∧ Below w.heap.size w w' := by
  have hk0 : 4 < w.heap.size := (Array.getElem?_eq_some_iff.1 hK.2.2).1
  refine implCheckTree_of true (t : Int) (n : Int) v tv ev ps th h w hv hl hth hh (fun u w'' hb hu => ?_)
  rw [Int.emod_eq_of_lt (by omega) (by omega), h32_self h1, h32_self h2]
  rw [map_h32 h3] at hu
  refine (checkTree_of (some (h, th)) P0t P0a t n u th h w'' hn1 hnt (by omega) h1 h2 ((hb.cell (p := ⟨1, 0, none⟩) hP0).trans hP) (Nat.lt_of_lt_of_le hP0 hb.size) (fun w3 hb3 => ?_) (fun x hx => by cases hx; exact ⟨h2, h1⟩)).mono ?_
  · have := runTree_some ks t 0 t n u ps h (h, th) w3 (Nat.sub_zero t) (by omega) hnt (by omega) (hu.below hb3) h2 (hK.below (bl_step hb hb3 (Nat.le_refl _)) hk0) hr
    rw [show ((0 : Nat) : Int) = 0 from rfl] at this
    exact this
  · rintro e w4 ⟨⟨u', he, hu'⟩, hb4⟩
    refine ⟨⟨u', he, ?_⟩, hb4⟩
    rw [decide_eq_true (rfl : (some (h, th) : Option (List Int × List Int)) = some (h, th))] at hu'
    exact hu'
theorem TP_32 {ks : List Int} {f : Nat → List Int} (hf : ∀ n, (f n).length = 32) (lo d n : Nat) : ∀ h ∈ Tr.TP (nhK ks) f lo d n, h.length = 32 := by
  induction d using Nat.strongRecOn generalizing lo with
  | ind d ih =>
    by_cases h1 : n = lo + d ∨ d ≤ 1
    · rw [Tr.TP, dif_pos h1]
      split
      · intro h hh; cases hh
      · intro h hh
        obtain rfl : h = _ := by simpa using hh
        exact T_len hf _ _
    · have hp := Tr.half_pos d
      have hl := Tr.half_lt (d := d) (by omega)
      by_cases hn : n ≤ lo + Tr.half d
      · rw [Tr.TP_left _ _ (by omega) (by omega) hn]
        intro h hh
        rcases List.mem_append.1 hh with hh | hh
        · exact ih _ hl _ h hh
        · obtain rfl : h = _ := by simpa using hh
          exact T_len hf _ _
      · rw [Tr.TP_right _ _ (by omega) (by omega) hn]
        intro h hh
        rcases List.mem_append.1 hh with hh | hh
        · exact ih _ (show d - Tr.half d < d by omega) _ h hh
        · obtain rfl : h = _ := by simpa using hh
          exact T_len hf _ _
theorem run_TP_all {ks : List Int} {f : Nat → List Int} {t n : Nat} (h1 : 1 ≤ n) (h2 : n ≤ t) : Tr.runTree (nhK ks) (Tr.TP (nhK ks) f 0 t n) 0 t n (Tr.T (nhK ks) f 0 n) = some (Tr.T (nhK ks) f 0 n, Tr.T (nhK ks) f 0 t) := by
  have := Tr.run_TP (nhK ks) f (lo := 0) (d := t) (n := n) (by omega) (by omega)
  rwa [Nat.sub_zero] at this

end Go.Proofs.YtokopcbmpnnkcaaDoor
