/- Contracts of toStringS and impl.SortVersions once more, with what a mark asks: the result lies in a row of its own that may be written. -/
import Derived.Test.YtienkoadkhcghaaExact1
import Derived.Test.YtienkoadkhcghaaSpec14
namespace Go.Proofs.Ytienkoadkhcghaa
open Go.RowKit Go.Shelf Go.Lib Go.Sort
attribute [local go_sem] app_str

theorem row_of_own {w : World} {base g cap : Nat} {xs : List (List UInt8)} (h : w.ownsRow base 9 1 (.slice (some ⟨g, 0, none⟩) xs.length cap) xs.length (xs.map str)) : RowAt w g xs := by
  refine ⟨(h.lt g rfl).2, fun k u hu => ?_⟩
  have hk : k < xs.length := (List.getElem?_eq_some_iff.1 hu).1
  refine ⟨?_, h.frozenAt k⟩
  rw [h.cellAt k (by omega), List.getElem?_map, hu]; rfl
theorem RowAt.strs {w : World} {g cap : Nat} {xs : List (List UInt8)} (h : RowAt w g xs) (hc : xs.length ≤ cap) (hm : cap ≤ 9223372036854775807) : StrsAt w (.slice (some ⟨g, 0, none⟩) xs.length cap) xs :=
  ⟨_, _, rfl, hc, hm, .inr ⟨g, 0, rfl, h.1, fun k u hu => by rw [Nat.zero_add]; exact (h.2 k u hu).1⟩⟩

set_option maxHeartbeats 1000000 in
theorem sort_row (base g cap : Nat) (xs : List (List UInt8)) (w : World) (hown : w.ownsRow base 9 1 (.slice (some ⟨g, 0, none⟩) xs.length cap) xs.length (xs.map str)) (hg : g < w.heap.size) (hl : ∀ x ∈ xs, x.length ≤ 1125899906842624) (hn : xs.length ≤ 1125899906842624) :
    Calls Try.prog 28 #[.slice (some ⟨g, 0, none⟩) xs.length cap] w fun e w' => e = .returned (.tuple #[]) ∧ RowAt w' g (Sem.sortV xs) ∧ Below g w w' := by
  have eg : ∀ args w, (callFunc 34 args).run Try.prog w = .ok (.enter 34 args) w := enters_of Try.func34 (by kernel_rfl) rfl
  have hsz : (attach xs hl).toArray.size = xs.length := by simp [attach]
  have hH : Holds encT w g 0 (attach xs hl).toArray := by
    intro j hj
    rw [hsz] at hj
    refine ⟨?_, hown.frozenAt _⟩
    rw [Nat.zero_add, hown.cellAt j (by omega), List.getElem?_map, List.getElem?_eq_getElem hj]
    simp only [encT, Option.map_some]
    rw [attach_get xs hl hj]
  have hcon := Any.slices_SortFunc sortS encT (fun _ => rfl) cfT swoT 34 #[] g 0 cap (attach xs hl).toArray w eg (cmpLays g 0 _ w) hH hg (by rw [hsz]; omega)
  rw [hsz] at hcon
  change Calls Try.prog 36 _ _ _ at hcon
  have HR : Hid (∀ d' n os, PermIn 0 xs.length (attach xs hl).toArray d' → SortedIn (ltOf cfT) 0 xs.length d' → RowAt (sortWorld encT w g 0 n d' os) g (Sem.sortV xs)) := Lib.hid (fun d' n os hp hs => by
    rw [← hsz] at hp hs
    have hv := sorted_val hp hs
    have hd : d'.size = (attach xs hl).toArray.size := hp.1
    have hHo := holds_sortWorld encT w g 0 n (attach xs hl).toArray d' os hg hH hd
    refine ⟨lt_sortWorld encT w g 0 n d' os hg, fun k u hu => ?_⟩
    rw [← hv, List.getElem?_map] at hu
    cases hk : d'.toList[k]? with
    | none => rw [hk] at hu; cases hu
    | some t =>
      rw [hk] at hu
      cases hu
      obtain ⟨hlt, ht⟩ := List.getElem?_eq_some_iff.1 hk
      have hk2 : k < d'.size := by simpa using hlt
      have h2 := hHo k hk2
      rw [Nat.zero_add] at h2
      refine ⟨?_, h2.2⟩
      rw [h2.1, getElem!_pos d' k hk2]
      have : d'[k] = t := by rw [← ht]; simp
      rw [this]; rfl)
  clear hH hown
  go_enter Try.func28, Try.ntmps28
  go_wp2_with (go_at_call 36; refine hcon.mono ?_; rintro e w' ⟨rfl, d', n, os, hp, hs, rfl⟩)
  go_end0
  exact ⟨rfl, HR.out d' n os hp hs, below_sort 0 hg⟩

set_option maxHeartbeats 1000000 in
theorem impl_SortVersions_row (v : Value) (xs : List (List UInt8)) (w : World) (h : StrsAt w v xs) (hl : ∀ x ∈ xs, x.length ≤ 1125899906842624) (hn : xs.length ≤ 8796093022208) :
    Calls Try.prog 13 #[v] w fun e w' => (∃ g cap, e = .returned (.slice (some ⟨g, 0, none⟩) xs.length cap) ∧ RowAt w' g (Sem.sortV xs) ∧ w.heap.size ≤ g ∧ xs.length ≤ cap ∧ cap ≤ 9223372036854775807) ∧ Below w.heap.size w w' := by
  have H := Lib.hid h
  have HL := Lib.hid hl
  obtain ⟨A, c, rfl, hc, hm, -⟩ := h
  clear hl
  go_enter Try.func13, Try.ntmps13
  go_wp2_with (at_builtin; refine app_strs rfl (.tmp 4) (.tmp 5) rfl w.heap.size (.slice (some ⟨w.heap.size, 0, none⟩) 0 0) [] rfl (own_empty w) _ xs rfl (H.out.alloc _) (by simp; omega) (by simp) ?_; intro v' wb hown hgrow hne; obtain ⟨g, cap, rfl, hg, hgl⟩ := own_some2 hown (hne (by simp)))
  have HB : Hid (Below w.heap.size w wb) := Lib.hid ((bl_new w _).grown hgrow (by simp) (fun j hj => by have : w.heap.size = j := Option.some.inj hj; omega))
  have hcap := own_cap hown
  have HS := Lib.hid (sort_row w.heap.size g cap xs wb hown hgl HL.out (by omega))
  clear hgrow hown hne
  refine HS.out.mono ?_
  rintro e w' ⟨rfl, hst, hb⟩
  go_wp2_with fail
  go_ret
  exact ⟨⟨g, cap, rfl, hst, hg, hcap⟩, HB.out.trans (hb.mono hg)⟩

set_option maxHeartbeats 1000000 in
theorem toStringS_row (v : Value) (xs : List (List UInt8)) (w : World) (h : StrsAt w v xs) (hl : xs.length ≤ 1048576) :
    Calls Try.prog 20 #[v] w fun e w' => (e = .returned (.slice (some ⟨w.heap.size, 0, none⟩) xs.length xs.length) ∧ RowAt w' w.heap.size xs) ∧ Below w.heap.size w w' := by
  obtain ⟨A, c, rfl, hc, hm, h⟩ := h
  obtain ⟨i0, hi, hz0, hz1, hz2⟩ := info_parts info_string
  have HA := Lib.hid h
  clear h
  go_enter Try.func20, Try.ntmps20
  go_wp2_with (at_make; refine wpList_make_full w rfl (.tmp 6) (.tmp 6) 22 rfl w.heap.size 9 i0 (str []) 1 Try.underlying22 hi hz0 hz1 .i64 .i64 _ _ xs.length rfl rfl rfl rfl (by rw [hz2]; omega) (by unfold maxLen; omega) (Nat.le_refl _) ?_; intro w1 hown hgrow)
  have hbw : Below w.heap.size w w1 := (Below.refl _ _).grown hgrow (Nat.le_refl _) (fun g hg => by cases hg)
  clear hgrow
  go_wp2_with fail
  go_loopw [4] (fun i wr => ∃ (k : Nat) (ys : List Value), i = .int .i64 k ∧ k ≤ xs.length ∧ wr.ownsRow w.heap.size 9 1 (.slice (some ⟨w.heap.size, 0, none⟩) xs.length xs.length) xs.length ys ∧ Hid (ys.take k = (xs.take k).map str) ∧ Hid (Below w.heap.size w wr)) (fun i _ => xs.length - (intOf i).toNat)
  case atStart => exact ⟨0, _, rfl, by omega, hown, Lib.hid rfl, Lib.hid hbw⟩
  case round =>
    obtain ⟨k, ys, rfl, hk, ho, ht, hb⟩ := hrel
    by_cases hlt : k < xs.length
    · obtain ⟨b, off, rfl, hbl, hx⟩ := strs_at HA.out hlt
      have hx' : wr.cell? ⟨b, off + k, none⟩ = some (str xs[k]) := (hb.out.cell (p := ⟨b, off + k, none⟩) hbl).trans hx
      have hyl : k < ys.length := by have := ho.1; omega
      have hd : wr.cell? ⟨w.heap.size, k, none⟩ = some ys[k] := by rw [ho.cellAt k (by omega), List.getElem?_eq_getElem hyl]
      have hf := ho.frozenAt k
      have hst := (ho.stored k (str xs[k])).1
      have HT : Hid ((ys.set k (str xs[k])).take (k + 1) = (xs.take (k + 1)).map str) := Lib.hid (by
        have e1 : (ys.set k (str xs[k])).take (k + 1) = ys.take k ++ [str xs[k]] := by
          rw [List.take_succ_eq_append_getElem (by simpa using hyl), List.take_set_of_le (Nat.le_refl _)]
          simp
        rw [e1, ht.out, List.take_succ_eq_append_getElem hlt, List.map_append]; rfl)
      have HB : Hid (Below w.heap.size w (wr.setCell ⟨w.heap.size, k, none⟩ (str xs[k]))) := Lib.hid (bl_put hb.out _ _)
      have HST := Lib.hid hst
      clear hst hx ho
      generalize xs[k] = x at *
      generalize ys[k] = y at *
      go_wp2
      go_roundw
      case rel => exact ⟨k + 1, _, by go_num, by omega, HST.out, HT, HB⟩
      case measure => simp [intOf]; omega
    · obtain rfl : k = xs.length := by omega
      go_wp2
      go_ret
      refine ⟨⟨rfl, ?_⟩, hb.out⟩
      have e : ys = xs.map str := by
        have := ht.out
        rw [List.take_length, List.take_of_length_le (by have := ho.1; omega)] at this
        exact this
      rw [e] at ho
      exact row_of_own ho

end Go.Proofs.Ytienkoadkhcghaa
