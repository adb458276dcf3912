/- The contract of the reference's SortVersions: the list in order. Condition: at most 2 to the power of 20 texts, each of at most 2 to the power of 20 bytes. -/
import Derived.Test.YtienkoadkhcghaaExact2
namespace Go.Proofs.Ytienkoadkhcghaa
open Go.RowKit
attribute [local go_sem] app_str

theorem own_take {w : World} {base g cap : Nat} {o : List (List UInt8)} (h : w.ownsRow base 9 1 (.slice (some ⟨g, 0, none⟩) o.length cap) o.length (o.map str)) {k : Nat} (hk : k ≤ o.length) :
    w.ownsRow base 9 1 (.slice (some ⟨g, 0, none⟩) k cap) (o.take k).length ((o.take k).map str) := by
  have hl : (o.take k).length = k := by simp; omega
  refine ⟨by simp, .inr ?_⟩
  rcases h.2 with ⟨e, _⟩ | ⟨g', cap', cur, e, h1, h2, h3, h4, h5, h6⟩
  · cases e
  · cases e
    refine ⟨g, cap, cur, by rw [hl], h1, h2, by rw [hl]; omega, h4, h5, ?_⟩
    rw [hl, Nat.mul_one, List.map_take, ← h6, List.take_take]
    congr 1
    omega
theorem own_drop {w : World} {base g cap : Nat} {o : List (List UInt8)} (h : w.ownsRow base 9 1 (.slice (some ⟨g, 0, none⟩) o.length cap) o.length (o.map str)) {k : Nat} (hk : k ≤ o.length) (hm : cap ≤ 9223372036854775807) (hc : o.length ≤ cap) :
    StrsAt w (.slice (if cap = k then some ⟨g, 0, none⟩ else some ⟨g, k, none⟩) (o.length - k) (cap - k)) (o.drop k) := by
  by_cases e : cap = k
  · rw [if_pos e]
    exact ⟨some ⟨g, 0, none⟩, cap - k, by rw [List.length_drop], by simp; omega, by omega, .inl (List.drop_eq_nil_of_le (by omega))⟩
  · rw [if_neg e]
    refine ⟨_, cap - k, by simp, by simp; omega, by omega, .inr ⟨g, k, rfl, (h.lt g rfl).2, fun j u hu => ?_⟩⟩
    rw [List.getElem?_drop] at hu
    have hj : k + j < o.length := (List.getElem?_eq_some_iff.1 hu).1
    rw [h.cellAt (k + j) (by omega), List.getElem?_map, hu]; rfl
theorem insert_app (o : List (List UInt8)) (v : List UInt8) (k : Nat) : o.take k ++ [v] ++ o.drop k = Sem.insertAt o v k := by simp [Sem.insertAt]

theorem start_own (w : World) (xs : List (List UInt8)) : (w.alloc (Obj.cells #[] 9)).ownsRow w.heap.size 9 1 (.slice (some ⟨w.heap.size, 0, none⟩) 0 0) (Sem.sortV (xs.take 0)).length ((Sem.sortV (xs.take 0)).map str) := by
  have e : Sem.sortV (xs.take 0) = [] := by simp [Sem.sortV]
  rw [e]
  exact own_empty w

theorem own_not {w : World} {base g n k cap : Nat} {v : Value} {xs : List Value} (h : w.ownsRow base 9 1 v n xs) (hg : g < base) : v.ownBlock = none ∨ v.ownBlock ≠ (Value.slice (some ⟨g, 0, none⟩) k cap).ownBlock := by
  right
  intro e
  have := own_base h g e
  omega

set_option maxHeartbeats 4000000 in
theorem spec_SortVersions (v : Value) (xs : List (List UInt8)) (w : World) (h : StrsAt w v xs) (hl : ∀ x ∈ xs, x.length ≤ 1048576) (hn : xs.length ≤ 1048576) :
    Calls Try.prog 19 #[v] w fun e w' => (∃ A c, e = .returned (.slice A xs.length c) ∧ StrsAt w' (.slice A xs.length c) (Sem.sortV xs)) ∧ Below w.heap.size w w' := by
  obtain ⟨A, c, rfl, hc, hm, h⟩ := h
  have HA := Lib.hid h
  have HL := Lib.hid hl
  clear h hl
  go_enter Try.func19, Try.ntmps19
  go_wp2_with fail
  go_loopw [3, 11] (fun o' i wr => ∃ (g cap j : Nat), .slice (some ⟨g, 0, none⟩) j cap = o' ∧ i = .int .i64 j ∧ j ≤ xs.length ∧ Hid (wr.ownsRow w.heap.size 9 1 (.slice (some ⟨g, 0, none⟩) j cap) (Sem.sortV (xs.take j)).length ((Sem.sortV (xs.take j)).map str)) ∧ Hid (Below w.heap.size w wr) ∧ w.heap.size + 1 ≤ wr.heap.size) (fun _ i _ => xs.length - (intOf i).toNat)
  case atStart => exact ⟨w.heap.size, 0, 0, rfl, rfl, by omega, Lib.hid (start_own w xs), Lib.hid (bl_new _ _), by simp⟩
  case round =>
    obtain ⟨g, cap, j, rfl, rfl, hj, hoh, hb, hsz⟩ := hrel
    have hol : (Sem.sortV (xs.take j)).length = j := by rw [Sem.sortV_len]; simp; omega
    by_cases hlt : j < xs.length
    · obtain ⟨b, off, rfl, hbl, hx⟩ := strs_at' HA.out hlt
      have hx' : wr.cell? ⟨b, off + j, none⟩ = some (str xs[j]) := (hb.out.cell (p := ⟨b, off + j, none⟩) hbl).trans hx
      have hxl := HL.out xs[j] (List.getElem_mem hlt)
      have HOL : Hid (∀ x ∈ Sem.sortV (xs.take j), x.length ≤ 1048576) := Lib.hid (fun x hx => HL.out x (List.mem_of_mem_take (Sem.sortV_mem.1 hx)))
      have HT : Hid (∀ k, (Sem.insertAt (Sem.sortV (xs.take j)) xs[j] k).Pairwise (fun a b => Sem.le a b = true) → Sem.insertAt (Sem.sortV (xs.take j)) xs[j] k = Sem.sortV (xs.take (j + 1))) := Lib.hid (fun k hp => Sem.sortV_unique (by
        rw [List.take_succ_eq_append_getElem hlt]
        exact (Sem.insert_perm _ _ _).trans ((Sem.sortV_perm _).append_right _)) hp)
      have HSO := Lib.hid (Sem.sortV_sorted (xs.take j))
      have HO2 : Hid (wr.ownsRow w.heap.size 9 1 (.slice (some ⟨g, 0, none⟩) (Sem.sortV (xs.take j)).length cap) (Sem.sortV (xs.take j)).length ((Sem.sortV (xs.take j)).map str)) := Lib.hid (by have := hoh.out; rw [hol] at this ⊢; exact this)
      obtain ⟨hcap1, hcap2⟩ := own_cap HO2.out
      rw [hol] at hcap1
      generalize xs[j] = x at *
      generalize Sem.sortV (xs.take j) = o at *
      clear hx hoh
      subst hol
      obtain ⟨wo, hwo⟩ : ∃ wo, wo = wr := ⟨_, rfl⟩
      subst hwo
      go_wp2_with fail
      go_loopw [6] (fun q wi => ∃ k : Nat, q = .int .i64 k ∧ k ≤ o.length ∧ Hid (∀ y ∈ o.drop k, Sem.le y x = false) ∧ Hid (Below wo.heap.size wo wi)) (fun q _ => (intOf q).toNat)
      case atStart => exact ⟨o.length, rfl, Nat.le_refl _, Lib.hid (fun y hy => by simp at hy), Lib.hid (Below.refl _ _)⟩
      case round =>
        obtain ⟨k, rfl, hk, hinv, hbi⟩ := hrel
        have HOI := Lib.hid (own_below HO2.out hbi.out)
        have HBI : Hid (Below w.heap.size w wr) := Lib.hid (bl_next' hb.out hbi.out)
        have hszi : w.heap.size + 1 ≤ wr.heap.size := Nat.le_trans hsz hbi.out.size
        by_cases hk0 : 0 < k
        · obtain ⟨m, rfl⟩ : ∃ m, k = m + 1 := ⟨k - 1, by omega⟩
          have hmo : m < o.length := by omega
          have hi : (((m + 1 : Nat) : Int) - 1) = (m : Int) := by omega
          have cm : wr.cell? ⟨g, m, none⟩ = some (str o[m]) := by rw [HOI.out.cellAt m (by omega), List.getElem?_map, List.getElem?_eq_getElem hmo]; rfl
          have hol := HOL.out o[m] (List.getElem_mem hmo)
          have HDR : Hid (∀ hle : Sem.le o[m] x = false, ∀ y ∈ o.drop m, Sem.le y x = false) := Lib.hid (fun hle y hy => by
            rw [List.drop_eq_getElem_cons hmo] at hy
            rcases List.mem_cons.1 hy with rfl | hy
            · exact hle
            · exact hinv.out y hy)
          have HPW : Hid (∀ hle : Sem.le o[m] x = true, (Sem.insertAt o x (m + 1)).Pairwise (fun a b => Sem.le a b = true)) := Lib.hid (fun hle => Sem.insert_sorted HSO.out hk hinv.out (fun _ => hle))
          have hle2 := Sem.le_iff o[m] x
          generalize o[m] = y at *
          have HI := Lib.hid (spec_InOrder y x)
          by_cases hle : Sem.cmpVersion y x ≤ 0
          · have hd : decide (Sem.cmpVersion y x ≤ 0) = true := decide_eq_true hle
            have HP := HPW.out (hle2.2 hle)
            have HFIN := Lib.hid (HT.out _ HP)
            clear hle hle2 HPW HDR HP
            go_wp2_with fail
            refine (HI.out wr hol hxl).mono ?_
            rintro e wi ⟨rfl, hbj⟩
            have HOJ := Lib.hid (own_below HOI.out hbj)
            have HBJ : Hid (Below w.heap.size w wi) := Lib.hid (bl_next' HBI.out hbj)
            have hszj : w.heap.size + 1 ≤ wi.heap.size := Nat.le_trans hszi hbj.size
            have hK : m + 1 ≤ o.length := hk
            generalize hKK : m + 1 = K at *
            clear hbj hKK
            have elen : (o.take K ++ [x] ++ ([] ++ o.drop K)).length = o.length + 1 := by first | (simp; done) | (simp; omega)
            have hgi : g < wi.heap.size := (HOJ.out.lt g rfl).2
            have hgb : w.heap.size ≤ g := (HOJ.out.lt g rfl).1
            go_wp2_with (first
              | (at_builtin; refine app_strs rfl (.tmp 31) (.tmp 34) rfl wi.heap.size (.slice (some ⟨wi.heap.size, 0, none⟩) 0 0) [] rfl (own_empty wi) _ (o.drop K) rfl ((own_drop HOJ.out hK hcap2 hcap1).alloc _) (by simp; omega) (by simp) ?_; intro vr wj hownr hgrow1 hne1; have hk1 := (HOJ.out.alloc (Obj.cells #[] 9)).kept hgrow1 (.inr (by show some g ≠ some wi.heap.size; intro e; cases e; omega)); have hsj : wi.heap.size ≤ wj.heap.size := by { have := hgrow1.size; simp at this; omega })
              | (at_builtin; refine app_strs rfl (.tmp 38) (.tmp 40) rfl w.heap.size (.slice (some ⟨g, 0, none⟩) K cap) (o.take K) rfl ((own_take hk1 hK).alloc _) _ [x] rfl (one_strs wj x) (by first | omega | (simp; done) | (simp; omega)) (by first | omega | (simp; done) | (simp; omega)) ?_; intro vm wk hownm hgrow2 hne2; have hk2 := (hownr.alloc (Obj.cells #[str x] 9)).kept hgrow2 (own_not hownr hgi); have hsk : wj.heap.size ≤ wk.heap.size := by { have := hgrow2.size; simp at this; omega })
              | (at_builtin; refine app_strs rfl (.tmp 41) (.tmp 42) rfl w.heap.size vm (o.take K ++ [x]) rfl hownm _ ([] ++ o.drop K) rfl (strs_of_own hk2) (by first | omega | (simp; done) | (simp; omega)) (by omega) ?_; intro vn wl hownn hgrow3 hne3; obtain ⟨g', cap', e', hg', hgl'⟩ := own_some2 hownn (hne3 (hne2 (by simp))); rw [elen] at e'; subst e'))
            have HBL : Hid (Below w.heap.size w wl) := Lib.hid ((((bl_alloc ((bl_alloc HBJ.out HBJ.out.size _).grown hgrow1 (by simp; omega) (fun j hj => by have : wi.heap.size = j := Option.some.inj hj; omega)) (by omega) _).grown hgrow2 (by simp; omega) (fun j hj => by have : g = j := Option.some.inj hj; omega)).grown hgrow3 (by omega) (fun j hj => own_base hownm j hj)))
            have hszl : w.heap.size + 1 ≤ wl.heap.size := by have := hgrow3.size; omega
            have HOL2 : Hid (wl.ownsRow w.heap.size 9 1 (.slice (some ⟨g', 0, none⟩) (o.length + 1) cap') (Sem.sortV (xs.take (o.length + 1))).length ((Sem.sortV (xs.take (o.length + 1))).map str)) := Lib.hid (by
              rw [← HFIN.out, ← insert_app]
              rw [elen] at hownn
              have e2 : (o.take K ++ [x] ++ o.drop K).length = o.length + 1 := elen
              rw [e2]
              exact hownn)
            clear hownn hgrow3 hne3 hk2 hownm hgrow2 hne2 hk1 hownr hgrow1 hne1 HFIN
            go_wp2_with fail
            go_roundw
            case rel => exact ⟨g', cap', o.length + 1, rfl, by go_num, by omega, HOL2, HBL, hszl⟩
            case measure => simp [intOf]; omega
          · have hd : decide (Sem.cmpVersion y x ≤ 0) = false := decide_eq_false hle
            have HD2 := Lib.hid (HDR.out (by rw [Bool.eq_false_iff]; exact fun e => hle (hle2.1 e)))
            clear hle hle2 HPW HDR
            go_wp2_with fail
            refine (HI.out wr hol hxl).mono ?_
            rintro e wi ⟨rfl, hbj⟩
            have HBJ : Hid (Below wo.heap.size wo wi) := Lib.hid (bl_next' hbi.out hbj)
            clear hbj
            go_wp2_with fail
            go_roundw
            case rel => exact ⟨m, by go_num, by omega, HD2, HBJ⟩
            case measure => simp [intOf]
        · obtain rfl : k = 0 := by omega
          have HFIN := Lib.hid (HT.out 0 (Sem.insert_sorted HSO.out (Nat.zero_le _) hinv.out (fun h => absurd h (by omega))))
          have HOJ := HOI
          have HBJ := HBI
          have hszj := hszi
          have hK : 0 ≤ o.length := Nat.zero_le _
          obtain ⟨wi, hwi⟩ : ∃ wi, wi = wr := ⟨_, rfl⟩
          subst hwi
          clear HOI HBI hszi
          have elen : (o.take 0 ++ [x] ++ ([] ++ o)).length = o.length + 1 := by first | (simp; done) | (simp; omega)
          have hgi : g < wi.heap.size := (HOJ.out.lt g rfl).2
          have hgb : w.heap.size ≤ g := (HOJ.out.lt g rfl).1
          go_wp2_with (first
            | (at_builtin; refine app_strs rfl (.tmp 31) (.tmp 34) rfl wi.heap.size (.slice (some ⟨wi.heap.size, 0, none⟩) 0 0) [] rfl (own_empty wi) _ o rfl ((strs_of_own HOJ.out).alloc _) (by simp; omega) (by simp) ?_; intro vr wj hownr hgrow1 hne1; have hk1 := (HOJ.out.alloc (Obj.cells #[] 9)).kept hgrow1 (.inr (by show some g ≠ some wi.heap.size; intro e; cases e; omega)); have hsj : wi.heap.size ≤ wj.heap.size := by { have := hgrow1.size; simp at this; omega })
            | (at_builtin; refine app_strs rfl (.tmp 38) (.tmp 40) rfl w.heap.size (.slice (some ⟨g, 0, none⟩) 0 cap) (o.take 0) rfl ((own_take hk1 hK).alloc _) _ [x] rfl (one_strs wj x) (by first | omega | (simp; done) | (simp; omega)) (by first | omega | (simp; done) | (simp; omega)) ?_; intro vm wk hownm hgrow2 hne2; have hk2 := (hownr.alloc (Obj.cells #[str x] 9)).kept hgrow2 (own_not hownr hgi); have hsk : wj.heap.size ≤ wk.heap.size := by { have := hgrow2.size; simp at this; omega })
            | (at_builtin; refine app_strs rfl (.tmp 41) (.tmp 42) rfl w.heap.size vm (o.take 0 ++ [x]) rfl hownm _ ([] ++ o) rfl (strs_of_own hk2) (by first | omega | (simp; done) | (simp; omega)) (by omega) ?_; intro vn wl hownn hgrow3 hne3; obtain ⟨g', cap', e', hg', hgl'⟩ := own_some2 hownn (hne3 (hne2 (by simp))); rw [elen] at e'; subst e'))
          have HBL : Hid (Below w.heap.size w wl) := Lib.hid ((((bl_alloc ((bl_alloc HBJ.out HBJ.out.size _).grown hgrow1 (by simp; omega) (fun j hj => by have : wi.heap.size = j := Option.some.inj hj; omega)) (by omega) _).grown hgrow2 (by simp; omega) (fun j hj => by have : g = j := Option.some.inj hj; omega)).grown hgrow3 (by omega) (fun j hj => own_base hownm j hj)))
          have hszl : w.heap.size + 1 ≤ wl.heap.size := by have := hgrow3.size; omega
          have HOL2 : Hid (wl.ownsRow w.heap.size 9 1 (.slice (some ⟨g', 0, none⟩) (o.length + 1) cap') (Sem.sortV (xs.take (o.length + 1))).length ((Sem.sortV (xs.take (o.length + 1))).map str)) := Lib.hid (by
            rw [← HFIN.out, ← insert_app, List.drop_zero]
            rw [elen] at hownn
            have e2 : (o.take 0 ++ [x] ++ o).length = o.length + 1 := elen
            rw [e2]
            exact hownn)
          clear hownn hgrow3 hne3 hk2 hownm hgrow2 hne2 hk1 hownr hgrow1 hne1 HFIN
          go_wp2_with fail
          go_roundw
          case rel => exact ⟨g', cap', o.length + 1, rfl, by go_num, by omega, HOL2, HBL, hszl⟩
          case measure => simp [intOf]; omega
    · obtain rfl : j = xs.length := by omega
      have HST : Hid (StrsAt wr (.slice (some ⟨g, 0, none⟩) xs.length cap) (Sem.sortV xs)) := Lib.hid (by have := strs_of_own hoh.out; rw [List.take_length] at this; exact this)
      clear hoh
      go_wp2_with fail
      go_ret
      exact ⟨⟨_, _, rfl, HST.out⟩, hb.out⟩

end Go.Proofs.Ytienkoadkhcghaa
