/- Contracts of impl.SortVersions and of the laws' sameTexts and canonicals. Appending texts to texts of one's own, whatever slice they come from. Condition: at most 2 to the power of 43 texts in all. -/
import Derived.Test.YtienkoadkhcghaaSort
namespace Go.Proofs.Ytienkoadkhcghaa
open Go.RowKit
attribute [local go_sem] app_str

theorem strs_one' (xs : List (List UInt8)) : ∀ u ∈ xs.map str, u.oneCell' = true := by
  intro u hu
  obtain ⟨x, _, rfl⟩ := List.mem_map.1 hu
  rfl
theorem strs_at' {w : World} {A : Option Addr} {xs : List (List UInt8)} {k : Nat} (h : xs = [] ∨ ∃ b off, A = some ⟨b, off, none⟩ ∧ b < w.heap.size ∧ ∀ k u, xs[k]? = some u → w.cell? ⟨b, off + k, none⟩ = some (str u)) (hk : k < xs.length) :
    ∃ b off, A = some ⟨b, off, none⟩ ∧ b < w.heap.size ∧ w.cell? ⟨b, off + k, none⟩ = some (str xs[k]) := by
  rcases h with h | ⟨b, off, hA, hb, hc⟩
  · subst h; simp at hk
  · exact ⟨b, off, hA, hb, hc k _ (List.getElem?_eq_getElem hk)⟩
theorem own_form' {w : World} {base size n : Nat} {e : TypeId} {v : Value} {xs : List Value} (h : w.ownsRow base e size v n xs) : ∃ A c, v = .slice A n c := by
  rcases h.2 with ⟨rfl, rfl⟩ | ⟨g, cap, cur, rfl, _⟩
  · exact ⟨none, 0, rfl⟩
  · exact ⟨_, cap, rfl⟩
theorem own_below {w w' : World} {base size n : Nat} {e : TypeId} {v : Value} {xs : List Value} (h : w.ownsRow base e size v n xs) (hb : Below w.heap.size w w') : w'.ownsRow base e size v n xs := by
  have hlt := h.lt
  refine ⟨h.1, ?_⟩
  rcases h.2 with h' | ⟨g, cap, cur, rfl, h1, h2, h3⟩
  · exact .inl h'
  · exact .inr ⟨g, cap, cur, rfl, h1, (hb.block g (hlt g rfl).2).trans h2, h3⟩
theorem one_strs (w : World) (x : List UInt8) : StrsAt (w.alloc (Obj.cells #[str x] 9)) (.slice (some ⟨w.heap.size, 0, none⟩) 1 1) [x] := by
  refine ⟨_, _, rfl, by simp, by omega, .inr ⟨w.heap.size, 0, rfl, by simp, fun k u hu => ?_⟩⟩
  have h0 : k = 0 := by have := (List.getElem?_eq_some_iff.1 hu).1; simp at this; exact this
  subst h0
  simp at hu
  subst hu
  exact cell_of_row (w.alloc _) _ _ _ 9 (0, 0) (heap_alloc_new w _)
theorem own_one (w : World) (x : List UInt8) : (w.alloc (Obj.cells #[str x] 9)).ownsRow w.heap.size 9 1 (.slice (some ⟨w.heap.size, 0, none⟩) 1 1) [x].length ([x].map str) :=
  ⟨rfl, .inr ⟨w.heap.size, 1, #[str x], rfl, Nat.le_refl _, heap_alloc_new w _, Nat.le_refl _, by simp [maxLen], rfl, rfl⟩⟩
theorem own_one' (w : World) (o : Obj) (x : List UInt8) : ((w.alloc o).alloc (Obj.cells #[str x] 9)).ownsRow (w.heap.size + 1) 9 1 (.slice (some ⟨w.heap.size + 1, 0, none⟩) 1 1) [x].length ([x].map str) := by
  have := own_one (w.alloc o) x
  simpa using this
theorem run_app_none {P : Program} {w : World} (base : Nat) (t ty e : TypeId) (i : TypeInfo) (size : Nat) (ht : P.underlying t = some (.slice e)) (hi : P.info? e = some i)
    (v : Value) (n : Nat) (xs : List Value) (hown : w.ownsRow base e size v n xs) (c : Nat) : (Builtin.append_ #[t, t] ty #[v, .slice none 0 c]).run P w = .ok v w := by
  rcases hown.2 with ⟨rfl, rfl⟩ | ⟨g, cap, cur, rfl, _, _, hnc, _⟩
  · simp [Builtin.append_, run_underlying ht, sizeOf, typeInfo, hi, Builtin.lenOf, Builtin.firstCells]
  · simp [Builtin.append_, run_underlying ht, sizeOf, typeInfo, hi, Builtin.lenOf, Builtin.firstCells, hnc, storeCells]
/-- texts behind texts, whatever slice they come from -/
theorem app_strs {w : World} {ops : Array Oper} {rest : List Oper} {o : Oper} {a : Act} {Q : Exit → Act → World → Prop} (hgd : o.guard = none) (s x : Operand)
    (ho : o.op = .call { callee := .builtin .append, args := #[s, x], argTypes := #[22, 22] })
    (base : Nat) (v : Value) (xs : List (List UInt8)) (hs : a.eval s = v) (hown : w.ownsRow base 9 1 v xs.length (xs.map str))
    (y : Value) (ys : List (List UInt8)) (hx : a.eval x = y) (hy : StrsAt w y ys) (hlen : xs.length + ys.length ≤ 8796093022208) (hbase : base ≤ w.heap.size)
    (h : ∀ v' w', w'.ownsRow base 9 1 v' (xs ++ ys).length ((xs ++ ys).map str) → w.grownBy w' v.ownBlock → (v ≠ .slice none 0 0 → v' ≠ .slice none 0 0) → wpList Try.prog ops Q rest (a.put o.dst v') w') :
    wpList Try.prog ops Q (o :: rest) a w := by
  obtain ⟨i0, hi, hz0, hz1, hz2⟩ := info_parts info_string
  obtain ⟨A, c, rfl, hc, hm, hy⟩ := hy
  cases A with
  | none =>
    rcases hy with rfl | ⟨_, _, e, _⟩
    · refine wpList_plain hgd fun K hK => ?_
      have hrun := run_app_none (P := Try.prog) (w := w) base 22 o.type 9 i0 1 Try.underlying22 hi v _ _ hown c
      unfold Oper.wp
      simp [execOp, ho, resolve, invoke, builtin, hs, hx, hrun, Result.andThen]
      exact hK _ _ (h v w (by simpa using hown) (World.grownBy.refl _ _) id)
    · cases e
  | some ad =>
    refine wpList_append_own_at _ hgd s x 22 ho base 9 i0 (str []) 1 16 Try.underlying22 hi hz0 hz1 hz2 rfl (by decide) v _ _ hs hown ad ys.length c (ys.map str) hx (by simp) ?_ (strs_one' ys) (by unfold maxLen; omega) (by omega) hbase ?_
    · intro j u hu
      rcases hy with rfl | ⟨b, off, e, hb, hcell⟩
      · simp at hu
      · cases e
        have e : (⟨b, off, none⟩ : Addr).add j = ⟨b, off + j, none⟩ := by unfold Addr.add; split <;> simp_all
        rw [e]
        rw [List.getElem?_map] at hu
        cases hj : ys[j]? with
        | none => rw [hj] at hu; cases hu
        | some z => rw [hj] at hu; cases hu; exact hcell j z hj
    · intro v' w' h1 h2 h3 _
      refine h v' w' ?_ h2 (fun hv e => hv (h3.1 e).1)
      rw [List.length_append, List.map_append]
      exact h1


theorem own_some2 {w : World} {base n : Nat} {v : Value} {xs : List Value} (h : w.ownsRow base 9 1 v n xs) (hne : v ≠ .slice none 0 0) : ∃ g cap, v = .slice (some ⟨g, 0, none⟩) n cap ∧ base ≤ g ∧ g < w.heap.size := by
  have hlt := h.lt
  rcases h.2 with ⟨e, _⟩ | ⟨g, cap, cur, e, hb, _⟩
  · exact absurd e hne
  · subst e
    exact ⟨g, cap, rfl, hb, (hlt g rfl).2⟩

set_option maxHeartbeats 1000000 in
theorem impl_SortVersions (v : Value) (xs : List (List UInt8)) (w : World) (h : StrsAt w v xs) (hl : ∀ x ∈ xs, x.length ≤ 1125899906842624) (hn : xs.length ≤ 8796093022208) :
    Calls Try.prog 13 #[v] w fun e w' => (∃ A c, e = .returned (.slice A xs.length c) ∧ StrsAt w' (.slice A xs.length c) (Sem.sortV xs)) ∧ Below w.heap.size w w' := by
  have H := Lib.hid h
  have HL := Lib.hid hl
  obtain ⟨A, c, rfl, hc, hm, -⟩ := h
  clear hl
  go_enter Try.func13, Try.ntmps13
  go_wp2_with (at_builtin; refine app_strs rfl (.tmp 4) (.tmp 5) rfl w.heap.size (.slice (some ⟨w.heap.size, 0, none⟩) 0 0) [] rfl (own_empty w) _ xs rfl (H.out.alloc _) (by simp; omega) (by simp) ?_; intro v' wb hown hgrow hne; obtain ⟨g, cap, rfl, hg, hgl⟩ := own_some2 hown (hne (by simp)))
  have HB : Hid (Below w.heap.size w wb) := Lib.hid ((bl_new w _).grown hgrow (by simp) (fun j hj => by have : w.heap.size = j := Option.some.inj hj; omega))
  have HS := Lib.hid (sort_any w.heap.size g cap xs wb hown hgl HL.out (by omega))
  clear hgrow hown hne
  refine HS.out.mono ?_
  rintro e w' ⟨rfl, hst, hb⟩
  go_wp2_with fail
  go_ret
  exact ⟨⟨_, _, rfl, hst⟩, HB.out.trans (hb.mono hg)⟩

set_option maxHeartbeats 1000000 in
theorem sameTexts_yes (v1 v2 : Value) (xs : List (List UInt8)) (w : World) (h1 : StrsAt w v1 xs) (h2 : StrsAt w v2 xs) :
    Calls Try.prog 14 #[v1, v2] w fun e w' => e = .returned (.bool true) ∧ ∃ n, w' = w.drewN n := by
  obtain ⟨A, c, rfl, hc, hm, h1⟩ := h1
  obtain ⟨A', c', rfl, hc', hm', h2⟩ := h2
  have HA := Lib.hid h1
  have HA' := Lib.hid h2
  clear h1 h2
  have hq : ((xs.length : Int) != (xs.length : Int)) = false := by simp
  go_enter Try.func14, Try.ntmps14
  go_wp2
  go_loopw [13] (fun i wr => ∃ k n : Nat, i = .int .i64 k ∧ k ≤ xs.length ∧ wr = w.drewN n) (fun i _ => xs.length - (intOf i).toNat)
  case atStart => exact ⟨0, 0, rfl, by omega, rfl⟩
  case round =>
    obtain ⟨k, n, rfl, hk, rfl⟩ := hrel
    by_cases hlt : k < xs.length
    · obtain ⟨b, off, rfl, hbl, hx⟩ := strs_at' HA.out hlt
      obtain ⟨b', off', rfl, hbl', hx'⟩ := strs_at' HA'.out hlt
      generalize xs[k] = x at *
      have hxx : (x == x) = true := by simp
      go_wp2_with fail
      go_quiet (fail)
      go_wp2_with fail
      go_roundw
      case rel => exact ⟨k + 1, _, by go_num, by omega, rfl⟩
      case measure => simp [intOf]; omega
    · obtain rfl : k = xs.length := by omega
      go_wp2
      go_ret
      exact ⟨rfl, _, rfl⟩

set_option maxHeartbeats 1000000 in
theorem canonicals_any (v : Value) (xs : List (List UInt8)) (w : World) (h : StrsAt w v xs) (hl : ∀ x ∈ xs, x.length ≤ 140737488351232) (hn : xs.length ≤ 8796093022207) :
    Calls Try.prog 15 #[v] w fun e w' => (∃ A c, e = .returned (.slice A xs.length c) ∧ StrsAt w' (.slice A xs.length c) (xs.map Sem.canonical)) ∧ Below w.heap.size w w' := by
  obtain ⟨A, c, rfl, hc, hm, h⟩ := h
  have HA := Lib.hid h
  have HL := Lib.hid hl
  clear h hl
  go_enter Try.func15, Try.ntmps15
  go_wp2_with fail
  go_loopw [3, 9] (fun o' i wr => ∃ (o : Value) (k : Nat), o = o' ∧ i = .int .i64 k ∧ k ≤ xs.length ∧ wr.ownsRow w.heap.size 9 1 o ((xs.take k).map Sem.canonical).length (((xs.take k).map Sem.canonical).map str) ∧ Hid (Below w.heap.size w wr) ∧ w.heap.size + 1 ≤ wr.heap.size) (fun _ i _ => xs.length - (intOf i).toNat)
  case atStart => exact ⟨_, 0, rfl, rfl, by omega, own_empty w, Lib.hid (bl_new _ _), by simp⟩
  case round =>
    obtain ⟨o, k, rfl, rfl, hk, ho, hb, hsz⟩ := hrel
    by_cases hlt : k < xs.length
    · obtain ⟨b, off, rfl, hbl, hx⟩ := strs_at' HA.out hlt
      have hx' : wr.cell? ⟨b, off + k, none⟩ = some (str xs[k]) := (hb.out.cell (p := ⟨b, off + k, none⟩) hbl).trans hx
      have hxl := HL.out xs[k] (List.getElem_mem hlt)
      have HT : Hid ((xs.take (k + 1)).map Sem.canonical = (xs.take k).map Sem.canonical ++ [Sem.canonical xs[k]]) := Lib.hid (by rw [List.take_succ_eq_append_getElem hlt, List.map_append]; rfl)
      have hcl : ((xs.take k).map Sem.canonical).length = k := by simp; omega
      generalize xs[k] = x at *
      clear hx
      go_wp2_with fail
      refine (impl_CanonicalVersion x wr (by omega)).mono ?_
      rintro e wc ⟨rfl, hbc⟩
      have ho2 : wc.ownsRow w.heap.size 9 1 o ((xs.take k).map Sem.canonical).length (((xs.take k).map Sem.canonical).map str) := own_below ho hbc
      have HB2 : Hid (Below w.heap.size w wc) := Lib.hid (bl_next' hb.out hbc)
      have hsz2 : w.heap.size + 1 ≤ wc.heap.size := Nat.le_trans hsz hbc.size
      have HO := Lib.hid ho2
      clear hbc ho ho2
      generalize Sem.canonical x = y at *
      go_wp2_with (at_builtin; refine app_strs rfl (.tmp 13) (.tmp 16) rfl w.heap.size o ((xs.take k).map Sem.canonical) rfl (HO.out.alloc _) _ [y] rfl (one_strs wc y) (by rw [hcl]; simp; omega) (by simp; omega) ?_; intro v2 wd hown2 hgrow2 hne2)
      have HB3 : Hid (Below w.heap.size w wd) := Lib.hid ((bl_alloc HB2.out (by omega) _).grown hgrow2 (by simp; omega) (fun j hj => own_base HO.out j hj))
      have hsz3 : w.heap.size + 1 ≤ wd.heap.size := by have := hgrow2.size; simp at this; omega
      have HO3 : Hid (wd.ownsRow w.heap.size 9 1 v2 ((xs.take (k + 1)).map Sem.canonical).length (((xs.take (k + 1)).map Sem.canonical).map str)) := Lib.hid (by rw [HT.out]; exact hown2)
      clear hgrow2 hown2 hne2
      go_wp2_with fail
      go_roundw
      case rel => exact ⟨_, k + 1, rfl, by go_num, by omega, HO3.out, HB3, hsz3⟩
      case measure => simp [intOf]; omega
    · obtain rfl : k = xs.length := by omega
      rw [List.take_length] at ho
      obtain ⟨A2, c2, e2⟩ := own_form' ho
      have hst : StrsAt wr o (xs.map Sem.canonical) := strs_of_own ho
      have HST := Lib.hid hst
      clear ho hst
      go_wp2_with fail
      go_ret
      refine ⟨⟨A2, c2, ?_, ?_⟩, hb.out⟩
      · rw [e2]; simp
      · rw [e2] at HST; simpa using HST.out

end Go.Proofs.Ytienkoadkhcghaa
