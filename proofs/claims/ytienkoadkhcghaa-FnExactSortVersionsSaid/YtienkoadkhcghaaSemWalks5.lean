/- Contracts of semver.compareInt, comparePrerelease, Compare: what each returns, as the plain functions of Sem tell. Condition: the texts are no longer than 2 to the power of 60. -/
import Derived.Test.YtienkoadkhcghaaSemWalks4
namespace Go.Proofs.Ytienkoadkhcghaa
open Go.RowKit

theorem bytesLess_less : ∀ x y : List UInt8, Op.bytesLess x y = Sem.less x y
  | _, [] => by rw [Op.bytesLess, Sem.less]
  | [], _ :: _ => by rw [Op.bytesLess, Sem.less]
  | a :: x, b :: y => by rw [Op.bytesLess, Sem.less, bytesLess_less x y]
theorem ret_int' {k : IntKind} {a b : Int} (h : a = b) : Ending.returned (.int k a) = .returned (.int k b) := by rw [h]

set_option maxHeartbeats 400000 in
theorem compareInt_any (x y : List UInt8) (w : World) (_ : x.length ≤ 1152921504606846976) (_ : y.length ≤ 1152921504606846976) :
    Calls Try.prog 39 #[str x, str y] w fun e w' => e = .returned (.int .i64 (Sem.cmpInt x y)) ∧ w = w' := by
  by_cases he : x = y
  · subst he
    have h1 : (x == x) = true := by simp
    go_enter Try.func39, Try.ntmps39
    go_wp2
    go_ret
    exact ⟨ret_int' (by simp [Sem.cmpInt]), rfl⟩
  · have h1 : (x == y) = false := by simp [he]
    have HF : Hid (Sem.cmpInt x y = if x.length < y.length then -1 else if y.length < x.length then 1 else if Sem.less x y then -1 else 1) := Lib.hid (by unfold Sem.cmpInt; rw [if_neg he])
    have HE := Lib.hid he
    clear he
    by_cases h2 : x.length < y.length
    · go_enter Try.func39, Try.ntmps39
      go_wp2
      go_ret
      exact ⟨ret_int' (by rw [HF.out, if_pos h2]), rfl⟩
    · by_cases h3 : y.length < x.length
      · go_enter Try.func39, Try.ntmps39
        go_wp2
        go_ret
        exact ⟨ret_int' (by rw [HF.out, if_neg h2, if_pos h3]), rfl⟩
      · cases h4 : Sem.less x y with
        | true =>
          have h5 : Op.bytesLess x y = true := by rw [bytesLess_less, h4]
          have H4 := Lib.hid h4
          clear h4
          go_enter Try.func39, Try.ntmps39
          go_wp2
          go_ret
          exact ⟨ret_int' (by rw [HF.out, if_neg h2, if_neg h3, if_pos H4.out]), rfl⟩
        | false =>
          have h5 : Op.bytesLess x y = false := by rw [bytesLess_less, h4]
          have H4 := Lib.hid h4
          clear h4
          go_enter Try.func39, Try.ntmps39
          go_wp2
          go_ret
          exact ⟨ret_int' (by rw [HF.out, if_neg h2, if_neg h3, if_neg (by rw [H4.out]; simp)]), rfl⟩

/-- what a round of comparePrerelease comes to: x and y begin with their signs -/
theorem ids_cons (l : List UInt8) : Sem.ids l = l.takeWhile (· != 46) :: (if l.dropWhile (· != 46) = [] then [] else Sem.ids ((l.dropWhile (· != 46)).drop 1)) := by
  induction l with
  | nil => simp [Sem.ids]
  | cons c r ih =>
    by_cases h : c = 46
    · subst h
      simp [Sem.ids]
    · have hp : (c != 46) = true := by simp [h]
      rw [Sem.ids, if_neg h, ih, List.takeWhile_cons_of_pos (p := fun x => x != 46) hp, List.dropWhile_cons_of_pos (p := fun x => x != 46) hp]

/-- the rest of a comparison: both texts empty or with their sign ahead -/
def restCmp (x y : List UInt8) : Int :=
  if x = [] then (if y = [] then 0 else -1) else if y = [] then 1 else Sem.cmpIds (Sem.ids (x.drop 1)) (Sem.ids (y.drop 1))

theorem restCmp_eq {x y : List UInt8} (hx : x ≠ []) (hy : y ≠ []) (h : (x.drop 1).takeWhile (· != 46) = (y.drop 1).takeWhile (· != 46)) :
    restCmp x y = restCmp ((x.drop 1).dropWhile (· != 46)) ((y.drop 1).dropWhile (· != 46)) := by
  unfold restCmp
  rw [if_neg hx, if_neg hy, ids_cons (x.drop 1), ids_cons (y.drop 1), Sem.cmpIds, if_pos h]
  split <;> split <;> simp [Sem.cmpIds]
  all_goals (rw [ids_cons]; simp [Sem.cmpIds])
theorem restCmp_ne {x y : List UInt8} (hx : x ≠ []) (hy : y ≠ []) (h : (x.drop 1).takeWhile (· != 46) ≠ (y.drop 1).takeWhile (· != 46)) :
    restCmp x y = Sem.cmpId ((x.drop 1).takeWhile (· != 46)) ((y.drop 1).takeWhile (· != 46)) := by
  unfold restCmp
  rw [if_neg hx, if_neg hy, ids_cons (x.drop 1), ids_cons (y.drop 1), Sem.cmpIds, if_neg h]

/-- empty, or with the sign s ahead -/
def Signed (s : UInt8) (x : List UInt8) : Prop := x = [] ∨ x.head? = some s
theorem signed_rest (l : List UInt8) : Signed 46 (l.dropWhile (· != 46)) := by
  induction l with
  | nil => exact .inl rfl
  | cons c r ih =>
    by_cases h : c = 46
    · subst h; right; simp
    · rw [List.dropWhile_cons_of_pos (p := fun x => x != 46) (by simp [h])]; exact ih
theorem rest_ne {a b : List UInt8} (h : a ≠ b) (he : a.takeWhile (· != 46) = b.takeWhile (· != 46)) : a.dropWhile (· != 46) ≠ b.dropWhile (· != 46) := fun k => h (by
  rw [← List.takeWhile_append_dropWhile (p := fun x => x != 46) (l := a), ← List.takeWhile_append_dropWhile (p := fun x => x != 46) (l := b), he, k])
theorem rest_len (l : List UInt8) : (l.dropWhile (· != 46)).length ≤ l.length := by
  have := congrArg List.length (List.takeWhile_append_dropWhile (p := fun x => x != 46) (l := l))
  rw [List.length_append] at this
  omega
theorem id_len (l : List UInt8) : (l.takeWhile (· != 46)).length ≤ l.length := by
  have := congrArg List.length (List.takeWhile_append_dropWhile (p := fun x => x != 46) (l := l))
  rw [List.length_append] at this
  omega

set_option maxHeartbeats 2000000 in
set_option maxRecDepth 100000 in
theorem comparePre_any (x y : List UInt8) (w : World) (hx : x.length ≤ 1152921504606846976) (hy : y.length ≤ 1152921504606846976) (hsx : Signed 45 x) (hsy : Signed 45 y) :
    Calls Try.prog 40 #[str x, str y] w fun e w' => e = .returned (.int .i64 (Sem.cmpPre x y)) ∧ ∃ n, w' = w.drewN n := by
  by_cases he : x = y
  · subst he
    have h1 : (x == x) = true := by simp
    go_enter Try.func40, Try.ntmps40
    go_wp2
    go_ret
    exact ⟨ret_int' (by simp [Sem.cmpPre]), same_drew _⟩
  · have h1 : (x == y) = false := by simp [he]
    have HE := Lib.hid he
    by_cases hx0 : x = []
    · subst hx0
      go_enter Try.func40, Try.ntmps40
      go_wp2
      go_ret
      exact ⟨ret_int' (by simp [Sem.cmpPre, he]), same_drew _⟩
    · by_cases hy0 : y = []
      · subst hy0
        have h2 : x.isEmpty = false := by cases x with | nil => exact absurd rfl hx0 | cons => rfl
        clear he hx0
        go_enter Try.func40, Try.ntmps40
        go_wp2
        go_ret
        exact ⟨ret_int' (by simp [Sem.cmpPre, HE.out]), same_drew _⟩
      · have h2 : x.isEmpty = false := by cases x with | nil => exact absurd rfl hx0 | cons => rfl
        have h3 : y.isEmpty = false := by cases y with | nil => exact absurd rfl hy0 | cons => rfl
        have hfin : Sem.cmpPre x y = restCmp x y := by unfold Sem.cmpPre restCmp; rw [if_neg he, if_neg hx0, if_neg hy0, if_neg hx0, if_neg hy0]
        have HF := Lib.hid hfin
        have hs0 : Hid (∃ s, Signed s x ∧ Signed s y) := Lib.hid ⟨45, hsx, hsy⟩
        clear he hx0 hy0 hfin hsx hsy
        go_enter Try.func40, Try.ntmps40
        go_wp2
        go_loopw [0, 1] (fun a b wr => ∃ (x' y' : List UInt8) (n : Nat), a = str x' ∧ b = str y' ∧ wr = w.drewN n ∧ x'.length ≤ x.length ∧ y'.length ≤ y.length ∧ Hid (restCmp x' y' = restCmp x y) ∧ Hid (x' ≠ y') ∧ Hid (∃ s, Signed s x' ∧ Signed s y')) (fun a _ _ => match a with | .string s => s.size | _ => 0)
        case atStart => exact ⟨x, y, 0, rfl, rfl, rfl, by omega, by omega, Lib.hid rfl, HE, hs0⟩
        case round =>
          obtain ⟨x', y', n, rfl, rfl, rfl, hxl, hyl, hr, hne, hsg⟩ := hrel
          rcases x' with _ | ⟨s, a⟩
          · have hyn : y' ≠ [] := fun e => hne.out e.symm
            have HYN := Lib.hid hyn
            clear hyn
            go_wp2
            go_ret
            exact ⟨ret_int' (by rw [HF.out, ← hr.out]; simp [restCmp, HYN.out]), _, rfl⟩
          · rcases y' with _ | ⟨t, b⟩
            · go_wp2
              go_ret
              exact ⟨ret_int' (by rw [HF.out, ← hr.out]; simp [restCmp]), _, rfl⟩
            · have hst : s = t := by
                obtain ⟨s0, h1, h2⟩ := hsg.out
                have e1 : s = s0 := by rcases h1 with h | h <;> simp at h; exact h
                have e2 : t = s0 := by rcases h2 with h | h <;> simp at h; exact h
                rw [e1, e2]
              have hab : a ≠ b := fun e => hne.out (by rw [hst, e])
              have hla : a.length + 1 ≤ x.length := hxl
              have hlb : b.length + 1 ≤ y.length := hyl
              have he1 : (s :: a : List UInt8).isEmpty = false := rfl
              have he2 : (t :: b : List UInt8).isEmpty = false := rfl
              have hd1 : (s :: a : List UInt8).drop 1 = a := rfl
              have hd2 : (t :: b : List UInt8).drop 1 = b := rfl
              have hn1 : (s :: a : List UInt8).length = a.length + 1 := rfl
              have hn2 : (t :: b : List UInt8).length = b.length + 1 := rfl
              have hp1 : 0 < (s :: a : List UInt8).length := by simp
              have hp2 : 0 < (t :: b : List UInt8).length := by simp
              have hc1 : (s :: a : List UInt8) ≠ [] := by simp
              have hc2 : (t :: b : List UInt8) ≠ [] := by simp
              have hre := @restCmp_eq (s :: a) (t :: b) hc1 hc2
              have hrn := @restCmp_ne (s :: a) (t :: b) hc1 hc2
              rw [hd1, hd2] at hre hrn
              generalize s :: a = X at *
              generalize t :: b = Y at *
              have HRE := Lib.hid hre
              have HRN := Lib.hid hrn
              have HD1 := Lib.hid hd1
              have HD2 := Lib.hid hd2
              have HN1 := Lib.hid hn1
              have HN2 := Lib.hid hn2
              have HAB := Lib.hid hab
              have hra := rest_len a
              have hrb := rest_len b
              have hia := id_len a
              have hib := id_len b
              have hsga := signed_rest a
              have hsgb := signed_rest b
              have hrne := @rest_ne a b hab
              have HSG : Hid (∃ s, Signed s (a.dropWhile (· != 46)) ∧ Signed s (b.dropWhile (· != 46))) := Lib.hid ⟨46, hsga, hsgb⟩
              have HRNE := Lib.hid hrne
              have ha1 := nextIdent_any a
              have hb1 := nextIdent_any b
              generalize hda : a.takeWhile (· != 46) = da at *
              generalize hdb : b.takeWhile (· != 46) = db at *
              generalize a.dropWhile (· != 46) = ra at *
              generalize b.dropWhile (· != 46) = rb at *
              have HA1 := Lib.hid ha1
              have HB1 := Lib.hid hb1
              clear hre hrn hd1 hd2 hn1 hn2 hab hsga hsgb hrne ha1 hb1 hda hdb hc1 hc2 hst hsg hne
              go_wp2_with fail
              rw [ext_str, HD1.out, List.take_of_length_le (by have := HN1.out; omega)]
              rw [ext_str, HD2.out, List.take_of_length_le (by have := HN2.out; omega)]
              refine (HA1.out _ (by omega)).mono ?_
              rintro e w' ⟨rfl, n1, rfl⟩
              go_wp2_with fail
              refine (HB1.out _ (by omega)).mono ?_
              rintro e w' ⟨rfl, n2, rfl⟩
              by_cases hdd : da = db
              · have hdb : (da == db) = true := by simp [hdd]
                have hr' := HRE.out hdd
                have hn' := HRNE.out hdd
                have HR' := Lib.hid hr'
                have HN' := Lib.hid hn'
                clear hr' hn' hdd
                go_wp2_with fail
                go_roundw
                case rel => exact ⟨ra, rb, _, rfl, rfl, rfl, by omega, by omega, Lib.hid (HR'.out.symm.trans hr.out), HN', HSG⟩
                case measure => show ra.length < X.length; have := HN1.out; omega
              · have hdb : (da == db) = false := by simp [hdd]
                have hr' := HRN.out hdd
                have HR' := Lib.hid hr'
                have HDD := Lib.hid hdd
                clear hr' hdd
                have hcv : ∀ v, Sem.cmpId da db = v → Ending.returned (.int .i64 v) = .returned (.int .i64 (Sem.cmpPre x y)) := fun v h => by
                  rw [HF.out, ← hr.out, HR'.out, h]
                have HCV := Lib.hid hcv
                have hcd : Sem.cmpId da db = if Sem.isNum da != Sem.isNum db then (if Sem.isNum da then -1 else 1) else if Sem.isNum da && decide (da.length < db.length) then -1 else if Sem.isNum da && decide (db.length < da.length) then 1 else if Sem.less da db then -1 else 1 := by
                  unfold Sem.cmpId; rw [if_neg HDD.out]
                have HCD := Lib.hid hcd
                clear hcv hcd
                cases hna : Sem.isNum da with
                | true =>
                  cases hnb : Sem.isNum db with
                  | true =>
                    by_cases hl1 : da.length < db.length
                    · go_wp2_with (go_at_call 52; refine (isNum_any _ _ (by omega)).mono ?_; rintro e w' ⟨rfl, rfl⟩)
                      go_ret
                      exact ⟨HCV.out _ (by rw [HCD.out, hna, hnb]; simp [hl1]), _, rfl⟩
                    · by_cases hl2 : db.length < da.length
                      · go_wp2_with (go_at_call 52; refine (isNum_any _ _ (by omega)).mono ?_; rintro e w' ⟨rfl, rfl⟩)
                        go_ret
                        exact ⟨HCV.out _ (by rw [HCD.out, hna, hnb]; simp [hl1, hl2]), _, rfl⟩
                      · cases h4 : Sem.less da db with
                        | true =>
                          have h5 : Op.bytesLess da db = true := by rw [bytesLess_less, h4]
                          go_wp2_with (go_at_call 52; refine (isNum_any _ _ (by omega)).mono ?_; rintro e w' ⟨rfl, rfl⟩)
                          go_ret
                          exact ⟨HCV.out _ (by rw [HCD.out, hna, hnb]; simp [hl1, hl2, h4]), _, rfl⟩
                        | false =>
                          have h5 : Op.bytesLess da db = false := by rw [bytesLess_less, h4]
                          go_wp2_with (go_at_call 52; refine (isNum_any _ _ (by omega)).mono ?_; rintro e w' ⟨rfl, rfl⟩)
                          go_ret
                          exact ⟨HCV.out _ (by rw [HCD.out, hna, hnb]; simp [hl1, hl2, h4]), _, rfl⟩
                  | false =>
                    go_wp2_with (go_at_call 52; refine (isNum_any _ _ (by omega)).mono ?_; rintro e w' ⟨rfl, rfl⟩)
                    go_ret
                    exact ⟨HCV.out _ (by rw [HCD.out, hna, hnb]; simp), _, rfl⟩
                | false =>
                  cases hnb : Sem.isNum db with
                  | true =>
                    go_wp2_with (go_at_call 52; refine (isNum_any _ _ (by omega)).mono ?_; rintro e w' ⟨rfl, rfl⟩)
                    go_ret
                    exact ⟨HCV.out _ (by rw [HCD.out, hna, hnb]; simp), _, rfl⟩
                  | false =>
                    cases h4 : Sem.less da db with
                    | true =>
                      have h5 : Op.bytesLess da db = true := by rw [bytesLess_less, h4]
                      go_wp2_with (go_at_call 52; refine (isNum_any _ _ (by omega)).mono ?_; rintro e w' ⟨rfl, rfl⟩)
                      go_ret
                      exact ⟨HCV.out _ (by rw [HCD.out, hna, hnb]; simp [h4]), _, rfl⟩
                    | false =>
                      have h5 : Op.bytesLess da db = false := by rw [bytesLess_less, h4]
                      go_wp2_with (go_at_call 52; refine (isNum_any _ _ (by omega)).mono ?_; rintro e w' ⟨rfl, rfl⟩)
                      go_ret
                      exact ⟨HCV.out _ (by rw [HCD.out, hna, hnb]; simp [h4]), _, rfl⟩

end Go.Proofs.Ytienkoadkhcghaa
