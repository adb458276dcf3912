/- Contracts of semver.parseInt, isIdentChar, isBadNum, isNum, nextIdent: what each returns, as the plain functions of Sem tell. Condition: the text is no longer than 2 to the power of 60. -/
import Derived.Test.YtienkoadkhcghaaRows
import Derived.Test.YtienkoadkhcghaaSemInv
import Derived.WalkKit
import Derived.WalkSpells
import Derived.WalkLawsBesides
import Derived.Lib.Hide
import Derived.BigQuiet
import Derived.Deep.QuietTactic
namespace Go.Proofs.Ytienkoadkhcghaa
open Go.RowKit

/-- a text as a value -/
abbrev str (l : List UInt8) : Value := .string ⟨l.toArray⟩

theorem get_bl (l : List UInt8) : ∀ (n : Nat) (h : n < (ByteArray.mk l.toArray).size), (((ByteArray.mk l.toArray)[n]'h).toNat : Int) = Sem.bt l n := fun n h => by
  have h' : n < l.length := h
  rw [Sem.bt_at h']
  rfl
theorem str_congr {a b : List UInt8} (h : a = b) : str a = str b := by rw [h]
theorem ret_str3 {a b a' b' : List UInt8} {c : Bool} (h1 : a = a') (h2 : b = b') : Ending.returned (.tuple #[str a, str b, .bool c]) = .returned (.tuple #[str a', str b', .bool c]) := by rw [h1, h2]

theorem ext_str (l : List UInt8) (a b : Nat) : Value.string ((ByteArray.mk l.toArray).extract a b) = str ((l.drop a).take (b - a)) := by
  rw [ByteArray.extract_mk]
theorem ret_ext {l t r : List UInt8} {k : Nat} (h1 : l.take k = t) (h2 : l.drop k = r) :
    Ending.returned (.tuple #[.string ((ByteArray.mk l.toArray).extract 0 k), .string ((ByteArray.mk l.toArray).extract k l.length), .bool true]) = .returned (.tuple #[str t, str r, .bool true]) := by
  rw [ext_str, ext_str, ← h1, ← h2, List.take_of_length_le (l := l.drop k) (by simp)]
  simp

set_option maxHeartbeats 400000 in
theorem parseInt_ok (l t r : List UInt8) (w : World) (hl : l.length ≤ 1152921504606846976) (h : Sem.parseInt l = some (t, r)) :
    Calls Try.prog 44 #[str l] w fun e w' => e = .returned (.tuple #[str t, str r, .bool true]) ∧ ∃ n, w' = w.drewN n := by
  have hne : 0 < l.length := by cases l with | nil => simp [Sem.parseInt] at h | cons => simp
  obtain ⟨hd, hz, ht, hr⟩ : Sem.isDig l[0] = true ∧ (l[0] = 48 → (l.takeWhile Sem.isDig).length = 1) ∧ l.takeWhile Sem.isDig = t ∧ l.dropWhile Sem.isDig = r := by
    cases l with
    | nil => simp at hne
    | cons c x =>
      simp only [Sem.parseInt] at h
      split at h
      · rename_i hc
        split at h
        · cases h
        · rename_i hn
          simp only [Option.some.injEq, Prod.mk.injEq] at h
          exact ⟨hc, fun e => by simp at e; simp [e] at hn; rw [e]; exact hn, h.1, h.2⟩
      · cases h
  have h0 := (Sem.isDig_at hne).1 hd
  obtain ⟨hlo, hhi⟩ := h0
  have hi1 := (Sem.Inv.zero Sem.isDig l).step hne hd
  have hb := get_bl l
  have HZ := Lib.hid hz
  have HT := Lib.hid ht
  have HR := Lib.hid hr
  have he : l.isEmpty = false := by cases l with | nil => simp at hne | cons => rfl
  have he2 : (!l.isEmpty) = true := by simp [he]
  clear h hd hz ht hr
  go_enter Try.func44, Try.ntmps44
  go_wp2
  go_loop [5] (fun a => ∃ k : Nat, a = .int .i64 k ∧ 1 ≤ k ∧ k ≤ l.length ∧ Sem.Inv Sem.isDig l k) (fun a => l.length - (intOf a).toNat)
  case atStart => exact ⟨1, rfl, by omega, by omega, hi1⟩
  case round =>
    obtain ⟨k, rfl, hk1, hkl, hinv⟩ := hrel
    have hlo := Sem.bt_lo l k
    have hhi := Sem.bt_hi l k
    by_cases hlt : k < l.length
    · by_cases hdk : 48 ≤ Sem.bt l k ∧ Sem.bt l k ≤ 57
      · have hs := hinv.step hlt ((Sem.isDig_at hlt).2 hdk)
        obtain ⟨hd1, hd2⟩ := hdk
        clear hinv
        go_wp2
        go_round
        case rel => exact ⟨k + 1, by go_num, by omega, by omega, hs⟩
        case measure => simp [intOf]; omega
      · have hs := hinv.stop (fun hi => by have := (Sem.isDig_at hi); simpa using (fun e => hdk (this.1 e)))
        have HS := Lib.hid hs
        have hk0 : Sem.bt l 0 = 48 → k = 1 := fun e => by
          have := HZ.out ((Sem.eq_at hne 48).2 (by simpa using e))
          rw [hs.1, List.length_take] at this
          omega
        have HK := Lib.hid hk0
        clear hinv hs hk0
        by_cases hd1 : 48 ≤ Sem.bt l k
        · have hd2 : 57 < Sem.bt l k := by omega
          clear hdk
          go_wp2
          · exfalso
            rename_i h1 h2 _
            have := HK.out h1
            subst this
            simp at h2
          all_goals
            go_quiet (fail)
            go_wp2
            go_ret3
            exact ⟨ret_ext (HS.out.1.symm.trans HT.out) (HS.out.2.symm.trans HR.out), _, rfl⟩
        · clear hdk
          go_wp2
          · exfalso
            rename_i h1 h2 _
            have := HK.out h1
            subst this
            simp at h2
          all_goals
            go_quiet (fail)
            go_wp2
            go_ret3
            exact ⟨ret_ext (HS.out.1.symm.trans HT.out) (HS.out.2.symm.trans HR.out), _, rfl⟩
    · have hs := hinv.stop (fun hi => absurd hi hlt)
      have HS := Lib.hid hs
      have hk0 : Sem.bt l 0 = 48 → k = 1 := fun e => by
        have := HZ.out ((Sem.eq_at hne 48).2 (by simpa using e))
        rw [hs.1, List.length_take] at this
        omega
      have HK := Lib.hid hk0
      clear hinv hs hk0
      go_wp2
      · exfalso
        rename_i h1 h2 _
        have := HK.out h1
        subst this
        simp at h2
      all_goals
        go_quiet (fail)
        go_wp2
        go_ret3
        exact ⟨ret_ext (HS.out.1.symm.trans HT.out) (HS.out.2.symm.trans HR.out), _, rfl⟩

set_option maxHeartbeats 400000 in
theorem parseInt_no (l : List UInt8) (w : World) (hl : l.length ≤ 1152921504606846976) (h : Sem.parseInt l = none) :
    Calls Try.prog 44 #[str l] w fun e w' => e = .returned (.tuple #[str [], str [], .bool false]) ∧ w = w' := by
  cases l with
  | nil =>
    go_enter Try.func44, Try.ntmps44
    go_wp2
    go_ret3
    exact ⟨rfl, rfl⟩
  | cons c x =>
    generalize hL : c :: x = l at *
    have hne : 0 < l.length := by rw [← hL]; simp
    have hb := get_bl l
    have he : l.isEmpty = false := by rw [← hL]; rfl
    have he2 : (!l.isEmpty) = true := by simp [he]
    have hlo := Sem.bt_lo l 0
    have hhi := Sem.bt_hi l 0
    by_cases hd : Sem.isDig l[0] = true
    · have hz : l[0] = 48 ∧ (l.takeWhile Sem.isDig).length ≠ 1 := by
        subst hL
        have hc : Sem.isDig c = true := hd
        simp only [Sem.parseInt, hc, if_true] at h
        split at h
        · assumption
        · cases h
      have hi1 := (Sem.Inv.zero Sem.isDig l).step hne hd
      have h0 := (Sem.isDig_at hne).1 hd
      have h48 : Sem.bt l 0 = 48 := by simpa using (Sem.eq_at hne 48).1 hz.1
      obtain ⟨hlo, hhi⟩ := h0
      have HZ := Lib.hid hz.2
      have H48 := Lib.hid h48
      clear h48 hz hd h
      clear hL
      go_enter Try.func44, Try.ntmps44
      go_wp2
      go_loop [5] (fun a => ∃ k : Nat, a = .int .i64 k ∧ 1 ≤ k ∧ k ≤ l.length ∧ Sem.Inv Sem.isDig l k) (fun a => l.length - (intOf a).toNat)
      case atStart => exact ⟨1, rfl, by omega, by omega, hi1⟩
      case round =>
        obtain ⟨k, rfl, hk1, hkl, hinv⟩ := hrel
        have hlo := Sem.bt_lo l k
        have hhi := Sem.bt_hi l k
        by_cases hlt : k < l.length
        · by_cases hdk : 48 ≤ Sem.bt l k ∧ Sem.bt l k ≤ 57
          · have hs := hinv.step hlt ((Sem.isDig_at hlt).2 hdk)
            obtain ⟨hd1, hd2⟩ := hdk
            clear hinv
            go_wp2
            go_round
            case rel => exact ⟨k + 1, by go_num, by omega, by omega, hs⟩
            case measure => simp [intOf]; omega
          · have hs := hinv.stop (fun hi => by have := (Sem.isDig_at hi); simpa using (fun e => hdk (this.1 e)))
            have hk0 : k ≠ 1 := fun e => by
              have := HZ.out
              rw [hs.1, List.length_take] at this
              omega
            have hkb : ((k : Int) != 1) = true := by rw [bne_iff_ne]; omega
            have h48 := H48.out
            clear hinv hs
            by_cases hd1 : 48 ≤ Sem.bt l k
            · have hd2 : 57 < Sem.bt l k := by omega
              clear hdk
              go_wp2
              go_ret3
              exact ⟨rfl, rfl⟩
            · clear hdk
              go_wp2
              go_ret3
              exact ⟨rfl, rfl⟩
        · have hs := hinv.stop (fun hi => absurd hi hlt)
          have hk0 : k ≠ 1 := fun e => by
            have := HZ.out
            rw [hs.1, List.length_take] at this
            omega
          have hkb : ((k : Int) != 1) = true := by rw [bne_iff_ne]; omega
          have h48 := H48.out
          clear hinv hs
          go_wp2
          go_ret3
          exact ⟨rfl, rfl⟩
    · have hn : ¬ (48 ≤ Sem.bt l 0 ∧ Sem.bt l 0 ≤ 57) := fun e => hd ((Sem.isDig_at hne).2 e)
      clear h hd hL
      by_cases hd1 : 48 ≤ Sem.bt l 0
      · have hd2 : 57 < Sem.bt l 0 := by omega
        clear hn
        go_enter Try.func44, Try.ntmps44
        go_wp2
        go_ret3
        exact ⟨rfl, rfl⟩
      · clear hn
        go_enter Try.func44, Try.ntmps44
        go_wp2
        go_ret3
        exact ⟨rfl, rfl⟩
end Go.Proofs.Ytienkoadkhcghaa
