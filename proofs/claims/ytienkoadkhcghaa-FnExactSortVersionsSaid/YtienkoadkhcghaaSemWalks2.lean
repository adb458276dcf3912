/- Contracts of semver.isIdentChar, isNum, isBadNum, nextIdent, parsePrerelease, parseBuild: what each returns, as the plain functions of Sem tell. Condition: the text is no longer than 2 to the power of 60. -/
import Derived.Test.YtienkoadkhcghaaSemWalks1
namespace Go.Proofs.Ytienkoadkhcghaa
open Go.RowKit

theorem ret_bool {a b : Bool} (h : a = b) : Ending.returned (.bool a) = .returned (.bool b) := by rw [h]
theorem same_drew (w : World) : ∃ n, w = w.drewN n := ⟨0, rfl⟩

set_option maxHeartbeats 400000 in
theorem isIdentChar_any (c : Int) (w : World) (h0 : 0 ≤ c) (h1 : c ≤ 255) :
    Calls Try.prog 64 #[.int .u8 c] w fun e w' => e = .returned (.bool (Sem.idB c)) ∧ w = w' := by
  go_enter Try.func64, Try.ntmps64
  go_wp2
  all_goals go_ret
  all_goals refine ⟨ret_bool ?_, rfl⟩
  all_goals (rw [Bool.eq_iff_iff]; unfold Sem.idB; simp; try omega)

set_option maxHeartbeats 400000 in
theorem isNum_any (l : List UInt8) (w : World) (hl : l.length ≤ 1152921504606846976) :
    Calls Try.prog 52 #[str l] w fun e w' => e = .returned (.bool (Sem.isNum l)) ∧ w = w' := by
  have hb := get_bl l
  go_enter Try.func52, Try.ntmps52
  go_wp2
  go_loop [3] (fun a => ∃ k : Nat, a = .int .i64 k ∧ k ≤ l.length ∧ Sem.Inv Sem.isDig l k) (fun a => l.length - (intOf a).toNat)
  case atStart => exact ⟨0, rfl, by omega, Sem.Inv.zero _ _⟩
  case round =>
    obtain ⟨k, rfl, hkl, hinv⟩ := hrel
    have hlo := Sem.bt_lo l k
    have hhi := Sem.bt_hi l k
    by_cases hlt : k < l.length
    · by_cases hdk : 48 ≤ Sem.bt l k ∧ Sem.bt l k ≤ 57
      · have hs := hinv.step hlt ((Sem.isDig_at hlt).2 hdk)
        obtain ⟨hd1, hd2⟩ := hdk
        clear hinv
        go_wp2
        go_round
        case rel => exact ⟨k + 1, by go_num, by omega, hs⟩
        case measure => simp [intOf]; omega
      · have hs := hinv.stop (fun hi => by have := (Sem.isDig_at hi); simpa using (fun e => hdk (this.1 e)))
        have hn : Sem.isNum l = false := by rw [Sem.isNum_stop hkl hs.1]; simp; omega
        have HN := Lib.hid hn
        have hke : ((k : Int) == (l.length : Int)) = false := by rw [beq_eq_false_iff_ne]; omega
        clear hinv hs hn
        by_cases hd1 : 48 ≤ Sem.bt l k
        · have hd2 : 57 < Sem.bt l k := by omega
          clear hdk
          go_wp2
          go_ret
          exact ⟨ret_bool HN.out.symm, rfl⟩
        · clear hdk
          go_wp2
          go_ret
          exact ⟨ret_bool HN.out.symm, rfl⟩
    · have hs := hinv.stop (fun hi => absurd hi hlt)
      obtain rfl : k = l.length := by omega
      have hn : Sem.isNum l = true := by rw [Sem.isNum_stop hkl hs.1]; simp
      have HN := Lib.hid hn
      have hke : ((l.length : Int) == (l.length : Int)) = true := by simp
      clear hinv hs hn
      go_wp2
      go_ret
      exact ⟨ret_bool HN.out.symm, rfl⟩

set_option maxHeartbeats 400000 in
theorem isBadNum_any (l : List UInt8) (w : World) (hl : l.length ≤ 1152921504606846976) :
    Calls Try.prog 65 #[str l] w fun e w' => e = .returned (.bool (Sem.isBad l)) ∧ w = w' := by
  have hb := get_bl l
  have hb0 := Sem.bt_lo l 0
  have hb1 := Sem.bt_hi l 0
  have HB := Lib.hid (Sem.isBad_eq l)
  go_enter Try.func65, Try.ntmps65
  go_wp2
  go_loop [3] (fun a => ∃ k : Nat, a = .int .i64 k ∧ k ≤ l.length ∧ Sem.Inv Sem.isDig l k) (fun a => l.length - (intOf a).toNat)
  case atStart => exact ⟨0, rfl, by omega, Sem.Inv.zero _ _⟩
  case round =>
    obtain ⟨k, rfl, hkl, hinv⟩ := hrel
    have hlo := Sem.bt_lo l k
    have hhi := Sem.bt_hi l k
    by_cases hlt : k < l.length
    · by_cases hdk : 48 ≤ Sem.bt l k ∧ Sem.bt l k ≤ 57
      · have hs := hinv.step hlt ((Sem.isDig_at hlt).2 hdk)
        obtain ⟨hd1, hd2⟩ := hdk
        clear hinv
        go_wp2
        go_round
        case rel => exact ⟨k + 1, by go_num, by omega, hs⟩
        case measure => simp [intOf]; omega
      · have hs := hinv.stop (fun hi => by have := (Sem.isDig_at hi); simpa using (fun e => hdk (this.1 e)))
        have hn : Sem.isNum l = false := by rw [Sem.isNum_stop hkl hs.1]; simp; omega
        have HN := Lib.hid hn
        have hke : ((k : Int) == (l.length : Int)) = false := by rw [beq_eq_false_iff_ne]; omega
        clear hinv hs hn
        by_cases hd1 : 48 ≤ Sem.bt l k
        · have hd2 : 57 < Sem.bt l k := by omega
          clear hdk
          go_wp2
          go_ret
          exact ⟨ret_bool (by rw [HB.out, HN.out]; rfl), rfl⟩
        · clear hdk
          go_wp2
          go_ret
          exact ⟨ret_bool (by rw [HB.out, HN.out]; rfl), rfl⟩
    · have hs := hinv.stop (fun hi => absurd hi hlt)
      obtain rfl : k = l.length := by omega
      have HN := Lib.hid (Sem.isNum_stop hkl hs.1)
      have hke : ((l.length : Int) == (l.length : Int)) = true := by simp
      clear hinv hs
      by_cases h1 : 1 < l.length
      · by_cases hz : Sem.bt l 0 = 48
        · have hzb : (Sem.bt l 0 == 48) = true := by simp [hz]
          have HZ := Lib.hid hz
          clear hz
          go_wp2
          go_ret
          exact ⟨ret_bool (by rw [HB.out, HN.out, HZ.out]; simp [h1]), rfl⟩
        · have hzb : (Sem.bt l 0 == 48) = false := by simp [hz]
          have HZ := Lib.hid hz
          clear hz
          go_wp2
          go_ret
          exact ⟨ret_bool (by rw [HB.out, HN.out]; simp [HZ.out]), rfl⟩
      · go_wp2
        go_ret
        exact ⟨ret_bool (by rw [HB.out, HN.out]; simp; omega), rfl⟩

theorem ret_ext2 {l t r : List UInt8} {k : Nat} (h1 : l.take k = t) (h2 : l.drop k = r) :
    Ending.returned (.tuple #[.string ((ByteArray.mk l.toArray).extract 0 k), .string ((ByteArray.mk l.toArray).extract k l.length)]) = .returned (.tuple #[str t, str r]) := by
  rw [ext_str, ext_str, ← h1, ← h2, List.take_of_length_le (l := l.drop k) (by simp)]
  simp

set_option maxHeartbeats 400000 in
theorem nextIdent_any (l : List UInt8) (w : World) (hl : l.length ≤ 1152921504606846976) :
    Calls Try.prog 51 #[str l] w fun e w' => e = .returned (.tuple #[str (l.takeWhile (· != 46)), str (l.dropWhile (· != 46))]) ∧ ∃ n, w' = w.drewN n := by
  have hb := get_bl l
  generalize hp : (fun c : UInt8 => c != 46) = p
  have hpt : ∀ (k : Nat) (h : k < l.length), p l[k] = true ↔ ¬ Sem.bt l k = 46 := fun k h => by
    have := Sem.eq_at h 46
    rw [← hp]; simp; rw [this]; rfl
  have HP := Lib.hid hpt
  clear hpt
  go_enter Try.func51, Try.ntmps51
  go_wp2
  go_loop [4] (fun a => ∃ k : Nat, a = .int .i64 k ∧ k ≤ l.length ∧ Sem.Inv p l k) (fun a => l.length - (intOf a).toNat)
  case atStart => exact ⟨0, rfl, by omega, Sem.Inv.zero _ _⟩
  case round =>
    obtain ⟨k, rfl, hkl, hinv⟩ := hrel
    have hlo := Sem.bt_lo l k
    have hhi := Sem.bt_hi l k
    by_cases hlt : k < l.length
    · by_cases hdk : Sem.bt l k = 46
      · have hs := hinv.stop (fun hi => by have := HP.out _ hi; simpa using (fun e => this.1 e hdk))
        have HS := Lib.hid hs
        have hdb : (Sem.bt l k != 46) = false := by simp [hdk]
        clear hinv hs hdk
        go_wp2
        go_quiet (fail)
        go_wp2
        go_ret2
        exact ⟨ret_ext2 HS.out.1.symm HS.out.2.symm, _, rfl⟩
      · have hs := hinv.step hlt ((HP.out _ hlt).2 hdk)
        have hdb : (Sem.bt l k != 46) = true := by simp [hdk]
        clear hinv hdk
        go_wp2
        go_round
        case rel => exact ⟨k + 1, by go_num, by omega, hs⟩
        case measure => simp [intOf]; omega
    · have hs := hinv.stop (fun hi => absurd hi hlt)
      have HS := Lib.hid hs
      clear hinv hs
      go_wp2
      go_quiet (fail)
      go_wp2
      go_ret2
      exact ⟨ret_ext2 HS.out.1.symm HS.out.2.symm, _, rfl⟩

/-- what the three parsers return -/
def tup3 : Option (List UInt8 × List UInt8) → Value
  | some (t, r) => .tuple #[str t, str r, .bool true]
  | none => .tuple #[str [], str [], .bool false]
theorem parseInt_any (l : List UInt8) (w : World) (hl : l.length ≤ 1152921504606846976) :
    Calls Try.prog 44 #[str l] w fun e w' => e = .returned (tup3 (Sem.parseInt l)) ∧ ∃ n, w' = w.drewN n := by
  cases h : Sem.parseInt l with
  | none => exact (parseInt_no l w hl h).mono fun e w' ⟨he, hw⟩ => ⟨he, 0, hw.symm⟩
  | some x => exact parseInt_ok l x.1 x.2 w hl h

end Go.Proofs.Ytienkoadkhcghaa
