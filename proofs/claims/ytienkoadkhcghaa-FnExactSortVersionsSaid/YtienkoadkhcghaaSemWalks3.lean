/- Contracts of semver.parsePrerelease and parseBuild (of texts that begin with their sign): what each returns, as the plain functions of Sem tell. Condition: the text is no longer than 2 to the power of 60. -/
import Derived.Test.YtienkoadkhcghaaSemWalks2
namespace Go.Proofs.Ytienkoadkhcghaa
open Go.RowKit

theorem drop_take_cons (c : UInt8) (r : List UInt8) {S K : Nat} (hS : 1 ≤ S) (hSK : S ≤ K) : ((c :: r).drop S).take (K - S) = (r.take (K - 1)).drop (S - 1) := by
  obtain ⟨s, rfl⟩ : ∃ s, S = s + 1 := ⟨S - 1, by omega⟩
  rw [List.drop_succ_cons, List.drop_take]
  congr 1
  omega
theorem cons_get (c : UInt8) (r : List UInt8) {K : Nat} (hK : 1 ≤ K) (h : K < (c :: r).length) : ∃ h' : K - 1 < r.length, (c :: r)[K] = r[K - 1] := by
  obtain ⟨k, rfl⟩ : ∃ k, K = k + 1 := ⟨K - 1, by omega⟩
  exact ⟨by simpa using h, rfl⟩
theorem ret_ext3 {l : List UInt8} {t r : List UInt8} {k : Nat} {o : Option (List UInt8 × List UInt8)} (ho : o = some (t, r)) (h1 : l.take k = t) (h2 : l.drop k = r) :
    Ending.returned (.tuple #[.string ((ByteArray.mk l.toArray).extract 0 k), .string ((ByteArray.mk l.toArray).extract k l.length), .bool true]) = .returned (tup3 o) := by
  rw [ho, ret_ext h1 h2]; rfl
theorem ret_ext4 {l : List UInt8} {o : Option (List UInt8 × List UInt8)} (ho : o = some (l, [])) :
    Ending.returned (.tuple #[.string ((ByteArray.mk l.toArray).extract 0 l.length), .string ByteArray.empty, .bool true]) = .returned (tup3 o) := by
  rw [ho, ext_str, List.take_of_length_le (by simp)]; rfl
theorem ret_none {o : Option (List UInt8 × List UInt8)} (ho : o = none) : Ending.returned (.tuple #[str [], str [], .bool false]) = .returned (tup3 o) := by rw [ho]; rfl

theorem parsePre_cons (r : List UInt8) : Sem.parsePre (45 :: r) = if Sem.chk true [] (r.takeWhile (· != 43)) then some (45 :: r.takeWhile (· != 43), r.dropWhile (· != 43)) else none := by simp [Sem.parsePre]
theorem parseBuild_cons (r : List UInt8) : Sem.parseBuild (43 :: r) = if Sem.chk false [] r then some (43 :: r, []) else none := by simp [Sem.parseBuild]

set_option maxHeartbeats 1000000 in
theorem parsePre_any (r : List UInt8) (w : World) (hl : (45 :: r : List UInt8).length ≤ 1152921504606846976) :
    Calls Try.prog 45 #[str (45 :: r)] w fun e w' => e = .returned (tup3 (Sem.parsePre (45 :: r))) ∧ ∃ n, w' = w.drewN n := by
  have hP := parsePre_cons r
  generalize hp : (fun c : UInt8 => c != 43) = p at hP
  have hpt : ∀ (k : Nat) (h : k < r.length), p r[k] = true ↔ ¬ r[k] = 43 := fun k h => by rw [← hp]; simp
  have h0 : Sem.bt (45 :: r) 0 = 45 := by simp [Sem.bt]
  have hget := fun (K : Nat) (hK : 1 ≤ K) (h : K < (45 :: r : List UInt8).length) => cons_get 45 r hK h
  have hdt := fun (S K : Nat) (hS : 1 ≤ S) (hSK : S ≤ K) => drop_take_cons 45 r hS hSK
  have htk : ∀ K, 1 ≤ K → (45 :: r : List UInt8).take K = 45 :: r.take (K - 1) := fun K hK => by
    obtain ⟨k, rfl⟩ : ∃ k, K = k + 1 := ⟨K - 1, by omega⟩
    rfl
  have hdk : ∀ K, 1 ≤ K → (45 :: r : List UInt8).drop K = r.drop (K - 1) := fun K hK => by
    obtain ⟨k, rfl⟩ : ∃ k, K = k + 1 := ⟨K - 1, by omega⟩
    rfl
  have hlen : (45 :: r : List UInt8).length = r.length + 1 := rfl
  have hne : 1 ≤ (45 :: r : List UInt8).length := by simp
  have he : (45 :: r : List UInt8).isEmpty = false := rfl
  generalize (45 :: r : List UInt8) = l at *
  generalize hbd : r.takeWhile p = body at *
  have HP := Lib.hid hP
  have HPT := Lib.hid hpt
  have HGET := Lib.hid hget
  have HDT := Lib.hid hdt
  have HTK := Lib.hid htk
  have HDK := Lib.hid hdk
  have HLEN := Lib.hid hlen
  have HBD := Lib.hid hbd
  have hb := get_bl l
  have h0b : (Sem.bt l 0 != 45) = false := by simp [h0]
  have he2 : (!l.isEmpty) = true := by simp [he]
  clear hP hpt hget hdt htk hdk hlen h0 hp hbd
  go_enter Try.func45, Try.ntmps45
  go_wp2
  go_loop [5, 6] (fun a b => ∃ K S : Nat, a = .int .i64 K ∧ b = .int .i64 S ∧ 1 ≤ K ∧ 1 ≤ S ∧ S ≤ K ∧ K ≤ l.length ∧ Sem.Inv p r (K - 1) ∧ Sem.CInv true body (K - 1) (S - 1)) (fun a _ => l.length - (intOf a).toNat)
  case atStart => exact ⟨1, 1, rfl, rfl, by omega, by omega, by omega, by omega, Sem.Inv.zero _ _, Sem.CInv.zero _ _⟩
  case round =>
    obtain ⟨K, S, rfl, rfl, hK1, hS1, hSK, hKl, hinv, hci⟩ := hrel
    have hlo := Sem.bt_lo l K
    have hhi := Sem.bt_hi l K
    by_cases hlt : K < l.length
    · obtain ⟨hk', hg⟩ := HGET.out _ hK1 hlt
      by_cases hplus : Sem.bt l K = 43
      · have hpb : (Sem.bt l K != 43) = false := by simp [hplus]
        have hr43 : r[K - 1] = 43 := by rw [← hg]; exact (Sem.eq_at hlt 43).2 hplus
        have hst := hinv.stop (fun hi => by have := HPT.out _ hi; simpa using (fun e => this.1 e hr43))
        rw [HBD.out] at hst
        have hbl : body.length = K - 1 := by rw [hst.1, List.length_take]; have := hinv.le; omega
        have hci2 : Sem.CInv true body body.length (S - 1) := by rw [hbl]; exact hci
        have hfc := hci2.stop
        have hx : body.drop (S - 1) = (l.drop S).take (K - S) := by rw [HDT.out _ _ hS1 hSK, hst.1]
        have hv1 := HTK.out K hK1
        rw [← hst.1] at hv1
        have hv2 := (HDK.out K hK1).trans hst.2.symm
        have HV1 := Lib.hid hv1
        have HV2 := Lib.hid hv2
        rw [hx] at hfc
        by_cases hSKe : S = K
        · subst hSKe
          have hse : ((S : Int) == (S : Int)) = true := by simp
          have hfin : Sem.parsePre l = none := by
            rw [HP.out, hfc]
            simp [Sem.wrong]
          have HF := Lib.hid hfin
          clear hplus hr43 hg hci hci2 hinv hfin hx hst hbl hfc hv1 hv2
          go_wp2
          go_ret3
          exact ⟨ret_none HF.out, same_drew _⟩
        · have hse : ((S : Int) == (K : Int)) = false := by rw [beq_eq_false_iff_ne]; omega
          have hxl : 0 < ((l.drop S).take (K - S)).length := by rw [List.length_take, List.length_drop]; omega
          have hxl2 : ((l.drop S).take (K - S)).length ≤ 1152921504606846976 := by rw [List.length_take, List.length_drop]; omega
          rw [Sem.wrong_of hxl] at hfc
          cases hbad : Sem.isBad ((l.drop S).take (K - S)) with
          | true =>
            have hfin : Sem.parsePre l = none := by
              rw [HP.out, hfc, hbad]
              simp
            have HF := Lib.hid hfin
            clear hplus hr43 hg hci hci2 hinv hfin hx hst hbl hfc hv1 hv2 hSKe
            go_wp2_with (go_at_call 65; rw [ext_str]; refine (isBadNum_any _ _ hxl2).mono ?_; rintro e w' ⟨rfl, rfl⟩)
            go_ret3
            exact ⟨ret_none HF.out, same_drew _⟩
          | false =>
            have hfin : Sem.parsePre l = some (45 :: body, r.dropWhile p) := by
              rw [HP.out, hfc, hbad]
              simp
            have HF := Lib.hid hfin
            clear hplus hr43 hg hci hci2 hinv hfin hx hst hbl hfc hv1 hv2 hSKe
            go_wp2_with (go_at_call 65; rw [ext_str]; refine (isBadNum_any _ _ hxl2).mono ?_; rintro e w' ⟨rfl, rfl⟩)
            go_quiet (fail)
            go_wp2
            go_ret3
            exact ⟨ret_ext3 HF.out HV1.out HV2.out, _, rfl⟩
      · have hpb : (Sem.bt l K != 43) = true := by simp [hplus]
        have hr43 : ¬ r[K - 1] = 43 := fun e => hplus (by rw [← hg] at e; exact (Sem.eq_at hlt 43).1 e)
        have hstep := hinv.step hk' ((HPT.out _ hk').2 hr43)
        obtain ⟨hkb, hgb⟩ := hinv.mem HBD.out hk' ((HPT.out _ hk').2 hr43)
        by_cases hdot : Sem.bt l K = 46
        · have hdb : (Sem.bt l K != 46) = false := by simp [hdot]
          have hde : (Sem.bt l K == 46) = true := by simp [hdot]
          have hid : Sem.idB (Sem.bt l K) = false := by rw [hdot]; decide
          have hr46 : body[K - 1] = 46 := by rw [hgb, ← hg]; exact (Sem.eq_at hlt 46).2 hdot
          by_cases hSKe : S = K
          · subst hSKe
            have hse : ((S : Int) == (S : Int)) = true := by simp
            have hfin : Sem.parsePre l = none := by
              rw [HP.out, hci.dot hkb hr46]
              simp [Sem.wrong]
            have HF := Lib.hid hfin
            clear hplus hdot hr43 hstep hgb hr46 hg hci hinv hfin
            go_wp2_with (go_at_call 64; refine (isIdentChar_any _ _ hlo hhi).mono ?_; rintro e w' ⟨rfl, rfl⟩)
            go_ret3
            exact ⟨ret_none HF.out, same_drew _⟩
          · have hse : ((S : Int) == (K : Int)) = false := by rw [beq_eq_false_iff_ne]; omega
            have hx : (body.take (K - 1)).drop (S - 1) = (l.drop S).take (K - S) := by rw [HDT.out _ _ hS1 hSK, ← HBD.out, Sem.take_pre hinv]
            have hxl : 0 < ((l.drop S).take (K - S)).length := by rw [List.length_take, List.length_drop]; omega
            have hxl2 : ((l.drop S).take (K - S)).length ≤ 1152921504606846976 := by rw [List.length_take, List.length_drop]; omega
            cases hbad : Sem.isBad ((l.drop S).take (K - S)) with
            | true =>
              have hfin : Sem.parsePre l = none := by
                rw [HP.out, hci.dot hkb hr46, hx, Sem.wrong_of hxl, hbad]
                simp
              have HF := Lib.hid hfin
              clear hplus hdot hr43 hstep hgb hr46 hg hci hinv hfin hx hSKe
              go_wp2_with (first | (go_at_call 64; refine (isIdentChar_any _ _ hlo hhi).mono ?_; rintro e w' ⟨rfl, rfl⟩) | (go_at_call 65; rw [ext_str]; refine (isBadNum_any _ _ hxl2).mono ?_; rintro e w' ⟨rfl, rfl⟩))
              go_ret3
              exact ⟨ret_none HF.out, same_drew _⟩
            | false =>
              have hci' := hci.next hkb hr46 (by rw [hx, Sem.wrong_of hxl, hbad]; rfl)
              clear hplus hdot hr43 hgb hr46 hg hci hinv hx hSKe
              go_wp2_with (first | (go_at_call 64; refine (isIdentChar_any _ _ hlo hhi).mono ?_; rintro e w' ⟨rfl, rfl⟩) | (go_at_call 65; rw [ext_str]; refine (isBadNum_any _ _ hxl2).mono ?_; rintro e w' ⟨rfl, rfl⟩))
              go_round
              case rel => exact ⟨K + 1, K + 1, by go_num, by go_num, by omega, by omega, by omega, by omega, by rw [show K + 1 - 1 = K - 1 + 1 by omega]; exact hstep, by rw [show K + 1 - 1 = K - 1 + 1 by omega]; exact hci'⟩
              case measure => simp [intOf]; omega
        · have hdb : (Sem.bt l K != 46) = true := by simp [hdot]
          have hde : (Sem.bt l K == 46) = false := by simp [hdot]
          have hr46 : ¬ body[K - 1] = 46 := fun e => hdot (by rw [hgb, ← hg] at e; exact (Sem.eq_at hlt 46).1 e)
          cases hid : Sem.idB (Sem.bt l K) with
          | true =>
            have hci' := hci.char hkb hr46 (by rw [hgb, ← hg, ← Sem.idB_at hlt]; exact hid)
            clear hplus hdot hr43 hgb hr46 hg hci hinv
            go_wp2_with (go_at_call 64; refine (isIdentChar_any _ _ hlo hhi).mono ?_; rintro e w' ⟨rfl, rfl⟩)
            go_round
            case rel => exact ⟨K + 1, S, by go_num, rfl, by omega, by omega, by omega, by omega, by rw [show K + 1 - 1 = K - 1 + 1 by omega]; exact hstep, by rw [show K + 1 - 1 = K - 1 + 1 by omega]; exact hci'⟩
            case measure => simp [intOf]; omega
          | false =>
            have hfin : Sem.parsePre l = none := by rw [HP.out, hci.bad hkb hr46 (by rw [hgb, ← hg, ← Sem.idB_at hlt]; exact hid)]; rfl
            have HF := Lib.hid hfin
            clear hplus hdot hr43 hstep hgb hr46 hg hci hinv hfin
            go_wp2_with (go_at_call 64; refine (isIdentChar_any _ _ hlo hhi).mono ?_; rintro e w' ⟨rfl, rfl⟩)
            go_ret3
            exact ⟨ret_none HF.out, same_drew _⟩
    · have hst := hinv.stop (fun hi => by have := HLEN.out; omega)
      rw [HBD.out] at hst
      have hbl : body.length = K - 1 := by rw [hst.1, List.length_take]; have := hinv.le; omega
      have hci2 : Sem.CInv true body body.length (S - 1) := by rw [hbl]; exact hci
      have hfc := hci2.stop
      have hx : body.drop (S - 1) = (l.drop S).take (K - S) := by rw [HDT.out _ _ hS1 hSK, hst.1]
      have hv1 := HTK.out K hK1
      rw [← hst.1] at hv1
      have hv2 := (HDK.out K hK1).trans hst.2.symm
      have HV1 := Lib.hid hv1
      have HV2 := Lib.hid hv2
      rw [hx] at hfc
      by_cases hSKe : S = K
      · subst hSKe
        have hse : ((S : Int) == (S : Int)) = true := by simp
        have hfin : Sem.parsePre l = none := by
          rw [HP.out, hfc]
          simp [Sem.wrong]
        have HF := Lib.hid hfin
        clear hci hci2 hinv hfin hx hst hbl hfc hv1 hv2
        go_wp2
        go_ret3
        exact ⟨ret_none HF.out, same_drew _⟩
      · have hse : ((S : Int) == (K : Int)) = false := by rw [beq_eq_false_iff_ne]; omega
        have hxl : 0 < ((l.drop S).take (K - S)).length := by rw [List.length_take, List.length_drop]; omega
        have hxl2 : ((l.drop S).take (K - S)).length ≤ 1152921504606846976 := by rw [List.length_take, List.length_drop]; omega
        rw [Sem.wrong_of hxl] at hfc
        cases hbad : Sem.isBad ((l.drop S).take (K - S)) with
        | true =>
          have hfin : Sem.parsePre l = none := by
            rw [HP.out, hfc, hbad]
            simp
          have HF := Lib.hid hfin
          clear hci hci2 hinv hfin hx hst hbl hfc hv1 hv2 hSKe
          go_wp2_with (go_at_call 65; rw [ext_str]; refine (isBadNum_any _ _ hxl2).mono ?_; rintro e w' ⟨rfl, rfl⟩)
          go_ret3
          exact ⟨ret_none HF.out, same_drew _⟩
        | false =>
          have hfin : Sem.parsePre l = some (45 :: body, r.dropWhile p) := by
            rw [HP.out, hfc, hbad]
            simp
          have HF := Lib.hid hfin
          clear hci hci2 hinv hfin hx hst hbl hfc hv1 hv2 hSKe
          go_wp2_with (go_at_call 65; rw [ext_str]; refine (isBadNum_any _ _ hxl2).mono ?_; rintro e w' ⟨rfl, rfl⟩)
          go_quiet (fail)
          go_wp2
          go_ret3
          exact ⟨ret_ext3 HF.out HV1.out HV2.out, _, rfl⟩

set_option maxHeartbeats 1000000 in
theorem parseBuild_any (r : List UInt8) (w : World) (hl : (43 :: r : List UInt8).length ≤ 1152921504606846976) :
    Calls Try.prog 46 #[str (43 :: r)] w fun e w' => e = .returned (tup3 (Sem.parseBuild (43 :: r))) ∧ ∃ n, w' = w.drewN n := by
  have hP := parseBuild_cons r
  have h0 : Sem.bt (43 :: r) 0 = 43 := by simp [Sem.bt]
  have hget := fun (K : Nat) (hK : 1 ≤ K) (h : K < (43 :: r : List UInt8).length) => cons_get 43 r hK h
  have hlen : (43 :: r : List UInt8).length = r.length + 1 := rfl
  have hne : 1 ≤ (43 :: r : List UInt8).length := by simp
  have he : (43 :: r : List UInt8).isEmpty = false := rfl
  generalize (43 :: r : List UInt8) = l at *
  have HP := Lib.hid hP
  have HGET := Lib.hid hget
  have HLEN := Lib.hid hlen
  have hb := get_bl l
  have h0b : (Sem.bt l 0 != 43) = false := by simp [h0]
  have he2 : (!l.isEmpty) = true := by simp [he]
  clear hP hget hlen h0
  go_enter Try.func46, Try.ntmps46
  go_wp2
  go_loop [5, 6] (fun a b => ∃ K S : Nat, a = .int .i64 K ∧ b = .int .i64 S ∧ 1 ≤ K ∧ 1 ≤ S ∧ S ≤ K ∧ K ≤ l.length ∧ Sem.CInv false r (K - 1) (S - 1)) (fun a _ => l.length - (intOf a).toNat)
  case atStart => exact ⟨1, 1, rfl, rfl, by omega, by omega, by omega, by omega, Sem.CInv.zero _ _⟩
  case round =>
    obtain ⟨K, S, rfl, rfl, hK1, hS1, hSK, hKl, hci⟩ := hrel
    have hlo := Sem.bt_lo l K
    have hhi := Sem.bt_hi l K
    by_cases hlt : K < l.length
    · obtain ⟨hk', hg⟩ := HGET.out _ hK1 hlt
      by_cases hdot : Sem.bt l K = 46
      · have hdb : (Sem.bt l K != 46) = false := by simp [hdot]
        have hde : (Sem.bt l K == 46) = true := by simp [hdot]
        have hid : Sem.idB (Sem.bt l K) = false := by rw [hdot]; decide
        have hr46 : r[K - 1] = 46 := by rw [← hg]; exact (Sem.eq_at hlt 46).2 hdot
        by_cases hSKe : S = K
        · subst hSKe
          have hse : ((S : Int) == (S : Int)) = true := by simp
          have hfin : Sem.parseBuild l = none := by
            rw [HP.out, hci.dot hk' hr46]
            simp [Sem.wrong]
          have HF := Lib.hid hfin
          clear hdot hr46 hg hci hfin
          go_wp2_with (go_at_call 64; refine (isIdentChar_any _ _ hlo hhi).mono ?_; rintro e w' ⟨rfl, rfl⟩)
          go_ret3
          exact ⟨ret_none HF.out, same_drew _⟩
        · have hse : ((S : Int) == (K : Int)) = false := by rw [beq_eq_false_iff_ne]; omega
          have hxl : 0 < ((r.take (K - 1)).drop (S - 1)).length := by rw [List.length_drop, List.length_take]; omega
          have hci' := hci.next hk' hr46 (by rw [Sem.wrong_of hxl]; rfl)
          clear hdot hr46 hg hci hSKe hxl
          go_wp2_with (go_at_call 64; refine (isIdentChar_any _ _ hlo hhi).mono ?_; rintro e w' ⟨rfl, rfl⟩)
          go_round
          case rel => exact ⟨K + 1, K + 1, by go_num, by go_num, by omega, by omega, by omega, by omega, by rw [show K + 1 - 1 = K - 1 + 1 by omega]; exact hci'⟩
          case measure => simp [intOf]; omega
      · have hdb : (Sem.bt l K != 46) = true := by simp [hdot]
        have hde : (Sem.bt l K == 46) = false := by simp [hdot]
        have hr46 : ¬ r[K - 1] = 46 := fun e => hdot (by rw [← hg] at e; exact (Sem.eq_at hlt 46).1 e)
        cases hid : Sem.idB (Sem.bt l K) with
        | true =>
          have hci' := hci.char hk' hr46 (by rw [← hg, ← Sem.idB_at hlt]; exact hid)
          clear hdot hr46 hg hci
          go_wp2_with (go_at_call 64; refine (isIdentChar_any _ _ hlo hhi).mono ?_; rintro e w' ⟨rfl, rfl⟩)
          go_round
          case rel => exact ⟨K + 1, S, by go_num, rfl, by omega, by omega, by omega, by omega, by rw [show K + 1 - 1 = K - 1 + 1 by omega]; exact hci'⟩
          case measure => simp [intOf]; omega
        | false =>
          have hfin : Sem.parseBuild l = none := by rw [HP.out, hci.bad hk' hr46 (by rw [← hg, ← Sem.idB_at hlt]; exact hid)]; rfl
          have HF := Lib.hid hfin
          clear hdot hr46 hg hci hfin
          go_wp2_with (go_at_call 64; refine (isIdentChar_any _ _ hlo hhi).mono ?_; rintro e w' ⟨rfl, rfl⟩)
          go_ret3
          exact ⟨ret_none HF.out, same_drew _⟩
    · obtain rfl : K = l.length := by omega
      have hci2 : Sem.CInv false r r.length (S - 1) := by rw [show r.length = l.length - 1 by have := HLEN.out; omega]; exact hci
      have hfc := hci2.stop
      by_cases hSKe : S = l.length
      · subst hSKe
        have hse : ((l.length : Int) == (l.length : Int)) = true := by simp
        have hfin : Sem.parseBuild l = none := by
          rw [HP.out, hfc, show l.length - 1 = r.length by have := HLEN.out; omega]
          simp [Sem.wrong]
        have HF := Lib.hid hfin
        clear hci hci2 hfc hfin
        go_wp2
        go_ret3
        exact ⟨ret_none HF.out, same_drew _⟩
      · have hse : ((S : Int) == (l.length : Int)) = false := by rw [beq_eq_false_iff_ne]; omega
        have hxl : 0 < (r.drop (S - 1)).length := by rw [List.length_drop]; have := HLEN.out; omega
        have hfin : Sem.parseBuild l = some (l, []) := by
          rw [HP.out, hfc, Sem.wrong_of hxl]
          simp
        have HF := Lib.hid hfin
        clear hci hci2 hfc hfin hxl hSKe
        go_wp2
        go_quiet (fail)
        go_wp2
        go_ret3
        exact ⟨ret_ext4 HF.out, _, rfl⟩

end Go.Proofs.Ytienkoadkhcghaa
