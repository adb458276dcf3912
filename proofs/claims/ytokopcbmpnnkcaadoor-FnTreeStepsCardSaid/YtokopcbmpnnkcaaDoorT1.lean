/- tlog.maxpow2, subTreeIndex, leafProofIndex, treeProofIndex: which stored hashes are read, as the plain text Tree says. Conditions: the numbers of records are below 2 to the power of 41. -/
import Derived.Test.YtokopcbmpnnkcaaDoorIdxWalks
import Derived.Test.YtokopcbmpnnkcaaDoorTree
import Derived.Maps.AppendAt
import Derived.Below
import Derived.OwnWalk
namespace Go.Proofs.YtokopcbmpnnkcaaDoor
open Go.RowKit

theorem log_small {m : Nat} (h0 : m ≠ 0) (h : m < 2199023255552) : m.log2 ≤ 40 := by
  have := (Nat.log2_lt h0 (k := 41)).2 h
  omega
theorem pow_small {j : Nat} (h : j ≤ 41) : 2 ^ j ≤ 2199023255552 := Nat.le_trans (Nat.pow_le_pow_right (by omega) h) (by decide)
theorem pow_int (j : Nat) : ((2 ^ j : Nat) : Int) = (2 : Int) ^ j := by push_cast; rfl
theorem wrap64_pow {j : Nat} (h : j ≤ 41) : wrap64 ((2 : Int) ^ j) = (2 : Int) ^ j := by
  have h1 := pow_small h
  rw [← pow_int j]
  generalize 2 ^ j = P at *
  unfold wrap64
  omega
set_option maxHeartbeats 1000000 in
theorem maxpow2_any (m : Nat) (hm : m ≠ 0) (hb : m < 2199023255552) (w : World) :
    Calls Tryd.prog 52 #[.int .i64 ((m : Int) + 1)] w fun e w' => e = .returned (.tuple #[.int .i64 ((2 ^ m.log2 : Nat) : Int), .int .i64 (m.log2 : Nat)]) ∧ w = w' := by
  have hl := log_small hm hb
  obtain ⟨l, hL⟩ : ∃ l, l = m.log2 := ⟨_, rfl⟩
  rw [← hL] at hl ⊢
  have HL := Lib.hid hL
  clear hL
  go_enter Tryd.func52, Tryd.ntmps52
  go_wp2
  go_loop [3] (fun a => ∃ j : Nat, j ≤ l ∧ a = .int .i64 j) (fun a => l - (intOf a).toNat)
  case atStart => exact ⟨0, by omega, rfl⟩
  case round =>
    obtain ⟨j, hj, rfl⟩ := hrel
    have hp := pow_small (j := j + 1) (by omega)
    obtain ⟨P, hP⟩ : ∃ P : Nat, P = 2 ^ (j + 1) := ⟨_, rfl⟩
    have hw : wrap64 ((2 : Int) ^ (j + 1)) = (P : Int) := by rw [hP, pow_int, wrap64_pow (by omega)]
    by_cases hlt : j < l
    · have hle : 2 ^ (j + 1) ≤ m := (Nat.le_log2 hm).1 (by rw [← HL.out]; omega)
      have hd : decide (wrap64 ((2 : Int) ^ (j + 1)) < (m : Int) + 1) = true := by rw [hw, decide_eq_true_eq]; omega
      clear hw hp hle hP
      go_wp2
      go_round
      case rel => exact ⟨j + 1, by omega, by go_num⟩
      case measure => simp [intOf]; omega
    · obtain rfl : j = l := by omega
      have hle : m < 2 ^ (j + 1) := (Nat.log2_lt hm).1 (by rw [← HL.out]; omega)
      have hd : decide (wrap64 ((2 : Int) ^ (j + 1)) < (m : Int) + 1) = false := by rw [hw, decide_eq_false_iff_not]; omega
      clear hw hle hP
      go_wp2
      go_ret2
      exact ⟨by simp; exact wrap64_pow (by omega), rfl⟩

theorem and_mask (x l : Nat) (hx : x < 9223372036854775808) (hl : l ≤ 41) (hd : 2 ^ l ∣ x) : bits BinOp.and IntKind.i64 (x : Int) (((2 ^ l : Nat) : Int) - 1) = 0 := by
  have hp := pow_small hl
  have hp0 : 0 < 2 ^ l := Nat.pow_pos (by omega)
  have e : (((2 ^ l : Nat) : Int) - 1) = ((2 ^ l - 1 : Nat) : Int) := by omega
  rw [e]
  show IntKind.i64.wrap ((BitVec.ofInt 64 (x : Int) &&& BitVec.ofInt 64 ((2 ^ l - 1 : Nat) : Int)).toNat : Int) = 0
  have h1 : (BitVec.ofInt 64 (x : Int)).toNat = x := by rw [BitVec.toNat_ofInt]; omega
  have h2 : (BitVec.ofInt 64 ((2 ^ l - 1 : Nat) : Int)).toNat = 2 ^ l - 1 := by
    generalize 2 ^ l = P at *
    rw [BitVec.toNat_ofInt]; omega
  rw [BitVec.toNat_and, h1, h2, Nat.and_two_pow_sub_one_eq_mod, Nat.mod_eq_zero_of_dvd hd]
  rfl
/-- numbers as cells -/
def ints (xs : List Nat) : List Value := xs.map fun (n : Nat) => Value.int .i64 (n : Int)
/-- where hashes are stored -/
def ixs (cs : List (Nat × Nat)) : List Nat := cs.map fun c => Idx.idx c.1 c.2
theorem ints_len (xs : List Nat) : (ints xs).length = xs.length := by simp [ints]
theorem ints_app (xs ys : List Nat) : ints (xs ++ ys) = ints xs ++ ints ys := by simp [ints]
theorem ixs_app (xs ys : List (Nat × Nat)) : ixs (xs ++ ys) = ixs xs ++ ixs ys := by simp [ixs]
theorem ixs_len (xs : List (Nat × Nat)) : (ixs xs).length = xs.length := by simp [ixs]
theorem parts_len_le (lo d : Nat) : (Tr.parts lo d).length ≤ d := by
  induction d using Nat.strongRecOn generalizing lo with
  | ind d ih =>
    by_cases h : d = 0
    · subst h; rw [Tr.parts_zero]; simp
    · have h1 := Tr.two_pos d.log2
      have h2 := Tr.log_le h
      have := ih (d - 2 ^ d.log2) (by omega) (lo + 2 ^ d.log2)
      rw [Tr.parts_pos _ h]
      simp; omega
/-- a row of numbers of one's own -/
def IOwn (w : World) (base : Nat) (v : Value) (xs : List Nat) : Prop := w.ownsRow base 2 1 v xs.length (ints xs)
theorem info_i64 : (Tryd.prog.info? 2).map (fun i => (i.zero, i.size, i.bytes)) = some (some (.int .i64 0), 1, 8) := by kernel_rfl
theorem div_pow_int (x l : Nat) : (x : Int) / (2 : Int) ^ l = ((x / 2 ^ l : Nat) : Int) := by push_cast; rfl
theorem one_src (w : World) (u : Value) (t : TypeId) : ∀ j x, [u][j]? = some x → (w.alloc (Obj.cells #[u] t)).cell? ((⟨w.heap.size, 0, none⟩ : Addr).add j) = some x := by
  intro j x hj
  match j, hj with
  | 0, hj =>
    obtain rfl : u = x := by simpa using hj
    exact cell_of_row (w.alloc _) _ _ _ t (0, 0) (heap_alloc_new w _)
theorem one_int (k : IntKind) (n : Int) : ∀ u ∈ [Value.int k n], u.oneCell' = true := by
  intro u hu
  obtain rfl : u = .int k n := by simpa using hu
  rfl
set_option maxHeartbeats 4000000 in
set_option maxRecDepth 20000 in
theorem subTreeIndex_any (lo hi base : Nat) (v : Value) (xs : List Nat) (w : World) (hle : lo ≤ hi) (hal : Tr.Al lo (hi - lo)) (hb : hi < 2199023255552) (hown : IOwn w base v xs) (hbase : base ≤ w.heap.size) (hlen : xs.length + (hi - lo) ≤ 4398046511104) :
    Calls Tryd.prog 49 #[.int .i64 lo, .int .i64 hi, v] w fun e w' => (∃ v', e = .returned v' ∧ IOwn w' base v' (xs ++ ixs (Tr.parts lo (hi - lo)))) ∧ Below base w w' := by
  obtain ⟨i0, hi0, hz0, hz1, hz2⟩ := info_parts info_i64
  have HI0 := Lib.hid hi0
  have HZ0 := Lib.hid hz0
  have HZ1 := Lib.hid hz1
  have HZ2 := Lib.hid hz2
  have HOWN := Lib.hid hown
  have HAL := Lib.hid hal
  have hpl := parts_len_le lo (hi - lo)
  obtain ⟨all, hall⟩ : ∃ all, all = ixs (Tr.parts lo (hi - lo)) := ⟨_, rfl⟩
  have HALL := Lib.hid hall
  have hal2 : all.length ≤ hi - lo := by rw [hall, ixs_len]; exact hpl
  clear hi0 hz0 hz1 hz2 hown hal hall hpl
  go_enter Tryd.func49, Tryd.ntmps49
  go_wp2
  go_loopw [0, 2] (fun a c wr => ∃ (l : Nat) (pre : List Nat), a = .int .i64 l ∧ lo ≤ l ∧ l ≤ hi ∧ Hid (Tr.Al l (hi - l)) ∧ Hid (all = pre ++ ixs (Tr.parts l (hi - l))) ∧ Hid (IOwn wr base c (xs ++ pre)) ∧ Hid (Below base w wr)) (fun a _ _ => hi - (intOf a).toNat)
  case atStart => exact ⟨lo, [], rfl, Nat.le_refl _, hle, HAL, Lib.hid (by simpa using HALL.out), Lib.hid (by simpa using HOWN.out), Lib.hid (Below.refl _ _)⟩
  case round =>
    obtain ⟨l, pre, rfl, h1, h2, hAl, hAll, hOwn, hBel⟩ := hrel
    by_cases hlt : l < hi
    · have hne : hi - l ≠ 0 := by omega
      obtain ⟨g, hg⟩ : ∃ g, g = (hi - l).log2 := ⟨_, rfl⟩
      have hdv := hAl.out.log_dvd hne
      have hkl := Tr.log_le hne
      have hk0 := Tr.two_pos (hi - l).log2
      have hg40 := log_small hne (by omega)
      have hparts := Tr.parts_pos l hne
      have hnext := hAl.out.next hne
      have hmp := maxpow2_any (hi - l) hne (by omega)
      rw [← hg] at hdv hkl hk0 hg40 hparts hnext hmp
      have hmask := and_mask l g (by omega) (by omega) hdv
      have hsh := div_pow_int l g
      have hix : (l / 2 ^ g + 1) * 2 ^ g ≤ 2305843009213693952 := by
        rw [Nat.add_mul, Nat.div_mul_cancel hdv]; omega
      obtain ⟨q, hq⟩ : ∃ q, q = l / 2 ^ g := ⟨_, rfl⟩
      rw [← hq] at hparts hsh hix
      have HSI := Lib.hid (fun w => storedHashIndex g q w (by omega) hix)
      have hil : pre.length + 1 ≤ all.length := by rw [hAll.out, hparts]; simp [ixs]
      obtain ⟨K, hK⟩ : ∃ K, K = 2 ^ g := ⟨_, rfl⟩
      rw [← hK] at hmp hkl hk0 hmask hnext hparts
      have HK := Lib.hid hK
      have HMP := Lib.hid hmp
      have HP := Lib.hid hparts
      have HN := Lib.hid hnext
      have hmb : (bits BinOp.and IntKind.i64 (l : Int) ((K : Int) - 1) != 0) = false := by rw [hmask]; rfl
      have hcast : ((hi : Int) - l) + 1 = ((hi - l : Nat) : Int) + 1 := by omega
      clear hg hdv hmask hix hmp hparts hnext hK hq
      go_wp2_with fail
      refine (HMP.out _).mono ?_
      rintro e w' ⟨rfl, rfl⟩
      go_wp2_with (first
        | (go_at_call 55; refine (HSI.out _).mono ?_; rintro e w' ⟨rfl, rfl⟩)
        | (at_builtin; refine wpList_append_own_at _ rfl (.tmp 26) (.tmp 33) 65 rfl base 2 i0 (.int .i64 0) 1 8 Tryd.underlying65 HI0.out HZ0.out HZ1.out HZ2.out rfl (by decide) _ (xs ++ pre).length (ints (xs ++ pre)) rfl (World.ownsRow.alloc hOwn.out _) ⟨wr.heap.size, 0, none⟩ 1 1 [.int .i64 (Idx.idx g q : Nat)] rfl rfl (one_src _ _ _) (one_int _ _) (by unfold maxLen; rw [List.length_append]; omega) (by rw [List.length_append]; omega) (by have := hBel.out.size; simp; omega) ?_; intro v1 w1 hown1 hgrow1 hnil1 hat1; have HO1 := Lib.hid hown1; have HG1 := Lib.hid hgrow1; clear hown1 hgrow1 hnil1 hat1))
      go_roundw
      case rel =>
        refine ⟨l + K, pre ++ [Idx.idx g q], by go_num, by omega, by omega, Lib.hid ?_, Lib.hid ?_, Lib.hid ?_, Lib.hid ?_⟩
        · have := HN.out; rwa [Nat.sub_sub] at this
        · rw [hAll.out, HP.out, Nat.sub_sub]; simp [ixs]
        · have h := HO1.out
          unfold IOwn
          rw [show (xs ++ (pre ++ [Idx.idx g q])).length = (xs ++ pre).length + 1 by simp; omega, ← List.append_assoc, ints_app]
          exact h
        · exact (hBel.out.alloc (by have := hBel.out.size; omega) _).grown HG1.out (by have := hBel.out.size; simp; omega) (fun k hk => (hOwn.out.lt k hk).1)
      case measure => simp [intOf]; omega
    · obtain rfl : l = hi := by omega
      go_wp2
      go_ret
      refine ⟨⟨_, rfl, ?_⟩, hBel.out⟩
      have h := hAll.out
      rw [Nat.sub_self, Tr.parts_zero] at h
      rw [← HALL.out, h]
      simpa [ixs] using hOwn.out

theorem leafIx_len_le (lo d n : Nat) : (Tr.leafIx lo d n).length ≤ d := by
  induction d using Nat.strongRecOn generalizing lo with
  | ind d ih =>
    by_cases h : d ≤ 1
    · rw [Tr.leafIx_one h]; simp
    · have hp := Tr.half_pos d
      have hl := Tr.half_lt (d := d) (by omega)
      have h1 := parts_len_le lo (Tr.half d)
      have h2 := parts_len_le (lo + Tr.half d) (d - Tr.half d)
      by_cases hn : n < lo + Tr.half d
      · rw [Tr.leafIx_left (by omega) hn]
        have := ih _ hl lo
        simp; omega
      · rw [Tr.leafIx_right (by omega) hn]
        have := ih _ (show d - Tr.half d < d by omega) (lo + Tr.half d)
        simp; omega
theorem treeIx_len_le (lo d n : Nat) : (Tr.treeIx lo d n).length ≤ d := by
  induction d using Nat.strongRecOn generalizing lo with
  | ind d ih =>
    by_cases h : n = lo + d ∨ d ≤ 1
    · rw [Tr.treeIx, dif_pos h]
      have := parts_len_le lo d
      split <;> simp; omega
    · have hp := Tr.half_pos d
      have hl := Tr.half_lt (d := d) (by omega)
      have h1 := parts_len_le lo (Tr.half d)
      have h2 := parts_len_le (lo + Tr.half d) (d - Tr.half d)
      by_cases hn : n ≤ lo + Tr.half d
      · rw [Tr.treeIx_left (by omega) (by omega) hn]
        have := ih _ hl lo
        simp; omega
      · rw [Tr.treeIx_right (by omega) (by omega) hn]
        have := ih _ (show d - Tr.half d < d by omega) (lo + Tr.half d)
        simp; omega

set_option maxHeartbeats 4000000 in
set_option maxRecDepth 20000 in
theorem leafProofIndex_any (d : Nat) : ∀ (lo hi n base : Nat) (v : Value) (xs : List Nat) (w : World), hi - lo = d → lo ≤ n → n < hi → Tr.Al lo (hi - lo) → hi < 2199023255552 → IOwn w base v xs → base ≤ w.heap.size → xs.length + (hi - lo) ≤ 4398046511104 →
    Calls Tryd.prog 40 #[.int .i64 lo, .int .i64 hi, .int .i64 n, v] w fun e w' => (∃ v', e = .returned v' ∧ IOwn w' base v' (xs ++ ixs (Tr.leafIx lo (hi - lo) n))) ∧ Below base w w' := by
  induction d using Nat.strongRecOn with
  | ind d ih =>
    intro lo hi n base v xs w hd h1 h2 hal hb hown hbase hlen
    have HOWN := Lib.hid hown
    have hb1 : decide ((lo : Int) ≤ n) = true := by simp; omega
    have hb2 : decide ((n : Int) < hi) = true := by simp; omega
    by_cases h : hi - lo ≤ 1
    · have hb3 : ((lo : Int) + 1 == hi) = true := by simp; omega
      have HI := Lib.hid (Tr.leafIx_one (lo := lo) (n := n) h)
      clear hown hd ih hal
      go_enter Tryd.func40, Tryd.ntmps40
      go_wp2_with fail
      go_ret
      exact ⟨⟨_, rfl, by rw [HI.out]; simpa [ixs] using HOWN.out⟩, Below.refl _ _⟩
    · have hb3 : ((lo : Int) + 1 == hi) = false := by simp; omega
      have hhp := Tr.half_pos (hi - lo)
      have hhl := Tr.half_lt (d := hi - lo) (by omega)
      have hmp := maxpow2_any (hi - lo - 1) (by omega) (by omega)
      have hall := hal.left (by omega)
      have halr := hal.right (by omega)
      by_cases hn : n < lo + Tr.half (hi - lo)
      · have HI := Lib.hid (Tr.leafIx_left (lo := lo) (d := hi - lo) (n := n) (by omega) hn)
        have hll := leafIx_len_le lo (Tr.half (hi - lo)) n
        have HR := Lib.hid (ih (Tr.half (hi - lo)) (by omega) lo (lo + Tr.half (hi - lo)) n base v xs w (by omega) h1 hn (by rw [Nat.add_sub_cancel_left]; exact hall) (by omega) hown hbase (by omega))
        have HS := Lib.hid (fun v' w' h3 h4 => subTreeIndex_any (lo + Tr.half (hi - lo)) hi base v' (xs ++ ixs (Tr.leafIx lo (Tr.half (hi - lo)) n)) w' (by omega) (by rw [← Nat.sub_sub]; exact halr) hb h3 h4 (by rw [List.length_append, ixs_len]; omega))
        rw [Nat.add_sub_cancel_left] at HR
        rw [← Nat.sub_sub] at HS
        rw [show 2 ^ (hi - lo - 1).log2 = Tr.half (hi - lo) from rfl] at hmp
        obtain ⟨K, hK⟩ : ∃ K, K = Tr.half (hi - lo) := ⟨_, rfl⟩
        rw [← hK] at HI HR HS hmp hn hhl
        have HMP := Lib.hid hmp
        have hc1 : ((hi : Int) - lo) = ((hi - lo - 1 : Nat) : Int) + 1 := by omega
        clear hown hd ih hal hmp hK hall halr
        go_enter Tryd.func40, Tryd.ntmps40
        go_wp2_with fail
        refine (HMP.out _).mono ?_
        rintro e w' ⟨rfl, rfl⟩
        go_wp2_with fail
        refine HR.out.mono ?_
        rintro e w1 ⟨⟨v1, rfl, ho1⟩, hb1'⟩
        have HO1 := Lib.hid ho1
        have HB1 := Lib.hid hb1'
        clear ho1 hb1'
        go_wp2_with fail
        refine (HS.out v1 w1 HO1.out (by have := HB1.out.size; omega)).mono ?_
        rintro e w2 ⟨⟨v2, rfl, ho2⟩, hb2'⟩
        have HO2 := Lib.hid ho2
        have HB2 := Lib.hid hb2'
        clear ho2 hb2'
        go_wp2_with fail
        go_ret
        refine ⟨⟨_, rfl, ?_⟩, HB1.out.trans HB2.out⟩
        rw [HI.out, ixs_app, ← List.append_assoc]
        exact HO2.out
      · have HI := Lib.hid (Tr.leafIx_right (lo := lo) (d := hi - lo) (n := n) (by omega) hn)
        have hll := parts_len_le lo (Tr.half (hi - lo))
        have HS := Lib.hid (subTreeIndex_any lo (lo + Tr.half (hi - lo)) base v xs w (by omega) (by rw [Nat.add_sub_cancel_left]; exact hall) (by omega) hown hbase (by omega))
        have HR := Lib.hid (fun v' w' h3 h4 => ih (hi - lo - Tr.half (hi - lo)) (by omega) (lo + Tr.half (hi - lo)) hi n base v' (xs ++ ixs (Tr.parts lo (Tr.half (hi - lo)))) w' (by omega) (by omega) h2 (by rw [← Nat.sub_sub]; exact halr) hb h3 h4 (by rw [List.length_append, ixs_len]; omega))
        rw [Nat.add_sub_cancel_left] at HS
        rw [← Nat.sub_sub] at HR
        rw [show 2 ^ (hi - lo - 1).log2 = Tr.half (hi - lo) from rfl] at hmp
        obtain ⟨K, hK⟩ : ∃ K, K = Tr.half (hi - lo) := ⟨_, rfl⟩
        rw [← hK] at HI HR HS hmp hn hhl
        have HMP := Lib.hid hmp
        have hc1 : ((hi : Int) - lo) = ((hi - lo - 1 : Nat) : Int) + 1 := by omega
        clear hown hd ih hal hmp hK hall halr
        go_enter Tryd.func40, Tryd.ntmps40
        go_wp2_with fail
        refine (HMP.out _).mono ?_
        rintro e w' ⟨rfl, rfl⟩
        go_wp2_with fail
        refine HS.out.mono ?_
        rintro e w1 ⟨⟨v1, rfl, ho1⟩, hb1'⟩
        have HO1 := Lib.hid ho1
        have HB1 := Lib.hid hb1'
        clear ho1 hb1'
        go_wp2_with fail
        refine (HR.out v1 w1 HO1.out (by have := HB1.out.size; omega)).mono ?_
        rintro e w2 ⟨⟨v2, rfl, ho2⟩, hb2'⟩
        have HO2 := Lib.hid ho2
        have HB2 := Lib.hid hb2'
        clear ho2 hb2'
        go_wp2_with fail
        go_ret
        refine ⟨⟨_, rfl, ?_⟩, HB1.out.trans HB2.out⟩
        rw [HI.out, ixs_app, ← List.append_assoc]
        exact HO2.out

set_option maxHeartbeats 4000000 in
set_option maxRecDepth 20000 in
theorem treeProofIndex_any (d : Nat) : ∀ (lo hi n base : Nat) (v : Value) (xs : List Nat) (w : World), hi - lo = d → lo < n → n ≤ hi → Tr.Al lo (hi - lo) → hi < 2199023255552 → IOwn w base v xs → base ≤ w.heap.size → xs.length + (hi - lo) ≤ 4398046511104 →
    Calls Tryd.prog 45 #[.int .i64 lo, .int .i64 hi, .int .i64 n, v] w fun e w' => (∃ v', e = .returned v' ∧ IOwn w' base v' (xs ++ ixs (Tr.treeIx lo (hi - lo) n))) ∧ Below base w w' := by
  induction d using Nat.strongRecOn with
  | ind d ih =>
    intro lo hi n base v xs w hd h1 h2 hal hb hown hbase hlen
    have HOWN := Lib.hid hown
    have hb1 : decide ((lo : Int) < n) = true := by simp; omega
    have hb2 : decide ((n : Int) ≤ hi) = true := by simp; omega
    by_cases h : n = hi
    · subst h
      have hb3 : ((n : Int) == n) = true := by simp
      have HI := Lib.hid (Tr.treeIx_self (lo := lo) (d := n - lo) (n := n) (by omega))
      by_cases h0 : lo = 0
      · subst h0
        clear hown hd ih hal
        go_enter Tryd.func45, Tryd.ntmps45
        go_wp2_with fail
        go_ret
        exact ⟨⟨_, rfl, by rw [show Tr.treeIx 0 n n = [] from by have h := HI.out; rw [Nat.sub_zero] at h; simpa using h]; simpa [ixs] using HOWN.out⟩, Below.refl _ _⟩
      · have hb4 : ((lo : Int) == 0) = false := by simp; omega
        have HS := Lib.hid (subTreeIndex_any lo n base v xs w (by omega) hal hb hown hbase hlen)
        have H0 := Lib.hid h0
        clear hown hd ih hal h0
        go_enter Tryd.func45, Tryd.ntmps45
        go_wp2_with fail
        refine HS.out.mono ?_
        rintro e w1 ⟨⟨v1, rfl, ho1⟩, hb1'⟩
        have HO1 := Lib.hid ho1
        have HB1 := Lib.hid hb1'
        clear ho1 hb1'
        go_wp2_with fail
        go_ret
        exact ⟨⟨_, rfl, by rw [HI.out, if_neg H0.out]; exact HO1.out⟩, HB1.out⟩
    · have hb3 : ((n : Int) == hi) = false := by simp; omega
      have hhp := Tr.half_pos (hi - lo)
      have hhl := Tr.half_lt (d := hi - lo) (by omega)
      have hmp := maxpow2_any (hi - lo - 1) (by omega) (by omega)
      have hall := hal.left (by omega)
      have halr := hal.right (by omega)
      by_cases hn : n ≤ lo + Tr.half (hi - lo)
      · have HI := Lib.hid (Tr.treeIx_left (lo := lo) (d := hi - lo) (n := n) (by omega) (by omega) hn)
        have hll := treeIx_len_le lo (Tr.half (hi - lo)) n
        have HR := Lib.hid (ih (Tr.half (hi - lo)) (by omega) lo (lo + Tr.half (hi - lo)) n base v xs w (by omega) h1 hn (by rw [Nat.add_sub_cancel_left]; exact hall) (by omega) hown hbase (by omega))
        have HS := Lib.hid (fun v' w' h3 h4 => subTreeIndex_any (lo + Tr.half (hi - lo)) hi base v' (xs ++ ixs (Tr.treeIx lo (Tr.half (hi - lo)) n)) w' (by omega) (by rw [← Nat.sub_sub]; exact halr) hb h3 h4 (by rw [List.length_append, ixs_len]; omega))
        rw [Nat.add_sub_cancel_left] at HR
        rw [← Nat.sub_sub] at HS
        rw [show 2 ^ (hi - lo - 1).log2 = Tr.half (hi - lo) from rfl] at hmp
        obtain ⟨K, hK⟩ : ∃ K, K = Tr.half (hi - lo) := ⟨_, rfl⟩
        rw [← hK] at HI HR HS hmp hn hhl
        have HMP := Lib.hid hmp
        have hc1 : ((hi : Int) - lo) = ((hi - lo - 1 : Nat) : Int) + 1 := by omega
        clear hown hd ih hal hmp hK hall halr
        go_enter Tryd.func45, Tryd.ntmps45
        go_wp2_with fail
        refine (HMP.out _).mono ?_
        rintro e w' ⟨rfl, rfl⟩
        go_wp2_with fail
        refine HR.out.mono ?_
        rintro e w1 ⟨⟨v1, rfl, ho1⟩, hb1'⟩
        have HO1 := Lib.hid ho1
        have HB1 := Lib.hid hb1'
        clear ho1 hb1'
        go_wp2_with fail
        refine (HS.out v1 w1 HO1.out (by have := HB1.out.size; omega)).mono ?_
        rintro e w2 ⟨⟨v2, rfl, ho2⟩, hb2'⟩
        have HO2 := Lib.hid ho2
        have HB2 := Lib.hid hb2'
        clear ho2 hb2'
        go_wp2_with fail
        go_ret
        refine ⟨⟨_, rfl, ?_⟩, HB1.out.trans HB2.out⟩
        rw [HI.out, ixs_app, ← List.append_assoc]
        exact HO2.out
      · have HI := Lib.hid (Tr.treeIx_right (lo := lo) (d := hi - lo) (n := n) (by omega) (by omega) hn)
        have hll := parts_len_le lo (Tr.half (hi - lo))
        have HS := Lib.hid (subTreeIndex_any lo (lo + Tr.half (hi - lo)) base v xs w (by omega) (by rw [Nat.add_sub_cancel_left]; exact hall) (by omega) hown hbase (by omega))
        have HR := Lib.hid (fun v' w' h3 h4 => ih (hi - lo - Tr.half (hi - lo)) (by omega) (lo + Tr.half (hi - lo)) hi n base v' (xs ++ ixs (Tr.parts lo (Tr.half (hi - lo)))) w' (by omega) (by omega) h2 (by rw [← Nat.sub_sub]; exact halr) hb h3 h4 (by rw [List.length_append, ixs_len]; omega))
        rw [Nat.add_sub_cancel_left] at HS
        rw [← Nat.sub_sub] at HR
        rw [show 2 ^ (hi - lo - 1).log2 = Tr.half (hi - lo) from rfl] at hmp
        obtain ⟨K, hK⟩ : ∃ K, K = Tr.half (hi - lo) := ⟨_, rfl⟩
        rw [← hK] at HI HR HS hmp hn hhl
        have HMP := Lib.hid hmp
        have hc1 : ((hi : Int) - lo) = ((hi - lo - 1 : Nat) : Int) + 1 := by omega
        clear hown hd ih hal hmp hK hall halr
        go_enter Tryd.func45, Tryd.ntmps45
        go_wp2_with fail
        refine (HMP.out _).mono ?_
        rintro e w' ⟨rfl, rfl⟩
        go_wp2_with fail
        refine HS.out.mono ?_
        rintro e w1 ⟨⟨v1, rfl, ho1⟩, hb1'⟩
        have HO1 := Lib.hid ho1
        have HB1 := Lib.hid hb1'
        clear ho1 hb1'
        go_wp2_with fail
        refine (HR.out v1 w1 HO1.out (by have := HB1.out.size; omega)).mono ?_
        rintro e w2 ⟨⟨v2, rfl, ho2⟩, hb2'⟩
        have HO2 := Lib.hid ho2
        have HB2 := Lib.hid hb2'
        clear ho2 hb2'
        go_wp2_with fail
        go_ret
        refine ⟨⟨_, rfl, ?_⟩, HB1.out.trans HB2.out⟩
        rw [HI.out, ixs_app, ← List.append_assoc]
        exact HO2.out

end Go.Proofs.YtokopcbmpnnkcaaDoor
