/- impl.CheckRecord. Conditions: the lists of bytes lie in memory; the variable errProofFailed holds an error. -/
import Derived.Test.YtokopcbmpnnkcaaDoorT5
import Derived.Test.YtokopcbmpnnkcaaDoorBwt
namespace Go.Proofs.YtokopcbmpnnkcaaDoor
open Go.RowKit

theorem implSize_any (n : Int) (w : World) :
    Calls Tryd.prog 26 #[.int .i64 n] w fun e w' => e = .returned (.int .i64 (n % 1099511627776)) ∧ w = w' := by
  have h0 := Int.emod_nonneg n (b := 1099511627776) (by omega)
  have h1 := Int.emod_lt_of_pos n (b := 1099511627776) (by omega)
  have HS := Lib.hid (impl_at n 1099511627776 w (by omega) (by omega))
  generalize n % 1099511627776 = m at *
  go_enter Tryd.func26, Tryd.ntmps26
  go_wp2_with fail
  refine HS.out.mono ?_
  rintro e w' ⟨rfl, rfl⟩
  go_wp2_with fail
  go_ret
  exact ⟨rfl, rfl⟩
/-- a proof of a record is accepted -/
def recOK (ks : List Int) (ls : List (List Int)) (t n : Int) (th h : List Int) : Bool :=
  decide (0 ≤ n ∧ n < t % 1099511627776 ∧ Tr.runRec (nhK ks) (ls.map h32) 0 (t % 1099511627776).toNat n.toNat (h32 h) = some (h32 th))
theorem checkRecord_any (ks : List Int) (E0t : TypeId) (E0a : Addr) (t n : Int) (v : Value) (ls : List (List Int)) (th h : List Int) (w : World) (hv : HIn w v (ls.map h32)) (hK : WAt w 4 ks)
    (hE : w.cell? ⟨1, 0, none⟩ = some (.iface E0t (.pointer (some E0a)))) (hE0 : 1 < w.heap.size) :
    Calls Tryd.prog 29 #[v, .int .i64 (t % 1099511627776), .agg (hcs (h32 th)).toArray, .int .i64 n, .agg (hcs (h32 h)).toArray] w fun e w' => (∃ u, e = .returned u ∧ ErrIf (recOK ks ls t n th h) u) ∧ Below w.heap.size w w' := by
  have h0 := Int.emod_nonneg t (b := 1099511627776) (by omega)
  have h1 := Int.emod_lt_of_pos t (b := 1099511627776) (by omega)
  unfold recOK
  generalize t % 1099511627776 = T at *
  obtain ⟨T, rfl⟩ := Int.eq_ofNat_of_zero_le h0
  by_cases hn : n < 0 ∨ (T : Int) ≤ n
  · rw [decide_eq_false (by omega)]
    exact checkRecord_bad T n v (h32 th) (h32 h) w hn
  · obtain ⟨n, rfl⟩ := Int.eq_ofNat_of_zero_le (show 0 ≤ n by omega)
    have := checkRecord_good ks E0t E0a T n v (ls.map h32) (h32 th) (h32 h) w (by omega) (by omega) hv (h32_len _) (h32_len _) hK hE hE0
    rw [show decide (0 ≤ (n : Int) ∧ (n : Int) < (T : Int) ∧ Tr.runRec (nhK ks) (ls.map h32) 0 (T : Int).toNat (n : Int).toNat (h32 h) = some (h32 th)) = decide (Tr.runRec (nhK ks) (ls.map h32) 0 T n (h32 h) = some (h32 th)) by
      apply decide_eq_decide.2
      rw [Int.toNat_natCast, Int.toNat_natCast]
      constructor
      · exact fun h => h.2.2
      · exact fun h => ⟨by omega, by omega, h⟩]
    exact this
set_option maxHeartbeats 4000000 in
set_option maxRecDepth 50000 in
theorem implCheckRecord_any (ks : List Int) (E0t : TypeId) (E0a : Addr) (t n : Int) (v tv ev : Value) (ls : List (List Int)) (th h : List Int) (w : World) (hv : RowsIn w v ls) (hl : ls.length ≤ 5864062014640) (hth : BIn w tv th) (hh : BIn w ev h) (hK : WAt w 4 ks)
    (hE : w.cell? ⟨1, 0, none⟩ = some (.iface E0t (.pointer (some E0a)))) (hE0 : 1 < w.heap.size) :
    Calls Tryd.prog 13 #[v, .int .i64 t, tv, .int .i64 n, ev] w fun e w' => e = .returned (.bool (recOK ks ls t n th h)) ∧ Below w.heap.size w w' := by
  have hk0 : 4 < w.heap.size := (Array.getElem?_eq_some_iff.1 hK.2.2).1
  have HL := Lib.hid (toHashes_any ls v w hv hl)
  have HS := Lib.hid (fun w => implSize_any t w)
  have HT := Lib.hid (fun w h => hashOf_any th tv w h)
  have HH := Lib.hid (fun w g => hashOf_any h ev w g)
  have HC := Lib.hid (fun v w h1 h2 h3 h4 => checkRecord_any ks E0t E0a t n v ls th h w h1 h2 h3 h4)
  have HK := Lib.hid hK
  have HE := Lib.hid hE
  have HBT := Lib.hid hth
  have HBH := Lib.hid hh
  clear hK hE hth hh hv
  generalize recOK ks ls t n th h = r at *
  generalize h32 th = P at *
  generalize h32 h = Q at *
  generalize t % 1099511627776 = T at *
  go_enter Tryd.func13, Tryd.ntmps13
  go_wp2_with fail
  refine HL.out.mono ?_
  rintro e w1 ⟨⟨v1, rfl, ho1⟩, hb1⟩
  have HO1 := Lib.hid ho1
  have HB1 := Lib.hid hb1
  clear ho1 hb1
  go_wp2_with fail
  refine (HS.out _).mono ?_
  rintro e w' ⟨rfl, rfl⟩
  go_wp2_with fail
  refine (HT.out w1 (HBT.out.below HB1.out)).mono ?_
  rintro e w2 ⟨rfl, hb2⟩
  have HB2 : Hid (Below w.heap.size w w2) := Lib.hid (bl_step HB1.out hb2 (Nat.le_refl _))
  have HO2 : Hid (HOwn w2 w.heap.size v1 (ls.map h32)) := Lib.hid ⟨HO1.out.1, owns_below HO1.out.2 hb2⟩
  clear hb2
  go_wp2_with fail
  refine (HH.out w2 (HBH.out.below HB2.out)).mono ?_
  rintro e w3 ⟨rfl, hb3⟩
  have HB3 : Hid (Below w.heap.size w w3) := Lib.hid (bl_step HB2.out hb3 (Nat.le_refl _))
  have HO3 : Hid (HOwn w3 w.heap.size v1 (ls.map h32)) := Lib.hid ⟨HO2.out.1, owns_below HO2.out.2 hb3⟩
  clear hb3
  go_wp2_with fail
  refine (HC.out v1 w3 HO3.out.in_ (HK.out.below HB3.out hk0) ((HB3.out.cell (p := ⟨1, 0, none⟩) hE0).trans HE.out) (Nat.lt_of_lt_of_le hE0 HB3.out.size)).mono ?_
  rintro e w4 ⟨⟨u, rfl, hu⟩, hb4⟩
  have HB4 : Hid (Below w.heap.size w w4) := Lib.hid (bl_step HB3.out hb4 (Nat.le_refl _))
  clear hb4
  cases r with
  | true =>
    obtain rfl : u = .nilIface := hu
    go_wp2_with fail
    go_ret
    exact ⟨rfl, HB4.out⟩
  | false =>
    obtain ⟨T', a, rfl⟩ := hu
    go_wp2_with fail
    go_ret
    exact ⟨rfl, HB4.out⟩
end Go.Proofs.YtokopcbmpnnkcaaDoor
