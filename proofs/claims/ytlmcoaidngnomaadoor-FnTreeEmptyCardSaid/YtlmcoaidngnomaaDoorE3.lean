/- The reference's SHA-256 of one block of 64 bytes. Condition: the bytes lie in memory. -/
import Derived.Test.YtlmcoaidngnomaaDoorE2
namespace Go.Proofs.YtlmcoaidngnomaaDoor
open Go.RowKit
set_option linter.unusedVariables false

/-- the schedule's next word -/
def eMix (x2 x15 x7 x16 : Int) : Int := (x16 + bits BinOp.xor IntKind.u32 (bits BinOp.xor IntKind.u32 (rot x15 (erk 7)) (rot x15 (erk 18))) (x15 / 8) + x7 + bits BinOp.xor IntKind.u32 (bits BinOp.xor IntKind.u32 (rot x2 (erk 17)) (rot x2 (erk 19))) (x2 / 1024)) % 4294967296
def eNew (bs ws : List Int) (i : Nat) : Int := if i < 16 then eLoad (bs.getD (4 * i) 0) (bs.getD (4 * i + 1) 0) (bs.getD (4 * i + 2) 0) (bs.getD (4 * i + 3) 0) else eMix (ws.getD (i - 2) 0) (ws.getD (i - 15) 0) (ws.getD (i - 7) 0) (ws.getD (i - 16) 0)
def eSch (bs : List Int) : Nat → List Int
  | 0 => List.replicate 64 0
  | i + 1 => (eSch bs i).set i (eNew bs (eSch bs i) i)
theorem eSch_len (bs : List Int) (i : Nat) : (eSch bs i).length = 64 := by
  induction i with
  | zero => rfl
  | succ i ih => simp [eSch, ih]
theorem eLoad_ok (x0 x1 x2 x3 : Int) : EW (eLoad x0 x1 x2 x3) := ⟨bits_lo_u32 _ _ _, by
  have := bits_hi_u32 BinOp.or (bits BinOp.or IntKind.u32 (bits BinOp.or IntKind.u32 (x0 % 4294967296 * 16777216 % 4294967296) (x1 % 4294967296 * 65536 % 4294967296)) (x2 % 4294967296 * 256 % 4294967296)) (x3 % 4294967296)
  unfold eLoad; omega⟩
theorem eNew_ok (bs ws : List Int) (i : Nat) : EW (eNew bs ws i) := by
  unfold eNew
  split
  · exact eLoad_ok _ _ _ _
  · unfold eMix; exact ⟨by omega, by omega⟩
theorem eSch_ok (bs : List Int) (i : Nat) : ∀ x ∈ eSch bs i, EW x := by
  induction i with
  | zero => intro x hx; obtain rfl := (List.mem_replicate.1 hx).2; exact ⟨by omega, by omega⟩
  | succ i ih =>
    intro x hx
    rcases List.mem_or_eq_of_mem_set hx with hx | rfl
    · exact ih x hx
    · exact eNew_ok _ _ _
theorem eSch_at (bs : List Int) (i j : Nat) (hj : j < 64) : EW ((eSch bs i).getD j 0) := by
  have : j < (eSch bs i).length := by rw [eSch_len]; exact hj
  simp [List.getD, this]
  exact eSch_ok bs i _ (List.getElem_mem _)
/-- the registers -/
structure ER where
  a : Int
  b : Int
  c : Int
  d : Int
  e : Int
  f : Int
  g : Int
  h : Int
def ER.list (s : ER) : List Int := [s.a, s.b, s.c, s.d, s.e, s.f, s.g, s.h]
def eT1 (r : ER) (Ki V : Int) : Int := (r.h + bits BinOp.xor IntKind.u32 (bits BinOp.xor IntKind.u32 (rot r.e (erk 6)) (rot r.e (erk 11))) (rot r.e (erk 25)) + bits BinOp.xor IntKind.u32 (bits BinOp.and IntKind.u32 r.e r.f) (bits BinOp.and IntKind.u32 (bits BinOp.xor IntKind.u32 IntKind.u32.max r.e) r.g) + Ki + V) % 4294967296
def eT2 (r : ER) : Int := (bits BinOp.xor IntKind.u32 (bits BinOp.xor IntKind.u32 (rot r.a (erk 2)) (rot r.a (erk 13))) (rot r.a (erk 22)) + bits BinOp.xor IntKind.u32 (bits BinOp.xor IntKind.u32 (bits BinOp.and IntKind.u32 r.a r.b) (bits BinOp.and IntKind.u32 r.a r.c)) (bits BinOp.and IntKind.u32 r.b r.c)) % 4294967296
theorem eT1_fold (r : ER) (Ki V : Int) : (r.h + bits BinOp.xor IntKind.u32 (bits BinOp.xor IntKind.u32 (rot r.e (erk 6)) (rot r.e (erk 11))) (rot r.e (erk 25)) + bits BinOp.xor IntKind.u32 (bits BinOp.and IntKind.u32 r.e r.f) (bits BinOp.and IntKind.u32 (bits BinOp.xor IntKind.u32 IntKind.u32.max r.e) r.g) + Ki + V) % 4294967296 = eT1 r Ki V := rfl
theorem eT2_fold (r : ER) : (bits BinOp.xor IntKind.u32 (bits BinOp.xor IntKind.u32 (rot r.a (erk 2)) (rot r.a (erk 13))) (rot r.a (erk 22)) + bits BinOp.xor IntKind.u32 (bits BinOp.xor IntKind.u32 (bits BinOp.and IntKind.u32 r.a r.b) (bits BinOp.and IntKind.u32 r.a r.c)) (bits BinOp.and IntKind.u32 r.b r.c)) % 4294967296 = eT2 r := rfl
/-- one round -/
def eStep (r : ER) (Ki V : Int) : ER := ⟨(eT1 r Ki V + eT2 r) % 4294967296, r.a, r.b, r.c, (r.d + eT1 r Ki V) % 4294967296, r.e, r.f, r.g⟩
def ER.ok (s : ER) : Prop := EW s.a ∧ EW s.b ∧ EW s.c ∧ EW s.d ∧ EW s.e ∧ EW s.f ∧ EW s.g ∧ EW s.h
theorem em32 (x : Int) : EW (x % 4294967296) := ⟨by omega, by omega⟩
theorem eStep_ok {r : ER} (h : r.ok) (Ki V : Int) : (eStep r Ki V).ok := ⟨em32 _, h.1, h.2.1, h.2.2.1, em32 _, h.2.2.2.2.1, h.2.2.2.2.2.1, h.2.2.2.2.2.2.1⟩
/-- the registers after i rounds -/
def eReg (ks ws : List Int) (s : ER) : Nat → ER
  | 0 => s
  | i + 1 => eStep (eReg ks ws s i) (ks.getD i 0) (ws.getD i 0)
theorem eReg_ok {ks ws : List Int} {s : ER} (h : s.ok) (i : Nat) : (eReg ks ws s i).ok := by
  induction i with
  | zero => exact h
  | succ i ih => exact eStep_ok ih _ _
/-- the registers are added to the state, the first i of them -/
def eAdd (ss rs : List Int) : Nat → List Int
  | 0 => ss
  | i + 1 => (eAdd ss rs i).set i (((eAdd ss rs i).getD i 0 + rs.getD i 0) % 4294967296)
theorem eAdd_len (ss rs : List Int) (i : Nat) : (eAdd ss rs i).length = ss.length := by
  induction i with
  | zero => rfl
  | succ i ih => simp [eAdd, ih]
/-- one block -/
def eBlk (bs : List Int) (s : ER) : List Int := eAdd s.list (eReg eK (eSch bs 64) s 64).list 8
/-- what a round reads -/
def ERead (w : World) (gv gc gw i : Nat) (r : ER) (Ki V : Int) : Prop := w.cell? ⟨gv, 0, none⟩ = some (.int .u32 r.a) ∧ w.cell? ⟨gv, 1, none⟩ = some (.int .u32 r.b) ∧ w.cell? ⟨gv, 2, none⟩ = some (.int .u32 r.c) ∧ w.cell? ⟨gv, 3, none⟩ = some (.int .u32 r.d) ∧
  w.cell? ⟨gv, 4, none⟩ = some (.int .u32 r.e) ∧ w.cell? ⟨gv, 5, none⟩ = some (.int .u32 r.f) ∧ w.cell? ⟨gv, 6, none⟩ = some (.int .u32 r.g) ∧ w.cell? ⟨gv, 7, none⟩ = some (.int .u32 r.h) ∧ w.cell? ⟨gc, i, none⟩ = some (.int .u32 Ki) ∧ w.cell? ⟨gw, i, none⟩ = some (.int .u32 V)
theorem wpList_loadR {ops : Array Oper} {rest : List Oper} {o : Oper} {a : Act} {w : World} {Q : Exit → Act → World → Prop} (hgd : o.guard = none) (ty : TypeId) (x : Operand) (ho : o.op = .load ty x)
    (g : Nat) (hx : a.eval x = .pointer (some ⟨g, 0, none⟩)) (t : TypeId) (us : List Int) (hB : RAt w g t us) (k : Nat) (et : TypeId) (hu : Tryd.prog.underlying ty = some (.array k et)) (n : Nat) (hi : (Tryd.prog.info? ty).map (·.size) = some n) (hl : us.length = n)
    (h : wpList Tryd.prog ops Q rest (a.put o.dst (.agg (us.map (Value.int .u32)).toArray)) w) : wpList Tryd.prog ops Q (o :: rest) a w :=
  wpList_load_row hgd ty x ho g hx t _ (0, 0) (.array k et) hB hu rfl (by rw [hi]; simp [hl]) h
theorem wpList_storeR {ops : Array Oper} {rest : List Oper} {o : Oper} {a : Act} {w : World} {Q : Exit → Act → World → Prop} (hgd : o.guard = none) (ty : TypeId) (x y : Operand) (ho : o.op = .store ty x y)
    (g : Nat) (us : List Int) (hx : a.eval x = .pointer (some ⟨g, 0, none⟩)) (hy : a.eval y = .agg (us.map (Value.int .u32)).toArray) (t : TypeId) (old : List Int) (hB : RAt w g t old) (n : Nat) (hi : (Tryd.prog.info? ty).map (·.size) = some n) (hl : us.length = n) (ho' : old.length = n)
    (h : ∀ w', Hid (RAt w' g t us) → Hid (∀ g' t' vs, g' ≠ g → RAt w g' t' vs → RAt w' g' t' vs) → Hid (∀ B w0, B ≤ g → Below B w0 w → Below B w0 w') → Hid (w'.heap.size = w.heap.size) → wpList Tryd.prog ops Q rest (a.put o.dst undef) w') : wpList Tryd.prog ops Q (o :: rest) a w :=
  wpList_store_row hgd ty x y ho g _ hx hy t _ hB (by rw [hi]; simp [hl]) (by simp [hl, ho']) (eall32 us) (h _ (Lib.hid (hB.row us)) (Lib.hid fun g' t' vs hne hv => hv.otherRow hne) (Lib.hid fun B w0 hg hb => ebl_setRow hb hg _) (Lib.hid (setRow_size _ _ _)))
set_option maxHeartbeats 4000000 in
set_option maxRecDepth 50000 in
theorem spec_block (b off n c : Nat) (bs : List Int) (s : ER) (w : World) (hn : 64 ≤ n) (hnc : n ≤ c) (hc : c ≤ 9223372036854775807) (hlt : b < w.heap.size) (hbs : ∀ j, j < 64 → w.cell? ⟨b, off + j, none⟩ = some (.int .u8 (bs.getD j 0))) (hso : s.ok) :
    Calls Tryd.prog 46 #[.agg (s.list.map (Value.int .u32)).toArray, .slice (some ⟨b, off, none⟩) n c] w fun e w' => e = .returned (.agg ((eBlk bs s).map (Value.int .u32)).toArray) ∧ Below w.heap.size w w' := by
  obtain ⟨ss, hss⟩ : ∃ ss, ss = s.list := ⟨_, rfl⟩
  have HSS := Lib.hid hss
  have hs : ss.length = 8 := by rw [hss]; rfl
  obtain ⟨OUT, hOUT⟩ : ∃ OUT, OUT = eBlk bs s := ⟨_, rfl⟩
  have HOUT := Lib.hid hOUT
  rw [← hss, ← hOUT]
  clear hss hOUT
  have hz8 := ez8
  have hz64 := ez64
  obtain ⟨Z8, hZ8⟩ : ∃ Z8, Z8 = List.replicate 8 (0 : Int) := ⟨_, rfl⟩
  obtain ⟨Z64, hZ64⟩ : ∃ Z64, Z64 = List.replicate 64 (0 : Int) := ⟨_, rfl⟩
  rw [← hZ8] at hz8
  rw [← hZ64] at hz64
  have HZ8 := Lib.hid hZ8
  have HZ64 := Lib.hid hZ64
  obtain ⟨W3, hW3⟩ : ∃ W3, W3 = ((w.alloc (Obj.cells (ss.map (Value.int .u32)).toArray 65)).alloc (Obj.cells (Z8.map (Value.int .u32)).toArray 65)).alloc (Obj.cells (Z64.map (Value.int .u32)).toArray 88) := ⟨_, rfl⟩
  have HW3 := Lib.hid hW3
  have HB3 : Hid (Below w.heap.size w W3) := Lib.hid (by rw [hW3]; exact (((Below.refl w.heap.size w).alloc (Nat.le_refl _) _).alloc (by simp) _).alloc (by simp; omega) _)
  have HS3 : Hid (RAt W3 w.heap.size 65 ss) := Lib.hid (by rw [hW3]; exact ((RAt.new w _ _).alloc _).alloc _)
  have HR3 : Hid (RAt W3 (w.heap.size + 1) 65 Z8) := Lib.hid (by
    have := RAt.new (w.alloc (Obj.cells (ss.map (Value.int .u32)).toArray 65)) 65 Z8
    rw [show (w.alloc (Obj.cells (ss.map (Value.int .u32)).toArray 65)).heap.size = w.heap.size + 1 by simp] at this
    rw [hW3]; exact this.alloc _)
  have HG3 : Hid (RAt W3 (w.heap.size + 2) 88 Z64) := Lib.hid (by
    have := RAt.new ((w.alloc (Obj.cells (ss.map (Value.int .u32)).toArray 65)).alloc (Obj.cells (Z8.map (Value.int .u32)).toArray 65)) 88 Z64
    rw [show ((w.alloc (Obj.cells (ss.map (Value.int .u32)).toArray 65)).alloc (Obj.cells (Z8.map (Value.int .u32)).toArray 65)).heap.size = w.heap.size + 2 by simp] at this
    rw [hW3]; exact this)
  have HBS := Lib.hid hbs
  have HSO := Lib.hid hso
  have HSL := Lib.hid hs
  clear hW3 hbs hso hs hZ8 hZ64
  go_enter Tryd.func46, Tryd.ntmps46
  go_upto_region 2 with fail
  rw [← HW3.out]
  go_wp2_with fail
  go_loopw [20] (fun q wr => ∃ i : Nat, q = .int .i64 i ∧ i ≤ 16 ∧ Hid (RAt wr (w.heap.size + 2) 88 (eSch bs i)) ∧ Hid (RAt wr w.heap.size 65 ss) ∧ Hid (RAt wr (w.heap.size + 1) 65 Z8) ∧ Hid (Below w.heap.size w wr)) (fun q _ => 16 - (intOf q).toNat)
  case atStart => exact ⟨0, rfl, by omega, by rw [HZ64.out] at HG3; exact HG3, HS3, HR3, HB3⟩
  case round =>
    obtain ⟨i, rfl, hi, HG, HS, HR, HB⟩ := hrel
    by_cases hi16 : i < 16
    · have hlI : decide ((i : Int) < 16) = true := by simp; omega
      obtain ⟨q, hqi⟩ : ∃ q : Nat, q = 4 * i := ⟨_, rfl⟩
      have hq : (4 : Int) * (i : Int) = (q : Int) := by omega
      have hqw : IntKind.i64.wrap (q : Int) = (q : Int) := ewr (by omega) (by omega)
      have hby : ∀ j, j < 4 → wr.cell? ⟨b, off + (4 * i + j), none⟩ = some (.int .u8 (bs.getD (4 * i + j) 0)) := fun j hj => (HB.out.cell (p := ⟨b, off + (4 * i + j), none⟩) hlt).trans (HBS.out (4 * i + j) (by omega))
      have HWD := Lib.hid (spec_word b off n c (4 * i) _ _ _ _ wr (by omega) hnc hc (hby 0 (by omega)) (hby 1 (by omega)) (hby 2 (by omega)) (hby 3 (by omega)))
      rw [Nat.add_zero] at HWD
      have HNW : Hid (eNew bs (eSch bs i) i = eLoad (bs.getD (4 * i) 0) (bs.getD (4 * i + 1) 0) (bs.getD (4 * i + 2) 0) (bs.getD (4 * i + 3) 0)) := Lib.hid (by unfold eNew; rw [if_pos hi16])
      obtain ⟨V, hV⟩ : ∃ V, V = eLoad (bs.getD (4 * i) 0) (bs.getD (4 * i + 1) 0) (bs.getD (4 * i + 2) 0) (bs.getD (4 * i + 3) 0) := ⟨_, rfl⟩
      rw [← hV] at HWD HNW
      rw [← hqi] at HWD
      clear hby hV hqi
      go_wp2_with fail
      refine HWD.out.mono ?_
      rintro e w1 ⟨rfl, hb1⟩
      have HG1 : Hid (RAt w1 (w.heap.size + 2) 88 (eSch bs i)) := Lib.hid (HG.out.bel hb1)
      have HS1 : Hid (RAt w1 w.heap.size 65 ss) := Lib.hid (HS.out.bel hb1)
      have HR1 : Hid (RAt w1 (w.heap.size + 1) 65 Z8) := Lib.hid (HR.out.bel hb1)
      have HB1 : Hid (Below w.heap.size w w1) := Lib.hid (HB.out.trans (hb1.mono HB.out.size))
      have hc1 := (HG1.out.cell (i := i) (by rw [eSch_len]; omega)).1
      have hf1 := (HG1.out.cell (i := i) (by rw [eSch_len]; omega)).2
      clear hb1
      go_wp2_with fail
      go_roundw
      case rel =>
        refine ⟨i + 1, by go_num, by omega, ?_, Lib.hid (HS1.out.other (by first | omega | (simp; done) | (simp; omega))), Lib.hid (HR1.out.other (by first | omega | (simp; done) | (simp; omega))), Lib.hid (HB1.out.setCell (by first | omega | (simp; done) | (simp; omega)) _)⟩
        have := HG1.out.set i V
        rw [show eSch bs (i + 1) = (eSch bs i).set i V by rw [← HNW.out]; rfl]
        exact Lib.hid this
      case measure => simp [intOf]; omega
    · have he16 : i = 16 := by omega
      rw [he16] at HG
      have hlI : decide ((i : Int) < 16) = false := by simp; omega
      obtain ⟨I1, hI1⟩ : ∃ I1 : Int, I1 = (i : Int) := ⟨_, rfl⟩
      rw [← hI1] at hlI ⊢
      clear hI1 he16 hi hi16
      go_wp2_with fail
      go_loopw [7] (fun q wr => ∃ i : Nat, q = .int .i64 i ∧ 16 ≤ i ∧ i ≤ 64 ∧ Hid (RAt wr (w.heap.size + 2) 88 (eSch bs i)) ∧ Hid (RAt wr w.heap.size 65 ss) ∧ Hid (RAt wr (w.heap.size + 1) 65 Z8) ∧ Hid (Below w.heap.size w wr)) (fun q _ => 64 - (intOf q).toNat)
      case atStart => exact ⟨16, rfl, by omega, by omega, HG, HS, HR, HB⟩
      clear HG HS HR HB
      case round =>
        obtain ⟨i, rfl, hi1, hi, HG, HS, HR, HB⟩ := hrel
        by_cases hi64 : i < 64
        · have hlI : decide ((i : Int) < 64) = true := by simp; omega
          obtain ⟨j2, hj2⟩ : ∃ j : Nat, j = i - 2 := ⟨_, rfl⟩
          obtain ⟨j15, hj15⟩ : ∃ j : Nat, j = i - 15 := ⟨_, rfl⟩
          obtain ⟨j7, hj7⟩ : ∃ j : Nat, j = i - 7 := ⟨_, rfl⟩
          obtain ⟨j16, hj16⟩ : ∃ j : Nat, j = i - 16 := ⟨_, rfl⟩
          have c2 := (HG.out.cell (i := j2) (by rw [eSch_len]; omega)).1
          have c15 := (HG.out.cell (i := j15) (by rw [eSch_len]; omega)).1
          have HC7 := Lib.hid (HG.out.cell (i := j7) (by rw [eSch_len]; omega)).1
          have HC16 := Lib.hid (HG.out.cell (i := j16) (by rw [eSch_len]; omega)).1
          have HCI := Lib.hid (HG.out.cell (i := i) (by rw [eSch_len]; omega))
          have k2 := eSch_at bs i j2 (by omega)
          have k15 := eSch_at bs i j15 (by omega)
          have HNW : Hid (eNew bs (eSch bs i) i = eMix ((eSch bs i).getD j2 0) ((eSch bs i).getD j15 0) ((eSch bs i).getD j7 0) ((eSch bs i).getD j16 0)) := Lib.hid (by unfold eNew; rw [if_neg (by omega), hj2, hj15, hj7, hj16])
          generalize (eSch bs i).getD j2 0 = x2 at *
          generalize (eSch bs i).getD j15 0 = x15 at *
          generalize (eSch bs i).getD j7 0 = x7 at *
          generalize (eSch bs i).getD j16 0 = x16 at *
          have a2 : (i : Int) - 2 = (j2 : Int) := by omega
          have a15 : (i : Int) - 15 = (j15 : Int) := by omega
          have a7 : (i : Int) - 7 = (j7 : Int) := by omega
          have a16 : (i : Int) - 16 = (j16 : Int) := by omega
          have m2 : IntKind.i64.wrap (j2 : Int) = j2 := ewr (by omega) (by omega)
          have m15 : IntKind.i64.wrap (j15 : Int) = j15 := ewr (by omega) (by omega)
          have m7 : IntKind.i64.wrap (j7 : Int) = j7 := ewr (by omega) (by omega)
          have m16 : IntKind.i64.wrap (j16 : Int) = j16 := ewr (by omega) (by omega)
          have l2 : (j2 : Int) < 64 := by omega
          have l15 : (j15 : Int) < 64 := by omega
          have l7 : (j7 : Int) < 64 := by omega
          have l16 : (j16 : Int) < 64 := by omega
          have li : (i : Int) < 64 := by omega
          clear hj2 hj15 hj7 hj16
          go_wp2_with fail
          go_quiet (first | (go_at_call 60; exact Calls.quiet_of_same ((spec_right _ _ _ (by assumption) (by kernel_rfl)).mono (fun _ _ h => ⟨h.1, h.2.symm⟩))))
          have c2' : (wr.drewN nq).cell? ⟨w.heap.size + 2, j2, none⟩ = some (.int .u32 x2) := c2
          have HGq : Hid (RAt (wr.drewN nq) (w.heap.size + 2) 88 (eSch bs i)) := HG
          have HSq : Hid (RAt (wr.drewN nq) w.heap.size 65 ss) := HS
          have HRq : Hid (RAt (wr.drewN nq) (w.heap.size + 1) 65 Z8) := HR
          have HBq : Hid (Below w.heap.size w (wr.drewN nq)) := Lib.hid (ebel_drewN HB.out nq)
          have HC7q : Hid ((wr.drewN nq).cell? ⟨w.heap.size + 2, j7, none⟩ = some (.int .u32 x7)) := HC7
          have HC16q : Hid ((wr.drewN nq).cell? ⟨w.heap.size + 2, j16, none⟩ = some (.int .u32 x16)) := HC16
          clear c2 c15 HG HS HR HB HC7 HC16 HCI
          generalize wr.drewN nq = wq at *
          go_wp2_with fail
          go_quiet (first | (go_at_call 60; exact Calls.quiet_of_same ((spec_right _ _ _ (by assumption) (by kernel_rfl)).mono (fun _ _ h => ⟨h.1, h.2.symm⟩))))
          have HGz : Hid (RAt (wq.drewN nq).drew (w.heap.size + 2) 88 (eSch bs i)) := HGq
          have HSz : Hid (RAt (wq.drewN nq).drew w.heap.size 65 ss) := HSq
          have HRz : Hid (RAt (wq.drewN nq).drew (w.heap.size + 1) 65 Z8) := HRq
          have HBz : Hid (Below w.heap.size w (wq.drewN nq).drew) := Lib.hid (ebel_drewN HBq.out nq).drew
          have c7' : (wq.drewN nq).drew.cell? ⟨w.heap.size + 2, j7, none⟩ = some (.int .u32 x7) := HC7q.out
          have c16' : (wq.drewN nq).drew.cell? ⟨w.heap.size + 2, j16, none⟩ = some (.int .u32 x16) := HC16q.out
          clear c2' HGq HSq HRq HBq HC7q HC16q
          generalize hwz : wq.drewN nq = wz at *
          clear hwz
          go_wp2_with fail
          go_still_tail 15, (by kernel_rfl)
          change wpList _ _ _ _ _ wz.drew
          have ci := (HGz.out.cell (i := i) (by rw [eSch_len]; omega)).1
          have cf := (HGz.out.cell (i := i) (by rw [eSch_len]; omega)).2
          clear c7' c16' a2 a15 a7 a16 m2 m15 m7 m16 l2 l15 l7 l16 k2 k15
          generalize wz.drew = w9 at *
          generalize (eSch bs i).getD i 0 = xi at *
          go_wp2_with fail
          go_roundw
          case rel =>
            refine ⟨i + 1, by go_num, by omega, by omega, ?_, Lib.hid (HSz.out.other (by first | omega | (simp; done) | (simp; omega))), Lib.hid (HRz.out.other (by first | omega | (simp; done) | (simp; omega))), Lib.hid (HBz.out.setCell (by first | omega | (simp; done) | (simp; omega)) _)⟩
            rw [show eSch bs (i + 1) = (eSch bs i).set i (eMix x2 x15 x7 x16) by rw [← HNW.out]; rfl]
            exact Lib.hid (HGz.out.set i _)
          case measure => simp [intOf]; omega
        · have he64 : i = 64 := by omega
          rw [he64] at HG
          have hlI : decide ((i : Int) < 64) = false := by simp; omega
          obtain ⟨I2, hI2⟩ : ∃ I2 : Int, I2 = (i : Int) := ⟨_, rfl⟩
          rw [← hI2] at hlI ⊢
          clear hI2 he64 hi hi64 hi1
          have hsz : w.heap.size + 3 ≤ wr.heap.size := HG.out.lt
          have HNV : Hid (RAt (wr.alloc (Obj.cells (Z8.map (Value.int .u32)).toArray 65)) wr.heap.size 65 Z8) := Lib.hid (RAt.new wr _ _)
          have HZ8L : Hid (Z8.length = 8) := Lib.hid (by rw [HZ8.out]; rfl)
          have HZ64L : Hid (Z64.length = 64) := Lib.hid (by rw [HZ64.out]; rfl)
          go_wp2_with (first
            | (refine wpList_loadR rfl 65 (.tmp 2) rfl w.heap.size rfl 65 ss HS.out _ _ Tryd.underlying65 8 einfo8 HSL.out ?_)
            | (refine wpList_storeR rfl 65 (.tmp 10) (.tmp 83) rfl wr.heap.size ss rfl rfl 65 Z8 HNV.out 8 einfo8 HSL.out HZ8L.out ?_; intro w4 HV4 HK4 HL4 HS4'))
          refine (spec_rounds w4).mono ?_
          rintro e w5 ⟨rfl, hb5⟩
          have hs5 : wr.heap.size + 1 ≤ w5.heap.size := by have h1 := HS4'.out; have h2 := hb5.size; simp at h1; omega
          have HV5 : Hid (RAt w5 wr.heap.size 65 ss) := Lib.hid (HV4.out.bel hb5)
          have HG5 : Hid (RAt w5 (w.heap.size + 2) 88 (eSch bs 64)) := Lib.hid ((HK4.out _ _ _ (by omega) (HG.out.alloc _)).bel hb5)
          have HS5 : Hid (RAt w5 w.heap.size 65 ss) := Lib.hid ((HK4.out _ _ _ (by omega) (HS.out.alloc _)).bel hb5)
          have HR5 : Hid (RAt w5 (w.heap.size + 1) 65 Z8) := Lib.hid ((HK4.out _ _ _ (by omega) (HR.out.alloc _)).bel hb5)
          have HB5 : Hid (Below w.heap.size w w5) := Lib.hid ((HL4.out _ _ (by omega) (HB.out.alloc HB.out.size _)).trans (hb5.mono (by have h1 := HS4'.out; simp at h1; omega)))
          have HNC : Hid (RAt (w5.alloc (Obj.cells (Z64.map (Value.int .u32)).toArray 88)) w5.heap.size 88 Z64) := Lib.hid (RAt.new w5 _ _)
          obtain ⟨KS, hKS⟩ : ∃ KS, KS = eK := ⟨_, rfl⟩
          have HKS := Lib.hid hKS
          have HKL : Hid (KS.length = 64) := Lib.hid (by rw [hKS]; rfl)
          rw [← hKS]
          obtain ⟨gv, hgv⟩ : ∃ gv, gv = wr.heap.size := ⟨_, rfl⟩
          rw [← hgv] at HV5 hs5 ⊢
          have hgs : w.heap.size + 3 ≤ gv := by omega
          clear hb5 hKS HV4 HK4 HL4 HS4' HNV HG HS HR HB hgv hsz
          go_wp2_with (first
            | (refine wpList_storeR rfl 88 (.tmp 11) (.tmp 84) rfl w5.heap.size KS rfl rfl 88 Z64 HNC.out 64 einfo64 HKL.out HZ64L.out ?_; intro w6 HC6 HK6 HL6 HS6'))
          have HV6 : Hid (RAt w6 gv 65 ss) := Lib.hid (HK6.out _ _ _ (by omega) (HV5.out.alloc _))
          have HG6 : Hid (RAt w6 (w.heap.size + 2) 88 (eSch bs 64)) := Lib.hid (HK6.out _ _ _ (by omega) (HG5.out.alloc _))
          have HS6 : Hid (RAt w6 w.heap.size 65 ss) := Lib.hid (HK6.out _ _ _ (by omega) (HS5.out.alloc _))
          have HR6 : Hid (RAt w6 (w.heap.size + 1) 65 Z8) := Lib.hid (HK6.out _ _ _ (by omega) (HR5.out.alloc _))
          have HB6 : Hid (Below w.heap.size w w6) := Lib.hid (HL6.out _ _ (by omega) (HB5.out.alloc HB5.out.size _))
          obtain ⟨gc, hgc⟩ : ∃ gc, gc = w5.heap.size := ⟨_, rfl⟩
          rw [← hgc] at HC6 hs5 ⊢
          have HSC := Lib.hid (fun j (hj : j < 64) => eSch_at bs 64 j hj)
          obtain ⟨WS, hWS⟩ : ∃ WS, WS = eSch bs 64 := ⟨_, rfl⟩
          have HWS := Lib.hid hWS
          have HWL : Hid (WS.length = 64) := Lib.hid (by rw [hWS]; exact eSch_len _ _)
          rw [← hWS] at HG6 HSC
          rw [HSS.out] at HV6
          clear hgc hWS HV5 HG5 HS5 HR5 HB5 HNC HK6 HL6 HS6'
          go_loopw [85] (fun q wr => ∃ i : Nat, q = .int .i64 i ∧ i ≤ 64 ∧ Hid (RAt wr gv 65 (eReg KS WS s i).list) ∧ Hid (RAt wr gc 88 KS) ∧ Hid (RAt wr (w.heap.size + 2) 88 WS) ∧ Hid (RAt wr w.heap.size 65 ss) ∧ Hid (RAt wr (w.heap.size + 1) 65 Z8) ∧ Hid (Below w.heap.size w wr)) (fun q _ => 64 - (intOf q).toNat)
          case atStart => exact ⟨0, rfl, by omega, HV6, HC6, HG6, HS6, HR6, HB6⟩
          clear HV6 HC6 HG6 HS6 HR6 HB6
          case round =>
            obtain ⟨i, rfl, hi, HV, HC, HG, HS, HR, HB⟩ := hrel
            by_cases hi64 : i < 64
            · have hlI : decide ((i : Int) < 64) = true := by simp; omega
              have hrok := eReg_ok (ks := KS) (ws := WS) HSO.out i
              have HREG : Hid (eReg KS WS s (i + 1) = eStep (eReg KS WS s i) (KS.getD i 0) (WS.getD i 0)) := Lib.hid rfl
              obtain ⟨r, hr⟩ : ∃ r, r = eReg KS WS s i := ⟨_, rfl⟩
              rw [← hr] at HV HREG hrok
              obtain ⟨Ki, hKi⟩ : ∃ Ki, Ki = KS.getD i 0 := ⟨_, rfl⟩
              obtain ⟨V, hVV⟩ : ∃ V, V = WS.getD i 0 := ⟨_, rfl⟩
              rw [← hKi, ← hVV] at HREG
              have q0 : wr.cell? ⟨gv, 0, none⟩ = some (.int .u32 r.a) := (HV.out.cell (i := 0) (by show 0 < 8; omega)).1
              have q1 : wr.cell? ⟨gv, 1, none⟩ = some (.int .u32 r.b) := (HV.out.cell (i := 1) (by show 1 < 8; omega)).1
              have q2 : wr.cell? ⟨gv, 2, none⟩ = some (.int .u32 r.c) := (HV.out.cell (i := 2) (by show 2 < 8; omega)).1
              have q3 : wr.cell? ⟨gv, 3, none⟩ = some (.int .u32 r.d) := (HV.out.cell (i := 3) (by show 3 < 8; omega)).1
              have q4 : wr.cell? ⟨gv, 4, none⟩ = some (.int .u32 r.e) := (HV.out.cell (i := 4) (by show 4 < 8; omega)).1
              have q5 : wr.cell? ⟨gv, 5, none⟩ = some (.int .u32 r.f) := (HV.out.cell (i := 5) (by show 5 < 8; omega)).1
              have q6 : wr.cell? ⟨gv, 6, none⟩ = some (.int .u32 r.g) := (HV.out.cell (i := 6) (by show 6 < 8; omega)).1
              have q7 : wr.cell? ⟨gv, 7, none⟩ = some (.int .u32 r.h) := (HV.out.cell (i := 7) (by show 7 < 8; omega)).1
              have qk : wr.cell? ⟨gc, i, none⟩ = some (.int .u32 Ki) := by rw [hKi]; exact (HC.out.cell (i := i) (by rw [HKL.out]; omega)).1
              have qw : wr.cell? ⟨w.heap.size + 2, i, none⟩ = some (.int .u32 V) := by rw [hVV]; exact (HG.out.cell (i := i) (by rw [HWL.out]; omega)).1
              have li : (i : Int) < 64 := by omega
              have hre : EW r.e := hrok.2.2.2.2.1
              have hra : EW r.a := hrok.1
              have HROK := Lib.hid hrok
              have HRD : Hid (ERead wr gv gc (w.heap.size + 2) i r Ki V) := Lib.hid ⟨q0, q1, q2, q3, q4, q5, q6, q7, qk, qw⟩
              clear hr hKi hVV hrok
              go_wp2_with fail
              go_quiet (fail)
              clear q0 q1 q2 q3 q4 q5 q6 q7 qk qw
              have HRD1 : Hid (ERead (wr.drewN nq) gv gc (w.heap.size + 2) i r Ki V) := HRD
              have HV1 : Hid (RAt (wr.drewN nq) gv 65 r.list) := HV
              have HC1 : Hid (RAt (wr.drewN nq) gc 88 KS) := HC
              have HG1 : Hid (RAt (wr.drewN nq) (w.heap.size + 2) 88 WS) := HG
              have HS1 : Hid (RAt (wr.drewN nq) w.heap.size 65 ss) := HS
              have HR1 : Hid (RAt (wr.drewN nq) (w.heap.size + 1) 65 Z8) := HR
              have HB1 : Hid (Below w.heap.size w (wr.drewN nq)) := Lib.hid (ebel_drewN HB.out nq)
              clear HRD HV HC HG HS HR HB
              obtain ⟨q0, q1, q2, q3, q4, q5, q6, q7, qk, qw⟩ := HRD1.out
              generalize hw1 : wr.drewN nq = w1 at *
              clear hw1
              go_wp2_with fail
              go_quiet (first | (go_at_call 60; exact Calls.quiet_of_same ((spec_right _ _ _ (by assumption) (by kernel_rfl)).mono (fun _ _ h => ⟨h.1, h.2.symm⟩))))
              clear q0 q1 q2 q3 q4 q5 q6 q7 qk qw
              have HRD : Hid (ERead (w1.drewN nq) gv gc (w.heap.size + 2) i r Ki V) := HRD1
              have HV : Hid (RAt (w1.drewN nq) gv 65 r.list) := HV1
              have HC : Hid (RAt (w1.drewN nq) gc 88 KS) := HC1
              have HG : Hid (RAt (w1.drewN nq) (w.heap.size + 2) 88 WS) := HG1
              have HS : Hid (RAt (w1.drewN nq) w.heap.size 65 ss) := HS1
              have HR : Hid (RAt (w1.drewN nq) (w.heap.size + 1) 65 Z8) := HR1
              have HB : Hid (Below w.heap.size w (w1.drewN nq)) := Lib.hid (ebel_drewN HB1.out nq)
              clear HRD1 HV1 HC1 HG1 HS1 HR1 HB1
              obtain ⟨q0, q1, q2, q3, q4, q5, q6, q7, _, _⟩ := HRD.out
              generalize hw2 : w1.drewN nq = w2 at *
              clear hw2
              go_upto_region 22 with fail
              have hfold : (((r.h + bits BinOp.xor IntKind.u32 (bits BinOp.xor IntKind.u32 (rot r.e (erk 6)) (rot r.e (erk 11))) (rot r.e (erk 25)) + bits BinOp.xor IntKind.u32 (bits BinOp.and IntKind.u32 r.e r.f) (bits BinOp.and IntKind.u32 (bits BinOp.xor IntKind.u32 IntKind.u32.max r.e) r.g) + Ki) % 4294967296 + V) % 4294967296) = eT1 r Ki V := by rw [Int.emod_add_emod]; rfl
              rw [hfold]
              clear hfold
              obtain ⟨N1, hN1⟩ : ∃ N1, N1 = eT1 r Ki V := ⟨_, rfl⟩
              rw [← hN1]
              have HN1 := Lib.hid hN1
              clear hN1
              go_upto_region 23 with (go_at_call 60; refine (spec_right _ _ _ (by assumption) (by kernel_rfl)).mono ?_; rintro e w' ⟨rfl, rfl⟩)
              rw [eT2_fold]
              obtain ⟨N2, hN2⟩ : ∃ N2, N2 = eT2 r := ⟨_, rfl⟩
              rw [← hN2]
              have HN2 := Lib.hid hN2
              clear hN2
              have HNEW : Hid ([(N1 + N2) % 4294967296, r.a, r.b, r.c, (r.d + N1) % 4294967296, r.e, r.f, r.g] = (eStep r Ki V).list) := Lib.hid (by rw [HN1.out, HN2.out]; rfl)
              go_wp2_with (first
                | (refine wpList_build_to rfl 65 _ rfl (([(N1 + N2) % 4294967296, r.a, r.b, r.c, (r.d + N1) % 4294967296, r.e, r.f, r.g] : List Int).map (Value.int .u32)).toArray (by kernel_rfl) ?_)
                | (refine wpList_storeR rfl 65 (.tmp 10) (.tmp 165) rfl gv [(N1 + N2) % 4294967296, r.a, r.b, r.c, (r.d + N1) % 4294967296, r.e, r.f, r.g] rfl rfl 65 r.list HV.out 8 einfo8 rfl rfl ?_; intro w3 HV3 HK3 HL3 HS3'))
              go_roundw
              case rel =>
                refine ⟨i + 1, by go_num, by omega, ?_, Lib.hid (HK3.out _ _ _ (by omega) HC.out), Lib.hid (HK3.out _ _ _ (by omega) HG.out), Lib.hid (HK3.out _ _ _ (by omega) HS.out), Lib.hid (HK3.out _ _ _ (by omega) HR.out), Lib.hid (HL3.out _ _ (by omega) HB.out)⟩
                rw [HREG.out, ← HNEW.out]
                exact HV3
              case measure => simp [intOf]; omega
            · have he64 : i = 64 := by omega
              rw [he64] at HV
              have hlI : decide ((i : Int) < 64) = false := by simp; omega
              obtain ⟨I3, hI3⟩ : ∃ I3 : Int, I3 = (i : Int) := ⟨_, rfl⟩
              rw [← hI3] at hlI ⊢
              clear hI3 he64 hi hi64
              obtain ⟨RL, hRL⟩ : ∃ RL, RL = (eReg KS WS s 64).list := ⟨_, rfl⟩
              have HRL := Lib.hid hRL
              have HRLL : Hid (RL.length = 8) := Lib.hid (by rw [hRL]; rfl)
              rw [← hRL] at HV
              clear hRL HC HG
              go_wp2_with fail
              go_loopw [167] (fun q wr => ∃ i : Nat, q = .int .i64 i ∧ i ≤ 8 ∧ Hid (RAt wr w.heap.size 65 (eAdd ss RL i)) ∧ Hid (RAt wr gv 65 RL) ∧ Hid (RAt wr (w.heap.size + 1) 65 Z8) ∧ Hid (Below w.heap.size w wr)) (fun q _ => 8 - (intOf q).toNat)
              case atStart => exact ⟨0, rfl, by omega, HS, HV, HR, HB⟩
              clear HV HS HR HB
              case round =>
                obtain ⟨i, rfl, hi, HS, HV, HR, HB⟩ := hrel
                by_cases hi8 : i < 8
                · have hlI : decide ((i : Int) < 8) = true := by simp; omega
                  have li : (i : Int) < 8 := by omega
                  have HCS := Lib.hid (HS.out.cell (i := i) (by rw [eAdd_len, HSL.out]; omega))
                  have HCV := Lib.hid (HV.out.cell (i := i) (by rw [HRLL.out]; omega)).1
                  have HNX : Hid (eAdd ss RL (i + 1) = (eAdd ss RL i).set i (((eAdd ss RL i).getD i 0 + RL.getD i 0) % 4294967296)) := Lib.hid rfl
                  obtain ⟨AL, hAL⟩ : ∃ AL, AL = eAdd ss RL i := ⟨_, rfl⟩
                  rw [← hAL] at HCS HNX HS
                  clear hAL
                  generalize AL.getD i 0 = x at *
                  generalize RL.getD i 0 = y at *
                  have c1 : wr.drew.cell? ⟨w.heap.size, i, none⟩ = some (.int .u32 x) := HCS.out.1
                  have c2 : wr.drew.cell? ⟨gv, i, none⟩ = some (.int .u32 y) := HCV.out
                  have cf : wr.drew.frozen? ⟨w.heap.size, i, none⟩ = false := HCS.out.2
                  go_wp2_with fail
                  go_still_tail 8, (by kernel_rfl)
                  change wpList _ _ _ _ _ wr.drew
                  have HSz : Hid (RAt wr.drew w.heap.size 65 AL) := HS
                  have HVz : Hid (RAt wr.drew gv 65 RL) := HV
                  have HRz : Hid (RAt wr.drew (w.heap.size + 1) 65 Z8) := HR
                  have HBz : Hid (Below w.heap.size w wr.drew) := Lib.hid HB.out.drew
                  clear HS HV HR HB HCS HCV
                  generalize wr.drew = w9 at *
                  go_wp2_with fail
                  go_roundw
                  case rel =>
                    refine ⟨i + 1, by go_num, by omega, ?_, Lib.hid (HVz.out.other (by first | omega | (simp; done) | (simp; omega))), Lib.hid (HRz.out.other (by first | omega | (simp; done) | (simp; omega))), Lib.hid (HBz.out.setCell (by first | omega | (simp; done) | (simp; omega)) _)⟩
                    rw [HNX.out]
                    exact Lib.hid (HSz.out.set i _)
                  case measure => simp [intOf]; omega
                · have he8 : i = 8 := by omega
                  rw [he8] at HS
                  have hlI : decide ((i : Int) < 8) = false := by simp; omega
                  obtain ⟨I4, hI4⟩ : ∃ I4 : Int, I4 = (i : Int) := ⟨_, rfl⟩
                  rw [← hI4] at hlI ⊢
                  clear hI4 he8 hi hi8
                  have HOL : Hid (eAdd ss RL 8 = OUT) := Lib.hid (by rw [HOUT.out, HSS.out, HRL.out, HKS.out, HWS.out]; rfl)
                  have HOLL : Hid (OUT.length = 8) := Lib.hid (by rw [← HOL.out, eAdd_len, HSL.out])
                  rw [HOL.out] at HS
                  go_wp2_with (first
                    | (refine wpList_loadR rfl 65 (.tmp 2) rfl w.heap.size rfl 65 OUT HS.out _ _ Tryd.underlying65 8 einfo8 HOLL.out ?_)
                    | (refine wpList_storeR rfl 65 (.tmp 4) (.tmp 179) rfl (w.heap.size + 1) OUT rfl rfl 65 Z8 HR.out 8 einfo8 HOLL.out HZ8L.out ?_; intro w4 HR4 HK4 HL4 HS4'))
                  try simp only [Exit.inBlock, Exit.then]
                  refine bodyPost_ret (results_cell_row rfl _ _ (w.heap.size + 1) 65 _ (0, 0) _ rfl HR4.out Tryd.underlying65 rfl (by rw [einfo8]; simp [HOLL.out])) rfl ?_
                  exact ⟨rfl, HL4.out _ _ (by omega) HB.out⟩

end Go.Proofs.YtlmcoaidngnomaaDoor
