/- The reference's SHA-256, its parts: a word of four bytes, a number turned to the right, the 64 constants. Conditions: the bytes lie in memory. -/
import Derived.Test.YtlmcoaidngnomaaDoorSha1
import Derived.BigQuiet
import Derived.BigRegion
import Derived.StillTailTactics
import Derived.Deep.CutRange
import Derived.Deep.MidRow
namespace Go.Proofs.YtlmcoaidngnomaaDoor
open Go.RowKit
set_option linter.unusedVariables false

/-- a word of 32 bits -/
def EW (x : Int) : Prop := 0 ≤ x ∧ x < 4294967296
/-- how far to the left the reference turns -/
def erk (k : Int) : Nat := (bits BinOp.and IntKind.u64 (IntKind.u64.wrap (-k)) 31).toNat
def erkOk (k : Int) : Bool := decide (IntKind.i64.wrap (-k) = -k ∧ bits BinOp.and IntKind.u64 (IntKind.u64.wrap (-k)) 31 = ((erk k : Nat) : Int) ∧ 0 < erk k ∧ erk k < 32)
theorem spec_right (x k : Int) (w : World) (h : EW x) (hk : erkOk k = true) : Calls Tryd.prog 60 #[.int .u32 x, .int .i64 k] w fun e w' => e = .returned (.int .u32 (rot x (erk k))) ∧ w = w' := by
  obtain ⟨h0, h1, h2, h3⟩ := of_decide_eq_true hk
  have HR := Lib.hid (rot_any x (-k) (erk k) w h.1 h.2 h1 h2 h3)
  clear h1 h2 h3 hk
  go_enter Tryd.func60, Tryd.ntmps60
  go_wp2_with fail
  refine HR.out.mono ?_
  rintro e w' ⟨rfl, rfl⟩
  go_wp2_with fail
  go_ret
  exact ⟨rfl, rfl⟩
/-- four bytes as a word -/
def eLoad (x0 x1 x2 x3 : Int) : Int := bits BinOp.or IntKind.u32 (bits BinOp.or IntKind.u32 (bits BinOp.or IntKind.u32 (x0 % 4294967296 * 16777216 % 4294967296) (x1 % 4294967296 * 65536 % 4294967296)) (x2 % 4294967296 * 256 % 4294967296)) (x3 % 4294967296)
theorem ewr {n : Int} (h : -9223372036854775808 ≤ n) (h' : n ≤ 9223372036854775807) : IntKind.i64.wrap n = n := by rw [IntKind.wrap_i64]; omega
set_option maxHeartbeats 2000000 in
theorem spec_word (b off n c q : Nat) (x0 x1 x2 x3 : Int) (w : World) (hq : q + 3 < n) (hn : n ≤ c) (hc : c ≤ 9223372036854775807)
    (e0 : w.cell? ⟨b, off + q, none⟩ = some (.int .u8 x0)) (e1 : w.cell? ⟨b, off + (q + 1), none⟩ = some (.int .u8 x1)) (e2 : w.cell? ⟨b, off + (q + 2), none⟩ = some (.int .u8 x2)) (e3 : w.cell? ⟨b, off + (q + 3), none⟩ = some (.int .u8 x3)) :
    Calls Tryd.prog 59 #[.slice (some ⟨b, off, none⟩) n c, .int .i64 q] w fun e w' => e = .returned (.int .u32 (eLoad x0 x1 x2 x3)) ∧ Below w.heap.size w w' := by
  have l0 : (q : Int) < (n : Int) := by omega
  have l1 : (q : Int) + 1 < (n : Int) := by omega
  have l2 : (q : Int) + 2 < (n : Int) := by omega
  have l3 : (q : Int) + 3 < (n : Int) := by omega
  have p0 : (0 : Int) ≤ (q : Int) := by omega
  have p1 : (0 : Int) ≤ (q : Int) + 1 := by omega
  have p2 : (0 : Int) ≤ (q : Int) + 2 := by omega
  have p3 : (0 : Int) ≤ (q : Int) + 3 := by omega
  have n1 : ((q : Int) + 1).toNat = q + 1 := by omega
  have n2 : ((q : Int) + 2).toNat = q + 2 := by omega
  have n3 : ((q : Int) + 3).toNat = q + 3 := by omega
  have r1 : IntKind.i64.wrap ((q : Int) + 1) = (q : Int) + 1 := ewr (by omega) (by omega)
  have r2 : IntKind.i64.wrap ((q : Int) + 2) = (q : Int) + 2 := ewr (by omega) (by omega)
  have r3 : IntKind.i64.wrap ((q : Int) + 3) = (q : Int) + 3 := ewr (by omega) (by omega)
  clear hq hn hc
  go_enter Tryd.func59, Tryd.ntmps59
  go_wp2_with fail
  go_quiet (fail)
  go_wp2_with fail
  go_ret
  have h := Below.refl w.heap.size w
  exact ⟨rfl, h.os, h.tape, h.output, h.size, h.block⟩

/-- the row of a block holds words -/
def RAt (w : World) (g : Nat) (t : TypeId) (ws : List Int) : Prop := w.heap[g]? = some (.cells (ws.map (Value.int .u32)).toArray t (0, 0))
theorem RAt.cell {w : World} {g : Nat} {t : TypeId} {ws : List Int} (h : RAt w g t ws) {i : Nat} (hi : i < ws.length) : w.cell? ⟨g, i, none⟩ = some (.int .u32 (ws.getD i 0)) ∧ w.frozen? ⟨g, i, none⟩ = false := by
  unfold RAt at h
  simp [World.cell?, World.frozen?, h, hi]
theorem RAt.set {w : World} {g : Nat} {t : TypeId} {ws : List Int} (h : RAt w g t ws) (i : Nat) (v : Int) : RAt (w.setCell ⟨g, i, none⟩ (.int .u32 v)) g t (ws.set i v) := by
  unfold RAt at h ⊢
  rw [heap_setCell_same _ _ _ _ _ _ h]
  congr 2
  rw [List.setIfInBounds_toArray, List.map_set]
theorem RAt.other {w : World} {g b i : Nat} {t : TypeId} {ws : List Int} {v : Value} (h : RAt w g t ws) (hne : g ≠ b) : RAt (w.setCell ⟨b, i, none⟩ v) g t ws := (heap_setCell_other _ _ _ _ (fun e => hne (by simpa using e))).trans h
theorem RAt.row {w : World} {g : Nat} {t : TypeId} {ws : List Int} (h : RAt w g t ws) (us : List Int) : RAt (w.setRow g (us.map (Value.int .u32)).toArray) g t us := setRow_heap w g _ _ t _ h
theorem RAt.otherRow {w : World} {g b : Nat} {t : TypeId} {ws : List Int} {cs : Array Value} (h : RAt w g t ws) (hne : g ≠ b) : RAt (w.setRow b cs) g t ws := (setRow_other _ _ _ _ hne).trans h
theorem RAt.alloc {w : World} {g : Nat} {t : TypeId} {ws : List Int} (h : RAt w g t ws) (o : Obj) : RAt (w.alloc o) g t ws := (Below.heap_alloc _ _ _ (Array.getElem?_eq_some_iff.1 h).1).trans h
theorem RAt.below {w w' : World} {g B : Nat} {t : TypeId} {ws : List Int} (h : RAt w g t ws) (hb : Below B w w') (hg : g < B) : RAt w' g t ws := (hb.block g hg).trans h
theorem RAt.bel {w w' : World} {g : Nat} {t : TypeId} {ws : List Int} (h : RAt w g t ws) (hb : Below w.heap.size w w') : RAt w' g t ws := (hb.block g (Array.getElem?_eq_some_iff.1 h).1).trans h
theorem RAt.new (w : World) (t : TypeId) (ws : List Int) : RAt (w.alloc (Obj.cells (ws.map (Value.int .u32)).toArray t)) w.heap.size t ws := heap_alloc_new w _
theorem RAt.lt {w : World} {g : Nat} {t : TypeId} {ws : List Int} (h : RAt w g t ws) : g < w.heap.size := (Array.getElem?_eq_some_iff.1 h).1
theorem RAt.range {w : World} {g : Nat} {t : TypeId} {ws : List Int} (h : RAt w g t ws) : w.rangeAt g 0 (ws.map (Value.int .u32)) := fun j v hv => by
  unfold RAt at h
  rw [Nat.zero_add]
  simp [World.cell?, h] at hv ⊢
  exact hv
theorem ebel_drewN {B : Nat} {w w' : World} (h : Below B w w') (n : Nat) : Below B w (w'.drewN n) := ⟨h.os, h.tape, h.output, h.size, h.block⟩
theorem RAt.drewN {w : World} {g : Nat} {t : TypeId} {ws : List Int} (h : RAt w g t ws) (n : Nat) : RAt (w.drewN n) g t ws := h
theorem RAt.drew {w : World} {g : Nat} {t : TypeId} {ws : List Int} (h : RAt w g t ws) : RAt w.drew g t ws := h
theorem ebl_setRow {B g : Nat} {w w' : World} (h : Below B w w') (hg : B ≤ g) (cs : Array Value) : Below B w (w'.setRow g cs) :=
  ⟨h.os, h.tape, h.output, by simpa [World.setRow] using h.size, fun b hlt => by rw [setRow_other _ _ _ _ (by omega)]; exact h.block b hlt⟩
theorem eall32 (ws : List Int) : (ws.map (Value.int .u32)).toArray.all (·.oneCell') = true := by
  rw [Array.all_eq_true_iff_forall_mem]
  intro v hv
  obtain ⟨z, _, rfl⟩ := List.mem_map.1 (by simpa using hv)
  rfl
theorem einfo8 : (Tryd.prog.info? 65).map (·.size) = some 8 := by kernel_rfl
theorem einfo64 : (Tryd.prog.info? 88).map (·.size) = some 64 := by kernel_rfl
theorem ez8_info : (Tryd.prog.info? 65).map (fun i => i.zero) = some (some (.agg ((List.replicate 8 (0 : Int)).map (Value.int .u32)).toArray)) := by kernel_rfl
theorem ez8 (w : World) : (zeroValue 65).run Tryd.prog w = .ok (.agg ((List.replicate 8 (0 : Int)).map (Value.int .u32)).toArray) w := by
  obtain ⟨i, hi, hz⟩ := Option.map_eq_some_iff.1 ez8_info
  simp [zeroValue, typeInfo, hi, hz]
theorem ez64_info : (Tryd.prog.info? 88).map (fun i => i.zero) = some (some (.agg ((List.replicate 64 (0 : Int)).map (Value.int .u32)).toArray)) := by kernel_rfl
theorem ez64 (w : World) : (zeroValue 88).run Tryd.prog w = .ok (.agg ((List.replicate 64 (0 : Int)).map (Value.int .u32)).toArray) w := by
  obtain ⟨i, hi, hz⟩ := Option.map_eq_some_iff.1 ez64_info
  simp [zeroValue, typeInfo, hi, hz]
/-- the constants of SHA-256 -/
def eK : List Int := [1116352408, 1899447441, 3049323471, 3921009573, 961987163, 1508970993, 2453635748, 2870763221, 3624381080, 310598401, 607225278, 1426881987, 1925078388, 2162078206, 2614888103, 3248222580, 3835390401, 4022224774, 264347078, 604807628, 770255983, 1249150122, 1555081692, 1996064986, 2554220882, 2821834349, 2952996808, 3210313671, 3336571891, 3584528711, 113926993, 338241895, 666307205, 773529912, 1294757372, 1396182291, 1695183700, 1986661051, 2177026350, 2456956037, 2730485921, 2820302411, 3259730800, 3345764771, 3516065817, 3600352804, 4094571909, 275423344, 430227734, 506948616, 659060556, 883997877, 958139571, 1322822218, 1537002063, 1747873779, 1955562222, 2024104815, 2227730452, 2361852424, 2428436474, 2756734187, 3204031479, 3329325298]

end Go.Proofs.YtlmcoaidngnomaaDoor
