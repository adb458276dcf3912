/- The contracts of the laws' markText, markStringS, heldStringS: a row is marked, and it is seen that the marks are there. Condition: at most 2 to the power of 20 texts. -/
import Derived.Test.YtienkoadkhcghaaApp
import Derived.Test.YtienkoadkhcghaaBw
import Derived.Laws.IdiomStrings
namespace Go.Proofs.Ytienkoadkhcghaa
open Go.RowKit
attribute [local go_sem] app_str bw_cell

/-- the digits of a number ahead of a text -/
def digs (n : Nat) (acc : List UInt8) : List UInt8 :=
  if h : 0 < n then digs (n / 10) (UInt8.ofNat (48 + n % 10) :: acc) else acc
  termination_by n
  decreasing_by exact Nat.div_lt_self h (by decide)
theorem digs_pos {n : Nat} (h : 0 < n) (acc : List UInt8) : digs n acc = digs (n / 10) (UInt8.ofNat (48 + n % 10) :: acc) := by rw [digs, dif_pos h]
theorem digs_zero (acc : List UInt8) : digs 0 acc = acc := by rw [digs, dif_neg (by omega)]
/-- the mark with a number -/
def mk (n : Nat) : List UInt8 := 109 :: digs n []

theorem conv_one (w : World) (r : Nat) (hr : r < 10) : (convert 44 9 (.slice (some ⟨w.heap.size, 0, none⟩) 1 1)).run Try.prog (w.alloc (Obj.cells #[Value.int IntKind.u8 (48 + (r : Int))] 5)) = .ok (str [UInt8.ofNat (48 + r)]) (w.alloc (Obj.cells #[Value.int IntKind.u8 (48 + (r : Int))] 5)) := by
  have hv : ((UInt8.ofNat (48 + r)).toNat : Int) = 48 + (r : Int) := by
    rw [UInt8.toNat_ofNat']
    omega
  exact run_convert_bytes_back (P := Try.prog) (w.alloc (Obj.cells #[Value.int IntKind.u8 (48 + (r : Int))] 5)) 44 9 5 ⟨w.heap.size, 0, none⟩ 1 [UInt8.ofNat (48 + r)] Try.underlying44 Try.underlying5 Try.underlying9 (fun j hj => by
    have h0 : j = 0 := by simp at hj; exact hj
    subst h0
    simp only [List.getElem_cons_zero]
    rw [hv]
    simp [Addr.add])
set_option maxHeartbeats 1000000 in
theorem markText_any (n : Nat) (w : World) (h0 : 0 < n) (hn : n ≤ 2097152) :
    Calls Try.prog 32 #[.int .i64 n] w fun e w' => e = .returned (str (mk n)) ∧ Below w.heap.size w w' := by
  go_enter Try.func32, Try.ntmps32
  go_wp2_with fail
  go_loopw [0, 3] (fun a t wr => ∃ (m : Nat) (acc : List UInt8), a = .int .i64 m ∧ t = str acc ∧ acc.length + m ≤ 2097152 ∧ Hid (digs m acc = digs n []) ∧ Hid (Below w.heap.size w wr)) (fun a _ _ => (intOf a).toNat)
  case atStart => exact ⟨n, [], rfl, rfl, by simpa using hn, Lib.hid rfl, Lib.hid (Below.refl _ _)⟩
  case round =>
    obtain ⟨m, acc, rfl, rfl, hm, hd, hb⟩ := hrel
    by_cases hlt : 0 < m
    · have HD : Hid (digs (m / 10) (UInt8.ofNat (48 + m % 10) :: acc) = digs n []) := Lib.hid (by rw [← digs_pos hlt]; exact hd.out)
      obtain ⟨r, hr0⟩ : ∃ r : Nat, r = m % 10 := ⟨_, rfl⟩
      obtain ⟨q, hq0⟩ : ∃ q : Nat, q = m / 10 := ⟨_, rfl⟩
      have hr : (m : Int) % 10 = (r : Int) := by omega
      have hrt : (m : Int).tmod 10 = (r : Int) := by rw [Int.tmod_eq_emod_of_nonneg (by omega)]; omega
      have hq : (m : Int) / 10 = (q : Int) := by omega
      have hqt : (m : Int).tdiv 10 = (q : Int) := by rw [Int.tdiv_eq_ediv_of_nonneg (by omega)]; omega
      have hr10 : r < 10 := by omega
      have hqm : q + 1 ≤ m := by omega
      rw [← hr0, ← hq0] at HD
      clear hr0 hq0
      have hconv := conv_one wr r hr10
      have HB2 : Hid (Below w.heap.size w (wr.alloc (Obj.cells #[Value.int IntKind.u8 (48 + (r : Int))] 5))) := Lib.hid (bl_alloc hb.out hb.out.size _)
      go_wp2_with fail
      go_roundw
      case rel => exact ⟨q, UInt8.ofNat (48 + r) :: acc, by go_num, by simp, by simp; omega, HD, HB2⟩
      case measure => simp [intOf]; omega
    · obtain rfl : m = 0 := by omega
      have HD : Hid (mk n = 109 :: acc) := Lib.hid (by unfold mk; rw [← hd.out, digs_zero])
      clear hd
      go_wp2_with fail
      go_ret
      exact ⟨ret_str HD.out.symm, hb.out⟩

/-- marks from a number on -/
def marks (k n : Nat) : List (List UInt8) := (List.range n).map fun j => mk (k + j)
theorem marks_at {k n j : Nat} (h : j < n) : (marks k n)[j]? = some (mk (k + j)) := by simp [marks, h]

/-- a row of n texts of one's own: its cells hold texts and may be written -/
def RowAt (w : World) (g : Nat) (xs : List (List UInt8)) : Prop := g < w.heap.size ∧ ∀ k u, xs[k]? = some u → w.cell? ⟨g, k, none⟩ = some (str u) ∧ w.frozen? ⟨g, k, none⟩ = false
theorem RowAt.below {w w' : World} {g : Nat} {xs : List (List UInt8)} (h : RowAt w g xs) (hb : Below w.heap.size w w') : RowAt w' g xs :=
  ⟨Nat.lt_of_lt_of_le h.1 hb.size, fun k u hu => ⟨(hb.cell (p := ⟨g, k, none⟩) h.1).trans (h.2 k u hu).1, (hb.frozen (p := ⟨g, k, none⟩) h.1).trans (h.2 k u hu).2⟩⟩
theorem RowAt.set {w : World} {g : Nat} {xs : List (List UInt8)} (h : RowAt w g xs) {k : Nat} (hk : k < xs.length) (y : List UInt8) : RowAt (w.setCell ⟨g, k, none⟩ (str y)) g (xs.set k y) := by
  refine ⟨by simpa using h.1, fun j u hu => ?_⟩
  rw [List.getElem?_set] at hu
  split at hu
  · rename_i e
    subst e
    simp at hu
    subst hu
    obtain ⟨u, hu⟩ : ∃ u, xs[k]? = some u := ⟨_, List.getElem?_eq_getElem hk⟩
    exact ⟨World.cell?_setCell_same _ _ _ (h.2 k u hu).1, by rw [World.frozen?_setCell]; exact (h.2 k u hu).2⟩
  · rename_i e
    exact ⟨by rw [World.cell?_setCell_other _ _ _ _ (fun e2 => e (by simpa using congrArg Addr.off e2))]; exact (h.2 j u hu).1, by rw [World.frozen?_setCell]; exact (h.2 j u hu).2⟩
/-- all but one block as it was -/
def But (g : Nat) (w w' : World) : Prop := w'.os = w.os ∧ w'.tape = w.tape ∧ w'.output = w.output ∧ w.heap.size ≤ w'.heap.size ∧ ∀ b, b < w.heap.size → b ≠ g → w'.heap[b]? = w.heap[b]?
theorem But.refl (g : Nat) (w : World) : But g w w := ⟨rfl, rfl, rfl, Nat.le_refl _, fun _ _ _ => rfl⟩
theorem But.below {g : Nat} {w w1 w2 : World} (h : But g w w1) (hb : Below w1.heap.size w1 w2) : But g w w2 :=
  ⟨hb.os.trans h.1, hb.tape.trans h.2.1, hb.output.trans h.2.2.1, Nat.le_trans h.2.2.2.1 hb.size, fun b hlt hne => (hb.block b (Nat.lt_of_lt_of_le hlt h.2.2.2.1)).trans (h.2.2.2.2 b hlt hne)⟩
theorem But.set {g : Nat} {w w1 : World} (h : But g w w1) (k : Nat) (v : Value) : But g w (w1.setCell ⟨g, k, none⟩ v) :=
  ⟨h.1, h.2.1, h.2.2.1, by simpa using h.2.2.2.1, fun b hlt hne => by rw [heap_setCell_other _ _ _ _ (fun e => hne (by simpa using e))]; exact h.2.2.2.2 b hlt hne⟩
theorem But.mono {g B : Nat} {w w' : World} (h : But g w w') (hB : B ≤ g) (hw : B ≤ w.heap.size) : Below B w w' := ⟨h.1, h.2.1, h.2.2.1, h.2.2.2.1, fun b hb => h.2.2.2.2 b (by omega) (by omega)⟩

theorem mark_step {xs : List (List UInt8)} {k0 i : Nat} (hi : i < xs.length) : ((marks k0 i ++ xs.drop i).set i (mk (k0 + i))) = marks k0 (i + 1) ++ xs.drop (i + 1) := by
  have hl : (marks k0 i).length = i := by simp [marks]
  rw [List.set_append_right _ _ (by omega), hl, Nat.sub_self, List.drop_eq_getElem_cons hi, List.set_cons_zero]
  unfold marks
  rw [List.range_succ, List.map_append]
  simp
set_option maxHeartbeats 1000000 in
theorem markStringS_any (g cap : Nat) (xs : List (List UInt8)) (w : World) (h : RowAt w g xs) (hc : xs.length ≤ cap ∧ cap ≤ 9223372036854775807) (hn : xs.length ≤ 1048576) :
    Calls Try.prog 22 #[.slice (some ⟨g, 0, none⟩) xs.length cap, .int .i64 1] w fun e w' => e = .returned (.int .i64 ((1 + xs.length : Nat) : Int)) ∧ RowAt w' g (marks 1 xs.length) ∧ But g w w' := by
  obtain ⟨hc1, hc2⟩ := hc
  have H := Lib.hid h
  clear h
  go_enter Try.func22, Try.ntmps22
  go_wp2_with fail
  go_loopw [1, 5] (fun q i wr => ∃ k : Nat, q = .int .i64 ((1 + k : Nat) : Int) ∧ i = .int .i64 k ∧ k ≤ xs.length ∧ Hid (RowAt wr g (marks 1 k ++ xs.drop k)) ∧ Hid (But g w wr)) (fun _ i _ => xs.length - (intOf i).toNat)
  case atStart => exact ⟨0, rfl, rfl, by omega, Lib.hid H.out, Lib.hid (But.refl _ _)⟩
  case round =>
    obtain ⟨k, rfl, rfl, hk, hr, hb⟩ := hrel
    by_cases hlt : k < xs.length
    · go_wp2_with fail
      refine (markText_any (1 + k) wr (by omega) (by omega)).mono ?_
      rintro e wc ⟨rfl, hbc⟩
      have HR2 := Lib.hid (hr.out.below hbc)
      have HB2 := Lib.hid (hb.out.below hbc)
      obtain ⟨u, hu⟩ : ∃ u, (marks 1 k ++ xs.drop k)[k]? = some u := ⟨_, List.getElem?_eq_getElem (by simp [marks]; omega)⟩
      obtain ⟨hcell, hfz⟩ := HR2.out.2 k u hu
      have HR3 : Hid (RowAt (wc.setCell ⟨g, k, none⟩ (str (mk (1 + k)))) g (marks 1 (k + 1) ++ xs.drop (k + 1))) := Lib.hid (by rw [← mark_step hlt]; exact HR2.out.set (by simp [marks]; omega) _)
      have HB3 : Hid (But g w (wc.setCell ⟨g, k, none⟩ (str (mk (1 + k))))) := Lib.hid (HB2.out.set k _)
      clear hbc hr hb hu
      generalize mk (1 + k) = M at *
      go_wp2_with fail
      go_roundw
      case rel => exact ⟨k + 1, by go_num, by go_num, by omega, HR3, HB3⟩
      case measure => simp [intOf]; omega
    · obtain rfl : k = xs.length := by omega
      have HR4 : Hid (RowAt wr g (marks 1 xs.length)) := Lib.hid (by have := hr.out; rw [List.drop_length, List.append_nil] at this; exact this)
      clear hr
      go_wp2_with fail
      go_ret
      exact ⟨rfl, HR4.out, hb.out⟩

set_option maxHeartbeats 1000000 in
theorem heldStringS_any (g cap n : Nat) (w : World) (h : RowAt w g (marks 1 n)) (hc : n ≤ cap ∧ cap ≤ 9223372036854775807) (hn : n ≤ 1048576) :
    Calls Try.prog 23 #[.slice (some ⟨g, 0, none⟩) n cap, .int .i64 1] w fun e w' => e = .returned (.int .i64 ((1 + n : Nat) : Int)) ∧ Below w.heap.size w w' := by
  obtain ⟨hc1, hc2⟩ := hc
  have H := Lib.hid h
  clear h
  go_enter Try.func23, Try.ntmps23
  go_wp2_with fail
  go_loopw [1, 5] (fun q i wr => ∃ k : Nat, q = .int .i64 ((1 + k : Nat) : Int) ∧ i = .int .i64 k ∧ k ≤ n ∧ Hid (Below w.heap.size w wr)) (fun _ i _ => n - (intOf i).toNat)
  case atStart => exact ⟨0, rfl, rfl, by omega, Lib.hid (Below.refl _ _)⟩
  case round =>
    obtain ⟨k, rfl, rfl, hk, hb⟩ := hrel
    by_cases hlt : k < n
    · have HM := Lib.hid (fun W => markText_any (1 + k) W (by omega) (by omega))
      have hx : wr.cell? ⟨g, k, none⟩ = some (str (mk (1 + k))) := ((H.out.below hb.out).2 k _ (marks_at hlt)).1
      have hgl : g < wr.heap.size := (H.out.below hb.out).1
      generalize mk (1 + k) = M at *
      have hmm : (M == M) = true := by simp
      go_wp2_with fail
      refine wp_region_bw (by kernel_rfl) (by kernel_rfl) ?_
      repeat (go_big_quiet_step (exact bw_call (HM.out _)))
      refine wpQuiet_nil ?_
      intro wq hw'
      have hbq : Below wr.heap.size wr wq := by obtain ⟨p, rfl⟩ := hw'; exact p.bel
      clear hw'
      have HB2 : Hid (Below w.heap.size w wq) := Lib.hid (bl_next' hb.out hbq)
      clear hbq
      go_wp2_with fail
      go_roundw
      case rel => exact ⟨k + 1, by go_num, by go_num, by omega, HB2⟩
      case measure => simp [intOf]; omega
    · obtain rfl : k = n := by omega
      go_wp2_with fail
      go_ret
      exact ⟨rfl, hb.out⟩

end Go.Proofs.Ytienkoadkhcghaa
