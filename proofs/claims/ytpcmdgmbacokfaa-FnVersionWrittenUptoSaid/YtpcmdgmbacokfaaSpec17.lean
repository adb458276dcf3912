/- The walk of FnShorthandBare: it returns true. Condition: each text takes at most 2 to the power of 47 bytes. -/
import Derived.Test.YtpcmdgmbacokfaaBw
import Derived.Test.YtpcmdgmbacokfaaSemLaws5
namespace Go.Proofs.Ytpcmdgmbacokfaa
open Go.RowKit
attribute [local go_sem] app_str bw_cell

theorem valid_is {x : List UInt8} {r : Bool} (h : Sem.isValid x = r) (w : World) (hx : x.length ≤ 1125899906842624) :
    Calls Try.prog 31 #[str x] w fun e w' => e = .returned (.bool r) ∧ Below w.heap.size w w' := by
  have := impl_VersionOk x w hx
  rw [h] at this
  exact this

/-- behind one or two numbers nothing but a point or the end -/
theorem bare_one {a t : List UInt8} (ha : Sem.Num a) (c : UInt8) (hc : Sem.isDig c = false) (h46 : c ≠ 46) : Sem.isValid (118 :: (a ++ c :: t)) = false := by
  have e1 : Sem.parseInt (a ++ c :: t) = some (a, c :: t) := Sem.parseInt_iff.2 ⟨rfl, ha, fun d h => by simp at h; rw [← h]; exact hc⟩
  simp [Sem.isValid, Sem.parse, e1, h46]
theorem bare_two {a b t : List UInt8} (ha : Sem.Num a) (hb : Sem.Num b) (c : UInt8) (hc : Sem.isDig c = false) (h46 : c ≠ 46) : Sem.isValid (118 :: (a ++ 46 :: (b ++ c :: t))) = false := by
  have e1 : Sem.parseInt (a ++ 46 :: (b ++ c :: t)) = some (a, 46 :: (b ++ c :: t)) := Sem.parseInt_iff.2 ⟨rfl, ha, Sem.noDig_dot _⟩
  have e2 : Sem.parseInt (b ++ c :: t) = some (b, c :: t) := Sem.parseInt_iff.2 ⟨rfl, hb, fun d h => by simp at h; rw [← h]; exact hc⟩
  simp [Sem.isValid, Sem.parse, e1, e2, h46]
theorem full_three {a b c pre build : List UInt8} (ha : Sem.Num a) (hb : Sem.Num b) (hc : Sem.Num c) (ht : Sem.TailOk pre build) : Sem.isValid (118 :: (a ++ 46 :: (b ++ 46 :: (c ++ (pre ++ build))))) = true := by
  have : Sem.parse (118 :: (a ++ 46 :: (b ++ 46 :: (c ++ (pre ++ build))))) = some ⟨a, b, c, [], pre, build⟩ := Sem.parse_iff.2 ⟨⟨ha, hb, hc, .inl ⟨rfl, ht⟩⟩, by simp [Sem.textOf]⟩
  unfold Sem.isValid
  rw [this]; rfl
theorem tok1 : Sem.TailOk [45, 97] [] := ⟨.inr ⟨[97], rfl, by decide⟩, .inl rfl⟩
theorem tok2 : Sem.TailOk [] [43, 97] := ⟨.inl rfl, .inr ⟨[97], rfl, by decide⟩⟩
theorem tok3 : Sem.TailOk [45, 48] [] := ⟨.inr ⟨[48], rfl, by decide⟩, .inl rfl⟩
theorem tok4 : Sem.TailOk [45, 97] [43, 98] := ⟨.inr ⟨[97], rfl, by decide⟩, .inr ⟨[98], rfl, by decide⟩⟩

def tails4 : Array Value := #[str [45, 97], str [43, 97], str [45, 48], str [45, 97, 43, 98]]
set_option maxHeartbeats 4000000 in
set_option maxRecDepth 100000 in
theorem walk_FnShorthandBare (v0 : Value) (xs : List (List UInt8)) (v1 : Value) (ys : List (List UInt8)) (w : World)
    (h0 : StrsAt w v0 xs ∧ ∀ x ∈ xs, x.length ≤ 140737488351232) (h1 : StrsAt w v1 ys ∧ ∀ x ∈ ys, x.length ≤ 140737488351232) :
    Calls Try.prog 12 #[v0, v1] w fun e w' => e = .returned (.bool true) ∧ Below w.heap.size w w' := by
  obtain ⟨h0, hl0⟩ := h0
  obtain ⟨h1, hl1⟩ := h1
  have HN0 := Lib.hid (numbersGood_any v0 xs w h0 (fun x hx => by have := hl0 x hx; omega))
  have HN1 := Lib.hid (numbersGood_any v1 ys w h1 (fun x hx => by have := hl1 x hx; omega))
  cases g0 : Sem.numsGood xs with
  | false =>
    clear hl0 hl1 h0 h1
    go_enter Try.func12, Try.ntmps12
    go_wp2_with (first | (go_at_call 32; refine HN0.out.mono ?_; rintro e w' ⟨rfl, rfl⟩) | (first | (go_at_call 19; refine (impl_CompareVersions _ _ _ (by first | omega | (simp; done) | (simp; omega)) (by first | omega | (simp; done) | (simp; omega))).mono ?_; rintro e w' ⟨rfl, hb⟩) | (go_at_call 31; refine (impl_VersionOk _ _ (by first | omega | (simp; done) | (simp; omega))).mono ?_; rintro e w' ⟨rfl, hb⟩) | (go_at_call 17; refine (impl_CanonicalVersion _ _ (by first | omega | (simp; done) | (simp; omega))).mono ?_; rintro e w' ⟨rfl, hb⟩) | (go_at_call 37; refine (impl_MajorOf _ _ (by first | omega | (simp; done) | (simp; omega))).mono ?_; rintro e w' ⟨rfl, hb⟩) | (go_at_call 38; refine (impl_PrereleaseOf _ _ (by first | omega | (simp; done) | (simp; omega))).mono ?_; rintro e w' ⟨rfl, hb⟩) | (go_at_call 39; refine (impl_BuildOf _ _ (by first | omega | (simp; done) | (simp; omega))).mono ?_; rintro e w' ⟨rfl, hb⟩) | (go_at_call 21; refine (impl_MaxVersion _ _ _ (by first | omega | (simp; done) | (simp; omega)) (by first | omega | (simp; done) | (simp; omega))).mono ?_; rintro e w' ⟨rfl, hb⟩) | (go_at_call 28; refine (veWorks_any _).mono ?_; rintro e w' ⟨rfl, hb⟩)))
    go_ret
    exact ⟨rfl, (by repeat (first | (with_reducible assumption) | (with_reducible exact Below.refl _ _) | (with_reducible refine bl_next' ?_ (by with_reducible assumption))))⟩
  | true =>
    cases g1 : Sem.numsGood ys with
    | false =>
      clear hl0 hl1 h0 h1
      go_enter Try.func12, Try.ntmps12
      go_wp2_with fail
      refine HN0.out.mono ?_
      rintro e w' ⟨rfl, rfl⟩
      go_wp2_with fail
      refine HN1.out.mono ?_
      rintro e w' ⟨rfl, rfl⟩
      go_wp2_with (first | (go_at_call 19; refine (impl_CompareVersions _ _ _ (by first | omega | (simp; done) | (simp; omega)) (by first | omega | (simp; done) | (simp; omega))).mono ?_; rintro e w' ⟨rfl, hb⟩) | (go_at_call 31; refine (impl_VersionOk _ _ (by first | omega | (simp; done) | (simp; omega))).mono ?_; rintro e w' ⟨rfl, hb⟩) | (go_at_call 17; refine (impl_CanonicalVersion _ _ (by first | omega | (simp; done) | (simp; omega))).mono ?_; rintro e w' ⟨rfl, hb⟩) | (go_at_call 37; refine (impl_MajorOf _ _ (by first | omega | (simp; done) | (simp; omega))).mono ?_; rintro e w' ⟨rfl, hb⟩) | (go_at_call 38; refine (impl_PrereleaseOf _ _ (by first | omega | (simp; done) | (simp; omega))).mono ?_; rintro e w' ⟨rfl, hb⟩) | (go_at_call 39; refine (impl_BuildOf _ _ (by first | omega | (simp; done) | (simp; omega))).mono ?_; rintro e w' ⟨rfl, hb⟩) | (go_at_call 21; refine (impl_MaxVersion _ _ _ (by first | omega | (simp; done) | (simp; omega)) (by first | omega | (simp; done) | (simp; omega))).mono ?_; rintro e w' ⟨rfl, hb⟩) | (go_at_call 28; refine (veWorks_any _).mono ?_; rintro e w' ⟨rfl, hb⟩))
      go_ret
      exact ⟨rfl, (by repeat (first | (with_reducible assumption) | (with_reducible exact Below.refl _ _) | (with_reducible refine bl_next' ?_ (by with_reducible assumption))))⟩
    | true =>
      obtain ⟨x0, x1, x2, rfl, n0, n1, n2⟩ := good3 g0
      obtain ⟨y0, y1, y2, rfl, m0, m1, m2⟩ := good3 g1
      have lx0 := hl0 x0 (by simp)
      have lx2 := hl0 x2 (by simp)
      have ly1 := hl1 y1 (by simp)
      obtain ⟨A, c, rfl, hc, hm, h0⟩ := h0
      obtain ⟨A', c', rfl, hc', hm', h1⟩ := h1
      rcases h0 with h | ⟨b, off, rfl, hlt0, hcell⟩
      · simp at h
      rcases h1 with h | ⟨b', off', rfl, hlt', hcell'⟩
      · simp at h
      have cx0 : w.cell? ⟨b, off, none⟩ = some (str x0) := by simpa using hcell 0 x0 rfl
      have cx2 : w.cell? ⟨b, off + 2, none⟩ = some (str x2) := hcell 2 x2 rfl
      have cy1 : w.cell? ⟨b', off' + 1, none⟩ = some (str y1) := hcell' 1 y1 rfl
      have hK : ∀ w' : World, Below w.heap.size w w' → (Below w.heap.size w w' ∧ w'.cell? ⟨b, off, none⟩ = some (str x0) ∧ w'.cell? ⟨b, off + 2, none⟩ = some (str x2) ∧ w'.cell? ⟨b', off' + 1, none⟩ = some (str y1)) := fun w' hb =>
        ⟨hb, (hb.cell (p := ⟨b, off, none⟩) hlt0).trans cx0, (hb.cell (p := ⟨b, off + 2, none⟩) hlt0).trans cx2, (hb.cell (p := ⟨b', off' + 1, none⟩) hlt').trans cy1⟩
      have HK := Lib.hid hK
      have F1 := Lib.hid (fun (t : List UInt8) (c : UInt8) (hc : Sem.isDig c = false) (h46 : c ≠ 46) => bare_one (t := t) n0 c hc h46)
      have F2 := Lib.hid (fun (t : List UInt8) (c : UInt8) (hc : Sem.isDig c = false) (h46 : c ≠ 46) => bare_two (t := t) n0 m1 c hc h46)
      have F3 := Lib.hid (fun (pre build : List UInt8) (ht : Sem.TailOk pre build) => full_three n0 m1 n2 ht)
      clear n0 n1 n2 m0 m1 m2 hl0 hl1 hcell hcell' hK cx0 cx2 cy1
      go_enter Try.func12, Try.ntmps12
      go_wp2_with fail
      refine HN0.out.mono ?_
      rintro e w' ⟨rfl, rfl⟩
      go_wp2_with fail
      refine HN1.out.mono ?_
      rintro e w' ⟨rfl, rfl⟩
      go_wp2_with fail
      go_loopw [18] (fun i wr => ∃ k : Nat, k ≤ 4 ∧ i = .int .i64 k ∧ Hid (Below (w.alloc (.cells tails4 9)).heap.size (w.alloc (.cells tails4 9)) wr)) (fun i _ => 4 - (intOf i).toNat)
      case atStart => exact ⟨0, by omega, rfl, Lib.hid (Below.refl _ _)⟩
      case round =>
        obtain ⟨k, hk, rfl, hbw⟩ := hrel
        have hcell : ∀ (j : Nat) (u : Value), tails4[j]? = some u → wr.cell? ⟨w.heap.size, j, none⟩ = some u := fun j u hu => by
          rw [hbw.out.cell (p := ⟨w.heap.size, j, none⟩) (by simp), ← hu]
          exact cell_of_row _ _ _ tails4 9 (0, 0) (heap_alloc_new w _)
        have HCELL := Lib.hid hcell
        clear hcell
        have hbe : Below w.heap.size w wr := bl_chain (Below.refl _ _) hbw.out
        have cx0 : wr.cell? ⟨b, off, none⟩ = some (str x0) := (HK.out _ hbe).2.1
        have cx2 : wr.cell? ⟨b, off + 2, none⟩ = some (str x2) := (HK.out _ hbe).2.2.1
        have cy1 : wr.cell? ⟨b', off' + 1, none⟩ = some (str y1) := (HK.out _ hbe).2.2.2
        have hl1 : b < wr.heap.size := Nat.lt_of_lt_of_le hlt0 hbe.size
        have hl2 : b' < wr.heap.size := Nat.lt_of_lt_of_le hlt' hbe.size
        by_cases hlt : k < 4
        · obtain rfl | rfl | rfl | rfl : k = 0 ∨ k = 1 ∨ k = 2 ∨ k = 3 := by omega
          · have hc : wr.cell? ⟨w.heap.size, 0, none⟩ = some (str [45, 97]) := HCELL.out 0 _ rfl
            have f1 : Sem.isValid (118 :: (x0 ++ [45, 97])) = false := F1.out _ 45 (by decide) (by decide)
            have f2 : Sem.isValid (118 :: (x0 ++ 46 :: (y1 ++ [45, 97]))) = false := F2.out _ 45 (by decide) (by decide)
            have f3 : Sem.isValid (118 :: (x0 ++ 46 :: (y1 ++ 46 :: (x2 ++ [45, 97])))) = true := by simpa using F3.out _ _ tok1
            have C1 := Lib.hid (fun W => valid_is f1 W (by simp; omega))
            have C2 := Lib.hid (fun W => valid_is f2 W (by simp; omega))
            have C3 := Lib.hid (fun W => valid_is f3 W (by simp; omega))
            clear f1 f2 f3
            go_wp2_with fail
            refine wp_region_bw (by kernel_rfl) (by kernel_rfl) ?_
            repeat (go_big_quiet_step (first | exact bw_call (C1.out _) | exact bw_call (C2.out _) | exact bw_call (C3.out _)))
            refine wpQuiet_nil ?_
            intro _ hw'
            obtain ⟨⟨wq, hbq⟩, rfl⟩ := hw'
            go_wp2
            go_roundw
            case rel => exact ⟨0 + 1, by omega, by go_num, Lib.hid (hbw.out.trans (hbq.mono hbw.out.size))⟩
            case measure => simp [intOf]
          · have hc : wr.cell? ⟨w.heap.size, 1, none⟩ = some (str [43, 97]) := HCELL.out 1 _ rfl
            have f1 : Sem.isValid (118 :: (x0 ++ [43, 97])) = false := F1.out _ 43 (by decide) (by decide)
            have f2 : Sem.isValid (118 :: (x0 ++ 46 :: (y1 ++ [43, 97]))) = false := F2.out _ 43 (by decide) (by decide)
            have f3 : Sem.isValid (118 :: (x0 ++ 46 :: (y1 ++ 46 :: (x2 ++ [43, 97])))) = true := by simpa using F3.out _ _ tok2
            have C1 := Lib.hid (fun W => valid_is f1 W (by simp; omega))
            have C2 := Lib.hid (fun W => valid_is f2 W (by simp; omega))
            have C3 := Lib.hid (fun W => valid_is f3 W (by simp; omega))
            clear f1 f2 f3
            go_wp2_with fail
            refine wp_region_bw (by kernel_rfl) (by kernel_rfl) ?_
            repeat (go_big_quiet_step (first | exact bw_call (C1.out _) | exact bw_call (C2.out _) | exact bw_call (C3.out _)))
            refine wpQuiet_nil ?_
            intro _ hw'
            obtain ⟨⟨wq, hbq⟩, rfl⟩ := hw'
            go_wp2
            go_roundw
            case rel => exact ⟨1 + 1, by omega, by go_num, Lib.hid (hbw.out.trans (hbq.mono hbw.out.size))⟩
            case measure => simp [intOf]
          · have hc : wr.cell? ⟨w.heap.size, 2, none⟩ = some (str [45, 48]) := HCELL.out 2 _ rfl
            have f1 : Sem.isValid (118 :: (x0 ++ [45, 48])) = false := F1.out _ 45 (by decide) (by decide)
            have f2 : Sem.isValid (118 :: (x0 ++ 46 :: (y1 ++ [45, 48]))) = false := F2.out _ 45 (by decide) (by decide)
            have f3 : Sem.isValid (118 :: (x0 ++ 46 :: (y1 ++ 46 :: (x2 ++ [45, 48])))) = true := by simpa using F3.out _ _ tok3
            have C1 := Lib.hid (fun W => valid_is f1 W (by simp; omega))
            have C2 := Lib.hid (fun W => valid_is f2 W (by simp; omega))
            have C3 := Lib.hid (fun W => valid_is f3 W (by simp; omega))
            clear f1 f2 f3
            go_wp2_with fail
            refine wp_region_bw (by kernel_rfl) (by kernel_rfl) ?_
            repeat (go_big_quiet_step (first | exact bw_call (C1.out _) | exact bw_call (C2.out _) | exact bw_call (C3.out _)))
            refine wpQuiet_nil ?_
            intro _ hw'
            obtain ⟨⟨wq, hbq⟩, rfl⟩ := hw'
            go_wp2
            go_roundw
            case rel => exact ⟨2 + 1, by omega, by go_num, Lib.hid (hbw.out.trans (hbq.mono hbw.out.size))⟩
            case measure => simp [intOf]
          · have hc : wr.cell? ⟨w.heap.size, 3, none⟩ = some (str [45, 97, 43, 98]) := HCELL.out 3 _ rfl
            have f1 : Sem.isValid (118 :: (x0 ++ [45, 97, 43, 98])) = false := F1.out _ 45 (by decide) (by decide)
            have f2 : Sem.isValid (118 :: (x0 ++ 46 :: (y1 ++ [45, 97, 43, 98]))) = false := F2.out _ 45 (by decide) (by decide)
            have f3 : Sem.isValid (118 :: (x0 ++ 46 :: (y1 ++ 46 :: (x2 ++ [45, 97, 43, 98])))) = true := by simpa using F3.out _ _ tok4
            have C1 := Lib.hid (fun W => valid_is f1 W (by simp; omega))
            have C2 := Lib.hid (fun W => valid_is f2 W (by simp; omega))
            have C3 := Lib.hid (fun W => valid_is f3 W (by simp; omega))
            clear f1 f2 f3
            go_wp2_with fail
            refine wp_region_bw (by kernel_rfl) (by kernel_rfl) ?_
            repeat (go_big_quiet_step (first | exact bw_call (C1.out _) | exact bw_call (C2.out _) | exact bw_call (C3.out _)))
            refine wpQuiet_nil ?_
            intro _ hw'
            obtain ⟨⟨wq, hbq⟩, rfl⟩ := hw'
            go_wp2
            go_roundw
            case rel => exact ⟨3 + 1, by omega, by go_num, Lib.hid (hbw.out.trans (hbq.mono hbw.out.size))⟩
            case measure => simp [intOf]
        · obtain rfl : k = 4 := by omega
          go_wp2
          go_ret
          exact ⟨rfl, hbe⟩

end Go.Proofs.Ytpcmdgmbacokfaa
